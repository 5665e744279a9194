import PyProof.Rows.All
import Wide.All
import OpenK.AllK
import Open.Tops
import KE.KBytesCut
import PyProof.ByEval2
import PyProof.MeetsDict
import PyProof.MeetsDictList
import KE.KxBytes
import PyProof.ListOps
import PyProof.AtCode
import PyProof.EnumFor
import PyProof.ListTruth
import PyProof.SeqRoads
import KE.KSuperObj
import PyProof.Gen
import PyProof.ListNew
import PyProof.GenQ
import PyProof.Rows.RowBridgeG
import KE.KItemsList
import PyProof.TupleKey
import PyProof.RulesDelMore
import PyProof.AutoSeq1
import PyProof.Rows.StrInSeq
import PyProof.EqKinds
import PyProof.SetKind
import PyProof.Rows.SetFrom
import PyProof.SetRoads
import PyProof.SliceMore
import PyProof.AutoListH
import PyProof.AutoIntG4
import PyProof.NeKinds
import KE.KDictSum
import PySem.Challenge.RW_aw0009_01
set_option Elab.async false
set_option linter.unusedVariables false
set_option maxRecDepth 100000
set_option compiler.extract_closed false
set_option genInjectivity false
set_option genSizeOf false
noncomputable section
variable (w:PySem.World)(P:PySem.Params)
section
open PySem
namespace Mine
abbrev aU:=Array UInt8
abbrev lU:=List aU
abbrev aV:=Array Value
abbrev nN:=Nat->Nat
theorem nr{n:Nat}:n<=n:=Nat.le_refl n
@[elab_as_elim] theorem Tv {p:Nat->Prop} {n:Nat} (k:Nat) (h:k<n+1) (a:p 0) (b:∀k,k<n->p (k+1)):p k:=by
 cases k with
 |zero=>exact a
 |succ k=>exact b k (Nat.lt_of_succ_lt_succ h)
@[elab_as_elim] theorem To {p:Nat->Prop} (k:Nat) (h:k<2) (a:p 0) (b:p 1):p k:=Tv k h a λk h=>Tv k h b λk h=>absurd h (Nat.not_lt_zero k)
@[elab_as_elim] theorem Tn {p:Nat->Prop} (k:Nat) (h:k<3) (a:p 0) (b:p 1) (c:p 2):p k:=Tv k h a λk h=>To k h b c
@[elab_as_elim] theorem Uo {p:Nat->Prop} (k:Nat) (h:k<5) (a:p 0) (b:p 1) (c:p 2) (d:p 3) (e:p 4):p k:=Tv k h a λk h=>Tv k h b λk h=>Tn k h c d e
@[elab_as_elim] theorem US {p:Nat->Prop} (k:Nat) (h:k<8) (a:p 0) (b:p 1) (c:p 2) (d:p 3) (e:p 4) (f:p 5) (g:p 6) (i:p 7):p k:=Tv k h a λk h=>Tv k h b λk h=>Tv k h c λk h=>Uo k h d e f g i
theorem UL{p:Nat->Nat->Prop}{l k:Nat}(hl:l<3)(hk:k<3)(a:p 0 0)(b:p 0 1)(c:p 0 2)(d:p 1 0)(e:p 1 1)(f:p 1 2)(g:p 2 0)(h:p 2 1)(i:p 2 2):p l k:=
 Tn l hl (Tn k hk a b c) (Tn k hk d e f) (Tn k hk g h i)
@[elab_as_elim] theorem UM {p:Nat->Nat->Nat->Nat->Prop} (i j l k:Nat) (hi:i<5) (hj:j<3) (hl:l<3) (hk:k<3) (a:∀l k,p 2 0 l k) (b:∀l k,p 2 1 l k) (c:∀l k,p 2 2 l k) (d:∀l k,p 0 1 l k) (e:∀l k,p 0 2 l k) (f:∀l k,p 1 1 l k) (g:∀l k,p 1 2 l k)
  (m:∀l k,p 3 1 l k) (n:∀l k,p 3 2 l k) (q:∀l k,p 4 1 l k) (r:∀l k,p 4 2 l k) (s:∀l k,p 4 0 l k)
  (A:p 0 0 0 0) (B:p 0 0 0 1) (C:p 0 0 0 2) (D:p 0 0 1 0) (E:p 0 0 1 1) (F:p 0 0 1 2) (G:p 0 0 2 0) (H:p 0 0 2 1) (I:p 0 0 2 2)
  (t:p 1 0 0 0) (u:p 1 0 0 1) (v:p 1 0 0 2) (w:p 1 0 1 0) (x:p 1 0 1 1) (y:p 1 0 1 2) (z:p 1 0 2 0) (J:p 1 0 2 1) (K:p 1 0 2 2)
  (L:p 3 0 0 0) (M:p 3 0 0 1) (N:p 3 0 0 2) (O:p 3 0 1 0) (P:p 3 0 1 1) (Q:p 3 0 1 2) (R:p 3 0 2 0) (S:p 3 0 2 1) (T:p 3 0 2 2):p i j l k:=
 Uo i hi (Tn j hj (UL hl hk A B C D E F G H I) (d l k) (e l k)) (Tn j hj (UL hl hk t u v w x y z J K) (f l k) (g l k)) (Tn j hj (a l k) (b l k) (c l k)) (Tn j hj (UL hl hk L M N O P Q R S T) (m l k) (n l k)) (Tn j hj (s l k) (q l k) (r l k))
def lk{α:Type}(z:α):List α->Nat->α:=λl=>List.rec (λJ=>z) (λa J f n=>Nat.rec a (λn J=>f n) n) l
def UJ{α:Type}(n:Nat)(a b c d e:α):α:=Nat.rec a (λn J=>Nat.rec b (λn J=>Nat.rec c (λn J=>Nat.rec d (λJ J=>e) n) n) n) n
@[simp] theorem UR {α:Type} {a b c d e:α}:UJ 0 a b c d e=a:=rfl
@[simp] theorem UQ {α:Type} {a b c d e:α}:UJ 1 a b c d e=b:=rfl
@[simp] theorem UP {α:Type} {a b c d e:α}:UJ 2 a b c d e=c:=rfl
@[simp] theorem UO {α:Type} {a b c d e:α}:UJ 3 a b c d e=d:=rfl
@[simp] theorem UN {α:Type} {a b c d e:α}:UJ 4 a b c d e=e:=rfl
end Mine
namespace Mine
inductive LV{α0 α1 α2:Type}(p:α0->α1->α2->Prop):Prop
 |i (a b c) (h:p a b c):LV p
inductive Uh{α0 α1 α2 α3:Type}(p:α0->α1->α2->α3->Prop):Prop
 |i (a b c d) (h:p a b c d):Uh p
inductive TY{α0 α1 α2 α3 α4:Type}(p:α0->α1->α2->α3->α4->Prop):Prop
 |i (a b c d e) (h:p a b c d e):TY p
inductive TQ{α0 α1 α2 α3 α4 α5:Type}(p:α0->α1->α2->α3->α4->α5->Prop):Prop
 |i (a b c d e f) (h:p a b c d e f):TQ p
inductive Uq{α0 α1 α2 α3 α4 α5 α6:Type}(p:α0->α1->α2->α3->α4->α5->α6->Prop):Prop
 |i (a b c d e f g) (h:p a b c d e f g):Uq p
inductive Up{α0 α1 α2 α3 α4 α5 α6 α7:Type}(p:α0->α1->α2->α3->α4->α5->α6->α7->Prop):Prop
 |i (a b c d e f g j) (h:p a b c d e f g j):Up p
inductive Ut{α0 α1 α2 α3 α4 α5 α6 α7 α8:Type}(p:α0->α1->α2->α3->α4->α5->α6->α7->α8->Prop):Prop
 |i (a b c d e f g j k) (h:p a b c d e f g j k):Ut p
inductive TP{α0 α1 α2 α3 α4 α5 α6 α7 α8 α9:Type}(p:α0->α1->α2->α3->α4->α5->α6->α7->α8->α9->Prop):Prop
 |i (a b c d e f g j k l) (h:p a b c d e f g j k l):TP p
inductive Uk{α0 α1 α2 α3 α4 α5 α6 α7 α8 α9 Ud Uc Ub Ua:Type}(p:α0->α1->α2->α3->α4->α5->α6->α7->α8->α9->Ud->Uc->Ub->Ua->Prop):Prop
 |i (a b c d e f g j k l m n o q) (h:p a b c d e f g j k l m n o q):Uk p
inductive Uj{α0 α1 α2 α3 α4 α5 α6 α7 α8 α9 Ud Uc Ub Ua Us Ur:Type}(p:α0->α1->α2->α3->α4->α5->α6->α7->α8->α9->Ud->Uc->Ub->Ua->Us->Ur->Prop):Prop
 |i (a b c d e f g j k l m n o q r s) (h:p a b c d e f g j k l m n o q r s):Uj p
inductive Ui{α0 α1 α2 α3 α4 α5 α6 α7 α8 α9 Ud Uc Ub Ua Us Ur Uv Uu:Type}(p:α0->α1->α2->α3->α4->α5->α6->α7->α8->α9->Ud->Uc->Ub->Ua->Us->Ur->Uv->Uu->Prop):Prop
 |i (a b c d e f g j k l m n o q r s t u) (h:p a b c d e f g j k l m n o q r s t u):Ui p
end Mine
end
section
open PySem PySem.W PyProof.Rows
namespace Mine
noncomputable def den(c:Code):Sem PySem.Fin:=Fast.tw11892475500146522536 Fast.tw14364793385576792824 c
theorem uH:denote table=den:=by rw [table_eq_tree,Fast.te11892475500146522536,Fast.te14364793385576792824];rfl
abbrev aA:=List (Addr × Obj)
structure St where
 L:aA
 N:Nat
 t:Nat
noncomputable def bP{α:Type}:List α->Nat->Option α
 |[],_=>none
 |a::l,n=>match n with
  |0=>some a
  |n+1=>bP l n
noncomputable def bg:aA->Nat->Obj->aA
 |[],_,_=>[]
 |p::l,n,o=>match n with
  |0=>(p.1,o)::l
  |n+1=>p::bg l n o
noncomputable def eO:aA->Addr->Obj->aA
 |[],a,o=>[(a,o)]
 |p::l,a,o=>p::eO l a o
namespace QL
variable{α:Type}
end QL
theorem aJ{α:Type}{p:α}:∀{l:List α} {n:Nat},bP l n=some p->p∈l
 |_::_,0,h=>by cases h;exact .head _
 |_::_,_+1,h=> .tail _ (aJ h)
theorem jm:∀(l:aA) (a:Addr) (o:Obj),eO l a o=l++[(a,o)]
 |[],_,_=>rfl
 |p::l,a,o=>by show p::eO l a o=_;rw [jm l a o];rfl
structure QK(K:Nat->Option Obj)(h:Heap)(s:St):Prop where
 size:h.objs.size=s.N
 mem:∀p∈s.L,h.get? p.1=some p.2
 nd:(s.L.map (·.1)).Nodup
 old:∀p∈s.L,K p.1=none
 OR:∀a o,K a=some o->h.get? a=some o
section
variable{K:Nat->Option Obj}{h:Heap}{s:St}
end
section
variable{prog:Program}{w:World}{α:Type}{A:Around}{K:Nat->Option Obj}
variable{Q:α->Shared->Prop}{E:Value->Shared->Prop}
theorem gT(A:Around):A.mark none=A:=by cases A;rfl
end
noncomputable def gp:List String:=[
 "lifetime.subscript","tuple_iterator.__next__","proto.getattr_hooked","object.__setattr__","list.__getitem__","list_iterator.__next__","list.append",
 "tuple.__iter__","bytes.__add__","bytes.__eq__","type.__call__","proto.let_go","type.__getattribute__","str.__eq__","bytes.__hash__","bytes.join",
 "range_iterator.__next__","list.__iter__","tuple.__getitem__","object.__init__","int.__mod__","len","list_iterator.__iter__","int.__add__","object.__new__",
 "isinstance","isinstance.nested","dict.__setitem__","dict.__getitem__","tuple.__contains__","super.__init__","super.__getattribute__","super.__new__",
 "bytes.__len__","function.__get__","list.extend.loop","bytes.__getitem__","int.__mul__","int.__eq__","range.__iter__","range.__new__","issubclass",
 "tuple.__getattribute__","issubclass.nested","bytes.__ne__","int.__repr__","str.encode","object.__str__","str.__new__","int.__floordiv__","bytes.__contains__",
 "list.__eq__.loop","int.__gt__","dict.get","int.__pow__","enumerate.__next__","tuple.__eq__","int.__lt__","dict.__contains__","int.__and__",
 "int.__sub__","list.__len__","range_iterator.__iter__","bytes.replace","bytes.endswith","dict_itemiterator.__next__","list.__iadd__","int.__bool__",
 "NoneType.__eq__","proto.collect","int.__ne__","generator.__next__","int.__neg__","dict.__len__","int.__rmul__","classmethod.__get__","property.__get__",
 "list.extend","list.__eq__","bytes.__mul__","str.__ne__","bytes.splitlines","tuple.__new__","staticmethod.__get__","int.__new__","list.sort",
 "sorted","bytes.__lt__","dict_items.__iter__","dict.items","list.__add__","list.__ne__","list.__new__","list.__init__","set.__init__","set.__new__",
 "generator.__iter__","set_iterator.__next__","enumerate.__iter__","enumerate.__new__","bytes.split","dict_keyiterator.__next__","set.__or__","dict.keys",
 "set.__iter__","list.__mul__","dict_keys.__iter__","range","slice","set","enumerate","bytes.__bool__","bool.__new__","object.__eq__","tuple.__ne__",
 "bytes.__getattribute__","object.__getattribute__","str.__add__"]
namespace MU
end MU
def oK(a:Addr)(fd:FuncData)(body:List Stmt)(args:Args):Sem Fin:=
 (Fast.tw9782568553167038054 fd args).bind λbinds=>
  (Fast.tw11113344188204177931 fd.scope fd.globals fd.closure binds (fd.qualname++Str.ofString ".<locals>.") (some a) fd.code none fd.builtins).bind λbx=>
   .pure (.again (.func body bx))
noncomputable def HN(sc:List Nat):Bool:=
 match sc with
 |3::_=>true
 |_=>false
structure ff(n:Nat)(A:Around):Prop where
 hd:A.handled=none
 fr:∃l,A.frames=some l
 F9:A.depth+6*n<=960
 un:A.units+10*n<=9800
def eM(c:Code):Prop:=c.weight<=5/\c.cUnits<=10
theorem ff.under{n:Nat}{A:Around}(H:ff (n+1) A){c:Code}(hl:eM c):ff n (A.under c):=by
 obtain⟨l,LX⟩:=H.fr;obtain⟨hw,hu⟩:=hl;have hd:=H.F9;have un:=H.un;refine⟨H.hd,⟨c.envs++l,?_⟩,?_,?_⟩
 ·show pushEnvs c.envs A.frames=_;rw [pushEnvs_eq,LX];rfl
 ·show A.depth+c.weight+6*n<=960;lia
 ·show A.units+c.cUnits+10*n<=9800;lia
theorem ff.le{n m:Nat}{A:Around}(H:ff n A)(h:m<=n):ff m A:=⟨H.hd,H.fr,by have:=H.F9;lia,by have:=H.un;lia⟩
theorem J0{c:Code}(h:c.frames<=1)(h1:c.weight=c.frames)(h2:c.cUnits=3*c.frames):eM c:=⟨by rw [h1];lia,by rw [h2];lia⟩
theorem cR{c:Code}(h:∀id args,c≠.builtin id args):eM c:=by
 cases c with
 |builtin id args=>exact absurd rfl (h id args)
 |compStart e d i a v=>exact J0 (by show(if(Code.compStart e d i a v).isFrame=true then 1 else 0)<=1;split<;>decide) rfl rfl
 |compLoop e d i a v=>exact J0 (by show(if(Code.compLoop e d i a v).isFrame=true then 1 else 0)<=1;split<;>decide) rfl rfl
 |_=>exact⟨Nat.le_of_ble_eq_true rfl,Nat.le_of_ble_eq_true rfl⟩
theorem i3{id:String}(h:plainId id=true)(args:Args):eM (.builtin id args):=
 ⟨by rw [plainId_weight h];decide,by rw [plainId_units h];decide⟩
theorem od(args:Args):eM (.builtin "type.__call__" args):=by
 refine⟨?_,?_⟩
 ·unfold Code.weight;have:(Code.builtin "type.__call__" args).isGuard=false:=by show guardIds.contains "type.__call__"=false;decide+kernel
  rw [this];split<;>exact Nat.le_of_ble_eq_true rfl
 ·exact Nat.le_of_ble_eq_true rfl
theorem mR(args:Args):eM (.builtin "lifetime.subscript" args):=by
 refine⟨?_,?_⟩
 ·exact Nat.le_of_ble_eq_true rfl
 ·exact Nat.le_of_ble_eq_true rfl
theorem hV{c:Code}(h:∀id args,c≠.builtin id args):c.quiet=true:=by
 cases c with
 |builtin id args=>exact absurd rfl (h id args)
 |_=>rfl
theorem pV:∀g∈gp.tail,plainId g=true\/g="type.__call__":=by decide+kernel
theorem j7{id:String}(h:id∈gp.tail)(args:Args):(Code.builtin id args).quiet=true:=by
 rcases pV id h with h|rfl
 ·exact plainId_quiet h args
 ·exact Code.quiet_builtin args (by decide+kernel)
theorem ou{id:String}(h:id∈gp)(args:Args):eM (.builtin id args):=by
 rcases List.mem_cons.mp h with rfl|h
 ·exact mR args
 rcases pV id h with h|rfl
 ·exact i3 h args
 ·exact od args
section
variable(prog:Program)(w:World)
def qj(n:Nat)(c:Code)(R:Result->Shared->Prop)(s:Shared):Prop:=∀A,ff n A->codeAny (model prog w) A c R s
def oQ(R:Result->Shared->Prop):List (Result->Sem Fin)->Nat->Result->Shared->Prop
 |[],_,r,s=>R r s
 |k::fs,n,r,s=>∀A,ff n A->wpAny (model prog w) A (k r) (λfin s'=>match fin with
  | .done f=>oQ R fs (n+1) (.ok f) s'
  | .again c=>c.quiet=true/\s'.heap.NoLimit/\qj prog w (n+1) c (oQ R fs (n+1)) s') (λe s'=>oQ R fs (n+1) (.error e) s') s
def MQ(R:Result->Shared->Prop)(fs:List (Result->Sem Fin))(n:Nat)(t:Sem Fin)(s:Shared):Prop:=
 ∀A,ff n A->wpAny (model prog w) A t (λfin s'=>match fin with
  | .done f=>oQ prog w R fs (n+1) (.ok f) s'
  | .again c=>c.quiet=true/\s'.heap.NoLimit/\qj prog w (n+1) c (oQ prog w R fs (n+1)) s') (λe s'=>oQ prog w R fs (n+1) (.error e) s') s
end
section
variable{prog:Program}{w:World}
theorem qj.aT{n:Nat}{c:Code}{R R':Result->Shared->Prop}{s:Shared}(H:qj prog w n c R s)(h:∀r s,R r s->R' r s):qj prog w n c R' s:=
 λA hA=>codeAny_mono (H A hA) h
theorem qj.le{n n':Nat}{c:Code}{R:Result->Shared->Prop}{s:Shared}(H:qj prog w n c R s)(h:n<=n'):qj prog w n' c R s:=
 λA hA=>H A (hA.le h)
theorem uE{a cc:Addr}{args:Args}{o oc:Obj}{fd:FuncData}{body:List Stmt}{vs:aV}{tq:Nat}{s:Shared}
  (ho:s.heap.get? a=some o) (hd:o.data= .func fd) (zt:fd.scope.isCoroutine=false) (ER:fd.scope.isGenerator=false) (zv:fd.body= .stmts body)
  (hc:fd.code= .ref cc) (EL:s.heap.get? cc=some oc) (P8:oc.data= .fields vs) (hq:vs[1]? =some (.str fd.qualname tq))
  {R:Result->Shared->Prop} {fs:List (Result->Sem Fin)} {n:Nat}
  (H:MQ prog w R fs n (oK a fd body args) s):qj prog w (n+1) (.call (.ref a) args) (oQ prog w R fs (n+1)) s:=λA hA=>by
 have hu:A.under (.call (.ref a) args)=A.in1:=Around.under_plain rfl rfl;have hr:ff n A.in1:=by have:=hA.under (c:= .call (.ref a) args) (cR (by intro J J x;cases x));rwa [hu]at this
 have H8:A.depth<recursionLimit:=by have:=hA.F9;show A.depth<1000;lia
 refine codeAny_of_tree ?_;rw [hu];show wpAny _ A.in1 (callAny (.ref a) args) _ _ s;show wpAny _ A.in1 (load a>>=λo=>_) _ _ s;refine wpAny_bind (wpAny_load ho ?_);rw [hd];show wpAny _ A.in1 (callFunction a fd args) _ _ s;unfold callFunction;simp only [zt,ER,zv,hc];refine wpAny_bind (m:=field (.ref cc) 1) (wpAny_field EL P8 hq (wpAny_bind (wpAny_pure ?_)));have H':=H A.in1 hr;unfold oK at H';rw [<-Fast.te9782568553167038054,<-Fast.te11113344188204177931,hc]at H';intro Γ p hΓ;have h1:=H' Γ p hΓ;change Sem.wp _ Γ (bindArgs fd args>>=λbinds=>newFunctionEnv _ _ _ binds _ _ _ _ _>>=λbx=>(pure (.again (.func body bx)):Sem Fin)) _ _ p s at h1;rw [Sem.wp_bind']at h1⊢;refine Sem.wp_mono _ Γ _ (λbinds p₁ s₁ h₁=> ?_) (λJ J J h=>h) p s h1;rw [Sem.wp_bind']at h₁⊢;refine Sem.wp_mono _ Γ _ (λbx p₂ s₂ h₂=> ?_) (λJ J J h=>h) p₁ s₁ h₁;have h₂:(Code.func body bx).quiet=true/\s₂.heap.NoLimit/\qj prog w (n+1) (.func body bx) (oQ prog w R fs (n+1)) s₂:=h₂;have e:wpAny (model prog w) A.in1 (enterFrame>>=λJ=>(again (.func body bx):Sem Fin)) (λfin s'=>match fin with
   | .done f=>oQ prog w R fs (n+1) (.ok f) s'
   | .again c'=>c'.quiet=true/\codeAny (model prog w) A c' (oQ prog w R fs (n+1)) s') (λe s'=>oQ prog w R fs (n+1) (.error e) s') s₂:=
  wpAny_bind (wpAny_enterFrame h₂.2.1 H8 (wpAny_pure ⟨rfl,h₂.2.2 A hA⟩))
 exact e Γ p₂ hΓ
end
section
variable{K:Nat->Option Obj}{p:M5 × M5}
end
section
variable{prog:Program}{w:World}{K:Nat->Option Obj}
theorem eU{α:Type}:∀(l:List α) (n:Nat),bP l n=l[n]?
 |[],_=>rfl
 |_::_,0=>rfl
 |_::l,n+1=>by show bP l n=_;rw [eU l n];rfl
end
section
variable(prog:Program)(w:World)(K:Nat->Option Obj)
end
section
variable{prog:Program}{w:World}{K:Nat->Option Obj}{R:Result->Shared->Prop}{m:Nat}
end
section
variable{prog:Program}{w:World}{K:Nat->Option Obj}{R:Result->Shared->Prop}{m:Nat}
variable{n d:Nat}{sc:List Nat}{c:Code}{s:St}{h:Heap}{g:Array GenState}{dr:Drawn}{os:OsState}
end
section
variable{K:Nat->Option Obj}{Q:Addr->Prop}
end
end Mine
namespace Mine.H
noncomputable abbrev pw:Program:=PySem.Challenge.pw_aw0009_01
noncomputable def body:List Stmt:=pw.main.body
noncomputable def Ee{α:Type}(x:α):List α->Nat->α
 |[],_=>x
 |a::l,n=>match n with
  |0=>a
  |n+1=>Ee x l n
noncomputable def C0:Stmt->List Stmt
 | .FunctionDef _ _ b _ _ _ _ _ _ _=>b
 | .ClassDef _ _ _ b _ _ _ _ _ _ _=>b
 |_=>[]
noncomputable def GA:List Nat->List Stmt->Stmt->Stmt
 |[],_,s=>s
 |i::p,l,s=>GA p (C0 (Ee s l i)) (Ee s l i)
def D(p:List Nat):Stmt:=GA p body (.Pass ⟨0,0,0,0⟩)
noncomputable def z(s:String):Str:=Str.ofString s
noncomputable def I2:List Stmt->Str
 | .Expr (.Constant (.str s) _ _) _::_=>s
 |_=>Str.empty
def dS(p:List Nat):Str:=I2 (C0 (D p))
noncomputable def N:Value:= .none
noncomputable def T:Value:= .bool true
noncomputable def F:Value:= .bool false
noncomputable def i(n:Int)(t:Nat):Value:= .int n t
def v(s:String)(t:Nat):Value:= .str (z s) t
noncomputable def y(s:String):Value:= .type s
noncomputable def b(s:String):Value:= .builtin s
noncomputable def r(a:Nat):Value:= .ref a
noncomputable def d(s:String)(t:Nat)(x:Value):DictEntry:=⟨PyData.keyHash P (z s),.str (z s) t,x⟩
noncomputable def tp(l:List Value):Obj:={cls:= .type "tuple",data:= .seq ⟨l⟩}
noncomputable def fl(l:List Value):Obj:={cls:= .none,data:= .fields ⟨l⟩}
noncomputable def cd(l:List Value):Obj:={cls:= .type "code",data:= .fields ⟨l⟩}
noncomputable def fd(p:List Nat)(q:String)(gl:Nat)(cl:List (Str × Nat))(Qx Pl doc mod:Value)(ann:Option Nat)(code ct:Value)(blt:Nat):FuncData:=match D p with
 | .FunctionDef n a b _ _ _ sc _ _ _=>{name:=n,qualname:=z q,params:=a,body:= .stmts b,scope:=sc,globals:=gl,closure:=cl,defaults:=Qx,kwdefaults:=Pl,doc:=doc,pyModule:=mod,annotations:=ann,code:=code,closureTuple:=ct,builtins:=blt}
 |_=>default
def dc(n:Nat)(l:List DictEntry):Obj:=⟨y "dict",none,.dict ⟨l⟩ n,⟨[]⟩⟩
def of(s:String)(l:List Value):Obj:=⟨y s,none,.fields ⟨l⟩,⟨[]⟩⟩
def e(s:String)(t a:Nat):DictEntry:=d P s t (r a)
def M9:Nat->List String->List Value
 |_,[]=>[]
 |t,s::l=>v s t::M9 (t+1) l
def tv(t:Nat)(l:List String):Obj:=tp (M9 t l)
def Of:List Nat->List Value
 |a::b::c::l=>i a 0::i b 0::r c::Of l
 |_=>[]
def fi(l:List Nat):Obj:=fl (Of l)
def kx(k x:Nat):Value × Value × Value:=match k with
 |0=>(N,N,N)
 |1=>(N,N,r (x+2))
 |2=>(N,r (x+2),N)
 |3=>(N,r (x+2),r (x+3))
 |4=>(r (x+2),N,N)
 |5=>(r (x+2),N,r (x+3))
 |6=>(r (x+2),r (x+3),N)
 |_=>(r (x+2),r (x+3),r (x+4))
def ce(p a:String)(t L x0 x1 x2 x3 x:Nat)(g:Value)(k u:Nat):Obj:=cd [v a t,v p (t+1),v "/claim/cut.py" (t+2),i L 0,i x0 0,i x1 0,i x2 0,i x3 0,r x,g,i 181 0,r (x+1),N,(kx k x).1,(kx k x).2.1,(kx k x).2.2,i u 0,i L 0,v "/claim/cut.py" (u+1)]
def f3(q:List Nat)(p a:String)(t L x0 x1 x2 x3 x:Nat)(g:Value)(k u:Nat)(dv:Value)(dc:Nat)(m:Value)(c:Nat):List Obj:=[⟨N,none,.func (fd q p 0 [] N N N N none N N 0),⟨[]⟩⟩,ce p a t L x0 x1 x2 x3 x g k u,⟨y "function",none,.func (fd q p 3 [] dv N (match dc with|0=>N|n+1=> .str (dS q) (n+1)) m none (r c) N 0),⟨[]⟩⟩]
def m0:Value:=v "__main__" 164
def m1:Value:=v "dulwich.plainly" 201
def m2:Value:=v "dulwich.line_ending" 437
def m3:Value:=v "dulwich.object_format" 689
def m4:Value:=v "dulwich.objects" 763
def m5:Value:=v "dulwich.merge" 1887
def m6:Value:=v "dulwich.object_store" 2100
def m7:Value:=v "law_aw0009_01" 2177
def kl(n:String)(a d t u:Nat):Obj:=⟨y "type",none,.cls ⟨z n,[y "object"],[r a,y "object"],d,z n,true,[],[],false,none,false⟩,⟨[none,none,some (v n t),some (v n u),some (b "object.__new__"),some T]⟩⟩
def gd(t a:Nat):Obj:=of "getset_descriptor" [v "__dict__" t,r a,b "function.__dict__",b "function.__dict__#set"]
def gw(t a:Nat):Obj:=of "getset_descriptor" [v "__weakref__" t,r a,b "ExceptionGroup.__weakref__",N]
def su(a:Nat):Obj:=of "super" [r a,r a,r a]
def bf(s:String)(x:Value):Obj:=of "builtin_function_or_method" [b s,x]
def bp:Obj:=bf "type.__prepare__" (y "type")
def bs(a:Nat):Obj:=bf "object.__init_subclass__" (r a)
def bt(a:Nat):Obj:=bf "property.setter" (r a)
def fm(a c:Nat)(m:Value):Obj:=⟨y "frame",none,.plain,⟨[some (r a),some (r 3),some (r c),none,some m,none,some (r 0)]⟩⟩
def ii(a c:Nat):Obj:=⟨r a,some c,.plain,⟨[]⟩⟩
def nf(q:List Nat)(p:String):Obj:=⟨N,none,.func (fd q p 0 [] N N N N none N N 0),⟨[]⟩⟩
def pr(a c:Nat)(q:List Nat)(t:Nat)(s:String)(u:Nat):Obj:=of "property" [r a,r c,N,.str (dS q) t,v s u,T]
def dn(u n:Nat):DictEntry:=d P "__firstlineno__" (u+1) (i n u)
def dd(u:Nat)(q:List Nat):DictEntry:=d P "__doc__" (u+1) (.str (dS q) u)
def ds(t a:Nat):DictEntry:=e P "__static_attributes__" t a
def q0:List DictEntry:=[dn P 213 9,dd P 215 [3],d P "linesep" 219 (v "\n" 218),e P "fsencode" 227 42,ds P 228 43]
def q1:List DictEntry:=[dn P 246 16,dd P 248 [5],e P "warning" 259 65,ds P 260 66]
def q2:List DictEntry:=[dn P 278 22,dd P 280 [7],d P "S_IFDIR" 284 (i 16384 283),d P "S_IFREG" 286 (i 32768 285),d P "S_IFLNK" 288 (i 40960 287),e P "S_IFMT" 296 88,e P "S_ISDIR" 304 95,ds P 305 96]
def q3:List DictEntry:=[dn P 331 43,dd P 333 [10],e P "hexlify" 341 123,e P "unhexlify" 347 128,ds P 348 129]
def q4:List DictEntry:=[dn P 391 64,dd P 393 [15],e P "__init__" 403 172,e P "__iter__" 412 179,e P "read" 420 186,e P "close" 427 193,ds P 430 194]
def q5:List DictEntry:=[dn P 463 98,dd P 465 [21],d P "UNDEFINED" 469 (v "undefined" 468),d P "BINARY" 471 (v "binary" 470),d P "TEXT" 473 (v "text" 472),d P "TEXT_INPUT" 475 (v "text-input" 474),d P "TEXT_CRLF" 477 (v "text-crlf" 476),d P "AUTO" 479 (v "auto" 478),d P "AUTO_INPUT" 481 (v "auto-input" 480),d P "AUTO_CRLF" 483 (v "auto-crlf" 482),ds P 484 215]
def q6:List DictEntry:=[dn P 549 194,dd P 551 [27],e P "__init__" 568 267,e P "clean" 580 275,e P "smudge" 592 283,e P "cleanup" 599 290,ds P 606 291]
def q7:List DictEntry:=[dn P 659 306,dd P 661 [32],ds P 664 327]
def q8:List DictEntry:=[dn P 681 308,dd P 683 [33],ds P 686 340]
def q9:List DictEntry:=[dn P 775 343,e P "__init__" 785 389,e P "__get__" 794 397,e P "__set__" 803 404,e P "__delete__" 811 411,ds P 814 412]
def Rz:List DictEntry:=[dn P 941 454,dd P 943 [59],e P "__init__" 953 509,e P "as_raw_chunks" 961 516,e P "as_raw_string" 969 523,e P "set_raw_string" 978 530,e P "set_raw_chunks" 987 537,e P "from_string" 1009 546,e P "_check_has_member" 1019 554,e P "_header" 1026 561,e P "raw_length" 1034 568,e P "copy" 1043 575,e P "get_id" 1052 582,ds P 1057 583]
def Ry:List DictEntry:=[dn P 1899 1202,dd P 1901 [77],e P "__init__" 1914 1171,ds P 1919 1172]
def Rx:List DictEntry:=[dn P 1988 1311,dd P 1990 [83],e P "__init__" 2002 1220,e P "merge_blobs" 2014 1228,e P "merge_trees" 2025 1235,e P "_load_tree" 2034 1242,e P "_record_conflict" 2046 1249,e P "_merge_trees" 2089 1256,ds P 2093 1257]
def Rw:List DictEntry:=[dn P 2112 1500,dd P 2114 [85],e P "__init__" 2125 1277,e P "_to_hexsha" 2133 1284,e P "contains_loose" 2141 1291,e P "get_raw" 2149 1298,e P "__getitem__" 2158 1305,e P "add_object" 2167 1312,ds P 2170 1313]
def NA:List Obj:=[boot_o_0 P,
 boot_o_1 P,
 ⟨N,none,(.dict ⟨[d P "type.__subclasses__.Exception.0" 667 (i 329 0),d P "type.__subclasses__.Exception.n" 668 (i 1 0)]⟩ 2),⟨[]⟩⟩,
 dc 100 [d P "__name__" 165 m7,d P "__doc__" 166 N,d P "__package__" 167 N,d P "__loader__" 168 (b "__main__.__loader__#opaque"),d P "__spec__" 169 N,e P "__annotations__" 170 6,e P "__builtins__" 171 4,d P "__file__" 173 (v "/claim/cut.py" 172),d P "__cached__" 174 N,e P "_wall" 193 21,e P "_pe_name" 200 28,e P "_Os" 234 45,e P "os" 235 51,e P "_Logger" 266 68,e P "logger" 267 74,e P "_Stat" 311 98,e P "stat" 312 104,e P "_digit" 320 111,e P "_Binascii" 354 131,e P "binascii" 355 137,e P "ObjectID" 363 144,e P "RawObjectID" 371 151,e P "cast" 380 158,e P "BytesIO" 436 196,d P "FIRST_FEW_BYTES" 440 (i 8000 439),e P "is_binary" 448 207,d P "CRLF" 450 (.bytes #[13,10] 449),d P "LF" 452 (.bytes #[10] 451),e P "CRLFAction" 490 217,e P "_AUTO_ACTIONS" 494 222,e P "_crlf_action_from_attr" 502 229,e P "_text_eol_is_crlf" 511 236,e P "resolve_crlf_action" 526 244,e P "line_ending_filter_for_action" 538 252,e P "LineEndingFilter" 612 293,e P "convert_crlf_to_lf" 620 304,e P "convert_lf_to_crlf" 632 311,e P "check_safecrlf" 646 319,e P "FileFormatException" 670 329,e P "ObjectFormatException" 688 342,e P "ObjectFormat" 739 368,e P "SHA1" 761 374,e P "DEFAULT_OBJECT_FORMAT" 762 374,e P "_tuplegetter" 821 414,d P "_TREE_HEADER" 823 (.bytes #[116,114,101,101] 822),d P "_PARENT_HEADER" 825 (.bytes #[112,97,114,101,110,116] 824),d P "_AUTHOR_HEADER" 827 (.bytes #[97,117,116,104,111,114] 826),d P "_COMMITTER_HEADER" 829 (.bytes #[99,111,109,109,105,116,116,101,114] 828),d P "_ENCODING_HEADER" 831 (.bytes #[101,110,99,111,100,105,110,103] 830),d P "_GPGSIG_HEADER" 833 (.bytes #[103,112,103,115,105,103] 832),d P "S_IFGITLINK" 835 (i 57344 834),d P "MAX_TIME" 837 (i 9223372036854775807 836),e P "S_ISGITLINK" 845 425,e P "sha_to_hex" 854 432,e P "hex_to_sha" 862 439,e P "valid_hexsha" 870 446,e P "check_hexsha" 879 453,e P "check_identity" 890 460,e P "check_time" 898 467,e P "git_line" 906 474,e P "is_commit" 914 481,e P "is_tree" 922 488,e P "is_blob" 930 495,e P "ShaFile" 1063 585,e P "Blob" 1164 663,e P "_parse_message" 1179 672,e P "_format_message" 1191 679,e P "TreeEntry" 1319 750,e P "parse_tree" 1339 761,e P "serialize_tree" 1350 768,e P "sorted_tree_items" 1364 775,e P "key_entry" 1375 782,e P "key_entry_name_order" 1383 789,e P "Tree" 1520 884,e P "parse_timezone" 1534 893,e P "format_timezone" 1545 901,e P "parse_time_entry" 1562 908,e P "format_time_entry" 1574 915,e P "_parse_commit" 1595 923,e P "Commit" 1886 1155,e P "MergeConflictInfo" 1925 1174,e P "_can_merge_lines" 1935 1185,e P "_merge3_to_bytes" 1949 1192,e P "_merge_lines" 1959 1199,e P "merge_blobs" 1976 1206,e P "merge_blobs_merge" 1977 1206,e P "Merger" 2099 1259,e P "MemoryObjectStore" 2176 1315,e P "_law_names" 2181 1320,e P "_law_rows" 2187 1327,e P "_law_marks" 2193 1334,e P "_law_format" 2201 1341,e P "_law_rule" 2212 1348,e P "_law_data" 2218 1353,e P "_law_laid" 2224 1358,e P "_law_out" 2235 1365,e P "_law_turns" 2246 1372,e P "_law_groups" 2257 1379,e P "_law_plain" 2269 1386,e P "law" 2275 1391],
 boot_o_4 P,
 boot_o_5 P,
 boot_o_6 P,
 boot_o_7 P,
 boot_o_8 P,
 boot_o_9 P,
 boot_o_10 P,
 tp [],
 fi [1,0,20,4,0,27,9,0,34,16,0,57,22,0,80,34,0,110,43,0,117,55,0,143,58,0,150,61,0,157,64,0,164,89,0,206,98,0,213,115,0,228,126,0,235,137,0,243,179,0,251,194,0,258,251,0,303,259,0,310,274,0,318,306,0,325,308,0,338,311,0,350,343,0,381,369,0,424,377,0,431,383,0,438,388,0,445,405,0,452,416,0,459,431,0,466,442,0,473,445,0,480,448,0,487,451,0,494,454,0,501,538,0,596,602,0,671,639,0,678,648,0,686,691,0,760,726,0,767,735,0,774,755,0,781,765,0,788,768,0,796,871,0,892,892,0,900,909,0,907,932,0,914,936,0,922,1000,0,930,1202,0,1163,1216,0,1184,1224,0,1191,1248,0,1198,1256,0,1205,1311,0,1212,1500,0,1269,1547,0,1326,1549,0,1333,1551,0,1340,1559,0,1347,1571,0,1352,1573,0,1357,1575,0,1364,1580,0,1371,1584,0,1378,1598,0,1385,1610,0,1390],
 ce "<module>" "<module>" 182 1 0 0 0 0 11 F 0 185,
 fm 13 3 m0,
 tp [],
 fl [],
 tv 190 ["k"],
 tp []]++(f3 [0] "_wall" "_wall" 187 1 1 0 0 3 15 T 7 191 N 0 m0 20++([tp [],
 fl [],
 tv 197 ["n"],
 tp []]++(f3 [1] "_pe_name" "_pe_name" 194 4 1 0 0 3 22 T 7 198 N 0 m0 27++([tp [],
 bp,
 dc 7 (d P "__module__" 210 m1::d P "__qualname__" 212 (v "_Os" 211)::q0 P),
 tp [],
 fi [13,4,41],
 ce "_Os" "_Os" 205 9 0 0 0 0 32 F 0 208,
 fm 34 31 m1,
 tp [],
 fl [],
 tv 223 ["self","text"],
 tp []]++(f3 [3,2] "_Os.fsencode" "fsencode" 220 13 2 0 0 3 36 T 7 225 N 0 m1 41++([tp [],
 dc 3 (d P "__module__" 210 m1::q0 P++[e P "__dict__" 230 46,e P "__weakref__" 232 47]),
 kl "_Os" 45 44 203 211,
 gd 229 45,
 gw 231 45,
 su 45,
 bs 45,
 dc 0 [],
 ii 45 50,
 tp [],
 bp,
 dc 6 (d P "__module__" 243 m1::d P "__qualname__" 245 (v "_Logger" 244)::q1 P),
 tp [],
 fi [19,4,64],
 ce "_Logger" "_Logger" 238 16 0 0 0 0 55 F 0 241,
 fm 57 54 m1,
 tp [],
 fl [],
 tv 254 ["self","text","values"],
 tp []]++(f3 [5,1] "_Logger.warning" "warning" 251 19 2 0 0 7 59 T 7 257 N 0 m1 64++([tp [],
 dc 3 (d P "__module__" 243 m1::q1 P++[e P "__dict__" 262 69,e P "__weakref__" 264 70]),
 kl "_Logger" 68 67 236 244,
 gd 261 68,
 gw 263 68,
 su 68,
 bs 68,
 dc 0 [],
 ii 68 73,
 tp [],
 bp,
 dc 10 (d P "__module__" 275 m1::d P "__qualname__" 277 (v "_Stat" 276)::q2 P),
 tp [],
 fi [28,4,87,31,4,94],
 ce "_Stat" "_Stat" 270 22 0 0 0 0 78 F 0 273,
 fm 80 77 m1,
 tp [],
 fl [],
 tv 292 ["self","mode"],
 tp []]++(f3 [7,4] "_Stat.S_IFMT" "S_IFMT" 289 28 2 0 0 3 82 T 7 294 N 0 m1 87++([tp [],
 fl [],
 tv 300 ["self","mode"],
 tp []]++(f3 [7,5] "_Stat.S_ISDIR" "S_ISDIR" 297 31 2 0 0 3 89 T 7 302 N 0 m1 94++([tp [],
 dc 3 (d P "__module__" 275 m1::q2 P++[e P "__dict__" 307 99,e P "__weakref__" 309 100]),
 kl "_Stat" 98 97 268 276,
 gd 306 98,
 gw 308 98,
 su 98,
 bs 98,
 dc 0 [],
 ii 98 103,
 tp [],
 fl [],
 tv 316 ["octet"],
 tp []]++(f3 [9] "_digit" "_digit" 313 34 1 0 0 3 105 T 7 317 N 319 m1 110++([tp [],
 bp,
 dc 7 (d P "__module__" 328 m1::d P "__qualname__" 330 (v "_Binascii" 329)::q3 P),
 tp []]))))))))))))))
def Nz:List Obj:=[fi [46,4,122,50,4,127],
 ce "_Binascii" "_Binascii" 323 43 0 0 0 0 115 F 0 326,
 fm 117 114 m1,
 tp [],
 fl []]++(f3 [10,1] "_Binascii.hexlify" "hexlify" 336 46 2 0 0 3 119 T 1 339 N 0 m1 122++([tp [],
 fl []]++(f3 [10,2] "_Binascii.unhexlify" "unhexlify" 342 50 2 0 0 3 124 T 1 345 N 0 m1 127++([tp [],
 dc 3 (d P "__module__" 328 m1::q3 P++[e P "__dict__" 350 132,e P "__weakref__" 352 133]),
 kl "_Binascii" 131 130 321 329,
 gd 349 131,
 gw 351 131,
 su 131,
 bs 131,
 dc 0 [],
 ii 131 136,
 tp [],
 fl [],
 tv 359 ["octets"],
 tp []]++(f3 [12] "ObjectID" "ObjectID" 356 55 1 0 0 3 138 T 7 360 N 362 m1 143++([tp [],
 fl [],
 tv 367 ["octets"],
 tp [],
 nf [13] "RawObjectID",
 ce "RawObjectID" "RawObjectID" 364 58 1 0 0 3 145 T 7 368,
 ⟨(y "function"),none,(.func (fd [13] "RawObjectID" 3 [] N N (.str (dS [12]) 370) m1 none (r 150) N 0)),⟨[]⟩⟩,
 tp [],
 fl [],
 tv 375 ["kind","value"],
 tp []]++(f3 [14] "cast" "cast" 372 61 2 0 0 3 152 T 7 377 N 379 m1 157++([tp [],
 bp,
 dc 9 (d P "__module__" 388 m1::d P "__qualname__" 390 (v "BytesIO" 389)::q4 P),
 tp [],
 fi [67,4,171,71,4,178,80,4,185,85,4,192],
 ce "BytesIO" "BytesIO" 383 64 0 0 0 0 162 F 0 386,
 fm 164 161 m1,
 tp [],
 fl [],
 tv 399 ["self","octets"],
 tp []]++(f3 [15,1] "BytesIO.__init__" "__init__" 396 67 2 0 0 3 166 T 7 401 N 0 m1 171++([tp [],
 fl [],
 tv 407 ["self","end","line"],
 tp []]++(f3 [15,2] "BytesIO.__iter__" "__iter__" 404 71 1 0 0 35 173 T 7 410 N 0 m1 178++([tp [],
 fl [],
 tv 416 ["self","start"],
 tp []]++(f3 [15,3] "BytesIO.read" "read" 413 80 1 0 0 3 180 T 7 418 N 0 m1 185++([tp [],
 fl [],
 tv 424 ["self"],
 tp []]++(f3 [15,4] "BytesIO.close" "close" 421 85 1 0 0 3 187 T 7 425 N 0 m1 192++([tv 428 ["octets","place"],
 dc 3 (d P "__module__" 388 m1::q4 P++[e P "__dict__" 432 197,e P "__weakref__" 434 198]),
 kl "BytesIO" 196 195 381 389,
 gd 431 196,
 gw 433 196,
 su 196,
 bs 196,
 tp [],
 fl [],
 tv 444 ["content"],
 tp []]++(f3 [18] "is_binary" "is_binary" 441 89 1 0 0 3 201 T 7 445 N 447 m2 206++([tp [],
 bp,
 dc 13 (d P "__module__" 460 m2::d P "__qualname__" 462 (v "CRLFAction" 461)::q5 P),
 tp [],
 fl [],
 ce "CRLFAction" "CRLFAction" 455 98 0 0 0 0 211 F 0 458,
 fm 213 210 m2,
 tp [],
 dc 3 (d P "__module__" 460 m2::q5 P++[e P "__dict__" 486 218,e P "__weakref__" 488 219]),
 kl "CRLFAction" 217 216 453 461,
 gd 485 217,
 gw 487 217,
 su 217,
 bs 217,
 tv 491 ["auto","auto-input","auto-crlf"],
 tp [],
 fl [],
 tv 498 ["value"],
 tp []]++(f3 [23] "_crlf_action_from_attr" "_crlf_action_from_attr" 495 115 1 0 0 3 223 T 7 499 N 501 m2 228++([tp [],
 fl []]))))))))))))))))))))
def Ny:List Obj:=[tv 506 ["core_eol","autocrlf"],
 tp []]++(f3 [24] "_text_eol_is_crlf" "_text_eol_is_crlf" 503 126 2 0 0 3 230 T 7 508 N 510 m2 235++([tp [(v "native" 512),(.bytes #[102,97,108,115,101] 513)],
 tp [],
 fl [],
 tv 517 ["attributes","core_eol","autocrlf","action","eol_attr","crlf"],
 tp []]++(f3 [25] "resolve_crlf_action" "resolve_crlf_action" 514 137 3 0 0 3 238 T 7 523 (r 237) 525 m2 243++([tp [(.bytes #[102,97,108,115,101] 527),N],
 tp [],
 fl [],
 tv 531 ["action","safecrlf","index_has_crlf","smudge"],
 tp []]++(f3 [26] "line_ending_filter_for_action" "line_ending_filter_for_action" 528 179 3 0 0 3 246 T 7 535 (r 245) 537 m2 251++([tp [],
 bp,
 dc 9 (d P "__module__" 546 m2::d P "__qualname__" 548 (v "LineEndingFilter" 547)::q6 P),
 tp [],
 fi [202,4,266,223,4,274,236,4,282,249,4,289],
 ce "LineEndingFilter" "LineEndingFilter" 541 194 0 0 0 0 256 F 0 544,
 fm 258 255 m2,
 tp [N,N,T,(.bytes #[102,97,108,115,101] 554),F,N],
 tp [],
 fl [],
 tv 558 ["self","clean_conversion","smudge_conversion","binary_detection","safecrlf","require_lf_only","index_has_crlf"],
 tp []]++(f3 [27,1] "LineEndingFilter.__init__" "__init__" 555 202 7 0 0 3 261 T 7 565 (r 260) 567 m2 266++([tp [(.bytes #[] 569)],
 tp [],
 fl [],
 tv 573 ["self","data","path","converted"],
 tp []]++(f3 [27,2] "LineEndingFilter.clean" "clean" 570 223 3 0 0 3 269 T 7 577 (r 268) 579 m2 274++([tp [(.bytes #[] 581)],
 tp [],
 fl [],
 tv 585 ["self","data","path","converted"],
 tp []]++(f3 [27,3] "LineEndingFilter.smudge" "smudge" 582 236 3 0 0 3 277 T 7 589 (r 276) 591 m2 282++([tp [],
 fl [],
 tv 596 ["self"],
 tp []]++(f3 [27,4] "LineEndingFilter.cleanup" "cleanup" 593 249 1 0 0 3 284 T 7 597 N 0 m2 289++([tv 600 ["binary_detection","clean_conversion","index_has_crlf","require_lf_only","safecrlf","smudge_conversion"],
 dc 3 (d P "__module__" 546 m2::q6 P++[e P "__dict__" 608 294,e P "__weakref__" 610 295]),
 kl "LineEndingFilter" 293 292 539 547,
 gd 607 293,
 gw 609 293,
 su 293,
 bs 293,
 tp [],
 fl [],
 tv 616 ["text_hunk"],
 tp []]++(f3 [28] "convert_crlf_to_lf" "convert_crlf_to_lf" 613 251 1 0 0 3 298 T 7 617 N 619 m2 303++([tp [],
 fl [],
 tv 624 ["text_hunk","parts","cleaned_parts","i","part"],
 tp []]++(f3 [29] "convert_lf_to_crlf" "convert_lf_to_crlf" 621 259 1 0 0 3 305 T 7 629 N 631 m2 310++([tp [(.bytes #[] 633)],
 tp [],
 fl [],
 tv 637 ["original","converted","safecrlf","path","recovered","msg"],
 tp []]++(f3 [30] "check_safecrlf" "check_safecrlf" 634 274 4 0 0 3 313 T 7 643 (r 312) 645 m2 318++([tp [(y "Exception")],
 bp,
 dc 5 (d P "__module__" 656 (v "dulwich.errors" 647)::d P "__qualname__" 658 (v "FileFormatException" 657)::q7 P),
 tp [],
 fl [],
 ce "FileFormatException" "FileFormatException" 651 306 0 0 0 0 323 F 0 654,
 ⟨(y "frame"),none,.plain,⟨[some (r 325),some (r 3),some (r 322),none,some (v "dulwich.errors" 647),none,some (r 0)]⟩⟩,
 tp [],
 dc 2 (d P "__module__" 656 (v "dulwich.errors" 647)::q7 P++[e P "__weakref__" 666 330]),
 ⟨(y "type"),none,(.cls ⟨z "FileFormatException",[(y "Exception")],[(r 329),(y "Exception"),(y "BaseException"),(y "object")],328,z "FileFormatException",true,[],[(r 342)],false,none,false⟩),⟨[some (r 320),none,some (v "FileFormatException" 649),some (v "FileFormatException" 657),some (b "Exception.__new__"),some T]⟩⟩,
 gw 665 329,
 su 329,
 bs 329,
 tp [(r 329)],
 bp,
 dc 5 (d P "__module__" 678 (v "dulwich.errors" 647)::d P "__qualname__" 680 (v "ObjectFormatException" 679)::q8 P),
 tp [],
 fl [],
 ce "ObjectFormatException" "ObjectFormatException" 673 308 0 0 0 0 336 F 0 676,
 ⟨(y "frame"),none,.plain,⟨[some (r 338),some (r 3),some (r 335),none,some (v "dulwich.errors" 647),none,some (r 0)]⟩⟩,
 tp [],
 dc 1 (d P "__module__" 678 (v "dulwich.errors" 647)::q8 P++[]),
 ⟨(y "type"),none,(.cls ⟨z "ObjectFormatException",[(r 329)],[(r 342),(r 329),(y "Exception"),(y "BaseException"),(y "object")],341,z "ObjectFormatException",true,[],[],false,none,false⟩),⟨[some (r 333),none,some (v "ObjectFormatException" 671),some (v "ObjectFormatException" 679),some (b "Exception.__new__"),some T]⟩⟩,
 su 342,
 bs 342,
 tp [],
 bp,
 dc 7 [d P "__module__" 698 m3,d P "__qualname__" 700 (v "ObjectFormat" 699),dn P 701 311,dd P 703 [35],e P "__init__" 718 358,e P "hash_object_hex" 727 365,ds P 733 366]]))))))))))))))))))))
def Nx:List Obj:=[tp [],
 fi [314,4,357,330,4,364],
 ce "ObjectFormat" "ObjectFormat" 693 311 0 0 0 0 348 F 0 696,
 fm 350 347 m3,
 tp [],
 fl [],
 tv 709 ["self","name","type_num","oid_length","hex_length","hash_func"],
 tp []]++(f3 [35,1] "ObjectFormat.__init__" "__init__" 706 314 6 0 0 3 352 T 7 715 N 717 m3 357++([tp [],
 fl [],
 tv 722 ["self","data"],
 tp []]++(f3 [35,2] "ObjectFormat.hash_object_hex" "hash_object_hex" 719 330 2 0 0 3 359 T 7 724 N 726 m3 364++([tv 728 ["hash_func","hex_length","name","oid_length","type_num"],
 dc 3 [d P "__module__" 698 m3,dn P 701 311,dd P 703 [35],e P "__init__" 718 358,e P "hash_object_hex" 727 365,ds P 733 366,e P "__dict__" 735 369,e P "__weakref__" 737 370],
 kl "ObjectFormat" 368 367 691 699,
 gd 734 368,
 gw 736 368,
 su 368,
 bs 368,
 dc 5 [d P "name" 752 (v "sha1" 740),d P "type_num" 754 (i 1 741),d P "oid_length" 756 (i 20 742),d P "hex_length" 758 (i 40 743),d P "hash_func" 760 N],
 ii 368 373,
 ⟨(y "frame"),none,(.dict ⟨[d P "self" 744 (r 374),d P "name" 745 (v "sha1" 740),d P "type_num" 746 (i 1 741),d P "oid_length" 747 (i 20 742),d P "hex_length" 748 (i 40 743),d P "hash_func" 749 N]⟩ 6),⟨[]⟩⟩,
 tp [],
 bp,
 dc 8 (d P "__module__" 772 m4::d P "__qualname__" 774 (v "_tuplegetter" 773)::q9 P),
 tp [],
 fi [345,4,388,349,4,396,356,4,403,359,4,410],
 ce "_tuplegetter" "_tuplegetter" 767 343 0 0 0 0 379 F 0 770,
 fm 381 378 m4,
 tp [],
 fl [],
 tv 780 ["self","index","doc"],
 tp []]++(f3 [39,0] "_tuplegetter.__init__" "__init__" 777 345 3 0 0 3 383 T 7 783 N 0 m4 388++([tp [N],
 tp [],
 fl [],
 tv 789 ["self","obj","objtype"],
 tp []]++(f3 [39,1] "_tuplegetter.__get__" "__get__" 786 349 3 0 0 3 391 T 7 792 (r 390) 0 m4 396++([tp [],
 fl [],
 tv 798 ["self","obj","value"],
 tp []]++(f3 [39,2] "_tuplegetter.__set__" "__set__" 795 356 3 0 0 3 398 T 7 801 N 0 m4 403++([tp [],
 fl [],
 tv 807 ["self","obj"],
 tp []]++(f3 [39,3] "_tuplegetter.__delete__" "__delete__" 804 359 2 0 0 3 405 T 7 809 N 0 m4 410++([tv 812 ["__doc__","index"],
 dc 4 (d P "__module__" 772 m4::q9 P++[e P "__dict__" 816 415,e P "__weakref__" 818 416,d P "__doc__" 819 N]),
 kl "_tuplegetter" 414 413 765 773,
 gd 815 414,
 gw 817 414,
 su 414,
 bs 414,
 tp [],
 fl [],
 tv 841 ["m"],
 tp []]++(f3 [48] "S_ISGITLINK" "S_ISGITLINK" 838 369 1 0 0 3 419 T 7 842 N 844 m4 424++([tp [],
 fl [],
 tv 849 ["sha","hexsha"],
 tp []]++(f3 [49] "sha_to_hex" "sha_to_hex" 846 377 1 0 0 3 426 T 7 851 N 853 m4 431++([tp [],
 fl [],
 tv 858 ["hex"],
 tp []]++(f3 [50] "hex_to_sha" "hex_to_sha" 855 383 1 0 0 3 433 T 7 859 N 861 m4 438++([tp [],
 fl [],
 tv 866 ["hex"],
 tp []]++(f3 [51] "valid_hexsha" "valid_hexsha" 863 388 1 0 0 3 440 T 7 867 N 869 m4 445++([tp [],
 fl [],
 tv 874 ["hex","error_msg"],
 tp []]++(f3 [52] "check_hexsha" "check_hexsha" 871 405 2 0 0 3 447 T 7 876 N 878 m4 452++([tp [],
 fl [],
 tv 883 ["identity","error_msg","email_start","email_end"],
 tp []]++(f3 [53] "check_identity" "check_identity" 880 416 2 0 0 3 454 T 7 887 N 889 m4 459++([tp [],
 fl [],
 tv 894 ["time_seconds"]]))))))))))))))))))))))))
def Nw:List Obj:=[tp []]++(f3 [54] "check_time" "check_time" 891 431 1 0 0 3 461 T 7 895 N 897 m4 466++([tp [],
 fl [],
 tv 902 ["items"],
 tp []]++(f3 [55] "git_line" "git_line" 899 442 0 0 0 7 468 T 7 903 N 905 m4 473++([tp [],
 fl [],
 tv 910 ["obj"],
 tp []]++(f3 [56] "is_commit" "is_commit" 907 445 1 0 0 3 475 T 7 911 N 913 m4 480++([tp [],
 fl [],
 tv 918 ["obj"],
 tp []]++(f3 [57] "is_tree" "is_tree" 915 448 1 0 0 3 482 T 7 919 N 921 m4 487++([tp [],
 fl [],
 tv 926 ["obj"],
 tp []]++(f3 [58] "is_blob" "is_blob" 923 451 1 0 0 3 489 T 7 927 N 929 m4 494++([tp [],
 bp,
 dc 16 (d P "__module__" 938 m4::d P "__qualname__" 940 (v "ShaFile" 939)::Rz P),
 tp [],
 fi [457,4,508,464,4,515,476,4,522,483,4,529,489,4,536,497,4,543,503,4,553,516,4,560,519,4,567,523,4,574,535,4,581],
 ce "ShaFile" "ShaFile" 933 454 0 0 0 0 499 F 0 936,
 fm 501 498 m4,
 tp [],
 fl [],
 tv 949 ["self"],
 tp []]++(f3 [59,1] "ShaFile.__init__" "__init__" 946 457 1 0 0 3 503 T 7 950 N 952 m4 508++([tp [],
 fl [],
 tv 957 ["self"],
 tp []]++(f3 [59,2] "ShaFile.as_raw_chunks" "as_raw_chunks" 954 464 1 0 0 3 510 T 7 958 N 960 m4 515++([tp [],
 fl [],
 tv 965 ["self"],
 tp []]++(f3 [59,3] "ShaFile.as_raw_string" "as_raw_string" 962 476 1 0 0 3 517 T 7 966 N 968 m4 522++([tp [],
 fl [],
 tv 973 ["self","text"],
 tp []]++(f3 [59,4] "ShaFile.set_raw_string" "set_raw_string" 970 483 2 0 0 3 524 T 7 975 N 977 m4 529++([tp [],
 fl [],
 tv 982 ["self","chunks"],
 tp []]++(f3 [59,5] "ShaFile.set_raw_chunks" "set_raw_chunks" 979 489 2 0 0 3 531 T 7 984 N 986 m4 536++([tp [],
 fl [],
 tv 991 ["cls","string","obj"],
 tp [],
 nf [59,6] "ShaFile.from_string",
 ce "ShaFile.from_string" "from_string" 988 496 2 0 0 3 538 T 7 994,
 ⟨(y "function"),none,(.func (fd [59,6] "ShaFile.from_string" 3 [] N N (.str (dS [59,6]) 996) m4 (some 547) (r 543) N 0)),⟨[]⟩⟩,
 dc 5 [d P "__module__" 998 m4,d P "__name__" 1001 (v "from_string" 1000),d P "__qualname__" 1004 (v "ShaFile.from_string" 1003),d P "__doc__" 1006 (.str (dS [59,6]) 996),e P "__annotations__" 1008 547],
 ⟨(y "classmethod"),(some 545),(.fields ⟨[(r 544),F]⟩),⟨[]⟩⟩,
 dc 0 [],
 tp [],
 fl [],
 tv 1013 ["self","member","error_msg"],
 tp []]++(f3 [59,7] "ShaFile._check_has_member" "_check_has_member" 1010 503 3 0 0 3 548 T 7 1016 N 1018 m4 553++([tp [],
 fl [],
 tv 1023 ["self"],
 tp []]++(f3 [59,8] "ShaFile._header" "_header" 1020 516 1 0 0 3 555 T 7 1024 N 0 m4 560++([tp [],
 fl [],
 tv 1030 ["self"],
 tp []]++(f3 [59,9] "ShaFile.raw_length" "raw_length" 1027 519 1 0 0 3 562 T 7 1031 N 1033 m4 567++([tp [],
 fl [],
 tv 1038 ["self","obj"],
 tp []]++(f3 [59,10] "ShaFile.copy" "copy" 1035 523 1 0 0 3 569 T 7 1040 N 1042 m4 574++([tp [],
 fl [],
 tv 1047 ["self","object_format"],
 tp []]))))))))))))))))))))))))))))
def Nv:List Obj:=f3 [59,11] "ShaFile.get_id" "get_id" 1044 535 2 0 0 3 576 T 7 1049 N 1051 m4 581++([tv 1053 ["_chunked_text","_needs_serialization","_sha","object_format"],
 dc 3 (d P "__module__" 938 m4::Rz P++[e P "__dict__" 1059 586,e P "__weakref__" 1061 587]),
 ⟨(y "type"),none,(.cls ⟨z "ShaFile",[(y "object")],[(r 585),(y "object")],584,z "ShaFile",true,[],[(r 663),(r 884),(r 1155)],false,none,false⟩),⟨[none,none,some (v "ShaFile" 931),some (v "ShaFile" 939),some (b "object.__new__"),some T]⟩⟩,
 gd 1058 585,
 gw 1060 585,
 su 585,
 bs 585,
 tp [(r 585)],
 bp,
 dc 14 [d P "__module__" 1071 m4,d P "__qualname__" 1073 (v "Blob" 1072),dn P 1074 538,dd P 1076 [60],d P "type_name" 1080 (.bytes #[98,108,111,98] 1079),d P "type_num" 1082 (i 3 1081),e P "__init__" 1091 605,e P "data" 1100 622,e P "chunked" 1119 639,e P "_serialize" 1136 646,e P "_deserialize" 1144 653,e P "splitlines" 1158 660,ds P 1161 661,e P "__classcell__" 1162 593],
 ⟨(y "cell"),none,(.cell (some (r 663))),⟨[]⟩⟩,
 tp [],
 fi [543,4,604,550,4,611,555,4,620,559,4,628,565,4,637,568,4,645,572,4,652,575,4,659],
 ce "Blob" "Blob" 1066 538 0 0 0 0 594 F 0 1069,
 fm 596 592 m4,
 tp [(r 593)],
 tv 1086 ["__class__"],
 fl [],
 tv 1087 ["self"],
 tp [],
 nf [60,3] "Blob.__init__",
 ce "Blob.__init__" "__init__" 1083 543 1 0 0 3 599 T 7 1088,
 ⟨(y "function"),none,(.func (fd [60,3] "Blob.__init__" 3 [(z "__class__",593)] N N (.str (dS [60,3]) 1090) m4 none (r 604) (r 598) 0)),⟨[]⟩⟩,
 tp [],
 fl [],
 tv 1095 ["self"],
 tp []]++(f3 [60,4] "Blob.data" "data" 1092 549 1 0 0 3 606 T 7 1096 N 1098 m4 611++([of "property" [(r 612),N,N,(.str (dS [60,4]) 1098),(i 0 0),T],
 bt 613,
 tp [],
 fl [],
 tv 1105 ["self","data"],
 tp []]++(f3 [60,5] "Blob.data" "data" 1102 554 2 0 0 3 615 T 7 1107 N 0 m4 620++([pr 612 621 [60,4] 1098 "data" 1100,
 tp [],
 fl [],
 tv 1114 ["self"],
 tp []]++(f3 [60,6] "Blob.chunked" "chunked" 1111 558 1 0 0 3 623 T 7 1115 N 1117 m4 628++([of "property" [(r 629),N,N,(.str (dS [60,6]) 1117),(i 0 0),T],
 bt 630,
 tp [],
 fl [],
 tv 1124 ["self","chunks"],
 tp []]++(f3 [60,7] "Blob.chunked" "chunked" 1121 564 2 0 0 3 632 T 7 1126 N 0 m4 637++([pr 629 638 [60,6] 1117 "chunked" 1119,
 tp [],
 fl [],
 tv 1133 ["self"],
 tp []]++(f3 [60,8] "Blob._serialize" "_serialize" 1130 568 1 0 0 3 640 T 7 1134 N 0 m4 645++([tp [],
 fl [],
 tv 1140 ["self","chunks"],
 tp []]++(f3 [60,9] "Blob._deserialize" "_deserialize" 1137 572 2 0 0 3 647 T 7 1142 N 0 m4 652++([tp [],
 fl [],
 tv 1148 ["self","chunks","result","remaining","ret","chunk","lines"],
 tp []]++(f3 [60,10] "Blob.splitlines" "splitlines" 1145 575 1 0 0 3 654 T 7 1155 N 1157 m4 659++([tv 1159 ["_chunked_text","_needs_serialization"],
 dc 2 [d P "__module__" 1071 m4,dn P 1074 538,dd P 1076 [60],d P "type_name" 1080 (.bytes #[98,108,111,98] 1079),d P "type_num" 1082 (i 3 1081),e P "__init__" 1091 605,e P "data" 1100 622,e P "chunked" 1119 639,e P "_serialize" 1136 646,e P "_deserialize" 1144 653,e P "splitlines" 1158 660,ds P 1161 661],
 ⟨(y "type"),none,(.cls ⟨z "Blob",[(r 585)],[(r 663),(r 585),(y "object")],662,z "Blob",true,[],[],false,none,false⟩),⟨[some (r 590),none,some (v "Blob" 1064),some (v "Blob" 1072),some (b "object.__new__"),some T]⟩⟩,
 su 663,
 bs 663,
 tp [],
 fl [],
 tv 1168 ["chunks","f","k","v","eof","_strip_last_newline","line","rest"],
 tp []]++(f3 [61] "_parse_message" "_parse_message" 1165 602 1 0 0 35 666 T 7 1176 N 1178 m4 671++([tp [],
 fl [],
 tv 1183 ["headers","body","field","value","lines","line"],
 tp []]++(f3 [62] "_format_message" "_format_message" 1180 639 2 0 0 35 673 T 7 1189 N 0 m4 678++([tp [(y "tuple")],
 bp,
 dc 20 [d P "__module__" 1199 m4,d P "__qualname__" 1201 (v "TreeEntry" 1200),dn P 1202 648,dd P 1204 [63],e P "__slots__" 1207 688,e P "_fields" 1211 689,e P "_field_defaults" 1212 690,e P "__new__" 1223 697,e P "_make" 1245 706,e P "_replace" 1256 715,e P "__replace__" 1257 715,e P "__repr__" 1265 722,e P "_asdict" 1272 729,e P "__getnewargs__" 1280 736,e P "__match_args__" 1284 737,e P "path" 1294 739,e P "mode" 1304 742,e P "sha" 1314 745,ds P 1315 747,e P "__classcell__" 1316 683],
 ⟨(y "cell"),none,(.cell (some (r 750))),⟨[]⟩⟩,
 tp [],
 fi [654,4,696,659,4,703,666,4,714,677,4,721,681,4,728,684,4,735],
 ce "TreeEntry" "TreeEntry" 1194 648 0 0 0 0 684 F 0 1197,
 fm 686 682 m4,
 tp [],
 tv 1208 ["path","mode","sha"],
 dc 0 [],
 tp [],
 fl [],
 tv 1216 ["_cls","path","mode","sha"],
 tp [],
 nf [63,4] "TreeEntry.__new__"])))))))))))))))))))
def Nu:List Obj:=[ce "TreeEntry.__new__" "__new__" 1213 654 4 0 0 3 691 T 7 1220,
 ⟨(y "function"),none,(.func (fd [63,4] "TreeEntry.__new__" 3 [] N N (.str (dS [63,4]) 1222) m4 none (r 696) N 0)),⟨[]⟩⟩,
 tp [],
 fl [],
 tv 1227 ["cls","iterable","result"],
 tp [],
 nf [63,5] "TreeEntry._make",
 ce "TreeEntry._make" "_make" 1224 658 2 0 0 3 698 T 7 1230,
 ⟨(y "function"),none,(.func (fd [63,5] "TreeEntry._make" 3 [] N N (.str (dS [63,5]) 1232) m4 (some 707) (r 703) N 0)),⟨[]⟩⟩,
 dc 5 [d P "__module__" 1234 m4,d P "__name__" 1237 (v "_make" 1236),d P "__qualname__" 1240 (v "TreeEntry._make" 1239),d P "__doc__" 1242 (.str (dS [63,5]) 1232),e P "__annotations__" 1244 707],
 ⟨(y "classmethod"),(some 705),(.fields ⟨[(r 704),F]⟩),⟨[]⟩⟩,
 dc 0 [],
 tp [(r 683)],
 tv 1249 ["__class__"],
 fl [],
 tv 1250 ["self","kwds","result"],
 tp [],
 nf [63,6] "TreeEntry._replace",
 ce "TreeEntry._replace" "_replace" 1246 666 1 1 0 11 709 T 7 1253,
 ⟨(y "function"),none,(.func (fd [63,6] "TreeEntry._replace" 3 [(z "__class__",683)] N N (.str (dS [63,6]) 1255) m4 none (r 714) (r 708) 0)),⟨[]⟩⟩,
 tp [],
 fl [],
 tv 1261 ["self"],
 tp []]++(f3 [63,8] "TreeEntry.__repr__" "__repr__" 1258 677 1 0 0 3 716 T 7 1262 N 1264 m4 721++([tp [],
 fl [],
 tv 1269 ["self"],
 tp []]++(f3 [63,9] "TreeEntry._asdict" "_asdict" 1266 681 1 0 0 3 723 T 7 1270 N 0 m4 728++([tp [],
 fl [],
 tv 1276 ["self"],
 tp []]++(f3 [63,10] "TreeEntry.__getnewargs__" "__getnewargs__" 1273 684 1 0 0 3 730 T 7 1277 N 1279 m4 735++([tv 1281 ["path","mode","sha"],
 dc 2 [d P "index" 1291 (i 0 1285),d P "__doc__" 1293 (v "Alias for field number 0" 1286)],
 ii 414 738,
 ⟨(y "frame"),none,(.dict ⟨[d P "self" 1287 (r 739),d P "index" 1288 (i 0 1285),d P "doc" 1289 (v "Alias for field number 0" 1286)]⟩ 3),⟨[]⟩⟩,
 dc 2 [d P "index" 1301 (i 1 1295),d P "__doc__" 1303 (v "Alias for field number 1" 1296)],
 ii 414 741,
 ⟨(y "frame"),none,(.dict ⟨[d P "self" 1297 (r 742),d P "index" 1298 (i 1 1295),d P "doc" 1299 (v "Alias for field number 1" 1296)]⟩ 3),⟨[]⟩⟩,
 dc 2 [d P "index" 1311 (i 2 1305),d P "__doc__" 1313 (v "Alias for field number 2" 1306)],
 ii 414 744,
 ⟨(y "frame"),none,(.dict ⟨[d P "self" 1307 (r 745),d P "index" 1308 (i 2 1305),d P "doc" 1309 (v "Alias for field number 2" 1306)]⟩ 3),⟨[]⟩⟩,
 tp [],
 ⟨(y "list"),none,(.seq ⟨[]⟩ 0),⟨[]⟩⟩,
 dc 2 [d P "__module__" 1199 m4,dn P 1202 648,dd P 1204 [63],e P "__slots__" 1207 688,e P "_fields" 1211 689,e P "_field_defaults" 1212 690,e P "__new__" 1223 751,e P "_make" 1245 706,e P "_replace" 1256 715,e P "__replace__" 1257 715,e P "__repr__" 1265 722,e P "_asdict" 1272 729,e P "__getnewargs__" 1280 736,e P "__match_args__" 1284 737,e P "path" 1294 739,e P "mode" 1304 742,e P "sha" 1314 745,ds P 1315 747],
 ⟨(y "type"),none,(.cls ⟨z "TreeEntry",[(y "tuple")],[(r 750),(y "tuple"),(y "object")],749,z "TreeEntry",false,[],[],false,none,false⟩),⟨[some (r 680),none,some (v "TreeEntry" 1192),some (v "TreeEntry" 1200),some N,some F]⟩⟩,
 of "staticmethod" [(r 697)],
 su 750,
 bs 750,
 tp [N,F],
 tp [],
 fl [],
 tv 1323 ["text","sha_len","strict","count","length","mode_end","mode_text","mode","exc","name_end","name","sha","hexsha"],
 tp []]++(f3 [64] "parse_tree" "parse_tree" 1320 691 3 0 0 35 755 T 7 1336 (r 754) 1338 m4 760++([tp [],
 fl [],
 tv 1343 ["items","name","mode","hexsha"],
 tp []]++(f3 [65] "serialize_tree" "serialize_tree" 1340 726 1 0 0 35 762 T 7 1347 N 1349 m4 767++([tp [],
 fl [],
 tv 1354 ["entries","name_order","key_func","name","entry","mode","hexsha"],
 tp []]++(f3 [66] "sorted_tree_items" "sorted_tree_items" 1351 735 2 0 0 35 769 T 7 1361 N 1363 m4 774++([tp [],
 fl [],
 tv 1368 ["entry","name","mode","_sha"],
 tp []]++(f3 [67] "key_entry" "key_entry" 1365 755 1 0 0 3 776 T 7 1372 N 1374 m4 781++([tp [],
 fl [],
 tv 1379 ["entry"],
 tp []]++(f3 [68] "key_entry_name_order" "key_entry_name_order" 1376 765 1 0 0 3 783 T 7 1380 N 1382 m4 788++([tp [(r 585)],
 bp,
 dc 20 [d P "__module__" 1391 m4,d P "__qualname__" 1393 (v "Tree" 1392),dn P 1394 768,dd P 1396 [69],d P "type_name" 1400 (.bytes #[116,114,101,101] 1399),d P "type_num" 1402 (i 2 1401),e P "__init__" 1411 805,e P "__contains__" 1420 812,e P "__getitem__" 1429 819,e P "__setitem__" 1441 826,e P "__delitem__" 1450 833,e P "__len__" 1458 840,e P "add" 1469 847,e P "iteritems" 1478 855,e P "items" 1486 862,e P "_deserialize" 1493 867,e P "check" 1507 874,e P "_serialize" 1514 881,ds P 1517 882,e P "__classcell__" 1518 793],
 ⟨(y "cell"),none,(.cell (some (r 884))),⟨[]⟩⟩,
 tp [],
 fi [773,4,804,778,4,811,782,4,818,786,4,825,799,4,832,804,4,839,808,4,846,820,4,854,830,4,861,837,4,866,845,4,873,869,4,880],
 ce "Tree" "Tree" 1386 768 0 0 0 0 794 F 0 1389,
 fm 796 792 m4,
 tp [(r 793)],
 tv 1406 ["__class__"],
 fl [],
 tv 1407 ["self"],
 tp [],
 nf [69,3] "Tree.__init__",
 ce "Tree.__init__" "__init__" 1403 773 1 0 0 3 799 T 7 1408,
 ⟨(y "function"),none,(.func (fd [69,3] "Tree.__init__" 3 [(z "__class__",793)] N N (.str (dS [69,3]) 1410) m4 none (r 804) (r 798) 0)),⟨[]⟩⟩,
 tp [],
 fl [],
 tv 1415 ["self","name"],
 tp [],
 nf [69,4] "Tree.__contains__",
 ce "Tree.__contains__" "__contains__" 1412 778 2 0 0 3 806 T 7 1417]))))))))))))))))
def Nt:List Obj:=[⟨(y "function"),none,(.func (fd [69,4] "Tree.__contains__" 3 [] N N (.str (dS [69,4]) 1419) m4 none (r 811) N 0)),⟨[]⟩⟩,
 tp [],
 fl [],
 tv 1424 ["self","name"],
 tp []]++(f3 [69,5] "Tree.__getitem__" "__getitem__" 1421 782 2 0 0 3 813 T 7 1426 N 1428 m4 818++([tp [],
 fl [],
 tv 1433 ["self","name","value","mode","hexsha"],
 tp []]++(f3 [69,6] "Tree.__setitem__" "__setitem__" 1430 786 3 0 0 3 820 T 7 1438 N 1440 m4 825++([tp [],
 fl [],
 tv 1445 ["self","name"],
 tp []]++(f3 [69,7] "Tree.__delitem__" "__delitem__" 1442 799 2 0 0 3 827 T 7 1447 N 1449 m4 832++([tp [],
 fl [],
 tv 1454 ["self"],
 tp []]++(f3 [69,8] "Tree.__len__" "__len__" 1451 804 1 0 0 3 834 T 7 1455 N 1457 m4 839++([tp [],
 fl [],
 tv 1462 ["self","name","mode","hexsha"],
 tp []]++(f3 [69,9] "Tree.add" "add" 1459 808 4 0 0 3 841 T 7 1466 N 1468 m4 846++([tp [F],
 tp [],
 fl [],
 tv 1473 ["self","name_order"],
 tp []]++(f3 [69,10] "Tree.iteritems" "iteritems" 1470 820 2 0 0 3 849 T 7 1475 (r 848) 1477 m4 854++([tp [],
 fl [],
 tv 1482 ["self"],
 tp []]++(f3 [69,11] "Tree.items" "items" 1479 830 1 0 0 3 856 T 7 1483 N 1485 m4 861++([tp [],
 fl []]++(f3 [69,12] "Tree._deserialize" "_deserialize" 1487 837 2 0 0 3 863 T 1 1490 N 1492 m4 866++([tp [],
 fl [],
 tv 1497 ["self","last","allowed_modes","name","mode","sha","entry"],
 tp []]++(f3 [69,13] "Tree.check" "check" 1494 845 1 0 0 3 868 T 7 1504 N 1506 m4 873++([tp [],
 fl [],
 tv 1511 ["self"],
 tp []]++(f3 [69,14] "Tree._serialize" "_serialize" 1508 869 1 0 0 3 875 T 7 1512 N 0 m4 880++([tv 1515 ["_entries","_needs_serialization"],
 dc 2 [d P "__module__" 1391 m4,dn P 1394 768,dd P 1396 [69],d P "type_name" 1400 (.bytes #[116,114,101,101] 1399),d P "type_num" 1402 (i 2 1401),e P "__init__" 1411 805,e P "__contains__" 1420 812,e P "__getitem__" 1429 819,e P "__setitem__" 1441 826,e P "__delitem__" 1450 833,e P "__len__" 1458 840,e P "add" 1469 847,e P "iteritems" 1478 855,e P "items" 1486 862,e P "_deserialize" 1493 867,e P "check" 1507 874,e P "_serialize" 1514 881,ds P 1517 882],
 ⟨(y "type"),none,(.cls ⟨z "Tree",[(r 585)],[(r 884),(r 585),(y "object")],883,z "Tree",true,[],[],false,none,false⟩),⟨[some (r 790),none,some (v "Tree" 1384),some (v "Tree" 1392),some (b "object.__new__"),some T]⟩⟩,
 su 884,
 bs 884,
 tp [],
 fl [],
 tv 1524 ["text","sign","offset","unnecessary_negative_timezone","signum","hours","minutes"],
 tp []]++(f3 [70] "parse_timezone" "parse_timezone" 1521 871 1 0 0 3 887 T 7 1531 N 1533 m4 892++([tp [F],
 tp [],
 fl [],
 tv 1538 ["offset","unnecessary_negative_timezone","sign","hours"],
 tp []]++(f3 [71] "format_timezone" "format_timezone" 1535 892 2 0 0 3 895 T 7 1542 (r 894) 1544 m4 900++([tp [],
 fl [],
 tv 1549 ["value","sep","person","rest","timetext","timezonetext","time","timezone","timezone_neg_utc","exc"],
 tp []]++(f3 [72] "parse_time_entry" "parse_time_entry" 1546 909 1 0 0 3 902 T 7 1559 N 1561 m4 907++([tp [],
 fl [],
 tv 1566 ["person","time","timezone_info","timezone","timezone_neg_utc"],
 tp []]++(f3 [73] "format_time_entry" "format_time_entry" 1563 932 3 0 0 3 909 T 7 1571 N 1573 m4 914++([tp [(.bytes #[103,112,103,115,105,103] 832)],
 tp [],
 fl [],
 tv 1578 ["chunks","signature_header","parents","extra","tree","author","committer","encoding","message","signatures","in_parents","field","value","no_ident"],
 tp []]++(f3 [74] "_parse_commit" "_parse_commit" 1575 936 2 0 0 3 917 T 7 1592 (r 916) 1594 m4 922++([tp [(r 585)],
 bp,
 dc 24 [d P "__module__" 1603 m4,d P "__qualname__" 1605 (v "Commit" 1604),dn P 1606 1000,dd P 1608 [75],d P "type_name" 1612 (.bytes #[99,111,109,109,105,116] 1611),d P "type_num" 1614 (i 1 1613),e P "__init__" 1623 939,e P "_deserialize" 1629 944,e P "check" 1641 951,e P "raw_without_sig" 1648 958,e P "_serialize" 1657 965,e P "tree" 1666 982,e P "parents" 1685 999,e P "author" 1705 1016,e P "committer" 1724 1033,e P "message" 1743 1050,e P "commit_time" 1762 1067,e P "commit_timezone" 1781 1084,e P "author_time" 1800 1101,e P "author_timezone" 1819 1118,e P "encoding" 1838 1135,e P "gpgsig" 1857 1152,ds P 1883 1153,e P "__classcell__" 1884 927],
 ⟨(y "cell"),none,(.cell (some (r 1155))),⟨[]⟩⟩]))))))))))))))))))))))))))))))
def Nr(P:Params):List Obj:=[tp [],
 fi [1005,4,938,1015,4,943,1026,4,950,1065,4,957,1068,4,964,1092,4,971,1097,4,980,1102,4,988,1107,4,997,1113,4,1005,1118,4,1014,1123,4,1022,1128,4,1031,1133,4,1039,1138,4,1048,1143,4,1056,1148,4,1065,1153,4,1073,1158,4,1082,1163,4,1090,1168,4,1099,1173,4,1107,1178,4,1116,1183,4,1124,1188,4,1133,1193,4,1141,1198,4,1150],
 ce "Commit" "Commit" 1598 1000 0 0 0 0 928 F 0 1601,
 fm 930 926 m4,
 tp [(r 927)],
 tv 1618 ["__class__"],
 fl [],
 tv 1619 ["self"],
 tp [],
 nf [75,3] "Commit.__init__",
 ce "Commit.__init__" "__init__" 1615 1005 1 0 0 3 933 T 7 1620,
 ⟨(y "function"),none,(.func (fd [75,3] "Commit.__init__" 3 [(z "__class__",927)] N N (.str (dS [75,3]) 1622) m4 none (r 938) (r 932) 0)),⟨[]⟩⟩,
 tp [],
 fl []]++(f3 [75,4] "Commit._deserialize" "_deserialize" 1624 1015 2 0 0 3 940 T 1 1627 N 0 m4 943++([tp [],
 fl [],
 tv 1633 ["self","parent","last","field","_"],
 tp [],
 nf [75,5] "Commit.check",
 ce "Commit.check" "check" 1630 1026 1 0 0 3 945 T 7 1638,
 ⟨(y "function"),none,(.func (fd [75,5] "Commit.check" 3 [] N N (.str (dS [69,13]) 1640) m4 none (r 950) N 0)),⟨[]⟩⟩,
 tp [],
 fl [],
 tv 1645 ["self"],
 tp []]++(f3 [75,6] "Commit.raw_without_sig" "raw_without_sig" 1642 1065 1 0 0 3 952 T 7 1646 N 0 m4 957++([tp [],
 fl [],
 tv 1652 ["self","headers","p"],
 tp []]++(f3 [75,7] "Commit._serialize" "_serialize" 1649 1068 1 0 0 3 959 T 7 1655 N 0 m4 964++([tp [],
 fl [],
 tv 1661 ["self"],
 tp []]++(f3 [75,8] "Commit.tree" "tree" 1658 1091 1 0 0 3 966 T 7 1662 N 1664 m4 971++([of "property" [(r 972),N,N,(.str (dS [75,8]) 1664),(i 0 0),T],
 bt 973,
 tp [],
 fl [],
 tv 1671 ["self","value"],
 tp []]++(f3 [75,9] "Commit.tree" "tree" 1668 1096 2 0 0 3 975 T 7 1673 N 0 m4 980++([pr 972 981 [75,8] 1664 "tree" 1666,
 tp [],
 fl [],
 tv 1680 ["self"],
 tp []]++(f3 [75,10] "Commit.parents" "parents" 1677 1101 1 0 0 3 983 T 7 1681 N 1683 m4 988++([of "property" [(r 989),N,N,(.str (dS [75,10]) 1683),(i 0 0),T],
 bt 990,
 tp [],
 fl [],
 tv 1690 ["self","value"],
 tp []]++(f3 [75,11] "Commit.parents" "parents" 1687 1106 2 0 0 3 992 T 7 1692 N 1694 m4 997++([pr 989 998 [75,10] 1683 "parents" 1685,
 tp [],
 fl [],
 tv 1700 ["self"],
 tp []]++(f3 [75,12] "Commit.author" "author" 1697 1112 1 0 0 3 1000 T 7 1701 N 1703 m4 1005++([of "property" [(r 1006),N,N,(.str (dS [75,12]) 1703),(i 0 0),T],
 bt 1007,
 tp [],
 fl [],
 tv 1710 ["self","value"],
 tp []]++(f3 [75,13] "Commit.author" "author" 1707 1117 2 0 0 3 1009 T 7 1712 N 0 m4 1014++([pr 1006 1015 [75,12] 1703 "author" 1705,
 tp [],
 fl [],
 tv 1719 ["self"],
 tp []]++(f3 [75,14] "Commit.committer" "committer" 1716 1122 1 0 0 3 1017 T 7 1720 N 1722 m4 1022++([of "property" [(r 1023),N,N,(.str (dS [75,14]) 1722),(i 0 0),T],
 bt 1024,
 tp [],
 fl [],
 tv 1729 ["self","value"],
 tp []]++(f3 [75,15] "Commit.committer" "committer" 1726 1127 2 0 0 3 1026 T 7 1731 N 0 m4 1031++([pr 1023 1032 [75,14] 1722 "committer" 1724,
 tp [],
 fl [],
 tv 1738 ["self"],
 tp []]++(f3 [75,16] "Commit.message" "message" 1735 1132 1 0 0 3 1034 T 7 1739 N 1741 m4 1039++([of "property" [(r 1040),N,N,(.str (dS [75,16]) 1741),(i 0 0),T],
 bt 1041,
 tp []]))))))))))))))))))))))))
def Nq:List Obj:=[fl [],
 tv 1748 ["self","value"],
 tp []]++(f3 [75,17] "Commit.message" "message" 1745 1137 2 0 0 3 1043 T 7 1750 N 0 m4 1048++([pr 1040 1049 [75,16] 1741 "message" 1743,
 tp [],
 fl [],
 tv 1757 ["self"],
 tp []]++(f3 [75,18] "Commit.commit_time" "commit_time" 1754 1142 1 0 0 3 1051 T 7 1758 N 1760 m4 1056++([of "property" [(r 1057),N,N,(.str (dS [75,18]) 1760),(i 0 0),T],
 bt 1058,
 tp [],
 fl [],
 tv 1767 ["self","value"],
 tp []]++(f3 [75,19] "Commit.commit_time" "commit_time" 1764 1147 2 0 0 3 1060 T 7 1769 N 0 m4 1065++([pr 1057 1066 [75,18] 1760 "commit_time" 1762,
 tp [],
 fl [],
 tv 1776 ["self"],
 tp []]++(f3 [75,20] "Commit.commit_timezone" "commit_timezone" 1773 1152 1 0 0 3 1068 T 7 1777 N 1779 m4 1073++([of "property" [(r 1074),N,N,(.str (dS [75,20]) 1779),(i 0 0),T],
 bt 1075,
 tp [],
 fl [],
 tv 1786 ["self","value"],
 tp []]++(f3 [75,21] "Commit.commit_timezone" "commit_timezone" 1783 1157 2 0 0 3 1077 T 7 1788 N 0 m4 1082++([pr 1074 1083 [75,20] 1779 "commit_timezone" 1781,
 tp [],
 fl [],
 tv 1795 ["self"],
 tp []]++(f3 [75,22] "Commit.author_time" "author_time" 1792 1162 1 0 0 3 1085 T 7 1796 N 1798 m4 1090++([of "property" [(r 1091),N,N,(.str (dS [75,22]) 1798),(i 0 0),T],
 bt 1092,
 tp [],
 fl [],
 tv 1805 ["self","value"],
 tp []]++(f3 [75,23] "Commit.author_time" "author_time" 1802 1167 2 0 0 3 1094 T 7 1807 N 0 m4 1099++([pr 1091 1100 [75,22] 1798 "author_time" 1800,
 tp [],
 fl [],
 tv 1814 ["self"],
 tp []]++(f3 [75,24] "Commit.author_timezone" "author_timezone" 1811 1172 1 0 0 3 1102 T 7 1815 N 1817 m4 1107++([of "property" [(r 1108),N,N,(.str (dS [75,24]) 1817),(i 0 0),T],
 bt 1109,
 tp [],
 fl [],
 tv 1824 ["self","value"],
 tp []]++(f3 [75,25] "Commit.author_timezone" "author_timezone" 1821 1177 2 0 0 3 1111 T 7 1826 N 0 m4 1116++([pr 1108 1117 [75,24] 1817 "author_timezone" 1819,
 tp [],
 fl [],
 tv 1833 ["self"],
 tp []]++(f3 [75,26] "Commit.encoding" "encoding" 1830 1182 1 0 0 3 1119 T 7 1834 N 1836 m4 1124++([of "property" [(r 1125),N,N,(.str (dS [75,26]) 1836),(i 0 0),T],
 bt 1126,
 tp [],
 fl [],
 tv 1843 ["self","value"],
 tp []]++(f3 [75,27] "Commit.encoding" "encoding" 1840 1187 2 0 0 3 1128 T 7 1845 N 0 m4 1133++([pr 1125 1134 [75,26] 1836 "encoding" 1838,
 tp [],
 fl [],
 tv 1852 ["self"],
 tp []]++(f3 [75,28] "Commit.gpgsig" "gpgsig" 1849 1192 1 0 0 3 1136 T 7 1853 N 1855 m4 1141++([of "property" [(r 1142),N,N,(.str (dS [75,28]) 1855),(i 0 0),T],
 bt 1143,
 tp [],
 fl [],
 tv 1862 ["self","value"],
 tp []]++(f3 [75,29] "Commit.gpgsig" "gpgsig" 1859 1197 2 0 0 3 1145 T 7 1864 N 0 m4 1150++([pr 1142 1151 [75,28] 1855 "gpgsig" 1857,
 tv 1868 ["_author","_author_time","_author_timezone","_author_timezone_neg_utc","_commit_time","_commit_timezone","_commit_timezone_neg_utc","_committer","_encoding","_extra","_gpgsig","_message","_needs_serialization","_parents","_tree"],
 dc 2 [d P "__module__" 1603 m4,dn P 1606 1000,dd P 1608 [75],d P "type_name" 1612 (.bytes #[99,111,109,109,105,116] 1611),d P "type_num" 1614 (i 1 1613),e P "__init__" 1623 939,e P "_deserialize" 1629 944,e P "check" 1641 951,e P "raw_without_sig" 1648 958,e P "_serialize" 1657 965,e P "tree" 1666 982,e P "parents" 1685 999,e P "author" 1705 1016,e P "committer" 1724 1033,e P "message" 1743 1050,e P "commit_time" 1762 1067,e P "commit_timezone" 1781 1084,e P "author_time" 1800 1101,e P "author_timezone" 1819 1118,e P "encoding" 1838 1135,e P "gpgsig" 1857 1152,ds P 1883 1153],
 ⟨(y "type"),none,(.cls ⟨z "Commit",[(r 585)],[(r 1155),(r 585),(y "object")],1154,z "Commit",true,[],[],false,none,false⟩),⟨[some (r 924),none,some (v "Commit" 1596),some (v "Commit" 1604),some (b "object.__new__"),some T]⟩⟩,
 su 1155,
 bs 1155,
 tp [],
 bp]))))))))))))))))))))))))))
def Hw:List Obj:=[dc 6 (d P "__module__" 1896 m5::d P "__qualname__" 1898 (v "MergeConflictInfo" 1897)::Ry P),
 tp [],
 fi [1211,4,1170],
 ce "MergeConflictInfo" "MergeConflictInfo" 1891 1202 0 0 0 0 1161 F 0 1894,
 fm 1163 1160 m5,
 tp [],
 fl [],
 tv 1907 ["self","path","ancestor","ours","theirs"],
 tp []]++(f3 [77,1] "MergeConflictInfo.__init__" "__init__" 1904 1211 5 0 0 3 1165 T 7 1912 N 0 m5 1170++([tv 1915 ["ancestor","ours","path","theirs"],
 dc 3 (d P "__module__" 1896 m5::Ry P++[e P "__dict__" 1921 1175,e P "__weakref__" 1923 1176]),
 kl "MergeConflictInfo" 1174 1173 1889 1897,
 gd 1920 1174,
 gw 1922 1174,
 su 1174,
 bs 1174,
 tp [],
 fl [],
 tv 1929 ["base_lines","a_lines","b_lines"],
 tp []]++(f3 [78] "_can_merge_lines" "_can_merge_lines" 1926 1216 3 0 0 3 1179 T 7 1932 N 1934 m5 1184++([tp [],
 fl [],
 tv 1939 ["groups","result","group","base_lines","a_lines","b_lines","merged_lines"],
 tp []]++(f3 [79] "_merge3_to_bytes" "_merge3_to_bytes" 1936 1224 1 0 0 3 1186 T 7 1946 N 1948 m5 1191++([tp [],
 fl [],
 tv 1953 ["base_lines","a_lines","b_lines"],
 tp []]++(f3 [80] "_merge_lines" "_merge_lines" 1950 1248 3 0 0 3 1193 T 7 1956 N 1958 m5 1198++([tp [],
 fl [],
 tv 1963 ["base_blob","ours_blob","theirs_blob","make_merge3","m","base_content","ours_content","theirs_content","merged_content","has_conflicts"],
 tp []]++(f3 [81] "merge_blobs" "merge_blobs" 1960 1256 4 0 0 3 1200 T 7 1973 N 1975 m5 1205++([tp [],
 bp,
 dc 11 (d P "__module__" 1985 m5::d P "__qualname__" 1987 (v "Merger" 1986)::Rx P),
 tp [],
 fi [1314,4,1219,1326,4,1227,1340,4,1234,1357,4,1241,1364,4,1248,1368,4,1255],
 ce "Merger" "Merger" 1980 1311 0 0 0 0 1210 F 0 1983,
 fm 1212 1209 m5,
 tp [],
 fl [],
 tv 1996 ["self","object_store","make_merge3"],
 tp []]++(f3 [83,1] "Merger.__init__" "__init__" 1993 1314 3 0 0 3 1214 T 7 1999 N 2001 m5 1219++([tp [N],
 tp [],
 fl [],
 tv 2006 ["self","base_blob","ours_blob","theirs_blob","path"],
 tp []]++(f3 [83,2] "Merger.merge_blobs" "merge_blobs" 2003 1326 5 0 0 3 1222 T 7 2011 (r 1221) 2013 m5 1227++([tp [],
 fl [],
 tv 2018 ["self","base_tree","ours_tree","theirs_tree"],
 tp []]++(f3 [83,3] "Merger.merge_trees" "merge_trees" 2015 1340 4 0 0 3 1229 T 7 2022 N 2024 m5 1234++([tp [],
 fl [],
 tv 2029 ["self","sha","obj"],
 tp []]++(f3 [83,4] "Merger._load_tree" "_load_tree" 2026 1357 2 0 0 3 1236 T 7 2032 N 0 m5 1241++([tp [],
 fl [],
 tv 2038 ["self","path","base","ours","theirs"],
 tp []]++(f3 [83,5] "Merger._record_conflict" "_record_conflict" 2035 1364 5 0 0 3 1243 T 7 2043 N 2045 m5 1248++([tp [],
 fl [],
 tv 2050 ["self","base_tree","ours_tree","theirs_tree","prefix","conflicts","merged_entries","base_entries","entry","ours_entries","theirs_entries","all_names","name","path","base_mode","base_sha","ours_mode","ours_sha","theirs_mode","theirs_sha","ours_sub","theirs_sub","sub_merged","sub_conflicts","ours_obj","theirs_obj","merged_content","had_conflict","merged_blob","base_sub","base_blob","base_obj","ours_blob","theirs_blob","merged_tree","mode","sha"],
 tp []]++(f3 [83,6] "Merger._merge_trees" "_merge_trees" 2047 1368 5 0 0 3 1250 T 7 2087 N 0 m5 1255++([tv 2090 ["conflict_info","make_merge3","object_store"],
 dc 3 (d P "__module__" 1985 m5::Rx P++[e P "__dict__" 2095 1260,e P "__weakref__" 2097 1261]),
 kl "Merger" 1259 1258 1978 1986,
 gd 2094 1259,
 gw 2096 1259,
 su 1259,
 bs 1259,
 tp [],
 bp,
 dc 11 (d P "__module__" 2109 m6::d P "__qualname__" 2111 (v "MemoryObjectStore" 2110)::Rw P),
 tp [],
 fi [1503,4,1276,1514,4,1283,1522,4,1290,1525,4,1297,1528,4,1304,1542,4,1311],
 ce "MemoryObjectStore" "MemoryObjectStore" 2104 1500 0 0 0 0 1267 F 0 2107,
 fm 1269 1266 m6,
 tp [],
 fl [],
 tv 2120 ["self","object_format"],
 tp [],
 nf [85,1] "MemoryObjectStore.__init__"]))))))))))))))))))))))
def Hv:List Obj:=[ce "MemoryObjectStore.__init__" "__init__" 2117 1503 2 0 0 3 1271 T 7 2122,
 ⟨(y "function"),none,(.func (fd [85,1] "MemoryObjectStore.__init__" 3 [] N N (.str (dS [85,1]) 2124) m6 none (r 1276) N 0)),⟨[]⟩⟩,
 tp [],
 fl [],
 tv 2129 ["self","sha"],
 tp []]++(f3 [85,2] "MemoryObjectStore._to_hexsha" "_to_hexsha" 2126 1514 2 0 0 3 1278 T 7 2131 N 0 m6 1283++([tp [],
 fl [],
 tv 2137 ["self","sha"],
 tp []]++(f3 [85,3] "MemoryObjectStore.contains_loose" "contains_loose" 2134 1522 2 0 0 3 1285 T 7 2139 N 0 m6 1290++([tp [],
 fl [],
 tv 2145 ["self","name"],
 tp []]++(f3 [85,4] "MemoryObjectStore.get_raw" "get_raw" 2142 1525 2 0 0 3 1292 T 7 2147 N 0 m6 1297++([tp [],
 fl [],
 tv 2153 ["self","name"],
 tp []]++(f3 [85,5] "MemoryObjectStore.__getitem__" "__getitem__" 2150 1528 2 0 0 3 1299 T 7 2155 N 2157 m6 1304++([tp [],
 fl [],
 tv 2162 ["self","obj"],
 tp []]++(f3 [85,6] "MemoryObjectStore.add_object" "add_object" 2159 1542 2 0 0 3 1306 T 7 2164 N 2166 m6 1311++([tv 2168 ["_data","object_format"],
 dc 3 (d P "__module__" 2109 m6::Rw P++[e P "__dict__" 2172 1316,e P "__weakref__" 2174 1317]),
 kl "MemoryObjectStore" 1315 1314 2102 2110,
 gd 2171 1315,
 gw 2173 1315,
 su 1315,
 bs 1315,
 ⟨(y "list"),none,(.seq ⟨[(.bytes #[97] 2179),(.bytes #[98,46,99] 2180)]⟩ 0),⟨[]⟩⟩,
 tp [],
 fl [],
 tp [],
 tp []]++(f3 [88] "_law_rows" "_law_rows" 2182 1547 0 0 0 3 1321 T 7 2185 N 0 m7 1326++([tp [],
 fl [],
 tp [],
 tp []]++(f3 [89] "_law_marks" "_law_marks" 2188 1549 0 0 0 3 1328 T 7 2191 N 0 m7 1333++([tp [],
 fl [],
 tv 2197 ["digest"],
 tv 2198 ["known"]]++(f3 [90] "_law_format" "_law_format" 2194 1551 0 0 0 3 1335 T 7 2199 N 0 m7 1340++([tp [],
 fl [],
 tv 2205 ["text","eol","core","auto","crlf"],
 tp []]++(f3 [91] "_law_rule" "_law_rule" 2202 1559 4 0 0 3 1342 T 7 2210 N 0 m7 1347++([tp [],
 fl []]++(f3 [92] "_law_data" "_law_data" 2213 1571 1 0 0 3 1349 T 1 2216 N 0 m7 1352++([tp [],
 fl []]++(f3 [93] "_law_laid" "_law_laid" 2219 1573 2 0 0 3 1354 T 1 2222 N 0 m7 1357++([tp [],
 fl [],
 tv 2228 ["rule","rows","converts","crlf","heuristic"],
 tp []]++(f3 [94] "_law_out" "_law_out" 2225 1575 2 0 0 3 1359 T 7 2233 N 0 m7 1364++([tp [],
 fl [],
 tv 2239 ["rule","turner","rows","due","out"],
 tp []]++(f3 [95] "_law_turns" "_law_turns" 2236 1580 3 0 0 3 1366 T 7 2244 N 0 m7 1371++([tp [],
 fl [],
 tv 2250 ["x","y","z","groups","k"],
 tp []]++(f3 [96] "_law_groups" "_law_groups" 2247 1584 3 0 0 3 1373 T 7 2255 N 0 m7 1378++([tp [],
 fl [],
 tv 2261 ["x","y","z","rows","clash","k"],
 tp []]++(f3 [97] "_law_plain" "_law_plain" 2258 1598 3 0 0 3 1380 T 7 2267 N 0 m7 1385++([tp [],
 fl []]++(f3 [98] "law" "law" 2270 1610 1 0 0 3 1387 T 1 2273 N 0 m7 1390)))))))))))))))))))))))))))))))
def objs:List Obj:=NA P++Nz P++Ny P++Nx P++Nw P++Nv P++Nu P++Nt P++Nr P++Nq P++Hw P++Hv P
noncomputable def MK:List Obj->List Obj
 |[]=>[]
 |[x]=>[x]
 |x::_::l=>x::MK l
noncomputable def KL:Nat->List Obj->BT
 |0,_=> .nil
 |_+1,[]=> .nil
 |n+1,a::l=> .node a (KL n (MK l)) (KL n (MK l.tail))
noncomputable def CC(n:Nat):List Obj->List Obj
 |[]=>[]
 |a::l=>match n with
  |0=>[]
  |n+1=>a::CC n l
noncomputable def My:Obj->List DictEntry
 |⟨_,_,.dict es _,_⟩=>es.toList
 |_=>[]
noncomputable def Mp:Obj->List Value
 |⟨_,_,.fields vs,_⟩=>vs.toList
 |_=>[]
def HK:List DictEntry:=[
 d P "__doc__" 166 N,
 d P "__package__" 167 N,
 d P "__loader__" 168 (b "__main__.__loader__#opaque"),
 d P "__spec__" 169 N,
 e P "__annotations__" 170 6,
 e P "__builtins__" 171 4,
 d P "__file__" 173 (v "/claim/cut.py" 172),
 d P "__cached__" 174 N,
 e P "_wall" 193 21,
 e P "_pe_name" 200 28,
 e P "_Os" 234 45,
 e P "os" 235 51,
 e P "_Logger" 266 68,
 e P "logger" 267 74,
 e P "_Stat" 311 98,
 e P "stat" 312 104,
 e P "_digit" 320 111,
 e P "_Binascii" 354 131,
 e P "binascii" 355 137,
 e P "ObjectID" 363 144,
 e P "RawObjectID" 371 151,
 e P "cast" 380 158,
 e P "BytesIO" 436 196,
 d P "FIRST_FEW_BYTES" 440 (i 8000 439),
 e P "is_binary" 448 207,
 d P "CRLF" 450 (.bytes #[13,10] 449),
 d P "LF" 452 (.bytes #[10] 451),
 e P "CRLFAction" 490 217,
 e P "_AUTO_ACTIONS" 494 222,
 e P "_crlf_action_from_attr" 502 229,
 e P "_text_eol_is_crlf" 511 236,
 e P "resolve_crlf_action" 526 244,
 e P "line_ending_filter_for_action" 538 252,
 e P "LineEndingFilter" 612 293,
 e P "convert_crlf_to_lf" 620 304,
 e P "convert_lf_to_crlf" 632 311,
 e P "check_safecrlf" 646 319,
 e P "FileFormatException" 670 329,
 e P "ObjectFormatException" 688 342,
 e P "ObjectFormat" 739 368,
 e P "SHA1" 761 374,
 e P "DEFAULT_OBJECT_FORMAT" 762 374,
 e P "_tuplegetter" 821 414,
 d P "_TREE_HEADER" 823 (.bytes #[116,114,101,101] 822),
 d P "_PARENT_HEADER" 825 (.bytes #[112,97,114,101,110,116] 824),
 d P "_AUTHOR_HEADER" 827 (.bytes #[97,117,116,104,111,114] 826),
 d P "_COMMITTER_HEADER" 829 (.bytes #[99,111,109,109,105,116,116,101,114] 828),
 d P "_ENCODING_HEADER" 831 (.bytes #[101,110,99,111,100,105,110,103] 830),
 d P "_GPGSIG_HEADER" 833 (.bytes #[103,112,103,115,105,103] 832),
 d P "S_IFGITLINK" 835 (i 57344 834),
 d P "MAX_TIME" 837 (i 9223372036854775807 836),
 e P "S_ISGITLINK" 845 425,
 e P "sha_to_hex" 854 432,
 e P "hex_to_sha" 862 439,
 e P "valid_hexsha" 870 446,
 e P "check_hexsha" 879 453,
 e P "check_identity" 890 460,
 e P "check_time" 898 467,
 e P "git_line" 906 474,
 e P "is_commit" 914 481,
 e P "is_tree" 922 488,
 e P "is_blob" 930 495,
 e P "ShaFile" 1063 585,
 e P "Blob" 1164 663,
 e P "_parse_message" 1179 672,
 e P "_format_message" 1191 679,
 e P "TreeEntry" 1319 750,
 e P "parse_tree" 1339 761,
 e P "serialize_tree" 1350 768,
 e P "sorted_tree_items" 1364 775,
 e P "key_entry" 1375 782,
 e P "key_entry_name_order" 1383 789,
 e P "Tree" 1520 884,
 e P "parse_timezone" 1534 893,
 e P "format_timezone" 1545 901,
 e P "parse_time_entry" 1562 908,
 e P "format_time_entry" 1574 915,
 e P "_parse_commit" 1595 923,
 e P "Commit" 1886 1155,
 e P "MergeConflictInfo" 1925 1174,
 e P "_can_merge_lines" 1935 1185,
 e P "_merge3_to_bytes" 1949 1192,
 e P "_merge_lines" 1959 1199,
 e P "merge_blobs" 1976 1206,
 e P "merge_blobs_merge" 1977 1206,
 e P "Merger" 2099 1259,
 e P "MemoryObjectStore" 2176 1315,
 e P "_law_names" 2181 1320,
 e P "_law_rows" 2187 1327,
 e P "_law_marks" 2193 1334,
 e P "_law_format" 2201 1341,
 e P "_law_rule" 2212 1348,
 e P "_law_data" 2218 1353,
 e P "_law_laid" 2224 1358,
 e P "_law_out" 2235 1365,
 e P "_law_turns" 2246 1372,
 e P "_law_groups" 2257 1379,
 e P "_law_plain" 2269 1386,
 e P "law" 2275 1391]
def Gw:List Value:=[(i (1) 0),(i (0) 0),(r 20),(i (4) 0),(i (0) 0),(r 27),(i (9) 0),(i (0) 0),(r 34),(i (16) 0),(i (0) 0),(r 57),(i (22) 0),(i (0) 0),(r 80),(i (34) 0),(i (0) 0),(r 110),(i (43) 0),(i (0) 0),(r 117),(i (55) 0),(i (0) 0),(r 143),(i (58) 0),(i (0) 0),(r 150),(i (61) 0),(i (0) 0),(r 157),(i (64) 0),(i (0) 0),(r 164),(i (89) 0),(i (0) 0),(r 206),(i (98) 0),(i (0) 0),(r 213),(i (115) 0),(i (0) 0),(r 228),(i (126) 0),(i (0) 0),(r 235),(i (137) 0),(i (0) 0),(r 243),(i (179) 0),(i (0) 0),(r 251),(i (194) 0),(i (0) 0),(r 258),(i (251) 0),(i (0) 0),(r 303),(i (259) 0),(i (0) 0),(r 310),(i (274) 0),(i (0) 0),(r 318),(i (306) 0),(i (0) 0),(r 325),(i (308) 0),(i (0) 0),(r 338),(i (311) 0),(i (0) 0),(r 350),(i (343) 0),(i (0) 0),(r 381),(i (369) 0),(i (0) 0),(r 424),(i (377) 0),(i (0) 0),(r 431),(i (383) 0),(i (0) 0),(r 438),(i (388) 0),(i (0) 0),(r 445),(i (405) 0),(i (0) 0),(r 452),(i (416) 0),(i (0) 0),(r 459),(i (431) 0),(i (0) 0),(r 466),(i (442) 0),(i (0) 0),(r 473),(i (445) 0),(i (0) 0),(r 480),(i (448) 0),(i (0) 0),(r 487),(i (451) 0),(i (0) 0),(r 494),(i (454) 0),(i (0) 0),(r 501),(i (538) 0),(i (0) 0),(r 596),(i (602) 0),(i (0) 0),(r 671),(i (639) 0),(i (0) 0),(r 678),(i (648) 0),(i (0) 0),(r 686),(i (691) 0),(i (0) 0),(r 760),(i (726) 0),(i (0) 0),(r 767),(i (735) 0),(i (0) 0),(r 774),(i (755) 0),(i (0) 0),(r 781),(i (765) 0),(i (0) 0),(r 788),(i (768) 0),(i (0) 0),(r 796),(i (871) 0),(i (0) 0),(r 892),(i (892) 0),(i (0) 0),(r 900),(i (909) 0),(i (0) 0),(r 907),(i (932) 0),(i (0) 0),(r 914),(i (936) 0),(i (0) 0),(r 922),(i (1000) 0),(i (0) 0),(r 930),(i (1202) 0),(i (0) 0),(r 1163),(i (1216) 0),(i (0) 0),(r 1184),(i (1224) 0),(i (0) 0),(r 1191),(i (1248) 0),(i (0) 0),(r 1198),(i (1256) 0),(i (0) 0),(r 1205),(i (1311) 0),(i (0) 0),(r 1212),(i (1500) 0),(i (0) 0),(r 1269),(i (1547) 0),(i (0) 0),(r 1326),(i (1549) 0),(i (0) 0),(r 1333),(i (1551) 0),(i (0) 0),(r 1340),(i (1559) 0),(i (0) 0),(r 1347),(i (1571) 0),(i (0) 0),(r 1352),(i (1573) 0),(i (0) 0),(r 1357),(i (1575) 0),(i (0) 0),(r 1364),(i (1580) 0),(i (0) 0),(r 1371),(i (1584) 0),(i (0) 0),(r 1378),(i (1598) 0),(i (0) 0),(r 1385),(i (1610) 0),(i (0) 0),(r 1390)]
noncomputable def tk{α:Type}(n:Nat):List α->List α
 |[]=>[]
 |a::l=>match n with
  |0=>[]
  |n+1=>a::tk n l
def md(j e:Nat)(nm:Value):Obj:={cls:= .type "dict",data:= .dict ⟨d P "__name__" 165 nm::tk j (HK P)⟩ e}
def pG(j:Nat):Obj:=fl (tk j Gw)
def rq(n:Nat)(o3 O9:Obj)(more:BT->BT):BT:=more (((KL 14 (CC n (objs P))).set 3 λJ=>o3).set 12 λJ=>O9)
def S0(os:OsState):SharedT:=⟨rq P 15 (md P 8 9 (v "__main__" 164)) (pG 0) (λt=>(t.set 2 λJ=>⟨N,none,(.dict ⟨[]⟩ 0),⟨[]⟩⟩)),15,{},⟨[]⟩,{},187,os⟩
def S1(os:OsState):SharedT:=⟨rq P 75 (md P 14 15 (v "dulwich.plainly" 201)) (pG 12) (λt=>(t.set 2 λJ=>⟨N,none,(.dict ⟨[]⟩ 0),⟨[]⟩⟩)),75,{},⟨[]⟩,{},268,os⟩
def S2(os:OsState):SharedT:=⟨rq P 159 (md P 22 23 (v "dulwich.plainly" 201)) (pG 30) (λt=>(t.set 2 λJ=>⟨N,none,(.dict ⟨[]⟩ 0),⟨[]⟩⟩)),159,{},⟨[]⟩,{},381,os⟩
def S3(os:OsState):SharedT:=⟨rq P 245 (md P 32 33 (v "dulwich.line_ending" 437)) (pG 48) (λt=>(t.set 2 λJ=>⟨N,none,(.dict ⟨[]⟩ 0),⟨[]⟩⟩)),245,{},⟨[]⟩,{},527,os⟩
def S4(os:OsState):SharedT:=⟨rq P 333 (md P 38 39 (v "dulwich.errors" 647)) (pG 66) (λt=>(t.set 329 λJ=>⟨(y "type"),none,(.cls ⟨z "FileFormatException",[(y "Exception")],[(r 329),(y "Exception"),(y "BaseException"),(y "object")],328,z "FileFormatException",true,[],[],false,none,false⟩),⟨[some (r 320),none,some (v "FileFormatException" 649),some (v "FileFormatException" 657),some (b "Exception.__new__"),some T]⟩⟩)),333,{},⟨[]⟩,{},671,os⟩
def S5(os:OsState):SharedT:=⟨rq P 376 (md P 42 43 (v "dulwich.objects" 763)) (pG 72) (λt=>t),376,{},⟨[]⟩,{},765,os⟩
def S6(os:OsState):SharedT:=⟨rq P 496 (md P 62 63 (v "dulwich.objects" 763)) (pG 108) (λt=>t),496,{},⟨[]⟩,{},931,os⟩
def S7(os:OsState):SharedT:=⟨rq P 590 (md P 63 64 (v "dulwich.objects" 763)) (pG 111) (λt=>(t.set 585 λJ=>kl "ShaFile" 585 584 931 939)),590,{},⟨[]⟩,{},1064,os⟩
def S8(os:OsState):SharedT:=⟨rq P 666 (md P 64 65 (v "dulwich.objects" 763)) (pG 114) (λt=>(t.set 585 λJ=>⟨(y "type"),none,(.cls ⟨z "ShaFile",[(y "object")],[(r 585),(y "object")],584,z "ShaFile",true,[],[(r 663)],false,none,false⟩),⟨[none,none,some (v "ShaFile" 931),some (v "ShaFile" 939),some (b "object.__new__"),some T]⟩⟩)),666,{},⟨[]⟩,{},1165,os⟩
def S9(os:OsState):SharedT:=⟨rq P 680 (md P 66 67 (v "dulwich.objects" 763)) (pG 120) (λt=>(t.set 585 λJ=>⟨(y "type"),none,(.cls ⟨z "ShaFile",[(y "object")],[(r 585),(y "object")],584,z "ShaFile",true,[],[(r 663)],false,none,false⟩),⟨[none,none,some (v "ShaFile" 931),some (v "ShaFile" 939),some (b "object.__new__"),some T]⟩⟩)),680,{},⟨[]⟩,{},1192,os⟩
def OC(os:OsState):SharedT:=⟨rq P 754 (md P 67 68 (v "dulwich.objects" 763)) (pG 123) (λt=>(t.set 585 λJ=>⟨(y "type"),none,(.cls ⟨z "ShaFile",[(y "object")],[(r 585),(y "object")],584,z "ShaFile",true,[],[(r 663)],false,none,false⟩),⟨[none,none,some (v "ShaFile" 931),some (v "ShaFile" 939),some (b "object.__new__"),some T]⟩⟩)),754,{},⟨[]⟩,{},1320,os⟩
def OB(os:OsState):SharedT:=⟨rq P 790 (md P 72 73 (v "dulwich.objects" 763)) (pG 138) (λt=>(t.set 585 λJ=>⟨(y "type"),none,(.cls ⟨z "ShaFile",[(y "object")],[(r 585),(y "object")],584,z "ShaFile",true,[],[(r 663)],false,none,false⟩),⟨[none,none,some (v "ShaFile" 931),some (v "ShaFile" 939),some (b "object.__new__"),some T]⟩⟩)),790,{},⟨[]⟩,{},1384,os⟩
def OA(os:OsState):SharedT:=⟨rq P 916 (md P 77 78 (v "dulwich.objects" 763)) (pG 153) (λt=>(t.set 585 λJ=>⟨(y "type"),none,(.cls ⟨z "ShaFile",[(y "object")],[(r 585),(y "object")],584,z "ShaFile",true,[],[(r 663),(r 884)],false,none,false⟩),⟨[none,none,some (v "ShaFile" 931),some (v "ShaFile" 939),some (b "object.__new__"),some T]⟩⟩)),916,{},⟨[]⟩,{},1575,os⟩
def Oz(os:OsState):SharedT:=⟨rq P 924 (md P 78 79 (v "dulwich.objects" 763)) (pG 156) (λt=>(t.set 585 λJ=>⟨(y "type"),none,(.cls ⟨z "ShaFile",[(y "object")],[(r 585),(y "object")],584,z "ShaFile",true,[],[(r 663),(r 884)],false,none,false⟩),⟨[none,none,some (v "ShaFile" 931),some (v "ShaFile" 939),some (b "object.__new__"),some T]⟩⟩)),924,{},⟨[]⟩,{},1596,os⟩
def Oy(os:OsState):SharedT:=⟨rq P 1158 (md P 79 80 (v "dulwich.objects" 763)) (pG 159) (λt=>t),1158,{},⟨[]⟩,{},1887,os⟩
def Ox(os:OsState):SharedT:=⟨rq P 1207 (md P 85 86 (v "dulwich.merge" 1887)) (pG 174) (λt=>t),1207,{},⟨[]⟩,{},1978,os⟩
def Ow(os:OsState):SharedT:=⟨rq P 1264 (md P 86 87 (v "dulwich.object_store" 2100)) (pG 177) (λt=>t),1264,{},⟨[]⟩,{},2102,os⟩
def Jj(os:OsState):SharedT:=⟨rq P 1392 (md P 99 100 (v "law_aw0009_01" 2177)) (pG 213) (λt=>t),1392,{},⟨[]⟩,{},2276,os⟩
noncomputable def bx:Env:={scope:=pw.main.scope,locals:=3,globals:=3,cells:=[],code:= .ref 13,frame:=some 14}
def cE:Code:= .body body bx
noncomputable def fp:Pos:=⟨0,0,0,0⟩
noncomputable def dr{α:Type}:Nat->List α->List α
 |0,l=>l
 |_+1,[]=>[]
 |n+1,_::l=>dr n l
theorem Ku(os:OsState):Fast.tw10110043849684766642 Fast.tw14364793385576792824 pw w 11 (some (.ref 6)) 1 639 (S0 w.params os) ⟨(Fast.tw12563942051412417395 (tk 7 (dr 0 body)) bx).wrap doneF deadEnd id id,cE,⟨0,0,0,0⟩,[topFrame fp]⟩=some (.next,S1 w.params os,cE,⟨21,0,21,6⟩):=by kernel_rfl
theorem Kt(os:OsState):Fast.tw10110043849684766642 Fast.tw14364793385576792824 pw w 11 (some (.ref 6)) 1 768 (S1 w.params os) ⟨(Fast.tw12563942051412417395 (tk 8 (dr 7 body)) bx).wrap doneF deadEnd id id,cE,⟨21,0,21,6⟩,[topFrame fp]⟩=some (.next,S2 w.params os,cE,⟨61,0,63,16⟩):=by kernel_rfl
theorem Ks(os:OsState):Fast.tw10110043849684766642 Fast.tw14364793385576792824 pw w 11 (some (.ref 6)) 1 775 (S2 w.params os) ⟨(Fast.tw12563942051412417395 (tk 11 (dr 15 body)) bx).wrap doneF deadEnd id id,cE,⟨61,0,63,16⟩,[topFrame fp]⟩=some (.next,S3 w.params os,cE,⟨137,0,178,17⟩):=by kernel_rfl
theorem Kr(os:OsState):Fast.tw10110043849684766642 Fast.tw14364793385576792824 pw w 11 (some (.ref 6)) 1 689 (S3 w.params os) ⟨(Fast.tw12563942051412417395 (tk 7 (dr 26 body)) bx).wrap doneF deadEnd id id,cE,⟨137,0,178,17⟩,[topFrame fp]⟩=some (.next,S4 w.params os,cE,⟨306,0,307,73⟩):=by kernel_rfl
theorem Kq(os:OsState):Fast.tw10110043849684766642 Fast.tw14364793385576792824 pw w 11 (some (.ref 6)) 1 757 (S4 w.params os) ⟨(Fast.tw12563942051412417395 (tk 6 (dr 33 body)) bx).wrap doneF deadEnd id id,cE,⟨306,0,307,73⟩,[topFrame fp]⟩=some (.next,S5 w.params os,cE,⟨342,0,342,8⟩):=by kernel_rfl
theorem Kp(os:OsState):Fast.tw10110043849684766642 Fast.tw14364793385576792824 pw w 11 (some (.ref 6)) 1 731 (S5 w.params os) ⟨(Fast.tw12563942051412417395 (tk 20 (dr 39 body)) bx).wrap doneF deadEnd id id,cE,⟨342,0,342,8⟩,[topFrame fp]⟩=some (.next,S6 w.params os,cE,⟨451,0,453,35⟩):=by kernel_rfl
theorem Ko(os:OsState):Fast.tw10110043849684766642 Fast.tw14364793385576792824 pw w 11 (some (.ref 6)) 1 689 (S6 w.params os) ⟨(Fast.tw12563942051412417395 (tk 1 (dr 59 body)) bx).wrap doneF deadEnd id id,cE,⟨451,0,453,35⟩,[topFrame fp]⟩=some (.next,S7 w.params os,cE,⟨454,0,537,83⟩):=by kernel_rfl
theorem Kn(os:OsState):Fast.tw10110043849684766642 Fast.tw14364793385576792824 pw w 11 (some (.ref 6)) 1 806 (S7 w.params os) ⟨(Fast.tw12563942051412417395 (tk 1 (dr 60 body)) bx).wrap doneF deadEnd id id,cE,⟨454,0,537,83⟩,[topFrame fp]⟩=some (.next,S8 w.params os,cE,⟨538,0,601,18⟩):=by kernel_rfl
theorem Km(os:OsState):Fast.tw10110043849684766642 Fast.tw14364793385576792824 pw w 11 (some (.ref 6)) 1 72 (S8 w.params os) ⟨(Fast.tw12563942051412417395 (tk 2 (dr 61 body)) bx).wrap doneF deadEnd id id,cE,⟨538,0,601,18⟩,[topFrame fp]⟩=some (.next,S9 w.params os,cE,⟨639,0,647,18⟩):=by kernel_rfl
theorem Kl(os:OsState):Fast.tw10110043849684766642 Fast.tw14364793385576792824 pw w 11 (some (.ref 6)) 1 1047 (S9 w.params os) ⟨(Fast.tw12563942051412417395 (tk 1 (dr 63 body)) bx).wrap doneF deadEnd id id,cE,⟨639,0,647,18⟩,[topFrame fp]⟩=some (.next,OC w.params os,cE,⟨648,0,690,53⟩):=by kernel_rfl
theorem GP(os:OsState):Fast.tw10110043849684766642 Fast.tw14364793385576792824 pw w 11 (some (.ref 6)) 1 176 (OC w.params os) ⟨(Fast.tw12563942051412417395 (tk 5 (dr 64 body)) bx).wrap doneF deadEnd id id,cE,⟨648,0,690,53⟩,[topFrame fp]⟩=some (.next,OB w.params os,cE,⟨765,0,767,19⟩):=by kernel_rfl
theorem GO(os:OsState):Fast.tw10110043849684766642 Fast.tw14364793385576792824 pw w 11 (some (.ref 6)) 1 796 (OB w.params os) ⟨(Fast.tw12563942051412417395 (tk 5 (dr 69 body)) bx).wrap doneF deadEnd id id,cE,⟨765,0,767,19⟩,[topFrame fp]⟩=some (.next,OA w.params os,cE,⟨932,0,935,102⟩):=by kernel_rfl
theorem GN(os:OsState):Fast.tw10110043849684766642 Fast.tw14364793385576792824 pw w 11 (some (.ref 6)) 1 47 (OA w.params os) ⟨(Fast.tw12563942051412417395 (tk 1 (dr 74 body)) bx).wrap doneF deadEnd id id,cE,⟨932,0,935,102⟩,[topFrame fp]⟩=some (.next,Oz w.params os,cE,⟨936,0,999,230⟩):=by kernel_rfl
theorem GL(os:OsState):Fast.tw10110043849684766642 Fast.tw14364793385576792824 pw w 11 (some (.ref 6)) 1 2728 (Oz w.params os) ⟨(Fast.tw12563942051412417395 (tk 1 (dr 75 body)) bx).wrap doneF deadEnd id id,cE,⟨936,0,999,230⟩,[topFrame fp]⟩=some (.next,Oy w.params os,cE,⟨1000,0,1200,40⟩):=by kernel_rfl
theorem GK(os:OsState):Fast.tw10110043849684766642 Fast.tw14364793385576792824 pw w 11 (some (.ref 6)) 1 391 (Oy w.params os) ⟨(Fast.tw12563942051412417395 (tk 7 (dr 76 body)) bx).wrap doneF deadEnd id id,cE,⟨1000,0,1200,40⟩,[topFrame fp]⟩=some (.next,Ox w.params os,cE,⟨1310,0,1310,17⟩):=by kernel_rfl
theorem GJ(os:OsState):Fast.tw10110043849684766642 Fast.tw14364793385576792824 pw w 11 (some (.ref 6)) 1 448 (Ox w.params os) ⟨(Fast.tw12563942051412417395 (tk 2 (dr 83 body)) bx).wrap doneF deadEnd id id,cE,⟨1310,0,1310,17⟩,[topFrame fp]⟩=some (.next,Ow w.params os,cE,⟨1499,0,1499,8⟩):=by kernel_rfl
theorem GH(os:OsState):Fast.tw10110043849684766642 Fast.tw14364793385576792824 pw w 11 (some (.ref 6)) 1 742 (Ow w.params os) ⟨(Fast.tw12563942051412417395 (tk 14 (dr 85 body)) bx).wrap doneF deadEnd id id,cE,⟨1499,0,1499,8⟩,[topFrame fp]⟩=some (.next,Jj w.params os,cE,⟨1610,0,1665,15⟩):=by kernel_rfl
theorem Gu{α:Type}:∀(a k:Nat) (l:List α),dr a l=tk k (dr a l)++dr (a+k) l:=by
 have h1:∀(k:Nat) (l:List α),l=tk k l++dr k l:=by
  intro k;induction k with
  |zero=>intro l;cases l<;>rfl
  |succ k ih=>intro l;cases l with
   |nil=>rfl
   |cons x l=>show x::l=x::(tk k l++dr k l);rw [<-ih l]
 have h2:∀(a k:Nat) (l:List α),dr k (dr a l)=dr (a+k) l:=by
  intro a;induction a with
  |zero=>intro k l;rw [Nat.zero_add];rfl
  |succ a ih=>intro k l;cases l with
   |nil=>show dr k []=dr (a+1+k) [];rw [Nat.add_right_comm];cases k<;>rfl
   |cons x l=>show dr k (dr a l)=_;rw [ih k l,Nat.add_right_comm];rfl
 intro a k l;rw [<-h2 a k l];exact h1 k (dr a l)
section
variable{w:World}{bx:Env}{q:Pos}{r:Shared}{c:Code}{n₀:Nat}{ann:Option Value}
theorem cJ{n N:Nat}{s s':SharedT}{a k a':Nat}{pos p':Pos}{body:List Stmt}
  (h:Fast.tw10110043849684766642 Fast.tw14364793385576792824 pw w n₀ ann 1 n s ⟨(Fast.tw12563942051412417395 (tk k (dr a body)) bx).wrap doneF deadEnd id id,c,pos,[topFrame q]⟩=some (.next,s',c,p')) (ha:a+k=a')
  (x:topRun treeTable pw w n₀ ann N s'.abs (restOf (dr a' body) bx c p' [topFrame q])=some r):topRun treeTable pw w n₀ ann (n+N) s.abs (restOf (dr a body) bx c pos [topFrame q])=some r:=by
 subst ha;rw [Gu a k body];refine piece_app (segRun_of ?_) x;rw [Fast.te10110043849684766642,Fast.te14364793385576792824];show Fast.tw10110043849684766642 Fast.tw14364793385576792824 pw w n₀ ann 1 n s ⟨(execs (tk k (dr a body)) bx).wrap doneF deadEnd id id,c,pos,[topFrame q]⟩=_;rw [Fast.te12563942051412417395];exact h
end
theorem pre(os:OsState):Fast.tw15667345088766844465 Fast.tw14364793385576792824 pw w 11 (some (.ref 6)) 12 ⟨boot_heap w.params,⟨[]⟩,boot_drawn,boot_toks,os⟩ (topStub pw)=some ((S0 w.params os).abs,⟨Fast.tw11892475500146522536 Fast.tw14364793385576792824 cE,cE,⟨0,0,0,0⟩,[topFrame fp]⟩):=by kernel_rfl
theorem block(os:OsState):Fast.tw14374325043358763698 Fast.tw14364793385576792824 pw w 11 (some (.ref 6)) 1 1 (S0 w.params os).abs (blockOf body bx cE ⟨0,0,0,0⟩ [topFrame fp])=some (.next,(S0 w.params os).abs,cE,⟨0,0,0,0⟩):=by kernel_rfl
theorem fin(os:OsState):Fast.tw14082659384304107361 Fast.tw14364793385576792824 pw w 11 (some (.ref 6)) 2 (Jj w.params os).abs ⟨doneF .next,cE,⟨1610,0,1665,15⟩,[topFrame fp]⟩=some (Jj w.params os).abs:=by kernel_rfl
noncomputable def xh:Nat:=(12+(1+(639+(768+(775+(689+(757+(731+(689+(806+(72+(1047+(176+(796+(47+(2728+(391+(448+(742+2)))))))))))))))))))
theorem run(os:OsState):topRun treeTable pw w 11 (some (.ref 6)) xh ⟨boot_heap w.params,⟨[]⟩,boot_drawn,boot_toks,os⟩ (topStub pw)=some (Jj w.params os).abs:=by refine go_top (t':=⟨denote treeTable cE,cE,⟨0,0,0,0⟩,[topFrame fp]⟩) (by rw [Fast.te15667345088766844465,Fast.te11892475500146522536,Fast.te14364793385576792824];exact pre w os) ?_;refine piece_block (b:=body) (by rw [Fast.te14374325043358763698,Fast.te14364793385576792824];exact block w os) ?_;refine cJ (a:=0) (k:=7) (a':=7) (body:=body) (Ku w os) rfl ?_;refine cJ (a:=7) (k:=8) (a':=15) (body:=body) (Kt w os) rfl ?_;refine cJ (a:=15) (k:=11) (a':=26) (body:=body) (Ks w os) rfl ?_;refine cJ (a:=26) (k:=7) (a':=33) (body:=body) (Kr w os) rfl ?_;refine cJ (a:=33) (k:=6) (a':=39) (body:=body) (Kq w os) rfl ?_;refine cJ (a:=39) (k:=20) (a':=59) (body:=body) (Kp w os) rfl ?_;refine cJ (a:=59) (k:=1) (a':=60) (body:=body) (Ko w os) rfl ?_;refine cJ (a:=60) (k:=1) (a':=61) (body:=body) (Kn w os) rfl ?_;refine cJ (a:=61) (k:=2) (a':=63) (body:=body) (Km w os) rfl ?_;refine cJ (a:=63) (k:=1) (a':=64) (body:=body) (Kl w os) rfl ?_;refine cJ (a:=64) (k:=5) (a':=69) (body:=body) (GP w os) rfl ?_;refine cJ (a:=69) (k:=5) (a':=74) (body:=body) (GO w os) rfl ?_;refine cJ (a:=74) (k:=1) (a':=75) (body:=body) (GN w os) rfl ?_;refine cJ (a:=75) (k:=1) (a':=76) (body:=body) (GL w os) rfl ?_;refine cJ (a:=76) (k:=7) (a':=83) (body:=body) (GK w os) rfl ?_;refine cJ (a:=83) (k:=2) (a':=85) (body:=body) (GJ w os) rfl ?_;refine cJ (a:=85) (k:=14) (a':=99) (body:=body) (GH w os) rfl ?_;refine piece_nil ?_;rw [Fast.te14082659384304107361,Fast.te14364793385576792824];exact fin w os
noncomputable def qv:Program:={pw with main:={pw.main with body:=[D [98]]}}
def loose:List Str:=[z "_wall",z "_pe_name",z "_Os",z "os",z "_Logger",z "logger",z "_Stat",z "stat",z "_digit",z "_Binascii",z "binascii",z "ObjectID",z "RawObjectID",z "cast",z "BytesIO",z "FIRST_FEW_BYTES",z "is_binary",z "CRLF",z "LF",z "CRLFAction",z "_AUTO_ACTIONS",z "_crlf_action_from_attr",z "_text_eol_is_crlf",z "resolve_crlf_action",z "line_ending_filter_for_action",z "LineEndingFilter",z "convert_crlf_to_lf",z "convert_lf_to_crlf",z "check_safecrlf",z "FileFormatException",z "ObjectFormatException",z "ObjectFormat",z "SHA1",z "DEFAULT_OBJECT_FORMAT",z "_tuplegetter",z "_TREE_HEADER",z "_PARENT_HEADER",z "_AUTHOR_HEADER",z "_COMMITTER_HEADER",z "_ENCODING_HEADER",z "_GPGSIG_HEADER",z "S_IFGITLINK",z "MAX_TIME",z "S_ISGITLINK",z "sha_to_hex",z "hex_to_sha",z "valid_hexsha",z "check_hexsha",z "check_identity",z "check_time",z "git_line",z "is_commit",z "is_tree",z "is_blob",z "ShaFile",z "Blob",z "_parse_message",z "_format_message",z "TreeEntry",z "parse_tree",z "serialize_tree",z "sorted_tree_items",z "key_entry",z "key_entry_name_order",z "Tree",z "parse_timezone",z "format_timezone",z "parse_time_entry",z "format_time_entry",z "_parse_commit",z "Commit",z "MergeConflictInfo",z "_can_merge_lines",z "_merge3_to_bytes",z "_merge_lines",z "merge_blobs",z "merge_blobs_merge",z "Merger",z "MemoryObjectStore",z "_law_names",z "_law_rows",z "_law_marks",z "_law_format",z "_law_rule",z "_law_data",z "_law_laid",z "_law_out",z "_law_turns",z "_law_groups",z "_law_plain"]
def H1:Heap:=(Jj P {}).abs.heap
theorem size(w:World):((boot_heap w.params).isNs mainGlobals&&(⟨[]⟩:Array GenState).size==0,(boot_heap w.params).objs.size,(boot_heap w.params).nsMap mainGlobals "__annotations__")=(true,11,some (.ref 6)):=by kernel_rfl
theorem HU:staticsOk (importedModules pw.main.body) (boot_heap w.params) (H1 w.params)=true:=by kernel_rfl
theorem HT:namesBound pw (H1 w.params)=true:=by kernel_rfl
theorem HS:laidKept (boot_heap w.params) (H1 w.params)=true:=by kernel_rfl
theorem iA(os:OsState):Fast.tw4187177175401517315 qv loose (importedModules pw.main.body) (λJ=>true) true ⟨H1 w.params,⟨[]⟩,{},2276,os⟩=openGood qv loose:=by kernel_rfl
end Mine.H
end
section
open PySem PySem.W PySem.Calls PyProof.Rows
namespace Mine.H
noncomputable abbrev lw:OpenLaw:=PySem.Challenge.rw_aw0009_01
theorem IP:∀s,fenceModules? pw s=some s:=λs=>by rfl
theorem O8:opening pw=plainProg pw.main.scope.names:=by rfl
noncomputable def Yf(s:Shared):Heap × Nat:=(s.heap,s.toks)
def Ya:Heap × Nat:=(H1 w.params,2276)
theorem Ph:Nat.ble xh 40000=true:=by decide+kernel
theorem left:LeftO pw qv loose (λJ=>true) Yf Ya 40000:=by
 refine LeftO.of_pieces (H₀:=boot_heap) (H₁:=H1) (gs₀:=⟨[]⟩) (gs₁:=⟨[]⟩) (d₀:=boot_drawn) (d₁:={}) (k₀:=boot_toks) (k₁:=2276) (m₀:=11) (ann:=some (.ref 6)) (M:=xh)
  (boot_open O8 (by decide+kernel) IP) size ?_ Ph ?_
 ·intro w os;exact run w os
 ·intro w;funext os;have e:=iA w os;rw [<-Fast.te4187177175401517315]at e;rw [e,HU w,HT w,HS w];rfl
noncomputable def pj:DefRec:=match D [98]with
 | .FunctionDef n a b _ _ _ sc _ _ pos=>⟨n,a,b,sc,pos⟩
 |_=>⟨Str.empty,default,[],default,⟨0,0,0,0⟩⟩
theorem L4:defOf qv (Str.ofString "law")=some (pj,[]):=by kernel_rfl
theorem hp:pw.theDef (Str.ofString "law")=some (pj.params,pj.body,pj.scope):=by rw [Fast.te10235530238920679567];kernel_rfl
theorem hk:kwWritten? pj.params.kwonlyargs pj.params.kw_defaults=some []:=by kernel_rfl
theorem Lu:(chainsOk qv&&opensWell pw&&(frees lw.row.toRowW&&lw.row.toRowW.within.isEmpty))=true:=by kernel_rfl
theorem bare:pw.bare:=⟨rfl,rfl,rfl,rfl,rfl,by kernel_rfl⟩
theorem head(k1:lw.wellSaid=true)(hw:lw.row.toRowW.promised)
  (call:WalkX qv loose (λJ J=>True) Yf Ya lw.row.toRowW pj [] λf vs=>PySem.call f vs):PySem.Challenge.rw_aw0009_01.Holds:=
 holds_law k1 λKx=>holds_openX left (λJ J=>trivial) (λJ J J J J=>trivial) L4 hp hk (λJ J=>recFacts_nil rfl) rfl Kx Lu bare hw call
end Mine.H
end
section
open PySem PySem.W PyProof.Rows
namespace Mine.HW
noncomputable abbrev lw:OpenLaw:=PySem.Challenge.rw_aw0009_01
noncomputable abbrev pl:Program:=PySem.Challenge.rw_aw0009_01.prog
theorem a1:sreFenced pl.main=true:=by rw [Fast.te11788848310118352699];kernel_rfl
theorem a2:(moduleNames pl.main.body).isEmpty=true:=by rw [Fast.te9807087744658564304];kernel_rfl
theorem a3:namesResolve pl=true:=by rw [Fast.te8377067652309620493];kernel_rfl
theorem a4:(Program.boundNames pl).all (λn=> !worldNames.contains n)=true:=by rw [Fast.te18344453789297297638,Fast.te14412699480532031325];kernel_rfl
theorem a5:noRoadLSs {strict:= !(importedModules pl.main.body).all cThrough.contains,foot:=none,bare:=(["vars","dir","locals"]:List Str).filter (readsOut pl pl.main.body)} pl.main.body=true:=by rw [Fast.te8326940854005059898,Fast.te13343964577679436407,Fast.te5923862056798008813];kernel_rfl
theorem a6:namesMeet pl pl.main.body (λJ n=>attrL n)=true:=by rw [Fast.te17119622794617984870,Fast.te17868728402115742887];kernel_rfl
theorem HR:looksOpen pl=true:=look_both (look_both (look_both (look_both (look_both a1 (by rw [a2];rfl)) a3) a4) a5) a6
theorem KH:lw.row.partSaid=true:=by
 unfold OpenRow.partSaid;refine look_both (look_both (look_both (look_both (look_both (look_both (look_both (look_both (look_both (look_both (look_both (look_both (look_both ?g0 ?g1) ?g2) ?g3) ?g4) ?g5) ?g6) ?g7) ?g8) ?g9) ?FX) ?IH) ?JX) ?JW
 case g0=>exact HR
 all_goals kernel_rfl
theorem GY:lw.row.wellSaid=true:=by
 unfold OpenRow.wellSaid;refine look_both (look_both KH ?g1) ?g2
 case g1=>show(Program.boundNames pl).contains _=true;rw [Fast.te18344453789297297638];kernel_rfl
 case g2=>kernel_rfl
theorem ok:lw.wellSaid=true:=by
 unfold OpenLaw.wellSaid;refine look_both (look_both (look_both (look_both (look_both (look_both (look_both (look_both (look_both (look_both (look_both (look_both (look_both (look_both (look_both (look_both (look_both (look_both ?g0 ?g1) ?g2) ?g3) ?g4) ?g5) ?g6) ?g7) ?g8) ?g9) ?FX) ?IH) ?JX) ?JW) ?Mn) ?Mm) ?Qk) ?Qj) ?Qi
 case g0=>exact GY
 case g2=>rw [Fast.te10501279942588096481];kernel_rfl
 case g3=>rw [Fast.te8179353310426384613];kernel_rfl
 case g6=>rw [Fast.te8326940854005059898,Fast.te797321630700447069];kernel_rfl
 case g7=>rw [Fast.te9558739934217749035];kernel_rfl
 case g8=>rw [Fast.te16286561074155671207];kernel_rfl
 case FX=>rw [Fast.te797321630700447069,Fast.te6984425678791042302];kernel_rfl
 case JX=>kernel_rfl
 case JW=>rw [Fast.te17119622794617984870];kernel_rfl
 case Mn=>rw [Fast.te10792542408131684335];kernel_rfl
 case Mm=>rw [Fast.te10792542408131684335];kernel_rfl
 case Qk=>rw [Fast.te10792542408131684335];kernel_rfl
 case Qj=>rw [Fast.te17119622794617984870,Fast.te10792542408131684335];kernel_rfl
 case Qi=>rw [Fast.te17119622794617984870];kernel_rfl
 all_goals kernel_rfl
end Mine.HW
namespace Mine.H
theorem promised:lw.row.toRowW.promised:=by
 refine⟨[.list []],?_,?_⟩
 ·decide+kernel
 ·decide+kernel
def sZ:Nat->List Obj
 |0=>NA P
 |1=>Nz P
 |2=>Ny P
 |3=>Nx P
 |4=>Nw P
 |5=>Nv P
 |6=>Nu P
 |7=>Nt P
 |8=>Nr P
 |9=>Nq P
 |10=>Hw P
 |11=>Hv P
 |_=>[]
def KP(a:Nat):Option Obj:=
 match Nat.beq a 1336 with
 |true=>none
 |false=>bP (sZ P (a/116)) (a%116)
theorem vf:(H1 P).objs.toList=objs P:=by kernel_rfl
theorem Ds:(objs P).all (λo=> !o.isFreed)=true:=by kernel_rfl
theorem DL:(H1 P).objs.size=1392:=by kernel_rfl
end Mine.H
namespace Mine
theorem nZ{α:Type}:∀(a b:List α) (n:Nat) (o:α),bP (a++b) n=some o↔(n<a.length/\bP a n=some o)\/(a.length<=n/\bP b (n-a.length)=some o)
 |[],b,n,o=>by simp
 |x::a,b,0,o=>by show some x=some o↔_;simp [bP]
 |x::a,b,n+1,o=>by show bP (a++b) n=some o↔_;rw [nZ a b n o];show _↔(n+1<a.length+1/\bP a n=some o)\/(a.length+1<=n+1/\bP b (n+1-(a.length+1))=some o);rw [Nat.add_lt_add_iff_right,Nat.add_le_add_iff_right,Nat.add_sub_add_right]
theorem yL{α:Type}:∀{a:List α} {n:Nat} {o:α},bP a n=some o->n<a.length
 |_::_,0,_,_=>Nat.zero_lt_succ _
 |_::_,n+1,_,h=>Nat.succ_lt_succ (yL h)
theorem ow{h:Heap}{l:List Obj}(e:h.objs.toList=l)(al:l.all (λo=> !o.isFreed)=true){a:Nat}{o:Obj}(ho:bP l a=some o):h.get? a=some o:=by
 have hm:=aJ ho;have hf:o.isFreed=false:=by have:=List.all_eq_true.mp al o hm;simpa using this
 rw [eU]at ho;have h2:h.objs[a]? =some o:=by rw [<-e]at ho;simpa using ho
 unfold Heap.get?;rw [h2];obtain⟨c,d,dt,sl⟩:=o;cases dt<;>first|rfl|cases hf
theorem se{α:Type}(f:Nat->List α)(C:Nat)(hC:0<C):∀(n:Nat),(∀i,i<n->(f i).length=C)->∀(a:Nat) (o:α),a/C<n->bP (f (a/C)) (a%C)=some o->bP ((List.range n).map f).flatten a=some o
 |0,_,a,o,h,_=>absurd h (Nat.not_lt_zero _)
 |n+1,hl,a,o,h,e=>by
  rw [List.range_succ,List.map_append,List.flatten_append,nZ];have hlen:((List.range n).map f).flatten.length=C*n:=by
   rw [List.length_flatten,List.map_map];have:((List.range n).map (List.length∘f))=(List.range n).map λJ=>C:=List.map_congr_left λi hi=>hl i (Nat.lt_succ_of_lt (List.mem_range.mp hi));rw [this];clear this hl h e;induction n with
   |zero=>rfl
   |succ n ih=>rw [List.range_succ,List.map_append,List.sum_append,ih];simp [Nat.mul_add]
  rw [hlen];by_cases hq:a/C<n
  ·left;refine⟨?_,se f C hC n (λi hi=>hl i (Nat.lt_succ_of_lt hi)) a o hq e⟩;rw [Nat.mul_comm];exact(Nat.div_lt_iff_lt_mul hC).mp hq
  ·right;have wV:a/C=n:=Nat.le_antisymm (Nat.le_of_lt_succ h) (Nat.le_of_not_lt hq);have P5:=Nat.div_add_mod a C;rw [wV]at P5 e;refine⟨by lia,?_⟩;have:a-C*n=a%C:=by lia
   rw [this];simpa using e
namespace H
theorem wD:∀i,i<12->(sZ P i).length=116
 |0,_=>by kernel_rfl
 |1,_=>by kernel_rfl
 |2,_=>by kernel_rfl
 |3,_=>by kernel_rfl
 |4,_=>by kernel_rfl
 |5,_=>by kernel_rfl
 |6,_=>by kernel_rfl
 |7,_=>by kernel_rfl
 |8,_=>by kernel_rfl
 |9,_=>by kernel_rfl
 |10,_=>by kernel_rfl
 |11,_=>by kernel_rfl
 |n+12,h=>absurd h (by lia)
theorem Fc:((List.range 12).map (sZ P)).flatten=objs P:=by kernel_rfl
theorem Fp{a:Nat}{o:Obj}(h:KP P a=some o):(H1 P).get? a=some o:=by
 unfold KP at h;split at h
 ·cases h
 ·refine ow (vf P) (Ds P) ?_;rw [<-Fc P];refine se (sZ P) 116 (by decide) 12 (wD P) a o ?_ h;have:=yL h;cases Nat.lt_or_ge (a/116) 12 with
  |inl h=>exact h
  |inr Ra=>
   exfalso;have:sZ P (a/116)=[]:=by
    obtain⟨n,hn⟩:∃n,a/116=n+12:=⟨a/116-12,by lia⟩
    rw [hn];rfl
   rw [this]at h;cases h
end H
noncomputable abbrev pb:String:="special-get-raises"
noncomputable abbrev f5:String:="comprehension-iter-twice"
theorem gK{p:World->Prop}(h:∀(b b':Bool) (w:World),p ((w.withFollow f5 b').withFollow pb b))(w:World):p w:=by have:=h ((w.withFollow f5 (w.params.followText f5)).params.followText pb) (w.params.followText f5) w;rwa [World.withFollow_self,World.withFollow_self]at this
theorem aC{p:World->Prop}(h:∀(b:Bool) (w:World),p (w.withFollow pb b))(w:World):p w:=by have:=h (w.params.followText pb) w;rwa [World.withFollow_self]at this
section
variable{prog:Program}{w:World}{R:Result->Shared->Prop}{s:Shared}{n:Nat}
theorem tD{id:String}{args:Args}{B:Builtin}{S:PySem.Spec}(hp:plainId id=true)(entry:entryFor table id=some B)(g:MeetsIn prog w (B args) S)
  (h:∀A,S A R s):qj prog w n (.builtin id args) R s:=λA J=>
 codeAny_builtin entry (by rw [Around.under_plainId hp];exact g A R s (h A))
theorem qi{id:String}{args:Args}{B:Builtin}{S:PySem.Spec}(hp:plainId id=true)(entry:entryFor table id=some B)(g:PySem.Meets (B args) S)
  (h:∀A,S A R s):qj prog w n (.builtin id args) R s:=λA J=>
 codeAny_builtin entry (by rw [Around.under_plainId hp];exact g prog w A R s (h A))
end
namespace H
theorem tL{es:Array DictEntry}(h:es.toList.all (λe=>match e.key with| .str _ _=>true|_=>false)=true):StrKeys es:=by intro e he;have:=List.all_eq_true.mp h e (by simpa using he);cases hk:e.key<;>simp_all
theorem K3:(match KP P 2 with|some ⟨_,_,.dict es _,_⟩=>es.toList.all (λe=>match e.key with| .str _ _=>true|_=>false)&&(nsFind es (Str.ofString "sys.recursionlimit")).isNone|_=>false)=true:=by kernel_rfl
theorem Pg:∀h s,QK (KP P) h s->h.NoLimit:=by
 intro h s R;have e:=K3 P;split at e
 ·rename_i c d es ep sl hk;rw [Bool.and_eq_true]at e;refine⟨nsFind es,⟨_,es,ep,R.OR _ _ hk,rfl,tL e.1,λ_=>rfl⟩,?_⟩;simpa using e.2
 ·cases e
end H
end Mine
namespace Mine
noncomputable def zJ:List (List Nat)->List Nat:=List.flatten
noncomputable def aO:List Nat:=[0,0,1,0,15,0,0,0,0,0]
noncomputable def mQ:List Nat:=[0,0,0,0,0]
noncomputable def wK:List Nat:=[2,0,0,0,3,3,3,3,3,3,1,0,3,1,1,1,1,1,1,0,52,0,2,0,0,5,5,1]
noncomputable def cD:List Nat:=[9,9,7,0,0,0,1,7,0,6,7,0,7,0,0,0,7,0,5,5,5,9,9,7,0,0,0,1,7,0,6,7,0,7,0,0,0,7,0,5]
noncomputable def FG:List Nat:=[1,1,1,1,1,1]
noncomputable def jo:List Nat:=[33,19,33,33,33,33,33,33,33,37,37,0,7,5,2,2,2,1,2,0,3,9,5,4,4,4,1,4,0,3,13,37,6,6,6,1,6,7,6,15,37,8,8,8,1,8,7,8,0,0,1,35,9,35,35,35]
noncomputable def oW:List Nat:=[2,0,0,0,5,2,0,0,0,2,2,0]
noncomputable def va:List Nat:=[2,2,2,1,2,7,2]
noncomputable def FF:List Nat:=[1,27,1,27,19,27,27,27,27,27,27,27,31,31,3,31]
noncomputable def oV:List Nat:=[47,1,47,19,47,47,47,47,47,47,47,51,51,3,5,1,40,1,26,51,1,26,2,2,2,1,2,0,3,11,1,0,53,1,0,48,1,23,1,49]
noncomputable def kB:List Nat:=[0,0,1,44,46,0,0,0,0,1,15]
noncomputable def fJ:List Nat:=[1,1,4,4,4,1,4,7,4,1]
noncomputable def vX:List Nat:=[0,0,0,0]
noncomputable def nU:List Nat:=[1,16,3,1,71,1,12,3,1,71,1,12]
noncomputable def nT:List Nat:=[0,1,13,1,43,25,25,1,25,22,25,25,25,1,25,42,25,25,25,27]
noncomputable def kA:List Nat:=[0,1,0,0]
noncomputable def qC:List Nat:=[1,6,6,6,1,6,7,6,1]
def UG:List Nat:=[2,2,2,1,2,0,3,11,4,4,4,1,4,0,3,14,6,6,6,1,6,21,6,14]
noncomputable def Bi:List Nat:=[0,3,14,1,29,9,29,29,29]
noncomputable def vW:List Nat:=[0,3,3,0,2,0,0,9,9,9,9,1,9,1,12,9,1,12]
noncomputable def vV:List Nat:=[1,45,1,45,19,45,45,45,45,45,45,45,49,49,3,49,1,26]
noncomputable def yF:List Nat:=[1,5,8,8,8,1,8,0,3,11,10,10,10,1,10,0,3,14]
noncomputable def vU:List Nat:=[0,0,0,1]
noncomputable def r7:List Nat:=[0,1,13,1,43,51,51,1,51,22,51,51,51,1,51,42,51,51,51,53]
noncomputable def Bh:List Nat:=[11,11,1,11,4,11,11,9,11]
noncomputable def t9:List Nat:=[1,1,1,1]
noncomputable def yE:List Nat:=[1,55,9,55,55,55,1,53,1,53]
noncomputable def Hq:List Nat:=[7,7,1,7,32,7,1,16]
noncomputable def Hp:List Nat:=[52,0,2,0,0,7,7,1,7,7,7,1,71,1,12,7,1,71,1,12]
noncomputable def Ho:List Nat:=[0,1,13,1,43,31,31,1,31,22,31,31,31,1,31,42,31,31,31,33]
noncomputable def vT:List Nat:=[0,1,13,1,43,45,45,1,45,22,45,45,45,1,45,42,45,45,45,47]
noncomputable def r6:List Nat:=[1,3,3,3,3,1]
noncomputable def yD:List Nat:=[4,4,4,1,4,21,4]
noncomputable def Hn:List Nat:=[33,1,33,19,33,33,33,33,33,33,33,37,37,0,0,17,13,37]
noncomputable def Bg:List Nat:=[45,1,45,8,45,45,2,45,45,49,49,0,0,2,0,0,1,49,1,23]
noncomputable def Hm:List Nat:=[0,52,3,3,3]
noncomputable def Bf:List Nat:=[19,53,53,53,53,53,53,53,57,57]
noncomputable def Be:List Nat:=[27,0,6,27,0,27,0,0,0,27,0,25,25,25]
noncomputable def vS:List Nat:=[43,43,43,1,43]
noncomputable def r5:List Nat:=[8,53,53,2,53,53,57,57,57,23]
noncomputable def jX:List Nat:=[51,51,1,51,4,51,51]
noncomputable def r4:List Nat:=[1,71,1,12]
noncomputable def yC:List Nat:=[3,0,6,3,0,3]
noncomputable def yB:List Nat:=[1,12,1,1,12,1,1,12,1,1,16]
noncomputable def yy:List Nat:=[79,79,1,79,4,79,79,24,79]
noncomputable def Bd:List Nat:=[2,2,2,1,2,0,3]
noncomputable def Bc:List Nat:=[3,9,3,3,3,0]
noncomputable def iH:List Nat:=[0,32,0,1,16,1,16,1]
noncomputable def Hl:List Nat:=[0,1,1,1]
noncomputable def Bb:List Nat:=[2,0,0,0,9,9,9,9,9,9,9,9,9,9,9,9,9,9]
noncomputable def Ba:List Nat:=[0,3,14,1,47,9,47,47,47]
noncomputable def A':List Nat:=[95,0,6,95,0,95,0,0,0,95,0,93,93,93]
noncomputable def Hk:List Nat:=[1,27,1,27,19,27,27,27,39,31,31,31]
noncomputable def RW:List Nat:=[41,41,41,1,41,7,41,14]
noncomputable def Si:List Nat:=[2,0,0,1,1,3,3,1,1,2,2,1,2,20,5,1]
noncomputable def RN:List Nat:=[35,35,35,1,35]
noncomputable def RZ:List Nat:=[9,9,1,9,32,9,1,16,1,16,3]
noncomputable def RQ:List Nat:=[5,5,5,1,12,5,1,12]
noncomputable def RL:List Nat:=[1,16,3,1,12]
noncomputable def RK:List Nat:=[7,7,7,7,7,7]
noncomputable def SD:List Nat:=[1,0,7,0,2,0,0,5,5,5,5,1,5,8,0,0,0,8,0,0,0,8,0,0,0,8,0,0,0,5,8,0,0,0,8,8,0,10,5,12]
noncomputable def Sz:List Nat:=[1,1,1,0,0,1,0,1,28,29,12,0,0,1,0,1,28,29,16,0,0,1,0,1,28,29,20,1,2,0,0,0,2,0,0,0]
noncomputable def RV:List Nat:=[1,23,33,33,33,1,33]
noncomputable def RJ:List Nat:=[53,53,1,53]
noncomputable def RE:List Nat:=[3,3,1,3]
noncomputable def RC:List Nat:=[0,2,0,0]
noncomputable def RG:List Nat:=[4,4,4,1,4]
noncomputable def Sr:List Nat:=[1,33,1,33,19,33,33,33,41,37,37,37]
noncomputable def Sy:List Nat:=[9,9,9,9,0,0,9,1,13,1,87,1,22,9,9,0,0,9,0,0,1,28,29,0,9,9,9,0]
noncomputable def Sx:List Nat:=[13,1,13,0,4,1,1,1,24,1,36,1,1,1,0,7,1,1,1,7,7,7,7,1,1,7,0,52]
noncomputable def RM:List Nat:=[2,2,1,2,20]
noncomputable def RY:List Nat:=[53,53,61,57,57,57]
noncomputable def Sw:List Nat:=[13,13,13,38,11,1,11,74,11,2,1,65,1,65,8,65,65,23,65,65]
noncomputable def Sh:List Nat:=[19,19,19,19,19,19,19]
noncomputable def RX:List Nat:=[1,5,5,1,5,0,26,0]
noncomputable def Sg:List Nat:=[1,10,10,10,1,10,7,10]
noncomputable def Se:List Nat:=[1,18,18,18,1,18,7,18]
noncomputable def Sq:List Nat:=[6,0,0,0,5,6,0,0,0,6,6,0,8,14]
noncomputable def Sp:List Nat:=[129,129,1,129,4,129,129,68,129]
noncomputable def So:List Nat:=[135,135,1,135,4,135,135,60,135]
noncomputable def Sn:List Nat:=[141,141,1,141,4,141,141,70,141]
noncomputable def Sm:List Nat:=[147,147,1,147,4,147,147,62,147]
noncomputable def Sd:List Nat:=[47,1,47,19,47,47,47]
noncomputable def Sb:List Nat:=[5,2,0,0,0,2,2,0,4,1]
noncomputable def Sv:List Nat:=[0,77,77,77,77,77,77,77,77,77,77,1,1,0,77,77,77,77]
noncomputable def RH:List Nat:=[0,1,1,70]
noncomputable def Su:List Nat:=[1,27,1,27,19,27,27,27,41,31,31,31,13,13,0,0,1,13]
noncomputable def RP:List Nat:=[49,49,49,1]
noncomputable def RO:List Nat:=[1,41,1,12]
noncomputable def RR:List Nat:=[0,4,19,19,19]
noncomputable def Sl:List Nat:=[31,31,1,31,4,31,31,19,31]
noncomputable def Sk:List Nat:=[67,67,1,67,4,67,67,19,67]
noncomputable def Sj:List Nat:=[89,89,1,89,4,89,89,21,89]
noncomputable def Sa:List Nat:=[6,0,0,0,6,0,0,0,6]
noncomputable def Ss:List Nat:=[0,0,1,13,1,43,5,5,1,5,22,5,5,5,1,5,42,5,5,5]
section
variable{K:Nat->Option Obj}{h h':Heap}{L:aA}{N t:Nat}
end
end Mine
end
section
open PySem PySem.W PyProof.Rows PySem.Builtin
namespace Mine
theorem eE{id:String}{b:aU}{t:Tok}:Bytes.bytesLike id (.bytes b t)=pure b:=by unfold Bytes.bytesLike;rw [KBy.buffer_eq];rfl
noncomputable def ew(b old new:aU):aU:=
 if(Bytes.occurrences b old 0 b.size).isEmpty then b else Bytes.joined new (Bytes.between b old.size (Bytes.occurrences b old 0 b.size))
theorem pe(b old new:aU)(t t1 t2:Tok)(ho:old.isEmpty=false)(hz:b.size+(Bytes.occurrences b old 0 b.size).length*new.size<=16777216)(zg:(ew b old new).size<=sizeLine):
  PySem.Meets («bytes.replace» ⟨[.bytes b t,.bytes old t1,.bytes new t2],[]⟩) (λJ R s=>∀t' k,R (.ok (.ret (.bytes (ew b old new) t'))) {s with toks:=k}):=by
 refine .of_wp λprog w A R s h=> ?_;show wpAny _ _ (Bytes.bytesLike _ (.bytes old t1)>>=λr=>_) _ _ s;refine wpAny_bind (wpAny_of_eq eE ?_);refine wpAny_bind (wpAny_of_eq eE ?_);show wpAny _ _ (Bytes.bytesLike _ (.bytes old t1)>>=λr=>_) _ _ s;refine wpAny_bind (wpAny_of_eq eE ?_);refine wpAny_bind (wpAny_of_eq eE ?_);refine wpAny_bind (wpAny_of_eq (a:=b) rfl ?_);have e1:(if old.isEmpty=true then List.range (b.size+1)else Bytes.occurrences b old 0 b.size)=Bytes.occurrences b old 0 b.size:=if_neg (by rw [ho];exact Bool.false_ne_true);have e2:(if(-1:Int)<0 then Bytes.occurrences b old 0 b.size else(Bytes.occurrences b old 0 b.size).take (-1:Int).toNat)=Bytes.occurrences b old 0 b.size:=if_pos (by decide);rw [e1];dsimp only;rw [e2,ho,Bool.false_and,Bool.or_false];unfold ew at h zg;by_cases he:(Bytes.occurrences b old 0 b.size).isEmpty=true
 ·rw [if_pos he]at h zg;refine wpAny_ite (KBc.ite_yes he ?_);refine wpAny_bind (wpAny_rule ?_);show wpAny _ _ (Bytes.Kind.same .bytes (.bytes b t)>>=λr=>_) _ _ s;refine wpAny_bind ?_;show wpAny _ _ (typeOf (.bytes b t)>>=λr=>_) _ _ s;refine wpAny_bind (wpAny_typeOf (typeIs_bytes _ b t) ?_);exact wpAny_pure (wpAny_pure ⟨_,rfl,h t _⟩)
 ·rw [if_neg he]at h zg;refine wpAny_ite (KBy.ite_no he ?_);refine wpAny_ite (KBy.ite_no (by rw [KBy.tooLong_not hz];exact Bool.false_ne_true) ?_);exact wpAny_bind (wpAny_mkBytes (wpAny_pure ⟨_,rfl,h _ _⟩) zg)
inductive ay:List Value->lU->Prop
 |nil:ay [] []
 |cons (b:aU) (t:Tok) {vs:List Value} {bs:lU} (h:ay vs bs):ay (.bytes b t::vs) (b::bs)
theorem ay.length{vs:List Value}{bs:lU}(h:ay vs bs):vs.length=bs.length:=by
 induction h with
 |nil=>rfl
 |cons b t h ih=>simp [ih]
theorem hM{M:Model}{A:Around}{E:Value->Shared->Prop}:∀(ps:lU) (s:Shared) (Q:List Value->Shared->Prop),(∀p∈ps,p.size<=sizeLine)->
  (∀vs k,ay vs ps->Q vs {s with toks:=k})->wpAny M A (ps.mapM (Bytes.Kind.new .bytes)) Q E s
 |[],s,Q,_,h=>by rw [List.mapM_nil];exact wpAny_pure (h [] s.toks .nil)
 |p::ps,s,Q,hz,h=>by rw [List.mapM_cons];refine wpAny_bind (wpAny_mkBytes ?_ (hz p (.head _)));refine wpAny_bind (hM ps _ _ (λq hq=>hz q (.tail _ hq)) λvs k hv=> ?_);exact wpAny_pure (h _ _ (.cons p _ hv))
noncomputable def bj(b sep:aU):lU:=
 if((Bytes.occurrences b sep 0 b.size).take (b.size+1)).isEmpty then [b]else Bytes.between b sep.size ((Bytes.occurrences b sep 0 b.size).take (b.size+1))
theorem ny{M:Model}{A:Around}{E:Value->Shared->Prop}{s:Shared}{b:aU}{t:Tok}{Q:Value->Shared->Prop}(h:Q (.bytes b t) s):wpAny M A (Bytes.Kind.same .bytes (.bytes b t)) Q E s:=by show wpAny _ _ (typeOf (.bytes b t)>>=λr=>_) _ _ s;exact wpAny_bind (wpAny_typeOf (typeIs_bytes _ b t) (wpAny_pure h))
theorem sg(b sep:aU)(t t1:Tok)(ho:sep.isEmpty=false)(hz:∀p∈bj b sep,p.size<=sizeLine)(hl:(bj b sep).length<=sizeLine):
  PySem.Meets («bytes.split» ⟨[.bytes b t,.bytes sep t1],[]⟩) (λJ R s=>∀vs k,ay vs (bj b sep)->
   R (.ok (.ret (.ref s.heap.objs.size))) {s with heap:=s.heap.push {cls:= .type "list",data:= .seq vs.toArray},toks:=k}):=by
 refine .of_wp λprog w A R s h=> ?_;refine wpAny_bind (wpAny_of_eq (a:=[some (.bytes sep t1),none]) (by kernel_rfl) ?_);show wpAny _ _ (Bytes.bytesLike _ (.bytes sep t1)>>=λr=>_) _ _ s;refine wpAny_bind (wpAny_of_eq eE ?_);rw [if_neg (by rw [ho];exact Bool.false_ne_true)];dsimp only;have e1:(if(false:Bool)=true then Bytes.occurrencesFromRight b sep (if(-1:Int)<0 then b.size+1 else(-1:Int).toNat)else(Bytes.occurrences b sep 0 b.size).take (if(-1:Int)<0 then b.size+1 else(-1:Int).toNat))=(Bytes.occurrences b sep 0 b.size).take (b.size+1):=rfl;rw [e1];unfold bj at h hz hl;by_cases he:((Bytes.occurrences b sep 0 b.size).take (b.size+1)).isEmpty=true
 ·rw [if_pos he]at h hz hl;refine wpAny_ite (KBc.ite_yes he ?_);refine wpAny_bind (wpAny_rule ?_);refine wpAny_bind (ny ?_);refine wpAny_bind (wpAny_newList ?_ hl);exact wpAny_pure ⟨_,rfl,h _ _ (.cons b t .nil)⟩
 ·rw [if_neg he]at h hz hl;refine wpAny_ite (KBy.ite_no he ?_);refine wpAny_bind (hM _ _ _ hz λvs k hv=> ?_);refine wpAny_bind (wpAny_newList ?_ (by rw [hv.length];exact hl));exact wpAny_pure ⟨_,rfl,h _ _ hv⟩
theorem uJ{id:String}{b:aU}{t:Tok}{full:Bool}:Bytes.buffer? id (.bytes b t) full=pure (some b):=by unfold Bytes.buffer?;rw [KBy.special_eq KBy.look_buffer,KBy.own_buffer,KBy.own_release];kernel_rfl
theorem qs{id:String}{b:aU}{t:Tok}:Bytes.takeBufferQuiet? id (.bytes b t) 0=pure (some (b,none)):=by
 have e:Bytes.takeBuffer? id (.bytes b t) 0=pure (some (b,none)):=by unfold Bytes.takeBuffer?;rw [KBy.special_eq KBy.look_buffer,KBy.own_buffer,uJ];kernel_rfl
 unfold Bytes.takeBufferQuiet?;rw [e];rfl
theorem ay.get{vs:List Value}{bs:lU}(h:ay vs bs):∀{k:Nat} {v:Value},vs[k]? =some v->∃b t,v= .bytes b t/\bs[k]? =some b:=by
 induction h with
 |nil=>intro k v e;simp at e
 |cons b t h ih=>
  intro k v e;cases k with
  |zero=>simp at e;exact⟨b,t,e.symm,by simp⟩
  |succ k=>simp at e;obtain⟨b',t',h1,h2⟩:=ih e;exact⟨b',t',h1,by simpa using h2⟩
theorem ay.Ef{vs:List Value}{bs:lU}(h:ay vs bs):∀v∈vs,v.onHeap=false:=by
 induction h with
 |nil=>intro v hv;cases hv
 |cons b t h ih=>
  intro v hv;rcases List.mem_cons.mp hv with rfl|hv
  ·rfl
  ·exact ih v hv
theorem sr{α:Type}(l:List Value)(h:∀x,l≠[x])(f:Value->α)(g:aV->α):Bytes.joinM.match_1 (λJ=>α) l.toArray f g=g l.toArray:=by
 rcases l with _|⟨x,_|⟨y,l⟩⟩
 ·rfl
 ·exact absurd rfl (h x)
 ·rfl
theorem mH{M:Model}{A:Around}{E:Value->Shared->Prop}{s:Shared}{keep:List Value}:∀(vs:List Value) (Q:Unit->Shared->Prop),Q () s->wpAny M A (Bytes.joinLetGo (vs.map λv=>(v,none)) keep) Q E s
 |[],Q,h=>wpAny_pure h
 |v::vs,Q,h=>by rw [List.map_cons];unfold Bytes.joinLetGo;refine wpAny_bind ?_;show wpAny _ _ (letGo [v] _) _ _ s;unfold letGo;refine wpAny_bind (wpAny_holding (wpAny_point ?_));unfold letGo;exact wpAny_pure (mH vs Q h)
theorem UU{prog:Program}{w:World}{A:Around}{a:Addr}{Q:Value->Shared->Prop}{E:Value->Shared->Prop}{s:Shared}(hT:s.TypeIs (.ref a) "list")(h:Q (.ref a) s):wpAny (model prog w) A (Bytes.joinItems (.ref a)) Q E s:=by unfold Bytes.joinItems;refine wpAny_bind (wpAny_typeOf hT ?_);refine wpAny_ite (KBc.ite_yes (by rfl) ?_);exact wpAny_pure h
theorem n7(sep:aU)(t:Tok)(a:Addr)(vs:List Value)(bs:lU)(hv:ay vs bs)(wQ:Bytes.tooLong (bs.toArray.foldl (λn p=>n+p.size) (sep.size*(bs.toArray.size-1)))=false)
  (hz:(Bytes.joined sep bs).size<=sizeLine):
  PySem.Meets («bytes.join» ⟨[.bytes sep t,.ref a],[]⟩) (λJ R s=>(∃o ep,s.heap.get? a=some o/\o.cls= .type "list"/\o.data= .seq vs.toArray ep)/\
   ∀t' k,R (.ok (.ret (.bytes (Bytes.joined sep bs) t'))) {s with toks:=k}):=by
 refine .of_wp λprog w A R s h=> ?_;obtain⟨⟨o,ep,ho,hc,hd⟩,h⟩:=h;have EM:(∃x,vs=[x])\/∀x,vs≠[x]:=Classical.byCases .inl λh=> .inr λx e=>h ⟨x,e⟩;rcases EM with⟨x,JE⟩|EM
 ·subst JE;obtain _|⟨b,t1,_|_⟩:=hv;show wpAny _ _ (Bytes.joinItems (.ref a)>>=λr=>_) _ _ s;have hT:s.TypeIs (.ref a) "list":=⟨o,ho,hc⟩
  have EF:∀{A:Around} {E:Value->Shared->Prop} {Q:Option aV->Shared->Prop},Q (some #[.bytes b t1]) s->wpAny (model prog w) A (seqItems? (.ref a)) Q E s:=by intro A E Q hQ;exact wpAny_seqItems ho hd hQ
  refine wpAny_bind (UU hT ?_);refine wpAny_bind (EF ?_);dsimp only;refine wpAny_ite (KBc.ite_yes (by rfl) ?_);have hj:Bytes.joined sep [b]=b:=by simp [Bytes.joined]
  rw [hj]at h;show wpAny _ _ (typeOf (.bytes b t1)>>=λr=>_) _ _ s;refine wpAny_bind (wpAny_typeOf (typeIs_bytes _ b t1) ?_);refine wpAny_ite (KBc.ite_yes (by rfl) ?_);refine wpAny_bind (wpAny_rule ?_);exact wpAny_pure ⟨_,rfl,h t1 _⟩
 show wpAny _ _ (Bytes.joinItems (.ref a)>>=λr=>_) _ _ s;have hT:s.TypeIs (.ref a) "list":=⟨o,ho,hc⟩
 have EF:∀{A:Around} {E:Value->Shared->Prop} {Q:Option aV->Shared->Prop},Q (some vs.toArray) s->wpAny (model prog w) A (seqItems? (.ref a)) Q E s:=by intro A E Q hQ;exact wpAny_seqItems ho hd hQ
 refine wpAny_bind (UU hT ?_);refine wpAny_bind (EF ?_);dsimp only;refine wpAny_ite (KBc.ite_yes (by rfl) ?_);have hlen:vs.length=bs.length:=hv.length;have pg:∀(f:Nat->Array aU × List (Value × Option Value)->Sem (ForInStep (Array aU × List (Value × Option Value)))) (Q:Array aU × List (Value × Option Value)->Shared->Prop) (A:Around) (E:Value->Shared->Prop),
   (∀i ps tk v (Q':ForInStep (Array aU × List (Value × Option Value))->Shared->Prop),vs[i]? =some v->tk.any (λx=>x.1.onHeap)=false->(∀b t,v= .bytes b t->Q' (.yield (ps.push b,tk++[(v,none)])) s)->wpAny (model prog w) A (f i (ps,tk)) Q' E s)->
   Q (bs.toArray,vs.map λv=>(v,none)) s->wpAny (model prog w) A (forIn [:vs.toArray.size] (#[],[]) f) Q E s:=by
  intro f Q A E hf hQ;rw [Std.Legacy.Range.forIn_eq_forIn_range'];refine wpAny_forIn_list f (λrest st s'=>s'=s/\∃k,rest=List.range' k (vs.length-k) 1/\k<=vs.length/\st.1.toList=bs.take k/\st.2=(vs.take k).map λv=>(v,none)) Q ?_ ?_ _ _ ⟨rfl,0,by simp [Std.Legacy.Range.size],Nat.zero_le _,by simp,by simp⟩
  ·rintro i rest ⟨ps,tk⟩ s' ⟨rfl,k,i6,hk,h1,h2⟩;obtain⟨m,hm⟩:∃m,vs.length-k=m+1:=by
    cases e:vs.length-k with
    |zero=>rw [e]at i6;cases i6
    |succ m=>exact⟨m,rfl⟩
   rw [hm,List.range'_succ,List.cons.injEq]at i6;obtain⟨rfl,i6⟩:=i6;have rz:i<vs.length:=by lia
   have FO:vs[i]? =some vs[i]:=List.getElem?_eq_getElem rz;obtain⟨b,t',hb,JS⟩:=hv.get FO;simp only at h1 h2;refine hf i ps tk vs[i] _ FO ?_ λb' QV sH=> ?_
   ·rw [h2];simp only [List.any_map,List.any_eq_false,Function.comp];intro v Lh;rw [hv.Ef v (List.mem_of_mem_take Lh)];exact Bool.false_ne_true
   ·rw [hb]at sH;cases sH;refine⟨rfl,i+1,?_,rz,?_,?_⟩
    ·rw [i6];congr 1;lia
    ·rw [Array.toList_push,h1,List.take_add_one,JS];rfl
    ·rw [h2,List.take_add_one,FO,List.map_append];rfl
  ·rintro⟨ps,tk⟩ s' ⟨rfl,k,i6,hk,h1,h2⟩;have AA:k=vs.length:=by
    cases e:vs.length-k with
    |zero=>lia
    |succ m=>rw [e,List.range'_succ]at i6;cases i6
   simp only at h1 h2;rw [AA,List.take_length]at h2;rw [AA,hlen,List.take_length]at h1;have h3:ps=bs.toArray:=by rw [<-h1]
   rw [h2,h3];exact hQ
 rw [sr _ EM];refine wpAny_bind (pg _ _ _ _ (λi ps tk v Q' FO Pq hy=> ?_) ?_)
 ·refine wpAny_bind (EF ?_);dsimp only;have hg:vs.toArray.getD i Value.none=v:=by simp [Array.getD_eq_getD_getElem?,FO]
  obtain⟨b,t',hb,J⟩:=hv.get FO;rw [hg,hb];refine wpAny_ite (KBy.ite_no (by rw [Pq];decide) ?_);refine wpAny_bind (wpAny_holding (wpAny_of_eq qs ?_));dsimp only;refine wpAny_bind (EF ?_);dsimp only;refine wpAny_ite (KBy.ite_no (by simp) ?_);have:=hy b t' hb;rw [hb]at this;exact wpAny_pure this
 ·refine wpAny_bind (wpAny_of_eq (a:=sep) rfl ?_);dsimp only;refine wpAny_ite (KBy.ite_no (by rw [wQ];exact Bool.false_ne_true) ?_);refine wpAny_bind (wpAny_mkBytes ?_ hz);refine wpAny_bind (wpAny_holding (wpAny_point ?_));refine wpAny_bind (mH vs _ ?_);exact wpAny_pure ⟨_,rfl,h _ _⟩
theorem si{α:Type}(l:List (List UInt8))(h:∀x,l≠[x])(f:List UInt8->α)(g:List (List UInt8)->α):Bytes.splitlinesM.match_1 (λJ=>α) l f g=g l:=by
 rcases l with _|⟨x,_|⟨y,l⟩⟩
 ·rfl
 ·exact absurd rfl (h x)
 ·rfl
theorem yW(ls:List (List UInt8)):ls.mapM (λl=>Bytes.Kind.new .bytes l.toArray)=(ls.map List.toArray).mapM (Bytes.Kind.new .bytes):=by rw [List.mapM_map];rfl
theorem lX(b:aU)(t:Tok)(hw:∀Ou,Bytes.lines b.size true b.toList=[Ou]->Ou.toArray=b)(hz:∀p∈(Bytes.lines b.size true b.toList).map List.toArray,p.size<=sizeLine)
  (hl:(Bytes.lines b.size true b.toList).length<=sizeLine):
  PySem.Meets («bytes.splitlines» ⟨[.bytes b t,.bool true],[]⟩) (λJ R s=>∀vs k,ay vs ((Bytes.lines b.size true b.toList).map List.toArray)->
   R (.ok (.ret (.ref s.heap.objs.size))) {s with heap:=s.heap.push {cls:= .type "list",data:= .seq vs.toArray},toks:=k}):=by
 refine .of_wp λprog w A R s h=> ?_;refine wpAny_bind (wpAny_of_eq (a:=[some (.bool true)]) (by kernel_rfl) ?_);dsimp only;refine wpAny_bind (wpAny_of_eq (a:=true) (by kernel_rfl) ?_);refine wpAny_bind (wpAny_of_eq (a:=b) rfl ?_);have EM:(∃x,Bytes.lines b.size true b.toList=[x])\/∀x,Bytes.lines b.size true b.toList≠[x]:=Classical.byCases .inl λh=> .inr λx e=>h ⟨x,e⟩;rcases EM with⟨Ou,ho⟩|EM
 ·have Ia:=hw Ou ho;rw [ho]at h hz;rw [ho];dsimp only;have hs:Ou.length=b.size:=by rw [<-Ia];simp
  refine wpAny_ite (KBc.ite_yes (by simpa using hs) ?_);refine wpAny_bind (wpAny_rule ?_);refine wpAny_bind (ny ?_);refine wpAny_bind (wpAny_newList ?_ (by rw [sizeLine_eq];show 1<=16777216;decide));refine wpAny_pure ⟨_,rfl,h _ _ ?_⟩;rw [List.map_cons,Ia];exact .cons b t .nil
 ·rw [si _ EM];rw [yW];refine wpAny_bind (hM _ _ _ hz λvs k hv=> ?_);refine wpAny_bind (wpAny_newList ?_ (by rw [hv.length,List.length_map];exact hl));exact wpAny_pure ⟨_,rfl,h _ _ hv⟩
noncomputable abbrev pK(l:Addr)(i:Nat):Obj:={cls:= .type "list_iterator",data:= .fields #[.ref l,.int i 0]}
noncomputable abbrev yY(i:Nat):Obj:={cls:= .type "list_iterator",data:= .fields #[.none,.int i 0]}
section
variable{prog:Program}{w:World}{K:Nat->Option Obj}{R:Result->Shared->Prop}{m:Nat}{s:Shared}{L:aA}{N:Nat}
noncomputable abbrev uZ:Obj:={cls:= .type "tuple",data:= .seq #[]}
noncomputable abbrev u4(t:Addr):Obj:={cls:= .type "StopIteration",data:= .fields #[.ref t,.none,.none,.none,.bool false,.none]}
end
noncomputable abbrev aw(vs:aV)(n:Nat):Obj:={cls:= .type "list",data:= .seq vs n}
section
variable{prog:Program}{w:World}{K:Nat->Option Obj}{R:Result->Shared->Prop}{m:Nat}{s:Shared}{L:aA}{N:Nat}
theorem Ct{b c:aU}{t u:Tok}(hz:b.size+c.size<=16777216)(h:∀t' k,R (.ok (.ret (.bytes (b++c) t'))) {s with toks:=k}):
  qj prog w m (.builtin "bytes.__add__" ⟨[.bytes b t,.bytes c u],[]⟩) R s:=
 qi (by decide+kernel) FB.entry_bytes_add (KBy.gives_bytes_add (b:=b) (c:=c) (t:=t) (u:=u) (KBy.tooLong_not hz)).meets λA=>by
  show Made.post _ _ s;by_cases hb:b.isEmpty=true
  ·rw [if_pos hb];have:b++c=c:=by simp_all
   rw [this]at h;exact h u s.toks
  ·rw [if_neg hb];by_cases hc:c.isEmpty=true
   ·rw [if_pos hc];have:b++c=b:=by simp_all
    rw [this]at h;exact h t s.toks
   ·rw [if_neg hc];exact⟨by rw [sizeLine_eq,Array.size_append];exact hz,h _ _⟩
end
end Mine
end
section
open PySem PySem.W PyProof.Rows
namespace Mine
abbrev aj:=Nat->Option Obj
def aj.le(F F':aj):Prop:=∀a o,F a=some o->F' a=some o
theorem aj.le.refl(F:aj):F.le F:=λJ J e=>e
theorem aj.le.trans{F F' tG:aj}(h:F.le F')(h':F'.le tG):F.le tG:=λa o e=>h' a o (h a o e)
structure aZ where
 L:aA
 G:aA
 N:Nat
 t:Nat
set_option genInjectivity true in
inductive cp where
 |n (a:Nat)
 |s (a:String)
 |t (a:Str)
 |c (c:Code)
 |v (v:Value)
 |o (o:Obj)
 |l (l:aA)
 |r (r:Result)
 |p (p:Option (Addr × Obj))
 |q (k:List (Code × Pos)->Sem Fin)
abbrev ax:=List (cp × cp)
def aY(ds:ax):Prop:=∀p∈ds,p.1=p.2
noncomputable def bk(n:Nat):ax:=[(.n 0,.n (n+1))]
structure aL where
 F:aj
 N:Nat
 t:Nat
 k:Nat->Nat
 x:Nat->aU
 v:Nat->Value
 o:Nat->Obj
 l:Nat->aV
 p:Pos
 st:List (Code × Pos)
structure az where
 aX:Nat
 code:Code->Code
 led:aZ->ax
 res:aL->aZ->Result
 fH:aL->aZ->aZ
 d5:aj->aL->Prop
inductive bE where
 |ret (r:Result) (d4:aZ->ax)
 |again (aX:Nat) (c:Code) (d4:aZ->ax)
 |hk (h:az) (k:aL->bE)
 |C7 (h:az) (k:aL->bE)
 |two (h1 h2:az) (tT:List Nat) (k1:aL->bE) (rx:List Nat) (k2:aL->bE)
theorem rA{α β:Type}{o:Option α}{f:α->Option β}{x:β}{C:Prop}(h:o.bind f=some x)(k:∀a,o=some a->f a=some x->C):C:=by
 cases o with
 |none=>cases h
 |some a=>exact k a rfl h
theorem U4{α:Type}{b:Bool}{o:Option α}{x:α}{C:Prop}(h:(cond b none o)=some x)(k:b=false->o=some x->C):C:=by
 cases b with
 |false=>exact k rfl h
 |true=>cases h
def iA(K:Nat->Option Obj)(s:aZ)(a:Addr)(j:Nat):Option (Obj × ax):=
 Nat.rec ((K a).bind λo=>some (o,[])) (λj J=>(bP (cond (Nat.beq (j%2) 0) s.L s.G) (j/2)).bind λp=>some (p.2,[(.n a,.n p.1)])) j
def wb:Code->Bool
 | .builtin .. =>true
 |_=>false
def U1(c:Code):Addr × Args:=match c with
 | .call (.ref a) args=>(a,args)
 |_=>(0,⟨[],[]⟩)
def U0(c:Code):Args:=match c with
 | .builtin _ args=>args
 |_=>⟨[],[]⟩
def qn(d:Data):FuncData:=match d with
 | .func fd=>fd
 |_=>default
def UZ(d:Data):aV:=match d with
 | .fields vs=>vs
 |_=> #[]
def U7(b:FuncBody):List Stmt:=match b with
 | .stmts b=>b
 | .expr _=>[]
def U3(v:Value):Addr:=match v with
 | .ref a=>a
 |_=>0
def U5(v:Value):Nat:=match v with
 | .str _ t=>t
 |_=>0
def Rd(o:Option Value):Value:=o.getD .none
def kf(K:Nat->Option Obj)(c:Code)(sc:List Nat)(s:aZ):Option (Sem Fin × List Nat × ax):=
 List.rec none (λx sc J=>Nat.rec none (λx J=>Nat.rec (cond (wb c) none (some (den c,sc,[]))) (λx J=>Nat.rec
  ((iA K s (U1 c).1 (sc.headD 0)).bind λo=>(iA K s (U3 (qn o.1.data).code) (sc.tail.headD 0)).bind λoc=>
   some (oK (U1 c).1 (qn o.1.data) (U7 (qn o.1.data).body) (U1 c).2,sc.tail.tail,(.c c,.c (.call (.ref (U1 c).1) (U1 c).2))::
    (.o o.1,.o {o.1 with data:= .func {qn o.1.data with body:= .stmts (U7 (qn o.1.data).body),scope:={(qn o.1.data).scope with isCoroutine:=false,isGenerator:=false},code:= .ref (U3 (qn o.1.data).code)}})::
    (.o oc.1,.o {oc.1 with data:= .fields (UZ oc.1.data)})::(.v (Rd (bP (UZ oc.1.data).toList 1)),.v (.str (qn o.1.data).qualname (U5 (Rd (bP (UZ oc.1.data).toList 1)))))::(o.2++oc.2)))
  (λi J=>(bP gp i).bind λg=>some (den (.builtin g (U0 c)),sc,[(.c c,.c (.builtin g (U0 c)))])) x) x) x) sc
def nP(c:Code)(sc:List Nat):Option (List Nat × ax):=
 cond (wb c) ((bP gp (sc.headD 0+1)).bind λg=>some (sc.tail,[(.c c,.c (.builtin g (U0 c)))])) (some (sc,[]))
noncomputable def isZero:List Nat->Bool
 |0::_=>true
 |_=>false
noncomputable def pairs(h:az)(c:Code)(s:aZ):ax:=(.c c,.c (h.code c))::h.led s
noncomputable def pz(p:bE)(r:Result)(s:aZ):ax:=
 match p with
 | .ret r' d4=>(.r r,.r r')::d4 s
 |_=>bk 30
noncomputable def vx(c:Code)(sc:List Nat):Option Code:=match sc with
 |2::_=>none
 |_=>some c
abbrev Fq:=List (Option Code × (Result->Sem Fin))
abbrev Un:=Nat->List Nat->bE->(Nat->aL)->Option Code->Sem Fin->Fq->aZ->ax
def oC{α:Type}(l:List α)(n:Nat)(f:α->List α->ax):ax:=match l with
 |[]=>bk n
 |a::l=>f a l
def oE{α:Type}(l:List α)(n:Nat)(x:ax):ax:=match l with
 |[]=>x
 |_::_=>bk n
def oS{α:Type}(x:Option α)(n:Nat)(f:α->ax):ax:=match x with
 |none=>bk n
 |some a=>f a
def oN{α:Type}(x:Option α)(n:Nat)(f:ax):ax:=match x with
 |none=>f
 |some _=>bk n
def oB(b:Bool)(n:Nat)(f:ax):ax:=match b with
 |true=>f
 |false=>bk n
def oF(b:Bool)(n:Nat)(f:ax):ax:=match b with
 |true=>bk n
 |false=>f
noncomputable def o2(b:Bool)(x y:ax):ax:=match b with
 |true=>x
 |false=>y
def oD(d:Nat)(n:Nat)(f:Nat->ax):ax:=match d with
 |0=>bk n
 |d+1=>f d
noncomputable def oP(p:bE)(c:Code)(A:Nat->Code->(aZ->ax)->ax)(B:az->(aL->bE)->ax)(T:az->az->List Nat->(aL->bE)->List Nat->(aL->bE)->ax):ax:=match p with
 | .again l c' k=>A l c' k
 | .hk h k=>B h k
 | .two h1 h2 tT k1 rx k2=>T h1 h2 tT k1 rx k2
 |_=>[(.c c,.n 0)]
def Tj(K:Nat->Option Obj)(g:Setting)(Z:Un):Un:=λd sc p aa cur t fs s=>match t with
  | .pure fin=>match fin with
   | .done f=>match fs with
    |[]=>pz p (.ok f) s
    |k::j8=>Z (d+1) sc p aa k.1 (k.2 (.ok f)) j8 s
   | .again c=>o2 (isZero sc)
    (oS (nP c sc.tail) 12 λq=>oP p c
     (λaX c' d4=>oE fs 14 (oB (Nat.ble aX (d+1)) 13 ((.c c,.c c')::(q.2++d4 s))))
     (λh kp=>oB (Nat.ble h.aX (d+1)) 15 ((pairs h c s++q.2)++match fs with
      |[]=>pz (kp (aa 0)) (h.res (aa 0) s) (h.fH (aa 0) s)
      |k::j8=>Z (d+1) q.1 (kp (aa 0)) (λi=>aa (i+1)) k.1 (k.2 (h.res (aa 0) s)) j8 (h.fH (aa 0) s)))
     λJ J J J J J=>[(.c c,.n 0)])
    (oS (kf K c sc s) 10 λx=>oF (HN sc) 11 (x.2.2++Z d x.2.1 p aa (vx c sc) x.1 fs s))
  | .raise e=>match fs with
   |[]=>pz p (.error e) s
   |k::j8=>Z (d+1) sc p aa k.1 (k.2 (.error e)) j8 s
  | .rule _ k=>Z d sc p aa cur (k ()) fs s
  | .at _ k=>Z d sc p aa cur (k ()) fs s
  | .point _ k=>Z d sc p aa cur (k ()) fs s
  | .ask k=>Z d sc p aa cur (k g) fs s
  | .fresh k=>Z d sc p aa cur (k s.t) fs ⟨s.L,s.G,s.N,s.t+1⟩
  | .handled own k=>oF own 7 (Z d sc p aa cur (k none) fs s)
  | .load a _ k=>oC sc 1 λj sc=>oS (iA K s a j) 2 λx=>x.2++Z d sc p aa cur (k x.1) fs s
  | .loadIfAlive a k=>oC sc 1 λj sc=>oS (iA K s a j) 2 λx=>x.2++Z d sc p aa cur (k (some x.1)) fs s
  | .update a _ f k=>oC sc 1 λj sc=>oB (Nat.beq (j%2) 1) 4 (oS (bP s.L (j/2)) 3 λq=>oF (f q.2).isFreed 5 ((.n a,.n q.1)::Z d sc p aa cur (k ()) fs ⟨bg s.L (j/2) (f q.2),s.G,s.N,s.t⟩))
  | .alloc o k=>oF o.isFreed 5 (Z d sc p aa cur (k s.N) fs ⟨eO s.L s.N o,s.G,s.N+1,s.t⟩)
  | .call c hd _ _ k=>oN hd 8 (o2 (isZero sc)
   (oP p c (λJ J J=>[(.c c,.n 0)])
    (λh kp=>oB (Nat.ble h.aX d) 17 (pairs h c s++Z d sc.tail (kp (aa 0)) (λi=>aa (i+1)) cur (k (h.res (aa 0) s)) fs (h.fH (aa 0) s)))
    λh1 h2 tT k1 rx k2=>oB (Nat.ble h1.aX d) 17 (pairs h1 c s++(Z d tT (k1 (aa 0)) (λi=>aa (i+1)) cur (k (h1.res (aa 0) s)) fs (h1.fH (aa 0) s)++
     Z d rx (k2 (aa 0)) (λi=>aa (i+1)) cur (k (h2.res (aa 0) s)) fs (h2.fH (aa 0) s))))
   (oS (kf K c sc s) 19 λx=>oD d 6 λd=>x.2.2++Z d x.2.1 p aa (vx c sc) x.1 ((cur,k)::fs) s))
  | .stack k=>oS cur 20 λc=>Z d sc p (λi=>aa (i+1)) cur (k ((c,(aa 0).p)::(aa 0).st)) fs s
  |_=>bk 9
noncomputable def Ue(K:Nat->Option Obj)(g:Setting):Nat->Un
 |0=>λJ J J J J J J J=>bk 0
 |n+1=>Tj K g (Ue K g n)
theorem aY.nil:aY []:=λJ h=>by cases h
theorem aY.iK{a b:ax}:aY (a++b)↔aY a/\aY b:=
 ⟨λh=>⟨λp hp=>h p (List.mem_append_left _ hp),λp hp=>h p (List.mem_append_right _ hp)⟩,λh p hp=>(List.mem_append.mp hp).elim (h.1 p) (h.2 p)⟩
theorem aY.cons{q:cp × cp}{b:ax}:aY (q::b)↔q.1=q.2/\aY b:=
 ⟨λh=>⟨h _ (.head _),λp hp=>h p (.tail _ hp)⟩,λh p hp=>by
  rcases List.mem_cons.mp hp with rfl|hp
  ·exact h.1
  ·exact h.2 p hp⟩
theorem ae{n:Nat}:¬aY (bk n):=λh=>by have:=h _ (.head _);cases this
theorem mE{c:Code}{n:Nat}:¬aY [(.c c,.n n)]:=λh=>by have:=h _ (.head _);cases this
theorem bV{h:az}{c:Code}{s:aZ}(x:aY (pairs h c s)):c=h.code c/\aY (h.led s):=
 ⟨cp.c.inj (aY.cons.mp x).1,(aY.cons.mp x).2⟩
end Mine
namespace Mine
abbrev RB:=Nat->aL
end Mine
end
variable {R:Mine.aA}{F:Mine.aj}
section
open PySem PySem.W PyProof.Rows
namespace Mine
structure bO(K:Nat->Option Obj)(F:aj)(R:aA)(h:Heap)(s:aZ):Prop where
 size:h.objs.size=s.N
 mem:∀p∈s.L++R,h.get? p.1=some p.2
 nd:((s.L++R).map (·.1)).Nodup
 old:∀p∈s.L++R,F p.1=none
 gO:∀a o,K a=some o->F a=some o
 fix:∀a o,F a=some o->h.get? a=some o
 gs:∀p∈s.G,F p.1=some p.2
section
variable{K:Nat->Option Obj}{F:aj}{R:aA}{h:Heap}{s:aZ}
theorem bO.lt(x:bO K F R h s){p:Addr × Obj}(hp:p∈s.L++R):p.1<s.N:=x.size▸Heap.lt_size (x.mem p hp)
theorem bO.Dj(x:bO K F R h s){a:Addr}{o:Obj}(e:F a=some o):a<s.N:=x.size▸Heap.lt_size (x.fix a o e)
theorem bO.none(x:bO K F R h s){a:Addr}(ha:s.N<=a):F a=none:=by
 cases e:F a with
 |none=>rfl
 |some o=>exact absurd (x.Dj e) (Nat.not_lt.mpr ha)
theorem bO.toks(x:bO K F R h s)(t:Nat):bO K F R h ⟨s.L,s.G,s.N,t⟩:=⟨x.size,x.mem,x.nd,x.old,x.gO,x.fix,x.gs⟩
theorem bO.r9(x:bO K F R h s){L' R':aA}(hp:(s.L++R).Perm (L'++R')):bO K F R' h ⟨L',s.G,s.N,s.t⟩:=
 ⟨x.size,λp q=>x.mem p (hp.mem_iff.mpr q),(hp.map (·.1)).nodup_iff.mp x.nd,λp q=>x.old p (hp.mem_iff.mpr q),x.gO,x.fix,x.gs⟩
theorem vL(L R:aA)(a:Addr)(o:Obj):((a,o)::(L++R)).Perm (eO L a o++R):=by rw [jm,List.append_assoc];exact List.perm_middle.symm
theorem bO.alloc(x:bO K F R h s){o:Obj}(hf:o.isFreed=false):bO K F R (h.push o) ⟨eO s.L s.N o,s.G,s.N+1,s.t⟩:=by
 have hp:=vL s.L R s.N o;refine⟨?_,?_,?_,?_,x.gO,λa o e=>Heap.get?_push_of_some _ (x.fix a o e),x.gs⟩
 ·rw [Heap.size_push,x.size]
 ·intro p q;rcases List.mem_cons.mp (hp.mem_iff.mpr q)with rfl|q
  ·show(h.push o).get? s.N=_;rw [<-x.size];exact Heap.get?_push_size _ hf
  ·exact Heap.get?_push_of_some _ (x.mem p q)
 ·refine((hp.map (·.1)).nodup_iff).mp ?_;rw [List.map_cons,List.nodup_cons];refine⟨λq=> ?_,x.nd⟩;obtain⟨p,hq,e⟩:=List.mem_map.mp q;have:=x.lt hq;rw [e]at this;exact Nat.lt_irrefl _ this
 ·intro p q;rcases List.mem_cons.mp (hp.mem_iff.mpr q)with rfl|q
  ·exact x.none nr
  ·exact x.old p q
theorem d7:∀(l:aA) (n:Nat) (p:Addr × Obj),bP l n=some p->∃l':aA,List.Perm l (p::l')/\∀o,List.Perm (bg l n o) ((p.1,o)::l')
 |[],n,p,e=>by cases n<;>cases e
 |a::l,0,p,e=>by have e:a=p:=Option.some.inj e;subst e;exact⟨l,List.Perm.refl _,λo=>List.Perm.refl _⟩
 |a::l,n+1,p,e=>by obtain⟨l',hl,ho⟩:=d7 l n p e;refine⟨a::l',(List.Perm.cons a hl).trans (List.Perm.swap p a l'),λo=> ?_⟩;exact(List.Perm.cons a (ho o)).trans (List.Perm.swap (p.1,o) a l')
theorem bO.update(x:bO K F R h s){j:Nat}{p:Addr × Obj}{f:Obj->Obj}(hj:bP s.L j=some p)(hf:(f p.2).isFreed=false):bO K F R (h.update p.1 f) ⟨bg s.L j (f p.2),s.G,s.N,s.t⟩:=by
 obtain⟨l',hl,ho⟩:=d7 _ _ _ hj;have hl:=hl.append_right R;have ho:=(ho (f p.2)).append_right R;rw [List.cons_append]at hl ho;have ip:p∈s.L++R:=hl.mem_iff.mpr (.head _);have hs:Heap.SameBut p.1 h (h.update p.1 f):=Heap.SameBut.update ..;have ge:(h.update p.1 f).get? p.1=some (f p.2):=by first|exact Heap.get?_update_self f (x.mem p ip) hf|exact Heap.get?_update_self _ (x.mem p ip) hf
 have nd:=((hl.map (·.1)).nodup_iff).mp x.nd;rw [List.map_cons,List.nodup_cons]at nd;have key:∀q∈l'++R,q.1≠p.1:=λq hq e=>nd.1 (e▸List.mem_map_of_mem (f:=(·.1)) hq);refine⟨by rw [hs.1,x.size],?_,?_,?_,x.gO,?_,x.gs⟩
 ·intro q hq;rcases List.mem_cons.mp (ho.mem_iff.mp hq)with rfl|hq
  ·exact ge
  ·exact(hs.2 _ (key q hq)).trans (x.mem q (hl.mem_iff.mpr (.tail _ hq)))
 ·refine((ho.map (·.1)).nodup_iff).mpr ?_;rw [List.map_cons,List.nodup_cons];exact nd
 ·intro q hq;rcases List.mem_cons.mp (ho.mem_iff.mp hq)with rfl|hq
  ·exact x.old p ip
  ·exact x.old q (hl.mem_iff.mpr (.tail _ hq))
 ·intro a o e;refine(hs.2 _ ?_).trans (x.fix a o e);rintro rfl;rw [x.old p ip]at e;cases e
theorem bO.d4(x:bO K F R h s){a:Addr}{j:Nat}{q:Obj × ax}(e:iA K s a j=some q)(hq:aY q.2):h.get? a=some q.1:=by
 cases j with
 |zero=>refine rA e λo ho e=> ?_;cases e;exact x.fix _ _ (x.gO _ _ ho)
 |succ j=>
  refine rA e λp hp e=> ?_;cases e;rw [show a=p.1 from cp.n.inj (aY.cons.mp hq).1];cases hb:Nat.beq (j%2) 0 with
  |true=>rw [hb]at hp;exact x.mem _ (List.mem_append_left _ (aJ hp))
  |false=>rw [hb]at hp;exact x.fix _ _ (x.gs _ (aJ hp))
end
def vJ{α:Type}(M:Model)(A:Around)(oc:Option Code)(t:Sem α)(Q:α->Shared->Prop)(E:Value->Shared->Prop)(s:Shared):Prop:=
 ∀Γ p,(∀c,oc=some c->Γ.code=c)->Γ.In A->Sem.wp M Γ t (λa J s'=>Q a s') (λe J s'=>E e s') p s
section
variable{α β:Type}{M:Model}{A:Around}{oc:Option Code}{E:Value->Shared->Prop}{s:Shared}
theorem iM{t:Sem α}{Q:α->Shared->Prop}(h:wpAny M A t Q E s):vJ M A oc t Q E s:=λΓ p J hΓ=>h Γ p hΓ
theorem mV{t:Sem α}{Q:α->Shared->Prop}(h:vJ M A none t Q E s):wpAny M A t Q E s:=λΓ p hΓ=>h Γ p (λJ h=>by cases h) hΓ
theorem Dy{c:Code}{t:Sem α}{Q:α->Shared->Prop}(h:vJ M A (some c) t Q E s):PySem.wpAt M A c t Q E s:=λΓ p hc hΓ=>h Γ p (λc' h=>by cases h;exact hc) hΓ
theorem fu{m:Sem α}{f:α->Sem β}{Q:β->Shared->Prop}(h:wpAny M A m (λa s'=>vJ M A oc (f a) Q E s') E s):vJ M A oc (m>>=f) Q E s:=λΓ p hc hΓ=>by rw [Sem.wp_bind'];exact Sem.wp_mono M Γ m (λa p' s' h'=>h' Γ p' hc hΓ) (λJ J J h'=>h') p s (h Γ p hΓ)
theorem vI{c:Code}{k:List (Code × Pos)->Sem α}{Q:α->Shared->Prop}(h:∀p below,vJ M A (some c) (k ((c,p)::below)) Q E s):vJ M A (some c) (.stack k) Q E s:=λΓ p hc hΓ=>by show Sem.wp M Γ (k ((Γ.code,p)::Γ.below)) _ _ p s;have e:=hc c rfl;rw [e];exact h p Γ.below Γ p hc hΓ
end
section
variable{prog:Program}{w:World}{α:Type}{A:Around}{oc:Option Code}{E:Value->Shared->Prop}{s:Shared}
theorem ko{c:Code}{g:Bool}{l:List Value}{k:Result->Sem α}{Q:α->Shared->Prop}(hc:codeAny (model prog w) (A.mark none) c (λr s'=>vJ (model prog w) A oc (k r) Q E s') s):
  vJ (model prog w) A oc (.call c none g l k) Q E s:=λΓ p EW hΓ=>wpCode_mono (λJ J q=>q Γ p EW hΓ) (hc _ p rfl (hΓ.enter c none p (by intro x;cases x)))
end
section
variable(prog:Program)(w:World)
def lA(R:Result->Shared->Prop):Fq->Nat->Result->Shared->Prop
 |[],_,r,s=>R r s
 |k::fs,n,r,s=>∀A,ff n A->vJ (model prog w) A k.1 (k.2 r) (λfin s'=>match fin with
  | .done f=>lA R fs (n+1) (.ok f) s'
  | .again c=>c.quiet=true/\s'.heap.NoLimit/\qj prog w (n+1) c (lA R fs (n+1)) s') (λe s'=>lA R fs (n+1) (.error e) s') s
def Ae(R:Result->Shared->Prop)(fs:Fq)(n:Nat)(cur:Option Code)(t:Sem Fin)(s:Shared):Prop:=
 ∀A,ff n A->vJ (model prog w) A cur t (λfin s'=>match fin with
  | .done f=>lA prog w R fs (n+1) (.ok f) s'
  | .again c=>c.quiet=true/\s'.heap.NoLimit/\qj prog w (n+1) c (lA prog w R fs (n+1)) s') (λe s'=>lA prog w R fs (n+1) (.error e) s') s
end
section
variable{prog:Program}{w:World}
theorem Te{c:Code}(hl:eM c){R:Result->Shared->Prop}{fs:Fq}{n:Nat}{s:Shared}
  (H:Ae prog w R fs n (some c) (den c) s):qj prog w (n+1) c (lA prog w R fs (n+1)) s:=λA hA=>by
 refine PySem.codeAny_of_treeAt ?_;rw [show(model prog w).den c=den c from congrFun uH c];exact PySem.wpAt_mono (Dy (H _ (hA.under hl))) (λfin s' h=>by
  cases fin with
  |done f=>exact h
  |again c'=>exact⟨h.1,h.2.2 A hA⟩) λJ J h=>h
end
section
variable(w:World)(R:aA)
def bI(os:OsState)(F:aj)(ai:Result->aj->aZ->Prop):Result->Shared->Prop:=λr s'=>
 ∃F' ah,F.le F'/\bO (H.KP w.params) F' R s'.heap ah/\s'.toks=ah.t/\s'.os=os/\ai r F' ah
def aD(F:aj)(st:aZ)(aX:Nat)(c:Code)(ai:Result->aj->aZ->Prop):Prop:=
 ∀h g dr os,bO (H.KP w.params) F R h st->qj H.pw w aX c (bI w R os F ai) ⟨h,g,dr,st.t,os⟩
def az.post(h:az)(F:aj)(st:aZ)(r:Result)(F':aj)(ah:aZ):Prop:=∃a:aL,a.F=F'/\h.d5 F a/\r=h.res a st/\ah=h.fH a st
def az.OK(F:aj)(h:az):Prop:=∀c st,c=h.code c->aY (h.led st)->aD w R F st h.aX c (h.post F st)
def MX(F:aj)(st:aZ)(aX:Nat)(c:Code)(ai:Result->aj->aZ->Prop):Prop:=
 ∀h g dr os,bO (H.KP w.params) F R h st->qj H.pw w aX c (λr s'=>bI w R os F ai r s'/\s'.gens=g) ⟨h,g,dr,st.t,os⟩
def az.J'(F:aj)(h:az):Prop:=∀c st,c=h.code c->aY (h.led st)->MX w R F st h.aX c (h.post F st)
def az.Dt(F:aj)(h1 h2:az):Prop:=∀c st,c=h1.code c->aY (h1.led st)->aD w R F st h1.aX c λr F' ah=>h1.post F st r F' ah\/h2.post F st r F' ah
variable(ai:Result->aj->aZ->Prop)
def VC:aj->bE->Prop
 |F,.ret r d4=>∀h st,bO (H.KP w.params) F R h st->aY (d4 st)->∃F' ah,F.le F'/\bO (H.KP w.params) F' R h ah/\ah.t=st.t/\ai r F' ah
 |F,.again aX c d4=>∀st,aY (d4 st)->aD w R F st aX c ai
 |F,.hk h k=>h.OK w R F/\∀a,F.le a.F->h.d5 F a->VC a.F (k a)
 |F,.C7 h k=>h.J' w R F/\∀a,F.le a.F->h.d5 F a->VC a.F (k a)
 |F,.two h1 h2 _ k1 _ k2=>h1.Dt w R F h2/\
   (∀a,F.le a.F->h1.d5 F a->VC a.F (k1 a))/\∀a,F.le a.F->h2.d5 F a->VC a.F (k2 a)
end
noncomputable def eL(a:aL)(aa:RB):Nat->aL
 |0=>a
 |i+1=>aa i
noncomputable def oz:Nat->aL:=λJ=>⟨λJ=>none,0,0,λJ=>0,λJ=> #[],λJ=> .none,λJ=>⟨.none,.none,.fields #[],#[]⟩,λJ=> #[],⟨0,0,0,0⟩,[]⟩
noncomputable def aR(n d:Nat)(sc:List Nat)(p:bE)(aa:RB)(c:Code)(s:aZ):ax:=
 match kf (H.KP w.params) c sc s with
 |some (t,Tx,ds)=>ds++Ue (H.KP w.params) ⟨H.pw,w.params⟩ n d Tx p aa (vx c sc) t [] s
 |none=>bk 21
section
variable{w:World}{K:Nat->Option Obj}{F:aj}{R:aA}
theorem U2{vs:aV}{n:Nat}{q:Str}{t:Nat}(h:Rd (bP vs.toList n)= .str q t):vs[n]? =some (.str q t):=by
 have e2:vs.toList[n]? =vs[n]? :=by simp
 rw [eU,e2]at h;cases e:vs[n]? with
 |none=>rw [e]at h;cases h
 |some v=>rw [e]at h;exact congrArg some h
theorem mw{prog:Program}{h:Heap}{s:aZ}(R₀:bO K F R h s){c:Code}{sc:List Nat}{x:Sem Fin × List Nat × ax}(e:kf K c sc s=some x)
  (hd:aY x.2.2) {g:Array GenState} {dr:Drawn} {os:OsState} {Rr:Result->Shared->Prop} {fs:Fq} {n:Nat}
  (H:Ae prog w Rr fs n (vx c sc) x.1 ⟨h,g,dr,s.t,os⟩):(HN sc=false->c.quiet=true)/\qj prog w (n+1) c (lA prog w Rr fs (n+1)) ⟨h,g,dr,s.t,os⟩:=by
 cases sc with
 |nil=>cases e
 |cons x sc=>
 rcases x with _|_|_|i
 ·cases e
 ·refine U4 e λhb e=> ?_;cases e;have dY:∀id args,c≠.builtin id args:=λid args h=>by rw [h]at hb;cases hb
  exact⟨λJ=>hV dY,Te (cR dY) H⟩
 ·refine rA e λo e1 e=>rA e λoc e2 e=> ?_;cases e;have h1:=aY.cons.mp hd;have h2:=aY.cons.mp h1.2;have h3:=aY.cons.mp h2.2;have h4:=aY.cons.mp h3.2;have h5:=aY.iK.mp h4.2;have Q6:=congrArg Obj.data (cp.o.inj h2.1);have zr:=congrArg qn Q6;rw [cp.c.inj h1.1];exact⟨λJ=>rfl,uE (fs:=[]) (R:=lA prog w Rr fs (n+1)) (R₀.d4 e1 h5.1) (Q6.trans (congrArg Data.func zr.symm)) (congrArg (λf=>f.scope.isCoroutine) zr) (congrArg (λf=>f.scope.isGenerator) zr) (congrArg (·.body) zr) (congrArg (·.code) zr)
   (R₀.d4 e2 h5.2) (congrArg Obj.data (cp.o.inj h3.1)) (U2 (cp.v.inj h4.1)) λA hA=>wpAny_mono (mV (H A hA)) (λfin s' hf=>by cases fin<;>exact hf) λJ J x=>x⟩
 ·refine rA e λg hg e=> ?_;cases e;have hc:=cp.c.inj (aY.cons.mp hd).1;have H:Ae prog w Rr fs n (some c) (den (.builtin g (U0 c))) ⟨h,_,dr,s.t,os⟩:=H;rw [<-hc]at H;refine⟨λIi=> ?_,Te (by rw [hc];exact ou (aJ hg) _) H⟩;rw [hc];cases i with
  |zero=>cases Ii
  |succ i=>exact j7 (aJ (n:=i) hg) _
theorem fL{c:Code}{sc:List Nat}{x:List Nat × ax}(e:nP c sc=some x)(hd:aY x.2):c.quiet=true:=by
 cases hb:wb c with
 |false=>exact hV λid args h=>by rw [h]at hb;cases hb
 |true=>unfold nP at e;rw [hb]at e;refine rA e λg hg e=> ?_;cases e;rw [cp.c.inj (aY.cons.mp hd).1];exact j7 (aJ (l:=gp.tail) hg) _
theorem Bx{h:Heap}{s:aZ}(x:bO (H.KP w.params) F R h s):h.NoLimit:=
 H.Pg w.params h ⟨[],h.objs.size,0⟩ ⟨rfl,(by intro p hp;cases hp),List.nodup_nil,(by intro p hp;cases hp),λa o e=>x.fix a o (x.gO a o e)⟩
end
section
variable{w:World}{R:aA}{ai:Result->aj->aZ->Prop}{F₀:aj}{m:Nat}
theorem jB{p:bE}{r:Result}{s:aZ}{F:aj}{h:Heap}{g:Array GenState}{dr:Drawn}{os:OsState}(l:F₀.le F)(Rl:bO (H.KP w.params) F R h s)
  (hd:aY (pz p r s)) (V:VC w R ai F p):bI w R os F₀ ai r ⟨h,g,dr,s.t,os⟩:=by
 unfold pz at hd;split at hd
 ·rename_i r' d4;have h1:=aY.cons.mp hd;have:r=r':=cp.r.inj h1.1;subst this;obtain⟨F',ah,hl,cu,ht,hp⟩:=V h s Rl h1.2;exact⟨F',ah,l.trans hl,cu,ht.symm,rfl,hp⟩
 ·exact(ae hd).elim
theorem bI.up{F F':aj}(l:F.le F'){os:OsState}{r:Result}{s:Shared}(h:bI w R os F' ai r s):bI w R os F ai r s:=by obtain⟨tG,ah,hl,h⟩:=h;exact⟨tG,ah,l.trans hl,h⟩
variable{F:aj}{hk LH:az}{s:aZ}{os:OsState}{Q:Result->Shared->Prop}in
theorem p7(hA:∀(a:aL) (h':Heap) (g':Array GenState) Rm,F.le a.F->bO (H.KP w.params) a.F R h' (hk.fH a s)->hk.d5 F a->Q (hk.res a s) ⟨h',g',Rm,(hk.fH a s).t,os⟩):∀r s',bI w R os F (hk.post F s) r s'->Q r s':=λr s' x=>by obtain⟨F',ah,hl,cu,ht,ho,a,rfl,hf,rfl,rfl⟩:=x;obtain⟨h',g',Rm,t',f6⟩:=s';obtain rfl:t'=(hk.fH a s).t:=ht;obtain rfl:f6=os:=ho;exact hA a h' g' Rm hl cu hf
variable{F:aj}{hk LH:az}{s:aZ}{os:OsState}{Q:Result->Shared->Prop}in
theorem Tq{g:Array GenState}(hA:∀(a:aL) (h':Heap) Rm,F.le a.F->bO (H.KP w.params) a.F R h' (hk.fH a s)->hk.d5 F a->Q (hk.res a s) ⟨h',g,Rm,(hk.fH a s).t,os⟩):∀r s',bI w R os F (hk.post F s) r s'/\s'.gens=g->Q r s':=λr s' x=>by refine p7 (Q:=λr s'=>s'.gens=g->Q r s') (λa h' g' Rm hl cu hf e=> ?_) r s' x.1 x.2;obtain rfl:g'=g:=e;exact hA a h' Rm hl cu hf
variable{F:aj}{hk LH:az}{s:aZ}{os:OsState}{Q:Result->Shared->Prop}in
theorem SX(hA:∀(a:aL) (h':Heap) (g':Array GenState) Rm,F.le a.F->bO (H.KP w.params) a.F R h' (hk.fH a s)->hk.d5 F a->Q (hk.res a s) ⟨h',g',Rm,(hk.fH a s).t,os⟩)(hB:∀(a:aL) (h':Heap) (g':Array GenState) Rm,F.le a.F->bO (H.KP w.params) a.F R h' (LH.fH a s)->LH.d5 F a->Q (LH.res a s) ⟨h',g',Rm,(LH.fH a s).t,os⟩):∀r s',bI w R os F (λr F' ah=>hk.post F s r F' ah\/LH.post F s r F' ah) r s'->Q r s':=λr s' x=>by
 obtain⟨F',ah,hl,cu,ht,ho,hp|hp⟩:=x
 ·exact p7 hA _ _ ⟨F',ah,hl,cu,ht,ho,hp⟩
 ·exact p7 hB _ _ ⟨F',ah,hl,cu,ht,ho,hp⟩
theorem eR{a b:(Nat->aL)->ax}(h:∀o,aY (a o++b o)):∀o,aY (b o):=λo=>(aY.iK.mp (h o)).2
theorem eC{a:(Nat->aL)->cp × cp}{b:(Nat->aL)->ax}(h:∀o,aY (a o::b o)):∀o,aY (b o):=λo=>(aY.cons.mp (h o)).2
variable(w R F₀ ai m)in
abbrev T9(Z:Un):Prop:=∀{d:Nat} {sc:List Nat} {p:bE} {cur:Option Code} {t:Sem Fin} {fs:Fq} {s:aZ} {F:aj} {h:Heap} {g:Array GenState} {dr:Drawn} {os:OsState},F₀.le F->bO (H.KP w.params) F R h s->
  (∀aa,aY (Z d sc p aa cur t fs s))->VC w R ai F p->Ae H.pw w (bI w R os F₀ ai) fs (m+d) cur t ⟨h,g,dr,s.t,os⟩
section
variable{n:Nat}{C:Prop}
theorem iC{α:Type}{l:List α}{f:(Nat->aL)->α->List α->ax}(h:∀o,aY (oC l n (f o)))(k:∀a l',l=a::l'->(∀o,aY (f o a l'))->C):C:=by
 cases l with
 |nil=>cases ae (h oz)
 |cons a l=>exact k a l rfl h
theorem iE{α:Type}{l:List α}{f:(Nat->aL)->ax}(h:∀o,aY (oE l n (f o)))(k:l=[]->(∀o,aY (f o))->C):C:=by
 cases l with
 |nil=>exact k rfl h
 |cons a l=>cases ae (h oz)
theorem iS{α:Type}{x:Option α}{f:(Nat->aL)->α->ax}(h:∀o,aY (oS x n (f o)))(k:∀a,x=some a->(∀o,aY (f o a))->C):C:=by
 cases x with
 |none=>cases ae (h oz)
 |some a=>exact k a rfl h
theorem iN{α:Type}{x:Option α}{f:(Nat->aL)->ax}(h:∀o,aY (oN x n (f o)))(k:x=none->(∀o,aY (f o))->C):C:=by
 cases x with
 |none=>exact k rfl h
 |some a=>cases ae (h oz)
theorem iB{b:Bool}{f:(Nat->aL)->ax}(h:∀o,aY (oB b n (f o)))(k:b=true->(∀o,aY (f o))->C):C:=by
 cases b with
 |true=>exact k rfl h
 |false=>cases ae (h oz)
theorem iF{b:Bool}{f:(Nat->aL)->ax}(h:∀o,aY (oF b n (f o)))(k:b=false->(∀o,aY (f o))->C):C:=by
 cases b with
 |true=>cases ae (h oz)
 |false=>exact k rfl h
theorem i2{b:Bool}{f f':(Nat->aL)->ax}(h:∀o,aY (o2 b (f o) (f' o)))(k:b=true->(∀o,aY (f o))->C)(k':b=false->(∀o,aY (f' o))->C):C:=by
 cases b with
 |true=>exact k rfl h
 |false=>exact k' rfl h
theorem iD{d:Nat}{f:(Nat->aL)->Nat->ax}(h:∀o,aY (oD d n (f o)))(k:∀d',d=d'+1->(∀o,aY (f o d'))->C):C:=by
 cases d with
 |zero=>cases ae (h oz)
 |succ d=>exact k d rfl h
theorem iP{p:bE}{c:Code}{A:(Nat->aL)->Nat->Code->(aZ->ax)->ax}{B:(Nat->aL)->az->(aL->bE)->ax}{T:(Nat->aL)->az->az->List Nat->(aL->bE)->List Nat->(aL->bE)->ax}(h:∀o,aY (oP p c (A o) (B o) (T o)))
  (a:∀l c' k,p= .again l c' k->(∀o,aY (A o l c' k))->C) (b:∀h k,p= .hk h k->(∀o,aY (B o h k))->C) (t:∀h1 h2 tT k1 rx k2,p= .two h1 h2 tT k1 rx k2->(∀o,aY (T o h1 h2 tT k1 rx k2))->C):C:=by
 cases p with
 |again l c' k=>exact a l c' k rfl h
 |hk h' k=>exact b h' k rfl h
 |two h1 h2 tT k1 rx k2=>exact t h1 h2 tT k1 rx k2 rfl h
 |_=>exact(mE (h oz)).elim
end
theorem Ts{Z:Un}(ih:T9 w R ai F₀ m Z):T9 w R ai F₀ m (Tj (H.KP w.params) ⟨H.pw,w.params⟩ Z):= @λd sc p cur t fs s F h g dr os l Rl hd V=>by
 cases t with
 |pure fin=>
  cases fin with
  |done f=>
   cases fs with
   |nil=>exactλA hA=>iM (wpAny_pure (jB l Rl (hd oz) V))
   |cons k j8=>exactλA hA=>iM (wpAny_pure (ih (d:=d+1) l Rl hd V))
  |again c=>
   dsimp only [Tj]at hd;refine i2 hd ?_ ?_<;>clear hd<;>intro J hd
   ·refine iS hd ?_;clear hd;intro q eq hd;refine iP hd ?_ ?_ ?_<;>clear hd
    ·intro aX c' d4 e hd;refine iE hd ?_;clear hd;intro e1 hd;refine iB hd ?_;clear hd;intro hb hd;have h1:=aY.cons.mp (hd oz);have h2:=aY.iK.mp h1.2
     refineλA hA=>iM (wpAny_pure ⟨fL eq h2.1,Bx Rl,?_⟩)
     rw [show c=c' from cp.c.inj h1.1,e1];exact((((e▸V:VC w R ai F (.again aX c' d4)) s h2.2) h g dr os Rl).aT λr s' h'=>h'.up l).le (Nat.le_trans (Nat.le_of_ble_eq_true hb) (by lia))
    ·intro hk kp e hd;refine iB hd ?_;clear hd;intro hb hd;have h0:=aY.iK.mp (aY.iK.mp (hd oz)).1;obtain⟨p1,p2⟩:=bV h0.1;have V:VC w R ai F (.hk hk kp):=e▸V
     refineλA hA=>iM (wpAny_pure ⟨fL eq h0.2,Bx Rl,?_⟩)
     replace hd:=eR hd;refine(((V.1 c s p1 p2) h g dr os Rl).aT (p7 λa h' g' Rm hl cu hf=> ?_)).le (Nat.le_trans (Nat.le_of_ble_eq_true hb) (by lia));cases fs with
     |nil=>exact jB (l.trans hl) cu (hd (eL a oz)) (V.2 a hl hf)
     |cons k j8=>exact ih (d:=d+1) (l.trans hl) cu (λaa=>hd (eL a aa)) (V.2 a hl hf)
    ·exactλJ J J J J J J hd=>(mE (hd oz)).elim
   ·refine iS hd ?_;clear hd;intro x e hd;refine iF hd ?_;clear hd;intro el hd;have:=mw (prog:=H.pw) (w:=w) (Rr:=bI w R os F₀ ai) (fs:=fs) (n:=m+d) (g:=g) (dr:=dr) (os:=os) Rl e (aY.iK.mp (hd oz)).1 (ih l Rl (eR hd) V)
    exactλA hA=>iM (wpAny_pure ⟨this.1 el,Bx Rl,this.2⟩)
 |raise e=>
  cases fs with
  |nil=>exactλA hA=>iM (wpAny_throw (jB l Rl (hd oz) V))
  |cons k j8=>exactλA hA=>iM (wpAny_throw (ih (d:=d+1) l Rl hd V))
 |rule tg k=>exactλA hA=>fu (m:=rule tg) (f:=k) (wpAny_rule (ih l Rl hd V A hA))
 |«at» q k=>exactλA hA=>fu (m:=standAt q) (f:=k) (wpAny_standAt (ih l Rl hd V A hA))
 |point _ k=>exactλA hA Γ p hc hΓ=>ih l Rl hd V A hA Γ p hc hΓ
 |ask k=>exactλA hA=>fu (m:=ask) (f:=k) (wpAny_askSetting (ih l Rl hd V A hA))
 |fresh k=>exactλA hA=>fu (m:=fresh) (f:=k) (wpAny_fresh (ih (s:=⟨s.L,s.G,s.N,s.t+1⟩) l (Rl.toks _) hd V A hA))
 |handled own k=>cases own with
  |false=>exactλA hA=>fu (m:=handled) (f:=k) (wpAny_handled (by rw [hA.hd];exact ih l Rl hd V A hA))
  |true=>cases ae (hd oz)
 |load a q k=>dsimp only [Tj]at hd;exact iC hd λj Tx J hd=>iS hd λx e hd=>λA hA=>fu (m:=loadPart a q) (f:=k) (wpAny_loadPart (Rl.d4 e (aY.iK.mp (hd oz)).1) (ih l Rl (eR hd) V A hA))
 |loadIfAlive a k=>dsimp only [Tj]at hd;refine iC hd λj Tx J hd=>iS hd λx e hd=>λA hA Γ p hc hΓ=> ?_;show Sem.wp _ _ (k (h.get? a)) _ _ _ _;rw [Rl.d4 e (aY.iK.mp (hd oz)).1];exact ih l Rl (eR hd) V A hA Γ p hc hΓ
 |update a q f k=>
  dsimp only [Tj]at hd;refine iC hd λj Tx J hd=>iB hd λJ hd=>iS hd λp' e hd=>iF hd λe2 hd=> ?_;obtain rfl:=cp.n.inj (aY.cons.mp (hd oz)).1
  exactλA hA=>fu (m:=updatePart p'.1 q f) (f:=k) (wpAny_updatePart (Rl.mem _ (List.mem_append_left _ (aJ e))) (ih l (Rl.update e e2) (eC hd) V A hA))
 |alloc o k=>dsimp only [Tj]at hd;refine iF hd λe hd A hA=>fu (m:=alloc o) (f:=k) (wpAny_alloc ?_);have es:h.objs.size=s.N:=Rl.size;show vJ _ _ _ (k h.objs.size) _ _ _;rw [es];exact ih l (Rl.alloc e) hd V A hA
 |call c wh gd l' k=>
  dsimp only [Tj]at hd;refine iN hd ?_;clear hd;intro e0 hd;refine i2 hd ?_ ?_<;>clear hd<;>intro J hd A hA<;>rw [e0]<;>refine ko ?_<;>rw [gT]
  ·refine iP hd ?_ ?_ ?_<;>clear hd
   ·exactλJ J J J hd=>(mE (hd oz)).elim
   ·intro hk kp e hd;refine iB hd ?_;clear hd;intro hb hd;obtain⟨p1,p2⟩:=bV (aY.iK.mp (hd oz)).1;have V:VC w R ai F (.hk hk kp):=e▸V;exact codeAny_mono ((((V.1 c s p1 p2) h g dr os Rl).le (Nat.le_trans (Nat.le_of_ble_eq_true hb) (Nat.le_add_left d m))) A hA) (p7 λa h' g' Rm hl cu hf=>ih (d:=d) (l.trans hl) cu (λaa=>eR hd (eL a aa)) (V.2 a hl hf) A hA)
   ·intro h1 h2 tT k1 rx k2 e hd;refine iB hd ?_;clear hd;intro hb hd;obtain⟨p1,p2⟩:=bV (aY.iK.mp (hd oz)).1;have V:VC w R ai F (.two h1 h2 tT k1 rx k2):=e▸V;replace hd:=eR hd;exact codeAny_mono ((((V.1 c s p1 p2) h g dr os Rl).le (Nat.le_trans (Nat.le_of_ble_eq_true hb) (Nat.le_add_left d m))) A hA) (SX (λa h' g' Rm hl cu hf=>ih (d:=d) (l.trans hl) cu (λaa=>(aY.iK.mp (hd (eL a aa))).1) (V.2.1 a hl hf) A hA)
     λa h' g' Rm hl cu hf=>ih (d:=d) (l.trans hl) cu (λaa=>(aY.iK.mp (hd (eL a aa))).2) (V.2.2 a hl hf) A hA)
  ·refine iS hd ?_;clear hd;intro x e hd;refine iD hd ?_;clear hd;intro d' ed hd;subst ed;have:=mw (prog:=H.pw) (w:=w) (Rr:=bI w R os F₀ ai) (fs:=(cur,k)::fs) (n:=m+d') (g:=g) (dr:=dr) (os:=os) Rl e (aY.iK.mp (hd oz)).1 (ih l Rl (eR hd) V);exact codeAny_mono (this.2 A hA) λr s' h'=>h' A hA
 |stack k=>dsimp only [Tj]at hd;refine iS hd λc e hd A hA=> ?_;rw [e];refine vI λp' below=> ?_;rw [<-e];exact ih l Rl (λaa=>hd (eL {oz 0 with p:=p',st:=below} aa)) V A hA
 |_=>cases ae (hd oz)
theorem jz:∀n,T9 w R ai F₀ m (Ue (H.KP w.params) ⟨H.pw,w.params⟩ n)
 |0=>λJ J hd J=>(ae (hd oz)).elim
 |n+1=>Ts (jz n)
theorem Rt{ds:ax}(h:ds.map (·.1)=ds.map (·.2)):aY ds:=by
 induction ds with
 |nil=>exact aY.nil
 |cons a ds ih=>simp only [List.map_cons,List.cons.injEq]at h;exact aY.cons.mpr ⟨h.1,ih h.2⟩
theorem aD.run{F:aj}{st:aZ}{c:Code}{n d aX:Nat}{sc:List Nat}{p:bE}(hl:d+1<=aX)(e:∀aa,(aR w n d sc p aa c st).map (·.1)=(aR w n d sc p aa c st).map (·.2))
  (V:VC w R ai F p):aD w R F st aX c ai:=by
 intro h g dr os Rl;have e':∀aa,aY (aR w n d sc p aa c st):=λaa=>Rt (e aa);unfold aR at e';split at e'
 ·rename_i x e1;have:=(mw (prog:=H.pw) (w:=w) (Rr:=bI w R os F ai) (fs:=[]) (n:=0+d) (g:=g) (dr:=dr) (os:=os) Rl e1 (aY.iK.mp (e' oz)).1 (jz (m:=0) _ (aj.le.refl F) Rl (eR e') V)).2;exact this.le (by lia)
 ·exact(ae (e' oz)).elim
end
end Mine
end
section
open PySem PySem.W PyProof.Rows PySem.Builtin
namespace Mine
noncomputable def Hr:Code->List Value
 | .call _ a=>a.pos
 | .builtin _ a=>a.pos
 |_=>[]
noncomputable def jO:Value->Nat
 | .int _ t=>t
 | .str _ t=>t
 | .bytes _ t=>t
 | .float _ t=>t
 |_=>0
def cA(c:Code)(i:Nat):Nat:=match bP (Hr c) i with
 |some v=>jO v
 |none=>0
noncomputable def ro(F:aj):aL:=⟨F,0,0,λJ=>0,λJ=> #[],λJ=> .none,λJ=>⟨.none,.none,.fields #[],#[]⟩,λJ=> #[],⟨0,0,0,0⟩,[]⟩
section
variable{w:World}{R:aA}{F:aj}{st:aZ}{ai:Result->aj->aZ->Prop}
theorem aD.meets{aX:Nat}{id:String}{args:Args}{B:Builtin}{S:PySem.Spec}(hp:plainId id=true)(en:entryFor table id=some B)(g:PySem.Meets (B args) S)
  (h:∀hh g dr os,bO (H.KP w.params) F R hh st->∀A,S A (bI w R os F ai) ⟨hh,g,dr,st.t,os⟩):aD w R F st aX (.builtin id args) ai:=
 λhh g' dr os Rl=>qi hp en g (h hh g' dr os Rl)
theorem aD.h9{aX:Nat}{id:String}{args:Args}{B:Builtin}{S:PySem.Spec}(hp:plainId id=true)(en:entryFor table id=some B)(g:MeetsIn H.pw w (B args) S)
  (h:∀hh g dr os,bO (H.KP w.params) F R hh st->∀A,S A (bI w R os F ai) ⟨hh,g,dr,st.t,os⟩):aD w R F st aX (.builtin id args) ai:=
 λhh g' dr os Rl=>tD hp en g (h hh g' dr os Rl)
theorem bI.pure{h:Heap}{g:Array GenState}{dr:Drawn}{os:OsState}{r:Result}(Rl:bO (H.KP w.params) F R h st)(t':Nat)(hp:ai r F ⟨st.L,st.G,st.N,t'⟩):
  bI w R os F ai r ⟨h,g,dr,t',os⟩:=⟨F,_,aj.le.refl F,Rl.toks t',rfl,rfl,hp⟩
theorem az.de{h:az}{r:Result}(hu:∀a,h.fH a st=⟨st.L,st.G,st.N,a.t⟩)(t':Nat)(k:Nat)(hr:r=h.res ({ro F with t:=t',k:=λJ=>k}:aL) st)(hf:h.d5 F ({ro F with t:=t',k:=λJ=>k}:aL)):
  h.post F st r F ⟨st.L,st.G,st.N,t'⟩:=⟨{ro F with t:=t',k:=λJ=>k},rfl,hf,hr,(hu {ro F with t:=t',k:=λJ=>k}).symm⟩
end
abbrev same(F:aj)(a:aL):Prop:=a.F=F
noncomputable abbrev fz(a:aL)(st:aZ):aZ:=⟨st.L,st.G,st.N,a.t⟩
def eJ(x y:aU):az:=⟨0,λc=> .builtin "bytes.__add__" ⟨[.bytes x (cA c 0),.bytes y (cA c 1)],[]⟩,λJ=>[],λa J=> .ok (.ret (.bytes (x++y) (a.k 0))),fz,same⟩
def cP(x y:aU)(b:Bool):az:=⟨0,λc=> .builtin "bytes.__eq__" ⟨[.bytes x (cA c 0),.bytes y (cA c 1)],[]⟩,λJ=>[],λJ J=> .ok (.ret (.bool b)),fz,λF a=>a.F=F/\decide (x=y)=b⟩
def Tt(x y:aU)(b:Bool):az:=⟨0,λc=> .builtin "bytes.__ne__" ⟨[.bytes x (cA c 0),.bytes y (cA c 1)],[]⟩,λJ=>[],λJ J=> .ok (.ret (.bool b)),fz,λF a=>a.F=F/\(!decide (x=y))=b⟩
def gW(x o n:aU):az:=⟨0,λc=> .builtin "bytes.replace" ⟨[.bytes x (cA c 0),.bytes o (cA c 1),.bytes n (cA c 2)],[]⟩,λJ=>[],λa J=> .ok (.ret (.bytes (ew x o n) (a.k 0))),fz,same⟩
section
variable{w:World}{R:aA}{F:aj}
theorem nG(x y:aU):(x.toList==y.toList)=decide (x=y):=by
 by_cases h:x=y
 ·subst h;simp
 ·rw [decide_eq_false h];have:x.toList≠y.toList:=λe=>h (Array.ext' e);simpa using this
theorem eJ.ok{x y:aU}(hz:x.size+y.size<=16777216):(eJ x y).OK w R F:=λc st hc J=>by rw [hc];intro h g dr os Rl;exact Ct (s:=⟨h,g,dr,st.t,os⟩) hz λt' k=>bI.pure Rl k (az.de (h:=eJ x y) (λJ=>rfl) k t' rfl rfl)
theorem cP.ok{x y:aU}:(cP x y true).Dt w R F (cP x y false):=λc st hc J=>by
 rw [hc];refine aD.meets (by decide+kernel) FB.entry_bytes_eq (gives_bytes_eq x y _ _).meets λhh g dr os Rl A=> ?_;rw [nG];unfold Made.spec Made.post;refine bI.pure Rl st.t ?_;cases e:decide (x=y)with
 |true=>exact .inl (az.de (h:=cP x y true) (λJ=>rfl) _ 0 rfl ⟨rfl,e⟩)
 |false=>exact .inr (az.de (h:=cP x y false) (λJ=>rfl) _ 0 rfl ⟨rfl,e⟩)
theorem Tt.ok{x y:aU}:(Tt x y true).Dt w R F (Tt x y false):=λc st hc J=>by
 rw [hc];refine aD.meets (by decide+kernel) FB.entry_bytes_ne (gives_bytes_ne x y _ _).meets λhh g dr os Rl A=> ?_;rw [bne,nG];unfold Made.spec Made.post;refine bI.pure Rl st.t ?_;cases e:decide (x=y)with
 |true=>exact .inr (az.de (h:=Tt x y false) (λJ=>rfl) _ 0 rfl ⟨rfl,by rw [e];rfl⟩)
 |false=>exact .inl (az.de (h:=Tt x y true) (λJ=>rfl) _ 0 rfl ⟨rfl,by rw [e];rfl⟩)
theorem pD:entryFor table "bytes.replace"=some Builtin.«bytes.replace»:=entryFor_of_tree (by kernel_rfl)
theorem gW.ok{x o n:aU}(ho:o.isEmpty=false)(hz:x.size+(Bytes.occurrences x o 0 x.size).length*n.size<=16777216)(zg:(ew x o n).size<=sizeLine):(gW x o n).OK w R F:=λc st hc J=>by rw [hc];exact aD.meets (by decide+kernel) pD (pe x o n _ _ _ ho hz zg) λhh g dr os Rl A t' k=>bI.pure Rl k (az.de (h:=gW x o n) (λJ=>rfl) k t' rfl rfl)
end
theorem VC.keep{w:World}{R:aA}{F:aj}{L':aA}{ai:Result->aj->aZ->Prop}{r:Result}{n:Nat}(h:∀N' t',ai r F ⟨L',[],N',t'⟩):
  VC w R ai F (.ret r λst=>[(.l (st.L.take n),.l L')]):=λhh st Rl e=>by
 have:=cp.l.inj (aY.cons.mp e).1;refine⟨F,⟨L',[],st.N,st.t⟩,aj.le.refl F,?_,rfl,h _ _⟩;rw [<-this];have hs:(st.L.take n++R).Sublist (st.L++R):=List.Sublist.append_right (List.take_sublist n _) R;exact⟨Rl.size,λp hp=>Rl.mem p (hs.subset hp),(hs.map (·.1)).nodup Rl.nd,λp hp=>Rl.old p (hs.subset hp),Rl.gO,Rl.fix,λp hp=>by cases hp⟩
noncomputable abbrev qm(a:aL)(st:aZ):aZ:=⟨st.L,st.G,a.N,a.t⟩
section
variable{w:World}{R:aA}{F:aj}{st:aZ}{ai:Result->aj->aZ->Prop}{aX:Nat}{c:Code}
theorem aD.frame{L1 L2 G1:aA}{jT:Result->aj->aZ->Prop}(hp:st.L.Perm (L1++L2))(hg:∀p∈G1,F p.1=some p.2)(h:aD w (L2++R) F ⟨L1,G1,st.N,st.t⟩ aX c jT)
  (back:∀r F' bU,jT r F' bU->∃L',(bU.L++L2).Perm L'/\ai r F' ⟨L',st.G,bU.N,bU.t⟩):aD w R F st aX c ai:=λhh g dr os Rl=>by
 have BK:(st.L++R).Perm (L1++(L2++R)):=by rw [<-List.append_assoc];exact hp.append_right R
 have R1:=Rl.r9 BK;refine(h hh g dr os ⟨R1.size,R1.mem,R1.nd,R1.old,R1.gO,R1.fix,hg⟩).aT λr s'=> ?_;rintro⟨F',bU,hl,cu,ht,ho,kJ⟩;obtain⟨L',hL,hP⟩:=back r F' bU kJ;have Mi:(bU.L++(L2++R)).Perm (L'++R):=by rw [<-List.append_assoc];exact hL.append_right R
 have R2:=cu.r9 Mi;exact⟨F',⟨L',st.G,bU.N,bU.t⟩,hl,⟨R2.size,R2.mem,R2.nd,R2.old,R2.gO,R2.fix,λp hp=>hl _ _ (Rl.gs p hp)⟩,ht,ho,hP⟩
theorem aD.qZ{G1:aA}{P:Result->aj->Nat->Nat->Prop}(hg:∀p∈G1,F p.1=some p.2)(h:∀R,aD w R F ⟨[],G1,st.N,st.t⟩ aX c λr F' ah=>ah.L=[]/\P r F' ah.N ah.t)(hq:∀r F' N' t',P r F' N' t'->ai r F' ⟨st.L,st.G,N',t'⟩):
  aD w R F st aX c ai:=
 aD.frame (L1:=[]) (L2:=st.L) (.refl _) hg (h _) λr F' bU hh=>by obtain⟨h1,h2⟩:=hh;exact⟨st.L,by rw [h1];exact .refl _,hq _ _ _ _ h2⟩
theorem aD.qY{G1:aA}{j:Nat}{p:Addr × Obj}{P:Result->aj->Obj->Nat->Nat->Prop}(hj:bP st.L j=some p)(hg:∀p∈G1,F p.1=some p.2)
  (h:∀R,aD w R F ⟨[p],G1,st.N,st.t⟩ aX c λr F' ah=>∃o,ah.L=[(p.1,o)]/\P r F' o ah.N ah.t) (hq:∀r F' o N' t',P r F' o N' t'->ai r F' ⟨bg st.L j o,st.G,N',t'⟩):
  aD w R F st aX c ai:=by
 obtain⟨l',hl,ho⟩:=d7 _ _ _ hj;exact aD.frame (L1:=[p]) (L2:=l') hl hg (h _) λr F' bU hh=>by obtain⟨o,h1,h2⟩:=hh;exact⟨bg st.L j o,by rw [h1];exact(ho o).symm,hq _ _ _ _ _ h2⟩
theorem aD.aT{mL:Result->aj->aZ->Prop}(h:aD w R F st aX c ai)(hp:∀r F' ah,ai r F' ah->mL r F' ah):aD w R F st aX c mL:=λhh g dr os Rl=>
 (h hh g dr os Rl).aT λr s' hh=>by obtain⟨F',ah,hl,cu,ht,ho,kJ⟩:=hh;exact⟨F',ah,hl,cu,ht,ho,hp _ _ _ kJ⟩
theorem aD.le{l':Nat}(h:aD w R F st aX c ai)(hl:aX<=l'):aD w R F st l' c ai:=λhh g dr os Rl=>(h hh g dr os Rl).le hl
end
theorem az.CO{F F':aj}{st:aZ}{h:az}{r:Result}(hu:∀a,h.fH a st=⟨st.L,st.G,a.N,a.t⟩)(N' t' k:Nat)(hr:r=h.res ({ro F' with N:=N',t:=t',k:=λJ=>k}:aL) st)(hf:h.d5 F ({ro F' with N:=N',t:=t',k:=λJ=>k}:aL)):
  h.post F st r F' ⟨st.L,st.G,N',t'⟩:=⟨{ro F' with N:=N',t:=t',k:=λJ=>k},rfl,hf,hr,(hu {ro F' with N:=N',t:=t',k:=λJ=>k}).symm⟩
def we(x y:aU)(b:Bool):az:=⟨1,λc=> .builtin "bytes.__contains__" ⟨[.bytes x (cA c 0),.bytes y (cA c 1)],[]⟩,λJ=>[],λJ J=> .ok (.ret (.bool b)),qm,λF a=>a.F=F/\(Bytes.find? x y 0 x.size).isSome=b⟩
def NO(x y:aU)(t u N tk:Nat)(aa:RB):ax:=aR w 50 0 [53] (.ret (.ok (.ret (.bool (Fast.tw2746785738266013088 x y 0 x.size).isSome))) λs=>[(.l (s.L.take 0),.l [])]) aa (.builtin "bytes.__contains__" ⟨[.bytes x t,.bytes y u],[]⟩) ⟨[],[],N,tk⟩
theorem Ez(x y:aU)(t u N tk:Nat)(aa:RB):(NO w x y t u N tk aa).map (·.1)=(NO w x y t u N tk aa).map (·.2):=by kernel_rfl
theorem we.ok{w:World}{R:aA}{F:aj}{x y:aU}:(we x y true).Dt w R F (we x y false):=λc st hc J=>by
 rw [hc];refine aD.qZ (G1:=[]) (P:=λr F' N' t'=>F'=F/\r= .ok (.ret (.bool (Bytes.find? x y 0 x.size).isSome))) (by intro p hp;cases hp) (λR=> ?_) λr F' N' t' h=> ?_
 ·refine aD.run (d:=0) (aX:=1) nr (Ez w x y _ _ _ _) ?_;refine VC.keep (λN' t'=> ?_);rw [<-Fast.te2746785738266013088];exact⟨rfl,rfl,rfl⟩
 ·obtain⟨rfl,rfl⟩:=h;cases e:(Bytes.find? x y 0 x.size).isSome with
  |true=>exact .inl (az.CO (h:=we x y true) (λJ=>rfl) _ _ 0 rfl ⟨rfl,e⟩)
  |false=>exact .inr (az.CO (h:=we x y false) (λJ=>rfl) _ _ 0 rfl ⟨rfl,e⟩)
def An(F:aj)(d5:aj->aL->Prop)(res:aL->Result):Result->aj->aZ->Prop:=λr F' ah=>ah.L=[]/\∃a:aL,a.F=F'/\a.N=ah.N/\a.t=ah.t/\d5 F a/\r=res a
noncomputable def aW(aX:Nat)(code:Code->Code)(res:aL->Result)(d5:aj->aL->Prop):az:=⟨aX,code,λJ=>[],λa J=>res a,qm,d5⟩
section
variable{w:World}{R:aA}{F:aj}
theorem aW.of{aX:Nat}{code:Code->Code}{res:aL->Result}{d5:aj->aL->Prop}{G1:aA}(hg:∀p∈G1,F p.1=some p.2)
  (h:∀c R N t,aD w R F ⟨[],G1,N,t⟩ aX (code c) (An F d5 res)):(aW aX code res d5).OK w R F:=λc st hc J=>by
 rw [hc];refine aD.qZ (G1:=G1) (P:=λr F' N' t'=>∃a:aL,a.F=F'/\a.N=N'/\a.t=t'/\d5 F a/\r=res a) hg (λR=>h c R _ _) λr F' N' t' hh=> ?_;obtain⟨a,h1,h2,h3,h4,h5⟩:=hh;exact⟨a,h1,h4,h5,by subst h2 h3;rfl⟩
noncomputable def leaf(r:Result):bE:= .ret r λst=>[(.l (st.L.take 0),.l [])]
theorem VC.leaf{R:aA}{F F₀:aj}{d5:aj->aL->Prop}{res:aL->Result}{r:Result}(h:∀N' t',∃a:aL,a.F=F/\a.N=N'/\a.t=t'/\d5 F₀ a/\r=res a):VC w R (An F₀ d5 res) F (leaf r):=λhh st Rl J=>by obtain⟨a,h1,h2,h3,h4⟩:=h st.N st.t;refine⟨F,⟨[],[],st.N,st.t⟩,aj.le.refl F,?_,rfl,rfl,a,h1,h2,h3,h4⟩;have hs:R.Sublist (st.L++R):=List.sublist_append_right _ _;exact⟨Rl.size,λp hp=>Rl.mem p (hs.subset hp),(hs.map (·.1)).nodup Rl.nd,λp hp=>Rl.old p (hs.subset hp),Rl.gO,Rl.fix,λp hp=>by cases hp⟩
noncomputable def bB(F:aj)(N t k:Nat):aL:=⟨F,N,t,λJ=>k,λJ=> #[],λJ=> .none,λJ=>⟨.none,.none,.fields #[],#[]⟩,λJ=> #[],⟨0,0,0,0⟩,[]⟩
theorem cB{F:aj}:∀p∈([]:aA),F p.1=some p.2:=λJ h=>by cases h
end
noncomputable abbrev dU(x y:Value):Obj:={cls:= .type "tuple",data:= .seq #[x,y]}
inductive cy(F:aj):List Value->List (aU × aU)->Prop
 |nil:cy F [] []
 |cons (r:Addr) (t e:aU) (tt te:Tok) {vs:List Value} {af:List (aU × aU)} (hr:F r=some (dU (.bytes t tt) (.bytes e te))) (hs:cy F vs af):
   cy F (.ref r::vs) ((t,e)::af)
theorem cy.length{F:aj}{vs:List Value}{af:List (aU × aU)}(x:cy F vs af):vs.length=af.length:=by
 induction x with
 |nil=>rfl
 |cons r t e tt te hr hs ih=>simp [ih]
theorem cy.le{F F':aj}(l:F.le F'){vs:List Value}{af:List (aU × aU)}(x:cy F vs af):cy F' vs af:=by
 induction x with
 |nil=>exact .nil
 |cons r t e tt te hr hs ih=>exact .cons r t e tt te (l _ _ hr) ih
theorem cy.get{vs:List Value}{af:List (aU × aU)}(x:cy F vs af){i:Nat}{p:aU × aU}(h:af[i]? =some p):
  LV λr tt te=>vs[i]? =some (.ref r)/\F r=some (dU (.bytes p.1 tt) (.bytes p.2 te)):=by
 induction x generalizing i with
 |nil=>cases h
 |cons r t e tt te hr hs ih=>
  cases i with
  |zero=>cases h;exact⟨r,tt,te,rfl,hr⟩
  |succ i=>exact ih h
theorem cy.eO{vs:List Value}{af:List (aU × aU)}(x:cy F vs af)(r:Addr)(t e:aU)(tt te:Tok)(hr:F r=some (dU (.bytes t tt) (.bytes e te))):
  cy F (vs++[.ref r]) (af++[(t,e)]):=by
 induction x with
 |nil=>exact .cons r t e tt te hr .nil
 |cons r' t' e' ON te' Ax hs ih=>exact .cons r' t' e' ON te' Ax ih
def bM(F:aj)(a:Addr)(af:List (aU × aU)):Prop:=∃vs ep,F a=some (aw vs ep)/\cy F vs.toList af
theorem bM.le{F F':aj}(l:F.le F'){a:Addr}{af:List (aU × aU)}(x:bM F a af):bM F' a af:=
 by obtain⟨vs,ep,h1,h2⟩:=x;exact⟨vs,ep,l _ _ h1,h2.le l⟩
def cO(j:Nat)(it l:Addr)(i:Nat)(x:Value)(G:aA):az:=⟨0,λJ=> .builtin "list_iterator.__next__" ⟨[.ref it],[]⟩,λst=>[(.p (bP st.L j),.p (some (it,pK l i)))],
 λJ J=> .ok (.ret x),λa st=>⟨bg st.L j (pK l (i+1)),st.G++G,st.N,st.t⟩,λF a=>a.F=F⟩
theorem cO.ok{w:World}{R:aA}{F:aj}{j:Nat}{it l:Addr}{i:Nat}{x:Value}{G:aA}{items:aV}{ep:Nat}(hl:F l=some (aw items ep))(hx:items[i]? =some x)
  (hG:∀p∈G,F p.1=some p.2):(cO j it l i x G).OK w R F:=λc st hc hd=>by
 rw [hc];have hj:bP st.L j=some (it,pK l i):=cp.p.inj (aY.cons.mp hd).1;intro h g dr os Rl A hA;refine codeAny_builtin entry_listiter_next ?_;rw [Around.under_plainId (by decide+kernel)];have ho:h.get? it=some (pK l i):=Rl.mem _ (List.mem_append_left _ (aJ hj));show wpAny _ _ (field (.ref it) 0>>=_) _ _ _;refine wpAny_bind (wpAny_field ho rfl (x:= .ref l) rfl ?_);show wpAny _ _ (if(Value.ref l==Value.none)=true then _ else _) _ _ _;rw [if_neg (show¬((Value.ref l==Value.none)=true)from Bool.false_ne_true)];show wpAny _ _ (field (.ref it) 1>>=_) _ _ _;refine wpAny_bind (wpAny_field ho rfl (x:= .int i 0) rfl ?_);show wpAny _ _ (seqItems? (.ref l)>>=_) _ _ _;refine wpAny_bind (wpAny_seqItems (Rl.fix _ _ hl) rfl ?_);simp only [Int.toNat_natCast,hx];refine wpAny_bind (wpAny_setField ho rfl (by simp) (wpAny_pure ?_));have R1:=Rl.update (f:=Obj.mapFields λvs=>vs.setIfInBounds 1 (rawInt (i+1))) hj rfl;refine⟨F,⟨bg st.L j (pK l (i+1)),st.G++G,st.N,st.t⟩,aj.le.refl F,⟨R1.size,R1.mem,R1.nd,R1.old,R1.gO,R1.fix,λp hp=> ?_⟩,rfl,rfl,bB F 0 0 0,rfl,rfl,rfl,rfl⟩;exact(List.mem_append.mp hp).elim (Rl.gs p) (hG p)
def IY(L G:aA)(N t:Nat):bE:= .ret (.error (.ref (N+1))) λs=>[(.l s.L,.l (eO (eO L N uZ) (N+1) (u4 N))),(.l s.G,.l G),(.n s.N,.n (N+2)),(.n s.t,.n t)]
def IX(L G:aA)(N t:Nat)(aa:RB):ax:=Ue (H.KP w.params) ⟨H.pw,w.params⟩ 10 0 [] (IY L G N t) aa none (SmallTypes.stopIteration) [] ⟨L,G,N,t⟩
theorem B4(L G:aA)(N t:Nat)(aa:RB):(IX w L G N t aa).map (·.1)=(IX w L G N t aa).map (·.2):=by kernel_rfl
def eH(j:Nat)(it l:Addr)(i:Nat):az:=⟨1,λJ=> .builtin "list_iterator.__next__" ⟨[.ref it],[]⟩,λst=>[(.p (bP st.L j),.p (some (it,pK l i)))],
 λJ st=> .error (.ref (st.N+1)),λa st=>⟨eO (eO (bg st.L j (yY i)) st.N uZ) (st.N+1) (u4 st.N),st.G,st.N+2,st.t⟩,λF a=>a.F=F⟩
theorem eH.ok{w:World}{R:aA}{F:aj}{j:Nat}{it l:Addr}{i:Nat}{items:aV}{ep:Nat}(hl:F l=some (aw items ep))(hx:items[i]? =none):(eH j it l i).OK w R F:=λc st hc hd=>by
 rw [hc];have hj:bP st.L j=some (it,pK l i):=cp.p.inj (aY.cons.mp hd).1;intro h g dr os Rl A hA;refine codeAny_builtin entry_listiter_next ?_;have hr:ff 0 A.in1:=by have:=hA.under (c:= .builtin "list_iterator.__next__" ⟨[.ref it],[]⟩) (i3 (by decide+kernel) _);rwa [Around.under_plainId (by decide+kernel)]at this
 rw [Around.under_plainId (by decide+kernel)];have ho:h.get? it=some (pK l i):=Rl.mem _ (List.mem_append_left _ (aJ hj));show wpAny _ _ (field (.ref it) 0>>=_) _ _ _;refine wpAny_bind (wpAny_field ho rfl (x:= .ref l) rfl ?_);show wpAny _ _ (if(Value.ref l==Value.none)=true then _ else _) _ _ _;rw [if_neg (show¬((Value.ref l==Value.none)=true)from Bool.false_ne_true)];show wpAny _ _ (field (.ref it) 1>>=_) _ _ _;refine wpAny_bind (wpAny_field ho rfl (x:= .int i 0) rfl ?_);show wpAny _ _ (seqItems? (.ref l)>>=_) _ _ _;refine wpAny_bind (wpAny_seqItems (Rl.fix _ _ hl) rfl ?_);simp only [Int.toNat_natCast,hx];refine wpAny_bind (wpAny_rule (wpAny_bind (wpAny_setField ho rfl (by simp) ?_)));have R1:bO (H.KP w.params) F R (h.update it (Obj.mapFields λvs=>vs.setIfInBounds 0 .none)) ⟨bg st.L j (yY i),st.G,st.N,st.t⟩:=Rl.update (f:=Obj.mapFields λvs=>vs.setIfInBounds 0 .none) hj rfl;have T:=jz (w:=w) (R:=R) (m:=0) (F₀:=F) (ai:=λr F' ah=>(eH j it l i).post F st r F' ah) 10 (g:=g) (dr:=dr) (os:=os) (aj.le.refl F) R1
  (λaa=>Rt (B4 w (bg st.L j (yY i)) st.G st.N st.t aa)) (λhh ah cu e=>by obtain⟨L',G',N',t'⟩:=ah;have e1:=aY.cons.mp e;have e2:=aY.cons.mp e1.2;have e3:=aY.cons.mp e2.2;have e4:=aY.cons.mp e3.2;obtain rfl:=cp.l.inj e1.1;obtain rfl:=cp.l.inj e2.1;obtain rfl:N'=_:=cp.n.inj e3.1;obtain rfl:t'=_:=cp.n.inj e4.1;exact⟨F,_,aj.le.refl F,cu,rfl,bB F 0 0 0,rfl,rfl,rfl,rfl⟩) A.in1 hr
 exact wpAny_mono (mV T) (λfin s' hf=>by
  cases fin with
  |done f=>exact hf
  |again c=>exact⟨hf.1,hf.2.2 A (hA.le nr)⟩) λJ J e=>e
def br(j:Nat)(l:Addr)(xs:aV)(n:Nat)(x:Value):az:=⟨0,λJ=> .builtin "list.append" ⟨[.ref l,x],[]⟩,λst=>[(.p (bP st.L j),.p (some (l,aw xs n)))],
 λJ J=> .ok (.ret .none),λa st=>⟨bg st.L j (aw (xs.push x) (a.k 0)),st.G,st.N,st.t⟩,λF a=>a.F=F⟩
def ik(sep:aU)(j:Nat)(l:Addr)(xs:aV)(n:Nat)(ps:lU):az:=⟨0,λc=> .builtin "bytes.join" ⟨[.bytes sep (cA c 0),.ref l],[]⟩,λst=>[(.p (bP st.L j),.p (some (l,aw xs n)))],
 λa J=> .ok (.ret (.bytes (Bytes.joined sep ps) (a.k 0))),fz,same⟩
theorem Tc:entryFor table "bytes.join"=some Builtin.«bytes.join»:=entryFor_of_tree (by kernel_rfl)
section
variable{w:World}{R:aA}{F:aj}
theorem br.ok{j:Nat}{l:Addr}{xs:aV}{n:Nat}{x:Value}(fh:xs.size<=sizeLine):(br j l xs n x).OK w R F:=λc st hc hd=>by
 rw [hc];have hj:bP st.L j=some (l,aw xs n):=cp.p.inj (aY.cons.mp hd).1;refine aD.meets (by decide+kernel) entry_list_append (list_append l xs n x fh) λhh g dr os Rl A=>⟨Rl.mem _ (List.mem_append_left _ (aJ hj)),?_⟩
 exact⟨F,_,aj.le.refl F,Rl.update (f:=Obj.mapSeq λys=>ys.push x) hj rfl,rfl,rfl,bB F 0 0 _,rfl,rfl,rfl,rfl⟩
theorem ik.ok{sep:aU}{j:Nat}{l:Addr}{xs:aV}{n:Nat}{ps:lU}(hb:ay xs.toList ps)(wQ:Bytes.tooLong (ps.toArray.foldl (λn p=>n+p.size) (sep.size*(ps.toArray.size-1)))=false)
  (hz:(Bytes.joined sep ps).size<=sizeLine):(ik sep j l xs n ps).OK w R F:=λc st hc hd=>by
 rw [hc];have hj:bP st.L j=some (l,aw xs n):=cp.p.inj (aY.cons.mp hd).1;exact aD.meets (by decide+kernel) Tc (n7 sep _ l xs.toList ps hb wQ hz) λhh g dr os Rl A=>⟨⟨_,n,Rl.mem _ (List.mem_append_left _ (aJ hj)),rfl,by simp⟩,λt' k=>
  bI.pure Rl k (az.de (h:=ik sep j l xs n ps) (λJ=>rfl) k t' rfl rfl)⟩
end
@[irreducible] def kh:ax->Code
 |(.c c,.n _)::_=>c
 |_::l=>kh l
 |_=> .builtin "" {}
def v7:Nat->aL:=λJ=>ro λJ=>none
noncomputable def aM(af:List (aU × aU)):lU:=af.map λp=>p.1++p.2
theorem ay.eO{vs:List Value}{bs:lU}(h:ay vs bs)(b:aU)(t:Tok):ay (vs++[.bytes b t]) (bs++[b]):=by
 induction h with
 |nil=>exact .cons b t .nil
 |cons b' t' h ih=>exact .cons b' t' ih
theorem aD.drop{w:World}{R:aA}{F:aj}{st:aZ}{aX:Nat}{c:Code}{ai:Result->aj->aZ->Prop}{L1 G1:aA}{n:Nat}(hL:st.L.take n=L1)(hg:∀p∈G1,F p.1=some p.2)
  (h:∀R,aD w R F ⟨L1,G1,st.N,st.t⟩ aX c ai):aD w R F st aX c ai:=λhh g dr os Rl=>by
 have R1:bO (H.KP w.params) F (st.L.drop n++R) hh ⟨L1,G1,st.N,st.t⟩:=by have:=Rl.r9 (L':=L1) (R':=st.L.drop n++R) (by rw [<-List.append_assoc,<-hL,List.take_append_drop]);exact⟨this.size,this.mem,this.nd,this.old,this.gO,this.fix,hg⟩
 refine((h _) hh g dr os R1).aT λr s' hh=> ?_;obtain⟨F',ah,hl,cu,ht,ho,kJ⟩:=hh;refine⟨F',ah,hl,?_,ht,ho,kJ⟩;have hs:(ah.L++R).Sublist (ah.L++(st.L.drop n++R)):=List.Sublist.append (List.Sublist.refl _) (List.sublist_append_right _ _);exact⟨cu.size,λp hp=>cu.mem p (hs.subset hp),(hs.map (·.1)).nodup cu.nd,λp hp=>cu.old p (hs.subset hp),cu.gO,cu.fix,cu.gs⟩
abbrev aE(o:ax):Prop:=o.map (·.1)=o.map (·.2)
namespace H
namespace LD
structure In where
 a:Addr
 vs:aV
 ep:Nat
 N:Nat
 tk:Nat
noncomputable def c(a:Addr):Code:= .call (.ref 1353) ⟨[.ref a],[]⟩
noncomputable def tT:List Nat:=match w.params.followText f5 with
 |true=>(zJ [[2,0,0],t9,RM,[3,1,0]])
 |false=>(zJ [[2,0,0],t9,RM,[3,1],RE,[25,3,0]])
noncomputable def rx:List Nat:=match w.params.followText f5 with
 |true=>(zJ [[2,0,0],t9,RM,[3,1,0],RK,[1,0,14]])
 |false=>(zJ [[2,0,0],t9,RM,[3,1],RE,[25,3,0],RK,[1,0,14]])
noncomputable def G(x:In):aA:=[(x.a,aw x.vs x.ep)]
def lc(x:In):Code:=kh (aR w 300 5 (tT w) (leaf (.ok .next)) v7 (c x.a) ⟨[],G x,x.N,x.tk⟩)
def fo(x:In):Obj:={cls:= .type "frame",data:= .dict #[d P "rows" x.tk (.ref x.a)] 1}
abbrev Q:=Option (Nat × aU × Nat × Nat × aU × Nat)
def dO(o:Q):Obj:=match o with
 |none=>{cls:= .type "dict",data:= .dict #[] 0}
 |some (k1,t,tt,k2,e,te)=>{cls:= .type "dict",data:= .dict #[d P "text" k1 (.bytes t tt),d P "end" k2 (.bytes e te)] 2}
structure Tu where
 i:Nat
 xs:aV
 n:Nat
 o:Q
 M:Nat
 tk:Nat
structure Ro where
 r:Addr
 t:aU
 tt:Nat
 e:aU
 te:Nat
def lL(x:In)(y:Tu):aA:=[(x.N,fo P x),(x.N+1,pK x.a y.i),(x.N+2,aw y.xs y.n),(x.N+3,dO P y.o)]
def lE(x:In)(y:Tu):aA:=[(x.N,fo P x),(x.N+1,yY y.i),(x.N+2,aw y.xs y.n),(x.N+3,dO P y.o)]
noncomputable def iX(z:Ro)(tk:Nat)(o:Q):Q:=match o with
 |none=>some (tk,z.t,z.tt,tk+1,z.e,z.te)
 |some (k1,_,_,k2,_,_)=>some (k1,z.t,z.tt,k2,z.e,z.te)
noncomputable def next(z:Ro)(y:Tu)(k n:Nat)(M t:Nat):Tu:=⟨y.i+1,y.xs.push (.bytes (z.t++z.e) k),n,iX z y.tk y.o,M,t⟩
def tp(x:In)(y:Tu)(z:Ro):bE:=
 .hk (cO 1 (x.N+1) x.a y.i (.ref z.r) [(z.r,dU (.bytes z.t z.tt) (.bytes z.e z.te))]) λJ=> .hk (eJ z.t z.e) λb=> .hk (br 2 (x.N+2) y.xs y.n (.bytes (z.t++z.e) (b.k 0))) λb2=>
  .again 4 (lc w x) λst=>[(.l (st.L.take 4),.l (lL w.params x (next z y (b.k 0) (b2.k 0) 0 0)))]
def tS(x:In)(y:Tu)(z:Ro)(aa:RB):ax:=aR w 300 3 ([1,3,1,3,0,4]++(zJ [[3],RG,[10,9,9,1,9,4,9,9,4,9,9,9,1,9,4,9,9,4,9,9,9,1,9,4,9,9,4,9,9,13],RK,[1,0,7]])++[1,5,0,5]++[0])
 (tp w x y z) aa (lc w x) ⟨lL w.params x y,G x,y.M,y.tk⟩
theorem w8(x:In)(y:Tu)(z:Ro)(aa:RB):aE (tS w x y z aa):=by
 obtain⟨i,xs,n,o,M,tk⟩:=y;cases o with
 |none=>exact gK (p:=λw=>aE (tS w x ⟨i,xs,n,none,M,tk⟩ z aa)) (λb b' w=>by cases b<;>cases b'<;>kernel_rfl) w
 |some q=>obtain⟨k1,u,tu,k2,v,tv⟩:=q;exact gK (p:=λw=>aE (tS w x ⟨i,xs,n,some (k1,u,tu,k2,v,tv),M,tk⟩ z aa)) (λb b' w=>by cases b<;>cases b'<;>kernel_rfl) w
def uS(x:In)(y:Tu)(aa:RB):ax:=aR w 300 3 ([1,3,1,3,0,4]++[11])
 (.hk (eH 1 (x.N+1) x.a y.i) λJ=> .ret (.ok .next) λst=>[(.l (st.L.take 4),.l (lE w.params x y))]) aa (lc w x) ⟨lL w.params x y,G x,y.M,y.tk⟩
theorem rE(x:In)(y:Tu)(aa:RB):aE (uS w x y aa):=
 gK (p:=λw=>aE (uS w x y aa)) (λb b' w=>by cases b<;>cases b'<;>kernel_rfl) w
theorem pg{w:World}{F:aj}{x:In}{af:List (aU × aU)}(ha:F x.a=some (aw x.vs x.ep))(hr:cy F x.vs.toList af)(fh:∀p∈af,p.1.size+p.2.size<=16777216)(hlen:af.length<=sizeLine):
  ∀(k:Nat) (y:Tu) (R:aA),y.i+k=af.length->ay y.xs.toList ((aM af).take y.i)->(y.o≠none\/0<k)->
   aD w R F ⟨lL w.params x y,G x,y.M,y.tk⟩ 4 (lc w x) λr F' ah=>F'=F/\r= .ok .next/\∃y',ah.L=lE w.params x y'/\y'.i=af.length/\ay y'.xs.toList (aM af)/\y'.o≠none
 |0,y,R,hi,hb,ho=>by
  have hi:y.i=af.length:=hi;have hx:x.vs[y.i]? =none:=by have:=hr.length;rw [Array.getElem?_eq_none];simp at this;lia
  refine aD.run (d:=3) nr (rE w x y) ⟨eH.ok ha hx,λa J hf=> ?_⟩;rw [show a.F=F from hf];refine VC.keep λN' t'=>⟨rfl,rfl,y,rfl,hi,?_,ho.resolve_right (Nat.lt_irrefl 0)⟩
  have e:(aM af).take y.i=aM af:=List.take_of_length_le (by simp [aM];lia);rw [<-e];exact hb
 |k+1,y,R,hi,hb,ho=>by
  have rz:y.i<af.length:=by lia
  obtain⟨⟨t,e⟩,pq⟩:∃p,af[y.i]? =some p:=⟨_,List.getElem?_eq_getElem rz⟩
  have zk:(t,e)∈af:=List.mem_of_getElem? pq;obtain⟨r,tt,te,hv,hF⟩:=hr.get pq;have hx:x.vs[y.i]? =some (.ref r):=by simpa using hv
  have zh:y.xs.size<=sizeLine:=by have e1:=hb.length;rw [<-Array.length_toList,e1];simp [aM];lia
  refine aD.run (d:=3) nr (w8 w x y ⟨r,t,tt,e,te⟩) ⟨cO.ok ha hx (by intro p hp;rw [List.mem_singleton]at hp;subst hp;exact hF),λa J hf=> ?_⟩;rw [show a.F=F from hf];refine⟨eJ.ok (fh _ zk),λb J hf=> ?_⟩;rw [show b.F=F from hf];refine⟨br.ok zh,λb2 J hf=> ?_⟩;rw [show b2.F=F from hf];intro st he;refine aD.drop (n:=4) (cp.l.inj (aY.cons.mp he).1) (G1:=G x) (by intro p hp;rw [G,List.mem_singleton]at hp;subst hp;exact ha) λR'=> ?_;refine pg ha hr fh hlen k (next ⟨r,t,tt,e,te⟩ y (b.k 0) (b2.k 0) st.N st.t) R' (by show y.i+1+k=_;lia) ?_ (.inl ?_)
  ·show ay (y.xs.push _).toList ((aM af).take (y.i+1));rw [Array.toList_push,List.take_add_one];have:(aM af)[y.i]? =some (t++e):=by simp [aM,pq]
   rw [this];exact hb.eO _ _
  ·show iX _ y.tk y.o≠none;unfold iX;split<;>exactλh=>by cases h
noncomputable def y0:Tu:=⟨0,#[],0,none,0,0⟩
noncomputable def vH(m:Nat)(a:aL):Tu:=⟨m,a.l 0,a.k 0,some (a.k 1,a.x 0,a.k 2,a.k 3,a.x 1,a.k 4),0,0⟩
def bL(x:In)(af:List (aU × aU)):az:=⟨4,λJ=>lc w x,λst=>[(.l st.L,.l (lL w.params x y0)),(.l st.G,.l (G x))],λJ J=> .ok .next,
 λa st=>⟨lE w.params x (vH af.length a),st.G,a.N,a.t⟩,λF a=>a.F=F/\ay (a.l 0).toList (aM af)⟩
theorem bL.ok{w:World}{R:aA}{F:aj}{x:In}{af:List (aU × aU)}(ha:F x.a=some (aw x.vs x.ep))(hr:cy F x.vs.toList af)(fh:∀p∈af,p.1.size+p.2.size<=16777216)(hlen:af.length<=sizeLine)
  (dY:0<af.length):(bL w x af).OK w R F:=λc st hc he=>by
 rw [hc];obtain⟨L',G',N',t'⟩:=st;obtain rfl:=cp.l.inj (aY.cons.mp he).1;obtain rfl:=cp.l.inj (aY.cons.mp (aY.cons.mp he).2).1
 refineλh g dr os Rl=>((pg ha hr fh hlen af.length ⟨0,#[],0,none,N',t'⟩ R (Nat.zero_add _) (by rw [List.take_zero];exact .nil) (.inr dY)) h g dr os Rl).aT λr s'=> ?_
 rintro⟨F',⟨L',G',N',t'⟩,hl,cu,ht,ho,rfl,rfl,y',rfl,hi,hb,hn⟩;obtain⟨i,xs,n,o,M,tk⟩:=y';cases o with
 |none=>exact absurd rfl hn
 |some q=>
  obtain⟨k1,u,tu,k2,v,tv⟩:=q;obtain rfl:i=af.length:=hi;refine⟨F',⟨_,G x,N',t'⟩,hl,⟨cu.size,cu.mem,cu.nd,cu.old,cu.gO,cu.fix,λp hp=> ?_⟩,ht,ho,
   ⟨F',N',t',lk tv [n,k1,tu,k2],lk v [u],λJ=> .none,λJ=>⟨.none,.none,.fields #[],#[]⟩,λJ=>xs,⟨0,0,0,0⟩,[]⟩,rfl,⟨rfl,hb⟩,rfl,rfl⟩
  rw [G,List.mem_singleton]at hp;subst hp;exact ha
def pl(x:In)(af:List (aU × aU)):bE:= .hk (bL w x af) λa=> .hk (ik #[] 2 (x.N+2) (a.l 0) (a.k 0) (aM af)) λb=>leaf (.ok (.ret (.bytes (Bytes.joined #[] (aM af)) (b.k 0))))
def pS(x:In)(af:List (aU × aU))(aa:RB):ax:=aR w 300 5 (rx w) (pl w x af) aa (c x.a) ⟨[],G x,x.N,x.tk⟩
theorem yI(x:In)(af:List (aU × aU))(aa:RB):aE (pS w x af aa):=
 gK (p:=λw=>aE (pS w x af aa)) (λb b' w=>by cases b<;>cases b'<;>kernel_rfl) w
end LD
noncomputable def bu(a:Addr)(af:List (aU × aU)):az:=aW 6 (λJ=>LD.c a) (λb=> .ok (.ret (.bytes (Bytes.joined #[] (aM af)) (b.k 0)))) same
theorem bu.ok{w:World}{R:aA}{F:aj}{a:Addr}{af:List (aU × aU)}(hr:bM F a af)(fh:∀p∈af,p.1.size+p.2.size<=16777216)(hlen:af.length<=sizeLine)(dY:0<af.length)
  (wQ:Bytes.tooLong ((aM af).toArray.foldl (λn p=>n+p.size) ((#[]:aU).size*((aM af).toArray.size-1)))=false)
  (hz:(Bytes.joined #[] (aM af)).size<=sizeLine):(bu a af).OK w R F:=by
 obtain⟨vs,ep,ha,hr⟩:=hr;refine aW.of (G1:=[(a,aw vs ep)]) (by intro p hp;rw [List.mem_singleton]at hp;subst hp;exact ha) λc R N t=> ?_;refine aD.run (d:=5) nr (LD.yI w ⟨a,vs,ep,N,t⟩ af) ⟨LD.bL.ok ha hr fh hlen dY,λb J hf=> ?_⟩;rw [show b.F=F from hf.1];refine⟨ik.ok hf.2 wQ hz,λb2 J hf=> ?_⟩;rw [show b2.F=F from hf];exact VC.leaf λN' t'=>⟨bB F N' t' (b2.k 0),rfl,rfl,rfl,rfl,rfl⟩
end H
end Mine
namespace Mine
def fG(b:Bool)(w:World):World:=w.withFollow pb b
def fC(b c:Bool)(w:World):World:=(w.withFollow f5 b).withFollow pb c
def qL(q:World->(Nat->aL)->ax)(f:World->World):=λw aa=>(q (f w) aa).map (·.1)
def qR(q:World->(Nat->aL)->ax)(f:World->World):=λw aa=>(q (f w) aa).map (·.2)
theorem bh{q:World->(Nat->aL)->ax}(w:World)(h0:qL q (fG false)=qR q (fG false):=by kernel_rfl)(h1:qL q (fG true)=qR q (fG true):=by kernel_rfl):∀aa,aE (q w aa):=λaa=>
 aC (p:=λw=>aE (q w aa)) (λb w=>by
  cases b
  ·exact congrFun (congrFun h0 w) aa
  ·exact congrFun (congrFun h1 w) aa) w
theorem kj{q:World->(Nat->aL)->ax}(w:World)(h0:qL q (fC false false)=qR q (fC false false):=by kernel_rfl)(h1:qL q (fC true false)=qR q (fC true false):=by kernel_rfl)
  (h2:qL q (fC false true)=qR q (fC false true):=by kernel_rfl) (h3:qL q (fC true true)=qR q (fC true true):=by kernel_rfl):∀aa,aE (q w aa):=λaa=>
 gK (p:=λw=>aE (q w aa)) (λb b' w=>by
  cases b<;>cases b'
  ·exact congrFun (congrFun h0 w) aa
  ·exact congrFun (congrFun h1 w) aa
  ·exact congrFun (congrFun h2 w) aa
  ·exact congrFun (congrFun h3 w) aa) w
end Mine
namespace Mine
def qA{α:Type}(q:World->α)(f:World->World):=λw=>q (f w)
def qB{α:Type}(q:World->α)(f:World->World):=λw=>q (f w)
theorem bR{α:Type}{f g:World->α}(w:World)(h0:qA f (fG false)=qB g (fG false):=by kernel_rfl)(h1:qA f (fG true)=qB g (fG true):=by kernel_rfl):f w=g w:=
 aC (p:=λw=>f w=g w) (λb w=>by
  cases b
  ·exact congrFun h0 w
  ·exact congrFun h1 w) w
theorem RA{α:Type}{f g:World->α}(w:World)(h0:qA f (fC false false)=qB g (fC false false):=by kernel_rfl)(h1:qA f (fC true false)=qB g (fC true false):=by kernel_rfl)
  (h2:qA f (fC false true)=qB g (fC false true):=by kernel_rfl) (h3:qA f (fC true true)=qB g (fC true true):=by kernel_rfl):f w=g w:=
 gK (p:=λw=>f w=g w) (λb b' w=>by
  cases b<;>cases b'
  ·exact congrFun h0 w
  ·exact congrFun h1 w
  ·exact congrFun h2 w
  ·exact congrFun h3 w) w
noncomputable def cX(F:aj)(X:aA):aj:=λa=>match X.find? (λp=>p.1==a)with
 |some p=>some p.2
 |none=>F a
theorem av{X:aA}(hn:(X.map (·.1)).Nodup){p:Addr × Obj}(hp:p∈X):cX F X p.1=some p.2:=by
 unfold cX;induction X with
 |nil=>cases hp
 |cons q X ih=>
  rw [List.map_cons,List.nodup_cons]at hn;rcases List.mem_cons.mp hp with rfl|hp
  ·simp
  ·have:q.1≠p.1:=λe=>hn.1 (e▸List.mem_map_of_mem (f:=(·.1)) hp);have e:(List.find? (λr:Addr × Obj=>r.1==p.1) (q::X))=List.find? (λr=>r.1==p.1) X:=by rw [List.find?_cons,show(q.1==p.1)=false from beq_eq_false_iff_ne.mpr this]
   rw [e];exact ih hn.2 hp
theorem Tf{X:aA}{a:Addr}(h:a∉X.map (·.1)):cX F X a=F a:=by
 unfold cX;have:X.find? (λp=>p.1==a)=none:=by rw [List.find?_eq_none];intro p hp e;exact h (by rw [<-beq_iff_eq.mp e];exact List.mem_map_of_mem hp)
 rw [this]
section
variable{K:Nat->Option Obj}{F:aj}{R:aA}{h:Heap}{s:aZ}
theorem Cm{X:aA}(hX:∀p∈X,F p.1=none):F.le (cX F X):=λa o e=>by
 rw [Tf]
 ·exact e
 ·intro hm;obtain⟨p,hp,rfl⟩:=List.mem_map.mp hm;rw [hX p hp]at e;cases e
theorem uN{X:aA}{a:Addr}{o:Obj}(e:cX F X a=some o):(a,o)∈X\/F a=some o:=by
 unfold cX at e;split at e
 ·rename_i p hp;cases e;have h1:=List.mem_of_find?_eq_some hp;have h2:=List.find?_some hp;left;have:p.1=a:=beq_iff_eq.mp h2;rw [<-this];exact h1
 ·exact .inr e
theorem bO.mn(x:bO K F R h s){n:Nat}{X L1 G1:aA}(hL:s.L.take n=L1)(hX:∀p∈X,p∈s.L.drop n)(hn:(X.map (·.1)).Nodup)(hg:F.le (cX F X)->∀p∈G1,cX F X p.1=some p.2):
  bO K (cX F X) R h ⟨L1,G1,s.N,s.t⟩/\F.le (cX F X):=by
 have C8:∀p∈X,p∈s.L++R:=λp hp=>List.mem_append_left _ (List.mem_of_mem_drop (hX p hp));have le:F.le (cX F X):=Cm λp hp=>x.old p (C8 p hp);have hs:(L1++R).Sublist (s.L++R):=by rw [<-hL];exact List.Sublist.append_right (List.take_sublist n _) R
 refine⟨⟨x.size,λp hp=>x.mem p (hs.subset hp),(hs.map (·.1)).nodup x.nd,λp hp=> ?_,λa o e=>le a o (x.gO a o e),λa o e=> ?_,hg le⟩,le⟩
 ·rw [Tf]
  ·exact x.old p (hs.subset hp)
  ·intro hm;obtain⟨q,hq,e⟩:=List.mem_map.mp hm;have nd:((L1++(s.L.drop n++R)).map (·.1)).Nodup:=by rw [<-List.append_assoc,<-hL,List.take_append_drop];exact x.nd
   rw [List.map_append,List.map_append]at nd;rcases List.mem_append.mp hp with hp|hp
   ·have:=(List.nodup_append.mp nd).2.2 p.1 (List.mem_map_of_mem hp) q.1 (List.mem_append_left _ (List.mem_map_of_mem (f:=(·.1)) (hX q hq)));exact this e.symm
   ·have:=(List.nodup_append.mp (List.nodup_append.mp nd).2.1).2.2 q.1 (List.mem_map_of_mem (hX q hq)) p.1 (List.mem_map_of_mem hp);exact this e
 ·rcases uN e with hm|e
  ·exact x.mem _ (C8 _ hm)
  ·exact x.fix a o e
end
section
variable{w:World}{R:aA}{F:aj}
theorem aD.zO{st:aZ}{aX:Nat}{c:Code}{ai:Result->aj->aZ->Prop}{L1 G1 X:aA}{n:Nat}(hL:st.L.take n=L1)(hX:∀p∈X,p∈st.L.drop n)(hn:(X.map (·.1)).Nodup)(hg:F.le (cX F X)->∀p∈G1,cX F X p.1=some p.2)
  (h:F.le (cX F X)->∀R,aD w R (cX F X) ⟨L1,G1,st.N,st.t⟩ aX c ai):aD w R F st aX c ai:=λhh g dr os Rl=>by
 obtain⟨R1,le⟩:=Rl.mn hL hX hn hg;exact((h le R) hh g dr os R1).aT λr s' hh=>by obtain⟨F',ah,hl,cu,ht,ho,kJ⟩:=hh;exact⟨F',ah,le.trans hl,cu,ht,ho,kJ⟩
theorem VC.za{L' X:aA}{ai:Result->aj->aZ->Prop}{r:Result}{n:Nat}{d4:aZ->ax}(hn:(X.map (·.1)).Nodup)(zm:∀st,aY (d4 st)->st.L.take n=L'/\∀p∈X,p∈st.L.drop n)
  (h:F.le (cX F X)->∀N' t',ai r (cX F X) ⟨L',[],N',t'⟩):VC w R ai F (.ret r d4):=λhh st Rl e=>by
 obtain⟨h1,h2⟩:=zm st e;obtain⟨R1,le⟩:=Rl.mn (G1:=[]) h1 h2 hn (by intro J p hp;cases hp);exact⟨cX F X,⟨L',[],st.N,st.t⟩,le,R1,rfl,h le _ _⟩
theorem bQ{l:aA}{i n:Nat}{p:Addr × Obj}(h:bP l i=some p)(hi:n<=i):p∈l.drop n:=by rw [eU]at h;refine List.mem_of_getElem? (i:=i-n) ?_;rw [List.getElem?_drop];rw [show n+(i-n)=i by lia];exact h
end
namespace H
namespace LL
structure In where
 a:Addr
 vs:aV
 ep:Nat
 e:aU
 te:Nat
 N:Nat
 tk:Nat
noncomputable def c(a:Addr)(e:aU)(te:Nat):Code:= .call (.ref 1358) ⟨[.ref a,.bytes e te],[]⟩
noncomputable def wJ:List Nat:=match w.params.followText f5 with
 |true=>(zJ [Si,[0]])
 |false=>(zJ [Si,[5,5,1,5,25,5,0]])
noncomputable def rx:List Nat:=match w.params.followText f5 with
 |true=>(zJ [Si,[0,9,9,9,9,9,9]])
 |false=>(zJ [Si,[5,5,1,5,25,5,0,9,9,9,9,9,9]])
noncomputable def G(x:In):aA:=[(x.a,aw x.vs x.ep)]
def lc(x:In):Code:=kh (aR w 300 5 (wJ w) (leaf (.ok .next)) v7 (c x.a x.e x.te) ⟨[],G x,x.N,x.tk⟩)
def fo(x:In):Obj:={cls:= .type "frame",data:= .dict #[d P "rows" x.tk (.ref x.a)] 1}
noncomputable abbrev Om(x:In):Obj:={cls:= .type "cell",data:= .cell (some (.bytes x.e x.te))}
abbrev Q:=Option (Nat × aU × Nat × Nat × aU × Nat)
def dO(o:Q):Obj:=match o with
 |none=>{cls:= .type "dict",data:= .dict #[] 0}
 |some (k1,t,tt,k2,e,te)=>{cls:= .type "dict",data:= .dict #[d P "text" k1 (.bytes t tt),d P "_" k2 (.bytes e te)] 2}
structure Tu where
 i:Nat
 xs:aV
 n:Nat
 o:Q
 M:Nat
 tk:Nat
def lL(x:In)(y:Tu):aA:=[(x.N,fo P x),(x.N+1,Om x),(x.N+2,pK x.a y.i),(x.N+3,aw y.xs y.n),(x.N+4,dO P y.o)]
def lE(x:In)(y:Tu):aA:=[(x.N,fo P x),(x.N+1,Om x),(x.N+2,yY y.i),(x.N+3,aw y.xs y.n),(x.N+4,dO P y.o)]
noncomputable def iX(z:LD.Ro)(tk:Nat)(o:Q):Q:=match o with
 |none=>some (tk,z.t,z.tt,tk+1,z.e,z.te)
 |some (k1,_,_,k2,_,_)=>some (k1,z.t,z.tt,k2,z.e,z.te)
noncomputable def next(z:LD.Ro)(y:Tu)(n:Nat)(M t:Nat):Tu:=⟨y.i+1,y.xs.push (.ref (y.M+3)),n,iX z y.tk y.o,M,t⟩
def tp(x:In)(y:Tu)(z:LD.Ro):bE:=
 .hk (cO 2 (x.N+2) x.a y.i (.ref z.r) [(z.r,dU (.bytes z.t z.tt) (.bytes z.e z.te))]) λJ=> .hk (br 3 (x.N+3) y.xs y.n (.ref (y.M+3))) λb2=>
  .again 4 (lc w x) λst=>[(.l (st.L.take 5),.l (lL w.params x (next z y (b2.k 0) 0 0))),(.p (bP st.L 8),.p (some (y.M+3,dU (.bytes z.t z.tt) (.bytes x.e x.te))))]
def tS(x:In)(y:Tu)(z:LD.Ro)(aa:RB):ax:=aR w 300 3 ([1,5,1,5,0,4]++(zJ [[5],RG,[10,11,11,1,11,4,11,11,4,11,11,11,1,11,4,11,11,4,11,11,11,1,11,4,11,11,4,11,11,15,9,9,9,9,9,3,1,7,0,5]])++[0])
 (tp w x y z) aa (lc w x) ⟨lL w.params x y,G x,y.M,y.tk⟩
theorem w8(x:In)(y:Tu)(z:LD.Ro)(aa:RB):aE (tS w x y z aa):=by
 obtain⟨i,xs,n,o,M,tk⟩:=y;cases o with
 |none=>apply RA w
 |some q=>obtain⟨k1,u,tu,k2,v,tv⟩:=q;apply RA w
def uS(x:In)(y:Tu)(aa:RB):ax:=aR w 300 3 ([1,5,1,5,0,4]++[13])
 (.hk (eH 2 (x.N+2) x.a y.i) λJ=> .ret (.ok .next) λst=>[(.l (st.L.take 5),.l (lE w.params x y))]) aa (lc w x) ⟨lL w.params x y,G x,y.M,y.tk⟩
theorem rE w x y:∀aa,aE (uS w x y aa):=by apply kj w
noncomputable def laid(af:List (aU × aU))(e:aU):List (aU × aU):=af.map λp=>(p.1,e)
theorem pg{w:World}{x:In}{af:List (aU × aU)}(hlen:af.length<=sizeLine):
  ∀(k:Nat) (F:aj) (y:Tu) (R:aA),F x.a=some (aw x.vs x.ep)->cy F x.vs.toList af->y.i+k=af.length->cy F y.xs.toList ((laid af x.e).take y.i)->(y.o≠none\/0<k)->
   aD w R F ⟨lL w.params x y,G x,y.M,y.tk⟩ 4 (lc w x) λr F' ah=>F.le F'/\r= .ok .next/\∃y',ah.L=lE w.params x y'/\y'.i=af.length/\cy F' y'.xs.toList (laid af x.e)/\y'.o≠none
 |0,F,y,R,ha,hr,hi,hb,ho=>by
  have hi:y.i=af.length:=hi;have hx:x.vs[y.i]? =none:=by have:=hr.length;rw [Array.getElem?_eq_none];simp at this;lia
  refine aD.run (d:=3) nr (rE w x y) ⟨eH.ok ha hx,λa J hf=> ?_⟩;rw [show a.F=F from hf];refine VC.keep λN' t'=>⟨aj.le.refl F,rfl,y,rfl,hi,?_,ho.resolve_right (Nat.lt_irrefl 0)⟩
  have e:(laid af x.e).take y.i=laid af x.e:=List.take_of_length_le (by simp [laid];lia);rw [<-e];exact hb
 |k+1,F,y,R,ha,hr,hi,hb,ho=>by
  have rz:y.i<af.length:=by lia
  obtain⟨⟨t,e⟩,pq⟩:∃p,af[y.i]? =some p:=⟨_,List.getElem?_eq_getElem rz⟩
  obtain⟨r,tt,te,hv,hF⟩:=hr.get pq;have hx:x.vs[y.i]? =some (.ref r):=by simpa using hv
  have zh:y.xs.size<=sizeLine:=by have e1:=hb.length;rw [<-Array.length_toList,e1];simp [laid];lia
  refine aD.run (d:=3) nr (w8 w x y ⟨r,t,tt,e,te⟩) ⟨cO.ok ha hx (by intro p hp;rw [List.mem_singleton]at hp;subst hp;exact hF),λa J hf=> ?_⟩;rw [show a.F=F from hf];refine⟨br.ok zh,λb2 J hf=> ?_⟩;rw [show b2.F=F from hf];intro st he;have h1:=cp.l.inj (aY.cons.mp he).1;have h2:=cp.p.inj (aY.cons.mp (aY.cons.mp he).2).1;refine aD.zO (n:=5) (X:=[(y.M+3,dU (.bytes t tt) (.bytes x.e x.te))]) h1 (by intro p hp;rw [List.mem_singleton]at hp;subst hp;exact bQ h2 (by decide)) (by simp) (G1:=G x) (λle p hp=>by rw [G,List.mem_singleton]at hp;subst hp;exact le _ _ ha) λle R'=> ?_;refine aD.aT (pg hlen k _ (next ⟨r,t,tt,e,te⟩ y (b2.k 0) st.N st.t) R' (le _ _ ha) (hr.le le) (by show y.i+1+k=_;lia) ?_ (.inl ?_)) λr F' ah hh=>by obtain⟨l,h⟩:=hh;exact⟨le.trans l,h⟩
  ·show cy _ (y.xs.push _).toList ((laid af x.e).take (y.i+1));rw [Array.toList_push,List.take_add_one];have:(laid af x.e)[y.i]? =some (t,x.e):=by simp [laid,pq]
   rw [this];exact(hb.le le).eO _ _ _ tt x.te (av (p:=(y.M+3,dU (.bytes t tt) (.bytes x.e x.te))) (by simp) (.head _))
  ·show iX _ y.tk y.o≠none;unfold iX;split<;>exactλh=>by cases h
noncomputable def y0:Tu:=⟨0,#[],0,none,0,0⟩
noncomputable def vH(m:Nat)(a:aL):Tu:=⟨m,a.l 0,a.k 0,some (a.k 1,a.x 0,a.k 2,a.k 3,a.x 1,a.k 4),0,0⟩
def bL(x:In)(af:List (aU × aU)):az:=⟨4,λJ=>lc w x,λst=>[(.l st.L,.l (lL w.params x y0)),(.l st.G,.l (G x))],λJ J=> .ok .next,
 λa st=>⟨lE w.params x (vH af.length a),st.G,a.N,a.t⟩,λF a=>cy a.F (a.l 0).toList (laid af x.e)⟩
theorem bL.ok{w:World}{R:aA}{F:aj}{x:In}{af:List (aU × aU)}(ha:F x.a=some (aw x.vs x.ep))(hr:cy F x.vs.toList af)(hlen:af.length<=sizeLine)
  (dY:0<af.length):(bL w x af).OK w R F:=λc st hc he=>by
 rw [hc];obtain⟨L',G',N',t'⟩:=st;obtain rfl:=cp.l.inj (aY.cons.mp he).1;obtain rfl:=cp.l.inj (aY.cons.mp (aY.cons.mp he).2).1
 refineλh g dr os Rl=>((pg hlen af.length F ⟨0,#[],0,none,N',t'⟩ R ha hr (Nat.zero_add _) (by rw [List.take_zero];exact .nil) (.inr dY)) h g dr os Rl).aT λr s'=> ?_
 rintro⟨F',⟨L',G',N',t'⟩,hl,cu,ht,ho,Il,rfl,y',rfl,hi,hb,hn⟩;obtain⟨i,xs,n,o,M,tk⟩:=y';cases o with
 |none=>exact absurd rfl hn
 |some q=>
  obtain⟨k1,u,tu,k2,v,tv⟩:=q;obtain rfl:i=af.length:=hi;refine⟨F',⟨_,G x,N',t'⟩,hl,⟨cu.size,cu.mem,cu.nd,cu.old,cu.gO,cu.fix,λp hp=> ?_⟩,ht,ho,
   ⟨F',N',t',lk tv [n,k1,tu,k2],lk v [u],λJ=> .none,λJ=>⟨.none,.none,.fields #[],#[]⟩,λJ=>xs,⟨0,0,0,0⟩,[]⟩,rfl,hb,rfl,rfl⟩
  rw [G,List.mem_singleton]at hp;subst hp;exact hl _ _ ha
def pl(x:In)(af:List (aU × aU)):bE:= .hk (bL w x af) λa=> .ret (.ok (.ret (.ref (x.N+3)))) λst=>[(.p (bP st.L 3),.p (some (x.N+3,aw (a.l 0) (a.k 0))))]
def pS(x:In)(af:List (aU × aU))(aa:RB):ax:=aR w 300 5 (rx w) (pl w x af) aa (c x.a x.e x.te) ⟨[],G x,x.N,x.tk⟩
theorem yI w x af:∀aa,aE (pS w x af aa):=by apply kj w
end LL
def dE(a:Addr)(e:aU)(af:List (aU × aU)):az:=aW 6 (λc=>LL.c a e (cA c 1)) (λb=> .ok (.ret (.ref (b.k 0)))) λF b=>bM b.F (b.k 0) (LL.laid af e)
theorem dE.ok{w:World}{R:aA}{F:aj}{a:Addr}{e:aU}{af:List (aU × aU)}(hr:bM F a af)(hlen:af.length<=sizeLine)(dY:0<af.length):(dE a e af).OK w R F:=by
 obtain⟨vs,ep,ha,hr⟩:=hr;refine aW.of (G1:=[(a,aw vs ep)]) (by intro p hp;rw [List.mem_singleton]at hp;subst hp;exact ha) λc R N t=> ?_;refine aD.run (d:=5) nr (LL.yI w ⟨a,vs,ep,e,cA c 1,N,t⟩ af) ⟨LL.bL.ok ha hr hlen dY,λb J hf=> ?_⟩;refine VC.za (n:=0) (L':=[]) (X:=[(N+3,aw (b.l 0) (b.k 0))]) (by simp) (λst he=>⟨rfl,λp hp=> ?_⟩) λle N' t'=> ?_
 ·rw [List.mem_singleton]at hp;subst hp;exact bQ (cp.p.inj (aY.cons.mp he).1) (Nat.zero_le _)
 ·exact⟨rfl,bB _ N' t' (N+3),rfl,rfl,rfl,⟨_,_,av (p:=(N+3,aw (b.l 0) (b.k 0))) (by simp) (.head _),hf.le le⟩,rfl⟩
end H
def kN(x sep:aU)(n:Nat):az:=⟨0,λc=> .builtin "bytes.split" ⟨[.bytes x (cA c 0),.bytes sep (cA c 1)],[]⟩,λst=>[(.n st.N,.n n)],λJ st=> .ok (.ret (.ref n)),
 λa st=>⟨st.L,st.G++[(n,aw (a.l 0) 0)],n+1,a.t⟩,λF a=>a.F n=some (aw (a.l 0) 0)/\ay (a.l 0).toList (bj x sep)⟩
theorem sP:entryFor table "bytes.split"=some Builtin.«bytes.split»:=entryFor_of_tree (by kernel_rfl)
section
variable{w:World}{R:aA}{F:aj}
theorem bI.HE{st:aZ}{ai:Result->aj->aZ->Prop}{h:Heap}{g:Array GenState}{dr:Drawn}{os:OsState}{r:Result}{o:Obj}(Rl:bO (H.KP w.params) F R h st)(hf:o.isFreed=false)(t':Nat)
  (hp:ai r (cX F [(st.N,o)]) ⟨st.L,st.G++[(st.N,o)],st.N+1,t'⟩):bI w R os F ai r ⟨h.push o,g,dr,t',os⟩:=by
 have R1:=Rl.alloc hf;have R2:bO (H.KP w.params) F R (h.push o) ⟨st.L++[(st.N,o)],st.G,st.N+1,st.t⟩:=by rw [<-jm];exact R1
 obtain⟨R3,le⟩:=R2.mn (n:=st.L.length) (X:=[(st.N,o)]) (L1:=st.L) (G1:=st.G++[(st.N,o)]) (by simp) (by simp) (by simp) λle p hp=>by
  rcases List.mem_append.mp hp with hp|hp
  ·exact le _ _ (Rl.gs p hp)
  ·rw [List.mem_singleton]at hp;subst hp;exact av (p:=(st.N,o)) (by simp) (.head _)
 exact⟨_,_,le,R3.toks t',rfl,rfl,hp⟩
noncomputable def Jf(F:aj)(N t:Nat)(vs:aV):aL:=⟨F,N,t,λJ=>0,λJ=> #[],λJ=> .none,λJ=>⟨.none,.none,.fields #[],#[]⟩,λJ=>vs,⟨0,0,0,0⟩,[]⟩
theorem kN.ok{x sep:aU}{n:Nat}(ho:sep.isEmpty=false)(hz:∀p∈bj x sep,p.size<=sizeLine)(hl:(bj x sep).length<=sizeLine):(kN x sep n).OK w R F:=λc st hc he=>by rw [hc];have hn:st.N=n:=cp.n.inj (aY.cons.mp he).1;subst hn;refine aD.meets (by decide+kernel) sP (sg x sep _ _ ho hz hl) λhh g dr os Rl A vs k hv=> ?_;have e:hh.objs.size=st.N:=Rl.size;show bI w R os F _ (.ok (.ret (.ref hh.objs.size))) _;rw [e];exact bI.HE Rl rfl k ⟨Jf (cX F [(st.N,aw vs.toArray 0)]) 0 k vs.toArray,rfl,⟨av (p:=(st.N,aw vs.toArray 0)) (by simp) (.head _),by show ay vs.toArray.toList _;simpa using hv⟩,rfl,rfl⟩
end
noncomputable def vj(N:Nat)(r:Result):bE:= .ret r λst=>[(.l st.L,.l []),(.n st.N,.n N)]
theorem aD.xg{w:World}{R:aA}{F:aj}{st:aZ}{ai:Result->aj->aZ->Prop}{aX n d:Nat}{sc:List Nat}{c:Code}{r:Result}(hl:d+1<=aX)(e:∀aa,aE (aR w n d sc (vj st.N r) aa c ⟨[],[],st.N,st.t⟩))
  (h:∀t',ai r F ⟨st.L,st.G,st.N,t'⟩):aD w R F st aX c ai:=by
 refine aD.qZ (G1:=[]) (P:=λr' F' N' t'=>F'=F/\r'=r/\N'=st.N) cB (λR=> ?_) λr' F' N' t' hh=> ?_
 ·refine aD.run hl e ?_;intro hh ah Rl he;have h1:=cp.l.inj (aY.cons.mp he).1;have h2:=cp.n.inj (aY.cons.mp (aY.cons.mp he).2).1;obtain⟨L',G',N',t'⟩:=ah;obtain rfl:L'=[]:=h1;obtain rfl:N'=st.N:=h2;exact⟨F,_,aj.le.refl F,Rl,rfl,rfl,rfl,rfl,rfl⟩
 ·obtain⟨h1,h2,h3⟩:=hh;subst h1 h2 h3;exact h t'
def qO(x y:Int)(b:Bool):az:=⟨1,λc=> .builtin "int.__lt__" ⟨[.int x (cA c 0),.int y (cA c 1)],[]⟩,λJ=>[],λJ J=> .ok (.ret (.bool b)),fz,same⟩
noncomputable def p8(x y:aU):Bool:=
 if(Bytes.window x.size none none).2-(Bytes.window x.size none none).1<(y.size:Int)then false
 else x.extract ((Bytes.window x.size none none).2.toNat-y.size) (Bytes.window x.size none none).2.toNat==y
noncomputable def zD(x y:aU):Bool:=
 if(Bytes.window x.size none none).2-(Bytes.window x.size none none).1<(y.size:Int)then false
 else Fast.tw8050958516035322399 x ((Bytes.window x.size none none).2.toNat-y.size) (Bytes.window x.size none none).2.toNat==y
theorem zC(x y:aU):zD x y=p8 x y:=by unfold zD p8;rw [<-Fast.te8050958516035322399]
def j3(x y:aU)(b:Bool):az:=⟨1,λc=> .builtin "bytes.endswith" ⟨[.bytes x (cA c 0),.bytes y (cA c 1)],[]⟩,λJ=>[],λJ J=> .ok (.ret (.bool b)),fz,same⟩
def Pe(x y:Int)(t u N tk:Nat)(aa:RB):ax:=aR w 50 0 [60] (vj N (.ok (.ret (.bool (decide (x<y)))))) aa (.builtin "int.__lt__" ⟨[.int x t,.int y u],[]⟩) ⟨[],[],N,tk⟩
theorem Er(x y:Int)(t u N tk:Nat)(aa:RB):aE (Pe w x y t u N tk aa):=by kernel_rfl
def Qp(x y:aU)(t u N tk:Nat)(aa:RB):ax:=aR w 50 0 [67] (vj N (.ok (.ret (.bool (zD x y))))) aa (.builtin "bytes.endswith" ⟨[.bytes x t,.bytes y u],[]⟩) ⟨[],[],N,tk⟩
theorem E6(x y:aU)(t u N tk:Nat)(aa:RB):aE (Qp w x y t u N tk aa):=by kernel_rfl
section
variable{w:World}{R:aA}{F:aj}
theorem qO.ok{x y:Int}{b:Bool}(hb:decide (x<y)=b):(qO x y b).OK w R F:=λc st hc J=>by rw [hc];refine aD.xg (d:=0) nr (Er w x y _ _ _ _) λt'=> ?_;rw [hb];exact az.de (h:=qO x y b) (λJ=>rfl) _ 0 rfl rfl
theorem j3.ok{x y:aU}{b:Bool}(hb:p8 x y=b):(j3 x y b).OK w R F:=λc st hc J=>by rw [hc];refine aD.xg (d:=0) nr (E6 w x y _ _ _ _) λt'=> ?_;rw [zC,hb];exact az.de (h:=j3 x y b) (λJ=>rfl) _ 0 rfl rfl
end
def rR(st:aZ)(j:Nat):Nat:=match bP st.L j with
 |some p=>match p.2.data with
  | .fields vs=>match bP vs.toList 1 with
   |some v=>jO v
   |none=>0
  |_=>0
 |none=>0
def oj(x:aU)(k:Int)(j:Nat)(a:Addr):az:=⟨0,λc=> .builtin "bytes.__getitem__" ⟨[.bytes x (cA c 0),.ref a],[]⟩,λst=>[(.p (bP st.L j),.p (some (a,{cls:= .type "slice",data:= .fields #[.none,.int k (rR st j),.none]})))],
 λb J=> .ok (.ret (.bytes (KBy.picked x none (some k)) (b.k 0))),fz,same⟩
noncomputable abbrev E7(it:Addr)(i:Nat)(old:Value):Obj:={cls:= .type "enumerate",data:= .fields #[.none,.bool false,.ref it,.int i 0,.none,old]}
def gZ(l:Addr):az:=⟨0,λJ=> .builtin "enumerate.__new__" ⟨[.type "enumerate",.ref l],[]⟩,λJ=>[],λJ st=> .ok (.ret (.ref (st.N+1))),
 λa st=>⟨eO (eO st.L st.N (pK l 0)) (st.N+1) (E7 st.N 0 .none),st.G,st.N+2,st.t⟩,same⟩
section
variable{w:World}{R:aA}{F:aj}
theorem oj.ok{x:aU}{k:Int}{j:Nat}{a:Addr}(hz:x.size<=sizeLine):(oj x k j a).OK w R F:=λc st hc he=>by
 rw [hc];have hj:=cp.p.inj (aY.cons.mp he).1;exact aD.meets (by decide+kernel) FB.entry_bytes_getitem (KBc.meets_slice2 x _ a .none (.int k (rR st j))) λhh g dr os Rl A=>⟨⟨_,Rl.mem _ (List.mem_append_left _ (aJ hj)),rfl,rfl⟩,Nat.le_trans (KBc.size_picked_le ..) hz,λt' k'=>
  bI.pure Rl k' (az.de (h:=oj x k j a) (λJ=>rfl) k' t' rfl rfl)⟩
theorem gZ.ok{l:Addr}{vs:aV}{n:Nat}(hl:F l=some (aw vs n)):(gZ l).OK w R F:=λc st hc J=>by
 rw [hc];refine aD.meets (by decide+kernel) PySem.F.entry_enumerate_new (meets_enumerate_newL l vs n none #[]) λhh g dr os Rl A=>⟨Rl.fix _ _ hl,?_⟩
 have e:hh.objs.size=st.N:=Rl.size;have R1:=(Rl.alloc (o:=pK l 0) rfl).alloc (o:=E7 st.N 0 .none) rfl;have e2:(hh.push (pK l 0)).objs.size=st.N+1:=by rw [Heap.size_push,e]
 show bI w R os F _ (.ok (.ret (.ref (hh.push (pK l 0)).objs.size))) ⟨(hh.push (pK l 0)).push (E7 hh.objs.size 0 .none),g,dr,st.t,os⟩;rw [e2,e];exact⟨F,_,aj.le.refl F,R1,rfl,rfl,bB F 0 st.t 0,rfl,rfl,rfl,rfl⟩
end
section
variable(w:World)(R:aA)
def Jk{α:Type}(os:OsState)(F:aj)(ai:α->aj->aZ->Prop)(a:α)(s':Shared):Prop:=
 ∃F' ah,F.le F'/\bO (H.KP w.params) F' R s'.heap ah/\s'.toks=ah.t/\s'.os=os/\ai a F' ah
structure ab{α:Type}(F:aj)(st:aZ)(aX:Nat)(t:Sem α)(ai:α->aj->aZ->Prop):Prop where
 wM:∀A,ff aX A->∀h g dr os,bO (H.KP w.params) F R h st->wpAny (model H.pw w) A t (Jk w R os F ai) (λJ J=>False) ⟨h,g,dr,st.t,os⟩
end
section
variable{w:World}{R:aA}{F:aj}{st:aZ}{aX:Nat}{α β:Type}
theorem ab.bind{t:Sem α}{f:α->Sem β}{P:α->aj->aZ->Prop}{Q:β->aj->aZ->Prop}(h1:ab w R F st aX t P)(h2:∀a F' ah,F.le F'->P a F' ah->ab w R F' ah aX (f a) Q):ab w R F st aX (t>>=f) Q:=by refine⟨λA hA h g dr os Rl=> ?_⟩;refine wpAny_bind (wpAny_mono (h1.wM A hA h g dr os Rl) (λa s' hp=> ?_) λJ J x=>x);obtain⟨F',ah,hl,cu,ht,ho,kJ⟩:=hp;obtain⟨h',g',Rm,t',f6⟩:=s';obtain rfl:t'=ah.t:=ht;obtain rfl:f6=os:=ho;exact wpAny_mono ((h2 a F' ah hl kJ).wM A hA h' g' Rm _ cu) (λb vQ hh=>by obtain⟨F2,fI,C6,r⟩:=hh;exact⟨F2,fI,hl.trans C6,r⟩) λJ J x=>x
theorem ab.aT{t:Sem α}{P Q:α->aj->aZ->Prop}(h:ab w R F st aX t P)(hq:∀a F' ah,F.le F'->P a F' ah->Q a F' ah):ab w R F st aX t Q:=⟨λA hA hh g dr os Rl=>
 wpAny_mono (h.wM A hA hh g dr os Rl) (λa s' hh=>by obtain⟨F',ah,hl,cu,ht,ho,hp⟩:=hh;exact⟨F',ah,hl,cu,ht,ho,hq a F' ah hl hp⟩) λJ J x=>x⟩
theorem ab.le{t:Sem α}{P:α->aj->aZ->Prop}(h:ab w R F st aX t P){n:Nat}(hn:aX<=n):ab w R F st n t P:=⟨λA hA=>h.wM A (hA.le hn)⟩
theorem ab.pure{a:α}{P:α->aj->aZ->Prop}(h:P a F st):ab w R F st aX (Pure.pure a:Sem α) P:=⟨λA hA hh g dr os Rl=>wpAny_pure ⟨F,st,aj.le.refl F,Rl,rfl,rfl,h⟩⟩
theorem ab.onRaise{t:Sem α}{k:Value->Sem Unit}{P:α->aj->aZ->Prop}(h:ab w R F st aX t P):ab w R F st aX (t.onRaise k) P:=⟨λA hA hh g dr os Rl=>
 wpAny_onRaise (wpAny_mono (h.wM A hA hh g dr os Rl) (λJ J x=>x) λJ J x=>x.elim)⟩
theorem ab.holding{t:Sem α}{vs:List Value}{P:α->aj->aZ->Prop}(h:ab w R F st aX t P):ab w R F st aX (holding vs t) P:=⟨λA hA hh g dr os Rl=>wpAny_holding (h.wM A hA hh g dr os Rl)⟩
theorem ab.standAt{p:Pos}{P:Unit->aj->aZ->Prop}(h:P () F st):ab w R F st aX (standAt p) P:=⟨λA hA hh g dr os Rl=>wpAny_standAt ⟨F,st,aj.le.refl F,Rl,rfl,rfl,h⟩⟩
theorem ab.eq{t t':Sem α}{P:α->aj->aZ->Prop}(e:t=t')(h:ab w R F st aX t' P):ab w R F st aX t P:=e▸h
theorem aD.qH{c:Code}{ai:Result->aj->aZ->Prop}(hl:eM c)(h:ab w R F st aX (denote table c) λfin F' ah=>match fin with
  | .done f=>ai (.ok f) F' ah
  | .again c'=>c'.quiet=true/\aD w R F' ah (aX+1) c' ai):aD w R F st (aX+1) c ai:=by
 intro hh g dr os Rl A hA;refine codeAny_of_tree ?_;refine wpAny_mono (h.wM _ (hA.under hl) hh g dr os Rl) (λfin s' hp=> ?_) λJ J x=>x.elim;obtain⟨F',ah,Il,cu,ht,ho,kJ⟩:=hp;cases fin with
 |done f=>exact⟨F',ah,Il,cu,ht,ho,kJ⟩
 |again c'=>refine⟨kJ.1,?_⟩;obtain⟨h',g',Rm,t',f6⟩:=s';obtain rfl:t'=ah.t:=ht;obtain rfl:f6=os:=ho;exact codeAny_mono ((kJ.2 h' g' Rm _ cu) A hA) λr vQ hh=>by obtain⟨F2,fI,C6,r⟩:=hh;exact⟨F2,fI,Il.trans C6,r⟩
noncomputable def aF(w:World)(n d:Nat)(sc:List Nat)(p:bE)(aa:RB)(t:Sem α)(enc:α->Flow)(s:aZ):ax:=
 Ue (H.KP w.params) ⟨H.pw,w.params⟩ n d sc p aa none (t.bind λa=> .pure (.done (enc a))) [] s
theorem ab.run{t:Sem α}{enc:α->Flow}{n d:Nat}{sc:List Nat}{p:bE}{ai:Result->aj->aZ->Prop}{P:α->aj->aZ->Prop}(hl:d<=aX)(e:∀aa,(aF w n d sc p aa t enc st).map (·.1)=(aF w n d sc p aa t enc st).map (·.2))
  (V:VC w R ai F p) (Lu:∀a F' ah,ai (.ok (enc a)) F' ah->P a F' ah) (LZ:∀x F' ah,¬ai (.error x) F' ah):ab w R F st aX t P:=by
 refine⟨λA hA h g dr os Rl=> ?_⟩;have T:=mV (jz (m:=0) (F₀:=F) (ai:=ai) n (g:=g) (dr:=dr) (os:=os) (aj.le.refl F) Rl (λaa=>Rt (e aa)) V A (hA.le (by lia)));intro Γ p' hΓ;have h1:=T Γ p' hΓ;change Sem.wp _ Γ (t>>=λa=>(Pure.pure (.done (enc a)):Sem PySem.Fin)) _ _ p' _ at h1;rw [Sem.wp_bind']at h1;refine Sem.wp_mono _ Γ _ (λa p₁ s₁ h₁=> ?_) (λx J s₁ h₁=> ?_) p' _ h1
 ·obtain⟨F',ah,Il,cu,ht,ho,hp⟩:=h₁;exact⟨F',ah,Il,cu,ht,ho,Lu _ _ _ hp⟩
 ·obtain⟨F',ah,J,J,J,J,hp⟩:=h₁;exact(LZ _ _ _ hp).elim
end
noncomputable def gE(l:Addr)(n:Nat):az:=⟨1,λJ=> .builtin "len" ⟨[.ref l],[]⟩,λJ=>[],λa J=> .ok (.ret (.int n (a.k 0))),fz,same⟩
def ig(x:aU)(n:Nat):az:=⟨1,λc=> .builtin "len" ⟨[.bytes x (cA c 0)],[]⟩,λJ=>[],λa J=> .ok (.ret (.int n (a.k 0))),fz,same⟩
section
variable{w:World}{R:aA}{F:aj}
theorem gE.ok{l:Addr}{vs:aV}{ep n:Nat}(hl:F l=some (aw vs ep))(hn:vs.size=n)(hz:n<=sizeLine):(gE l n).OK w R F:=λc st hc J=>by
 rw [hc];intro h g dr os Rl A hA;refine codeAny_builtin entry_len ?_;rw [Around.under_plainId (by decide+kernel)];have wR:(n:Int)<2^63:=by rw [sizeLine_eq]at hz;lia
 refine wpAny_mono (wpAny_len_body_list (s:=⟨h,g,dr,st.t,os⟩) (l:=l) (items:=vs) (Q:=λr s'=>bI w R os F (λr F' ah=>(gE l n).post F st r F' ah) (.ok (.ret r)) s') ⟨_,Rl.fix _ _ hl,rfl,ep,rfl⟩ (by rw [hn];exact wR) ?_) (λfin s' h'=>by obtain⟨r,rfl,hq⟩:=h';exact hq) λJ J x=>x;rw [hn];exact bI.pure Rl _ (az.de (h:=gE l n) (λJ=>rfl) _ _ rfl rfl)
theorem ig.ok{x:aU}{n:Nat}(hn:x.size=n)(hz:n<=sizeLine):(ig x n).OK w R F:=λc st hc J=>by
 rw [hc];intro h g dr os Rl A hA;refine codeAny_builtin entry_len ?_;rw [Around.under_plainId (by decide+kernel)];have wR:(n:Int)<2^63:=by rw [sizeLine_eq]at hz;lia
 unfold Builtin.«len»;refine wpAny_bind (m:=oneArg "len" _) (wpAny_pure ?_);refine wpAny_bind (m:=callSpecial? (.bytes x _) (Str.ofString "__len__")) (wpAny_callSpecial?_slot (name:=Str.ofString "__len__") (typeIs_bytes _ x _) FB.slot_bytes_len (call_gives FB.slot_bytes_len (typeIs_bytes _ x _) FB.entry_bytes_len (FB.args_bytes_len_1 _) (gives_bytes_len x _) ?_));show wpAny _ _ _ _ _ ⟨h,g,dr,st.t+1,os⟩;refine wpAny_bind (wpAny_holding (wpAny_pure ?_));refine wpAny_bind (wpAny_letGo ?_);show wpAny _ _ (if((x.size:Nat):Int)<0 then _ else _) _ _ _;rw [if_neg (by lia)];show wpAny _ _ (if((x.size:Nat):Int)≥2^63 then _ else _) _ _ _;rw [if_neg (by rw [hn];lia),hn];refine wpAny_bind (wpAny_mkInt (wpAny_pure ?_));exact bI.pure Rl _ (az.de (h:=ig x n) (λJ=>rfl) _ _ rfl rfl)
end
noncomputable def bH(L G:aA)(N t:Nat)(st:aZ):ax:=[(.l st.L,.l L),(.l st.G,.l G),(.n st.N,.n N),(.n st.t,.n t)]
theorem eA{L G:aA}{N t:Nat}{st:aZ}(h:aY (bH L G N t st)):st=⟨L,G,N,t⟩:=by obtain⟨L',G',N',t'⟩:=st;have e1:=aY.cons.mp h;have e2:=aY.cons.mp e1.2;have e3:=aY.cons.mp e2.2;have e4:=aY.cons.mp e3.2;obtain rfl:L'=L:=cp.l.inj e1.1;obtain rfl:G'=G:=cp.l.inj e2.1;obtain rfl:N'=N:=cp.n.inj e3.1;obtain rfl:t'=t:=cp.n.inj e4.1;rfl
theorem VC.exact{w:World}{R:aA}{F:aj}{ai:Result->aj->aZ->Prop}{r:Result}{L G:aA}{N t:Nat}(h:ai r F ⟨L,G,N,t⟩):VC w R ai F (.ret r (bH L G N t)):=λhh st Rl he=>by have:=eA he;subst this;exact⟨F,_,aj.le.refl F,Rl,rfl,h⟩
section
variable{K:Nat->Option Obj}{F:aj}{R:aA}{h h':Heap}{s:aZ}
theorem bO.mW(x:bO K F R h s){j:Nat}{p:Addr × Obj}{o:Obj}(hj:bP s.L j=some p)(hs:Heap.SameBut p.1 h h')(ho:h'.get? p.1=some o):bO K F R h' ⟨bg s.L j o,s.G,s.N,s.t⟩:=by
 obtain⟨l',hl,C3⟩:=d7 _ _ _ hj;have hl:=hl.append_right R;have C3:=(C3 o).append_right R;rw [List.cons_append]at hl C3;have ip:p∈s.L++R:=hl.mem_iff.mpr (.head _);have nd:=((hl.map (·.1)).nodup_iff).mp x.nd;rw [List.map_cons,List.nodup_cons]at nd;have key:∀q∈l'++R,q.1≠p.1:=λq hq e=>nd.1 (e▸List.mem_map_of_mem (f:=(·.1)) hq);refine⟨by rw [hs.1,x.size],?_,?_,?_,x.gO,?_,x.gs⟩
 ·intro q hq;rcases List.mem_cons.mp (C3.mem_iff.mp hq)with rfl|hq
  ·exact ho
  ·exact(hs.2 _ (key q hq)).trans (x.mem q (hl.mem_iff.mpr (.tail _ hq)))
 ·refine((C3.map (·.1)).nodup_iff).mpr ?_;rw [List.map_cons,List.nodup_cons];exact nd
 ·intro q hq;rcases List.mem_cons.mp (C3.mem_iff.mp hq)with rfl|hq
  ·exact x.old p ip
  ·exact x.old q (hl.mem_iff.mpr (.tail _ hq))
 ·intro a o e;refine(hs.2 _ ?_).trans (x.fix a o e);rintro rfl;rw [x.old p ip]at e;cases e
end
noncomputable abbrev Dm(it:Addr)(i:Nat)(item:Value)(a:Addr):Obj:={cls:= .type "enumerate",data:= .fields #[rawInt a,.bool false,.ref it,.int i 0,.none,item]}
section
variable{w:World}{R:aA}{F:aj}{st:aZ}{aX:Nat}
theorem ab.letGo{es:List PySem.Expr}{x1}{p:Pos}{e it a:Addr}{i j:Nat}{item:Value}(hj:bP st.L j=some (e,Dm it i item a)):
  ab w R F st aX (letOwnedTupleGo (.Tuple es x1 p) (.ref e) (.ref a)) λJ F' ah=>F'=F/\ah=⟨bg st.L j (E7 it i item),st.G,st.N,st.t⟩:= .mk λA hA h g dr os Rl=>by
 refine wpAny_letOwnedTupleGo_enum (s:=⟨h,g,dr,st.t,os⟩) (Rl.mem _ (List.mem_append_left _ (aJ hj))) λh' he hs=> ?_;exact⟨F,_,aj.le.refl F,Rl.mW hj hs he,rfl,rfl,rfl,rfl⟩
theorem aD.jA{target:PySem.Expr}{it:Value}{body orelse:List PySem.Stmt}{bx:PySem.Env}{ai:Result->aj->aZ->Prop}{P1:Value->aj->aZ->Prop}{P2 P3:aj->aZ->Prop}
  (h1:ab w R F st aX (pyNext it) λr F' ah=>∃v,r=some v/\P1 v F' ah) (h2:∀v F' ah,F.le F'->P1 v F' ah->ab w R F' ah aX (letOwnedTupleGo target it v) λJ F2 fI=>P2 F2 fI/\
   ab w R F2 fI aX (assign target bx v>>=λJ=>execs body bx) λf F3 fB=>f= .next/\P3 F3 fB)
  (h4:∀F' ah,F.le F'->P3 F' ah->aD w R F' ah (aX+1) (.forLoop target it body orelse bx) ai):aD w R F st (aX+1) (.forLoop target it body orelse bx) ai:=by
 refine aD.qH (cR (by intro J J x;cases x)) ?_;show ab w R F st aX ((forTurn target it body orelse bx).onRaise _) _;refine ab.onRaise ?_;unfold forTurn;refine ab.bind (P:=λJ F' ah=>F'=F/\ah=st) (ab.standAt ⟨rfl,rfl⟩) λJ F' ah J hh=> ?_;obtain⟨e1,e2⟩:=hh;subst e1 e2;refine ab.bind (ab.onRaise h1) λr F1 bU l1 hh=> ?_;obtain⟨v,hr,pQ⟩:=hh;subst hr;refine ab.bind (h2 v F1 bU l1 pQ) λJ F2 fI l2 hh=> ?_;obtain⟨Lr,hc⟩:=hh;have wX:=ab.bind (f:=λf=>match f with
  | .next=>(again (.forLoop target it body orelse bx):Sem PySem.Fin)
  | .cont=>again (.forLoop target it body orelse bx)
  | .brk=>Pure.pure (.done .next)
  | .ret v=>Pure.pure (.done (.ret v))) (Q:=λfin F' ah=>match fin with
  | .done f=>ai (.ok f) F' ah
  | .again c'=>c'.quiet=true/\aD w R F' ah (aX+1) c' ai) hc λf F3 fB l3 hh=>by obtain⟨hf,Pz⟩:=hh;subst hf;exact ab.pure ⟨rfl,h4 _ _ ((l1.trans l2).trans l3) Pz⟩
 refine .mk λA hA h g dr os Rl=> ?_;have:=wX.wM A hA h g dr os Rl;intro Γ p hΓ;have h3:=this Γ p hΓ;simp only [Sem.wp_bind']at h3⊢;refine Sem.wp_mono _ Γ _ (λJ J J h=> ?_) (λJ J J h=>h) _ _ h3;refine Sem.wp_mono _ Γ _ (λf J J h=> ?_) (λJ J J h=>h) _ _ h;cases f<;>exact h
theorem aD.oy{target:PySem.Expr}{it:Value}{body:List PySem.Stmt}{bx:PySem.Env}{ai:Result->aj->aZ->Prop}
  (h1:ab w R F st aX (pyNext it) λr F' ah=>r=none/\ai (.ok .next) F' ah):aD w R F st (aX+1) (.forLoop target it body [] bx) ai:=by
 refine aD.qH (cR (by intro J J x;cases x)) ?_;show ab w R F st aX ((forTurn target it body [] bx).onRaise _) _;refine ab.onRaise ?_;unfold forTurn;refine ab.bind (P:=λJ F' ah=>F'=F/\ah=st) (ab.standAt ⟨rfl,rfl⟩) λJ F' ah J hh=> ?_;obtain⟨e1,e2⟩:=hh;subst e1 e2;refine ab.bind (ab.onRaise h1) λr F1 bU l1 hh=> ?_;obtain⟨hr,pQ⟩:=hh;subst hr;refine ab.pure ⟨rfl,?_⟩;refine aD.qH (cR (by intro J J x;cases x)) ?_;show ab w R F1 bU aX ((execs [] bx).onRaise _>>=λf=>(Pure.pure (.done f):Sem PySem.Fin)) _;exact ab.bind (P:=λf F' ah=>f= .next/\F'=F1/\ah=bU) (ab.onRaise (ab.pure ⟨rfl,rfl,rfl⟩)) λf F' ah J hh=>by obtain⟨a,b,c⟩:=hh;subst a b c;exact ab.pure pQ
end
end Mine
namespace Mine
variable{w}
theorem VC.sm{ai:Result->aj->aZ->Prop}{F:aj}{h:az}{k:aL->bE}(o:h.OK w R F)(c:∀a,VC w R ai F (k a))(hs:∀a,h.d5 F a->a.F=F:=by exactλJ x=>x):VC w R ai F (.hk h k):=⟨o,λa J hf=>by rw [hs a hf];exact c a⟩
theorem ab.rN{st:aZ}{t:Sem Flow}{n d:Nat}{sc:List Nat}{p:bE}{Q:aj->aZ->Prop}(e:∀aa,(aF w n d sc p aa t id st).map (·.1)=(aF w n d sc p aa t id st).map (·.2))(V:VC w R (λr F' ah=>r= .ok .next/\Q F' ah) F p):ab w R F st d t λf F' ah=>f= .next/\Q F' ah:=
 ab.run (enc:=id) nr e V (λf F' ah h=>⟨Except.ok.inj h.1,h.2⟩) λJ J J h=>by cases h.1
variable(w)
noncomputable def KR:List Nat->Bool
 |[]=>true
 |a::l=> !(l.any λb=>Nat.beq a b)&&KR l
theorem nd{l:List Nat}(h:KR l=true):l.Nodup:=by
 induction l with
 |nil=>exact List.nodup_nil
 |cons a l ih=>simp only [KR,Bool.and_eq_true,Bool.not_eq_true',List.any_eq_false]at h;exact List.nodup_cons.mpr ⟨λhm=>h.1 a hm (Nat.beq_refl a),ih h.2⟩
end Mine
namespace Mine
noncomputable def bK(n i:Nat)(p:aU):aU:=if decide (i+1<n)&&p8 p #[13]then KBy.picked p none (some (-1))else p
noncomputable def bl(n:Nat):Nat->lU->lU
 |_,[]=>[]
 |i,p::ps=>bK n i p::bl n (i+1) ps
theorem eD(n:Nat):∀(ps:lU) (i:Nat),(bl n i ps).length=ps.length
 |[],_=>rfl
 |_::ps,i=>by simp [bl,eD n ps (i+1)]
theorem jc(n:Nat):∀(ps:lU) (i j:Nat),(bl n i ps)[j]? =(ps[j]?).map (bK n (i+j))
 |[],_,_=>rfl
 |p::ps,i,0=>rfl
 |p::ps,i,j+1=>by show(bl n (i+1) ps)[j]? =(ps[j]?).map _;rw [jc n ps (i+1) j,show i+1+j=i+(j+1)by lia]
namespace H
namespace CR
structure In where
 x:aU
 t:Nat
 N:Nat
 tk:Nat
 u:Nat
 vs:aV
noncomputable def c(x:aU)(t:Nat):Code:= .call (.ref 311) ⟨[.bytes x t],[]⟩
noncomputable def wJ:List Nat:=(zJ [[2,0,0],t9,[0,1,0,99]])++(zJ [t9,[0,0,1,1,13,1,0,98]])++[7,7,1,7,22,7,7,7,1,7,101,7,0]
noncomputable def tT:List Nat:=wJ++[0,1,1,0,14]
noncomputable def G(x:In):aA:=[(x.N+1,aw x.vs 0)]
abbrev Q:=Option (Nat × Nat × Nat × Nat × aU × Nat)
def fr(x:In)(o:Q):Obj:=match o with
 |none=>{cls:= .type "frame",data:= .dict #[d P "text_hunk" x.tk (.bytes x.x x.t),d P "parts" x.u (.ref (x.N+1)),d P "cleaned_parts" (x.u+1) (.ref (x.N+2))] 3}
 |some (k1,j,ti,k2,p,tp)=>{cls:= .type "frame",data:= .dict #[d P "text_hunk" x.tk (.bytes x.x x.t),d P "parts" x.u (.ref (x.N+1)),d P "cleaned_parts" (x.u+1) (.ref (x.N+2)),d P "i" k1 (.int j ti),d P "part" k2 (.bytes p tp)] 5}
noncomputable def old(o:Q):Value:=match o with
 |none=> .none
 |some (_,_,_,_,p,tp)=> .bytes p tp
structure Tu where
 i:Nat
 xs:aV
 n:Nat
 o:Q
 M:Nat
 tk:Nat
structure Ro where
 p:aU
 tp:Nat
def lL(x:In)(y:Tu):aA:=[(x.N,fr P x y.o),(x.N+2,aw y.xs y.n),(x.N+3,pK (x.N+1) y.i),(x.N+4,E7 (x.N+3) y.i (old y.o))]
def lE(x:In)(y:Tu):aA:=[(x.N,fr P x y.o),(x.N+2,aw y.xs y.n),(x.N+3,yY y.i),(x.N+4,E7 (x.N+3) y.i (old y.o))]
def lO(x:In)(y:Tu)(z:Ro):aA:=[(x.N,fr P x y.o),(x.N+2,aw y.xs y.n),(x.N+3,pK (x.N+1) (y.i+1)),(x.N+4,Dm (x.N+3) (y.i+1) (.bytes z.p z.tp) y.M),(y.M,dU (.int y.i y.tk) (.bytes z.p z.tp))]
def lP(x:In)(y:Tu)(z:Ro):aA:=[(x.N,fr P x y.o),(x.N+2,aw y.xs y.n),(x.N+3,pK (x.N+1) (y.i+1)),(x.N+4,E7 (x.N+3) (y.i+1) (.bytes z.p z.tp)),(y.M,dU (.int y.i y.tk) (.bytes z.p z.tp))]
noncomputable def a0(x:In):aL:=Jf (λJ=>none) 0 x.u x.vs
def lc(x:In):Code:=kh (aR w 400 6 wJ (.hk (kN x.x #[10] (x.N+1)) λJ=> .hk (gZ (x.N+1)) λJ=>leaf (.ok .next)) (λJ=>a0 x) (c x.x x.t) ⟨[],[],x.N,x.tk⟩)
def es(w:World)(x:In):List PySem.Expr:=match lc w x with
 | .forLoop (.Tuple es _ _) _ _ _ _=>es
 |_=>[]
def kk(x:In):Nat:=match lc w x with
 | .forLoop (.Tuple _ k _) _ _ _ _=>k
 |_=>0
def ps(x:In):Pos:=match lc w x with
 | .forLoop (.Tuple _ _ p) _ _ _ _=>p
 |_=>⟨0,0,0,0⟩
def bd(x:In):List PySem.Stmt:=match lc w x with
 | .forLoop _ _ b _ _=>b
 |_=>[]
def ev(x:In):PySem.Env:=match lc w x with
 | .forLoop _ _ _ _ e=>e
 |_=>default
def ph(x:In):Code:= .forLoop (.Tuple (es w x) (kk w x) (ps w x)) (.ref (x.N+4)) (bd w x) [] (ev w x)
theorem HX(x:In):lc w x=ph w x:=by apply bR w
noncomputable def iX(z:Ro)(i tk:Nat)(o:Q):Q:=match o with
 |none=>some (tk+1,i,tk,tk+2,z.p,z.tp)
 |some (k1,_,_,k2,_,_)=>some (k1,i,tk,k2,z.p,z.tp)
noncomputable def next(z:Ro)(y:Tu)(v:Value)(n:Nat)(M t:Nat):Tu:=⟨y.i+1,y.xs.push v,n,iX z y.i y.tk y.o,M,t⟩
noncomputable def jL:Option Value->Flow
 |none=> .next
 |some v=> .ret v
def nS(x:In)(y:Tu)(z:Ro)(aa:RB):ax:=aF w 400 4 ([7,1,7,58,7,5,1,5,0,4]++(zJ [RK,RK,[7,7]]))
 (.hk (cO 2 (x.N+3) (x.N+1) y.i (.bytes z.p z.tp) []) λJ=> .ret (.ok (.ret (.ref y.M))) (bH (lO w.params x y z) (G x) (y.M+1) (y.tk+1)))
 aa (Fast.tw9404975358583537561 (.ref (x.N+4))) jL ⟨lL w.params x y,G x,y.M,y.tk⟩
def eS(x:In)(y:Tu)(aa:RB):ax:=aF w 400 4 ([7,1,7,58,7,5,1,5,0,4]++[11,1])
 (.hk (eH 2 (x.N+3) (x.N+1) y.i) λJ=> .ret (.ok .next) λst=>[(.l (st.L.take 4),.l (lE w.params x y))])
 aa (Fast.tw9404975358583537561 (.ref (x.N+4))) jL ⟨lL w.params x y,G x,y.M,y.tk⟩
def body(x:In)(v:Value):Sem Flow:=Fast.tw17772580674575903948 (.Tuple (es w x) (kk w x) (ps w x)) (ev w x) v>>=λJ=>Fast.tw12563942051412417395 (bd w x) (ev w x)
def d4(x:In)(y:Tu)(z:Ro)(v:Value)(n:Nat)(st:aZ):ax:=[(.l (st.L.take 4),.l (lL w.params x (next z y v n 0 0)))]
noncomputable def Kv:List Nat:=(zJ [[9,9,9,1,9,10],Bh,Bh,Bh,[11,15],t9,[1,0,0,1,1,0,20]])++[1,63,1,0,56]
def pA(x:In)(y:Tu)(z:Ro):bE:= .hk (gE (x.N+1) x.vs.size) λJ=> .hk (qO y.i ((x.vs.size:Int)-1) true) λJ=> .hk (j3 z.p #[13] true) λJ=>
 .hk (oj z.p (-1) 8 (y.M+4)) λb=> .hk (br 1 (x.N+2) y.xs y.n (.bytes (KBy.picked z.p none (some (-1))) (b.k 0))) λb2=> .ret (.ok .next) (d4 w x y z (.bytes (KBy.picked z.p none (some (-1))) (b.k 0)) (b2.k 0))
def pB(x:In)(y:Tu)(z:Ro):bE:= .hk (gE (x.N+1) x.vs.size) λJ=> .hk (qO y.i ((x.vs.size:Int)-1) true) λJ=> .hk (j3 z.p #[13] false) λJ=>
 .hk (br 1 (x.N+2) y.xs y.n (.bytes z.p z.tp)) λb2=> .ret (.ok .next) (d4 w x y z (.bytes z.p z.tp) (b2.k 0))
def pC(x:In)(y:Tu)(z:Ro):bE:= .hk (gE (x.N+1) x.vs.size) λJ=> .hk (qO y.i ((x.vs.size:Int)-1) false) λJ=>
 .hk (br 1 (x.N+2) y.xs y.n (.bytes z.p z.tp)) λb2=> .ret (.ok .next) (d4 w x y z (.bytes z.p z.tp) (b2.k 0))
def sA(x:In)(y:Tu)(z:Ro)(aa:RB):ax:=aF w 400 4 (Kv++[1,1,0,63]++(zJ [r6,[1,75,1,0,35]])++[1,3,0,5]) (pA w x y z) aa (body w x (.ref y.M)) id ⟨lP w.params x y z,G x,y.M+1,y.tk+1⟩
def sB(x:In)(y:Tu)(z:Ro)(aa:RB):ax:=aF w 400 4 (Kv++[1,1,0,63]++(zJ [r6,[1,3,0,5]])) (pB w x y z) aa (body w x (.ref y.M)) id ⟨lP w.params x y z,G x,y.M+1,y.tk+1⟩
def sC(x:In)(y:Tu)(z:Ro)(aa:RB):ax:=aF w 400 4 (Kv++(zJ [r6,[1,3,0,5]])) (pC w x y z) aa (body w x (.ref y.M)) id ⟨lP w.params x y z,G x,y.M+1,y.tk+1⟩
theorem HF(x:In)(y:Tu)(z:Ro)(aa:RB):aE (nS w x y z aa):=by
 obtain⟨i,xs,n,o,M,tk⟩:=y;cases o with
 |none=>apply bR w
 |some q=>obtain⟨k1,u,tu,k2,v,tv⟩:=q;apply bR w
theorem oH(x:In)(y:Tu)(aa:RB):aE (eS w x y aa):=by
 obtain⟨i,xs,n,o,M,tk⟩:=y;cases o with
 |none=>apply bR w
 |some q=>obtain⟨k1,u,tu,k2,v,tv⟩:=q;apply bR w
theorem GU(x:In)(y:Tu)(z:Ro)(aa:RB):aE (sA w x y z aa):=by
 obtain⟨i,xs,n,o,M,tk⟩:=y;cases o with
 |none=>apply bR w
 |some q=>obtain⟨k1,u,tu,k2,v,tv⟩:=q;apply bR w
theorem GS(x:In)(y:Tu)(z:Ro)(aa:RB):aE (sB w x y z aa):=by
 obtain⟨i,xs,n,o,M,tk⟩:=y;cases o with
 |none=>apply bR w
 |some q=>obtain⟨k1,u,tu,k2,v,tv⟩:=q;apply bR w
theorem GQ(x:In)(y:Tu)(z:Ro)(aa:RB):aE (sC w x y z aa):=by
 obtain⟨i,xs,n,o,M,tk⟩:=y;cases o with
 |none=>apply bR w
 |some q=>obtain⟨k1,u,tu,k2,v,tv⟩:=q;apply bR w
theorem Ci(x:In)(v:Value):(assign (.Tuple (es w x) (kk w x) (ps w x)) (ev w x) v>>=λJ=>execs (bd w x) (ev w x))=body w x v:=by unfold body;rw [<-Fast.te17772580674575903948,<-Fast.te12563942051412417395]
theorem dq(v:Value):pyNext v=Fast.tw9404975358583537561 v:=by rw [<-Fast.te9404975358583537561]
theorem pg{w:World}{F:aj}{x:In}{bz:lU}(ha:F (x.N+1)=some (aw x.vs 0))(hr:ay x.vs.toList bz)(fh:∀p∈bz,p.size<=sizeLine)(hlen:bz.length<=sizeLine):
  ∀(k:Nat) (y:Tu) (R:aA),y.i+k=bz.length->ay y.xs.toList ((bl bz.length 0 bz).take y.i)->(y.o≠none\/0<k)->
   aD w R F ⟨lL w.params x y,G x,y.M,y.tk⟩ 5 (ph w x) λr F' ah=>F'=F/\r= .ok .next/\∃y',ah.L=lE w.params x y'/\y'.i=bz.length/\ay y'.xs.toList (bl bz.length 0 bz)/\y'.o≠none
 |0,y,R,hi,hb,ho=>by
  have hi:y.i=bz.length:=hi;have hx:x.vs[y.i]? =none:=by have:=hr.length;rw [Array.getElem?_eq_none];simp at this;lia
  refine aD.oy (aX:=4) (ab.eq (dq _) (ab.run (enc:=jL) (d:=4) (ai:=λr F' ah=>r= .ok .next/\F'=F/\ah.L=lE w.params x y) nr (oH w x y) ⟨eH.ok ha hx,λa J hf=> ?_⟩ (λr F' ah h=> ?_) (λJ J J h=>by cases h.1)))
  ·rw [show a.F=F from hf];exact VC.keep λN' t'=>⟨rfl,rfl,rfl⟩
  ·obtain⟨h1,h2,h3⟩:=h;cases r with
   |some v=>cases h1
   |none=>refine⟨rfl,h2,rfl,y,h3,hi,?_,ho.resolve_right (Nat.lt_irrefl 0)⟩;have e:(bl bz.length 0 bz).take y.i=bl bz.length 0 bz:=List.take_of_length_le (by rw [eD];lia);rw [<-e];exact hb
 |k+1,y,R,hi,hb,ho=>by
  have rz:y.i<bz.length:=by lia
  obtain⟨p,pq⟩:∃p,bz[y.i]? =some p:=⟨_,List.getElem?_eq_getElem rz⟩
  have zk:p∈bz:=List.mem_of_getElem? pq;have JF:x.vs.size=bz.length:=by have:=hr.length;simpa using this
  obtain⟨tp,hx⟩:∃tp,x.vs[y.i]? =some (.bytes p tp):=by have h1:x.vs.toList[y.i]? =some (x.vs.toList[y.i]'(by simp;lia)):=List.getElem?_eq_getElem (by simp;lia);obtain⟨b,t,h2,h3⟩:=hr.get h1;rw [pq]at h3;cases h3;rw [h2]at h1;exact⟨t,by simpa using h1⟩
  have zh:y.xs.size<=sizeLine:=by have e1:=hb.length;rw [<-Array.length_toList,e1];simp [eD];lia
  have Qa:(bl bz.length 0 bz)[y.i]? =some (bK bz.length y.i p):=by rw [jc,pq,Nat.zero_add];rfl
  have hG:∀p∈G x,F p.1=some p.2:=by intro p hp;rw [G,List.mem_singleton]at hp;subst hp;exact ha
  have go:∀(v:Value) (t:Nat) (n M tk:Nat) (R:aA),v= .bytes (bK bz.length y.i p) t->aD w R F ⟨lL w.params x (next ⟨p,tp⟩ y v n M tk),G x,M,tk⟩ 5 (ph w x) λr F' ah=>F'=F/\r= .ok .next/\∃y',ah.L=lE w.params x y'/\y'.i=bz.length/\ay y'.xs.toList (bl bz.length 0 bz)/\y'.o≠none:=by
   rintro v t n M tk R rfl;refine pg ha hr fh hlen k (next ⟨p,tp⟩ y (.bytes (bK bz.length y.i p) t) n M tk) R (by show y.i+1+k=_;lia) ?_ (.inl ?_)
   ·show ay (y.xs.push _).toList ((bl bz.length 0 bz).take (y.i+1));rw [Array.toList_push,List.take_add_one,Qa];exact hb.eO _ _
   ·show iX _ _ _ y.o≠none;unfold iX;split<;>exactλh=>by cases h
  refine aD.jA (aX:=4) (P1:=λv F' ah=>v= .ref y.M/\F'=F/\ah=⟨lO w.params x y ⟨p,tp⟩,G x,y.M+1,y.tk+1⟩)
   (P2:=λF' ah=>F'=F/\ah=⟨lP w.params x y ⟨p,tp⟩,G x,y.M+1,y.tk+1⟩)
   (P3:=λF' ah=>F'=F/\LV λ(v:Value) (t n:Nat)=>v= .bytes (bK bz.length y.i p) t/\ah.L.take 4=lL w.params x (next ⟨p,tp⟩ y v n 0 0)) ?_ ?_ ?_
  ·refine ab.eq (dq _) (ab.run (enc:=jL) (d:=4) (ai:=λr F' ah=>r= .ok (.ret (.ref y.M))/\F'=F/\ah=⟨lO w.params x y ⟨p,tp⟩,G x,y.M+1,y.tk+1⟩) nr (HF w x y ⟨p,tp⟩)
    ⟨cO.ok ha hx (by intro p hp;cases hp),λa J hf=> ?_⟩ (λr F' ah h=> ?_) (λJ J J h=>by cases h.1))
   ·rw [show a.F=F from hf];exact VC.exact ⟨rfl,rfl,rfl⟩
   ·obtain⟨h1,h2,h3⟩:=h;cases r with
    |none=>cases h1
    |some v=>exact⟨v,rfl,Flow.ret.inj (Except.ok.inj h1),h2,h3⟩
  ·rintro v F' ah _ ⟨rfl,rfl,rfl⟩;refine(ab.letGo (j:=3) (i:=y.i+1) (item:= .bytes p tp) (a:=y.M) (it:=x.N+3) rfl).aT λJ F' ah J hh=> ?_;obtain⟨e1,e2⟩:=hh;subst e1 e2;refine⟨⟨rfl,rfl⟩,ab.eq (Ci _ _ _) ?_⟩;have fin:∀{f:Flow} {tG:aj} {ah:aZ},(Except.ok f=(.ok .next:Result)/\tG=F'/\LV λ(v:Value) (t n:Nat)=>v= .bytes (bK bz.length y.i p) t/\ah.L.take 4=lL w.params x (next ⟨p,tp⟩ y v n 0 0))->
     f= .next/\tG=F'/\LV λ(v:Value) (t n:Nat)=>v= .bytes (bK bz.length y.i p) t/\ah.L.take 4=lL w.params x (next ⟨p,tp⟩ y v n 0 0):=λhh=>by obtain⟨h1,h2⟩:=hh;exact⟨Except.ok.inj h1,h2⟩
   have hz:p.size<=sizeLine:=fh p zk;have zo:x.vs.size<=sizeLine:=by lia
   by_cases c1:y.i+1<bz.length
   ·have d1:decide ((y.i:Int)<(x.vs.size:Int)-1)=true:=by rw [decide_eq_true_eq,JF];lia
    cases c2:p8 p #[13]with
    |true=>
     have Iy:bK bz.length y.i p=KBy.picked p none (some (-1)):=by unfold bK;rw [c2,decide_eq_true c1];rfl
     refine ab.run (enc:=id) (d:=4) (ai:=λr tG ah=>r= .ok .next/\tG=F'/\LV λ(v:Value) (t n:Nat)=>v= .bytes (bK bz.length y.i p) t/\ah.L.take 4=lL w.params x (next ⟨p,tp⟩ y v n 0 0))
      nr (GU w x y ⟨p,tp⟩) ⟨gE.ok ha rfl zo,λa J hf=> ?_⟩ (λf tG ah h=>fin h) (λJ J J h=>by cases h.1)
     rw [show a.F=F' from hf];refine VC.sm (qO.ok d1) λa=> ?_;refine VC.sm (j3.ok c2) λa=> ?_;refine VC.sm (oj.ok hz) λb=> ?_;refine VC.sm (br.ok zh) λb2=> ?_;exact VC.keep λN' t'=>⟨rfl,rfl,_,b.k 0,b2.k 0,by rw [Iy],rfl⟩
    |false=>
     have Iy:bK bz.length y.i p=p:=by unfold bK;rw [c2,Bool.and_false];rfl
     refine ab.run (enc:=id) (d:=4) (ai:=λr tG ah=>r= .ok .next/\tG=F'/\LV λ(v:Value) (t n:Nat)=>v= .bytes (bK bz.length y.i p) t/\ah.L.take 4=lL w.params x (next ⟨p,tp⟩ y v n 0 0))
      nr (GS w x y ⟨p,tp⟩) ⟨gE.ok ha rfl zo,λa J hf=> ?_⟩ (λf tG ah h=>fin h) (λJ J J h=>by cases h.1)
     rw [show a.F=F' from hf];refine VC.sm (qO.ok d1) λa=> ?_;refine VC.sm (j3.ok c2) λa=> ?_;refine VC.sm (br.ok zh) λb2=> ?_;exact VC.keep λN' t'=>⟨rfl,rfl,_,tp,b2.k 0,by rw [Iy],rfl⟩
   ·have d1:decide ((y.i:Int)<(x.vs.size:Int)-1)=false:=by rw [decide_eq_false_iff_not,JF];lia
    have Iy:bK bz.length y.i p=p:=by unfold bK;rw [decide_eq_false c1,Bool.false_and];rfl
    refine ab.run (enc:=id) (d:=4) (ai:=λr tG ah=>r= .ok .next/\tG=F'/\LV λ(v:Value) (t n:Nat)=>v= .bytes (bK bz.length y.i p) t/\ah.L.take 4=lL w.params x (next ⟨p,tp⟩ y v n 0 0))
     nr (GQ w x y ⟨p,tp⟩) ⟨gE.ok ha rfl zo,λa J hf=> ?_⟩ (λf tG ah h=>fin h) (λJ J J h=>by cases h.1)
    rw [show a.F=F' from hf];refine VC.sm (qO.ok d1) λa=> ?_;refine VC.sm (br.ok zh) λb2=> ?_;exact VC.keep λN' t'=>⟨rfl,rfl,_,tp,b2.k 0,by rw [Iy],rfl⟩
  ·rintro F' ah _ ⟨rfl,v,t,n,hv,hL⟩;exact aD.drop (n:=4) hL hG λR'=>go v t n ah.N ah.t R' hv
noncomputable def y0:Tu:=⟨0,#[],0,none,0,0⟩
noncomputable def vH(m:Nat)(a:aL):Tu:=⟨m,a.l 0,a.k 0,some (a.k 1,a.k 2,a.k 3,a.k 4,a.x 0,a.k 5),0,0⟩
def bL(x:In)(bz:lU):az:=⟨5,λJ=>lc w x,λst=>[(.l st.L,.l (lL w.params x y0)),(.l st.G,.l (G x))],λJ J=> .ok .next,
 λa st=>⟨lE w.params x (vH bz.length a),st.G,a.N,a.t⟩,λF a=>a.F=F/\ay (a.l 0).toList (bl bz.length 0 bz)⟩
theorem bL.ok{w:World}{R:aA}{F:aj}{x:In}{bz:lU}(ha:F (x.N+1)=some (aw x.vs 0))(hr:ay x.vs.toList bz)(fh:∀p∈bz,p.size<=sizeLine)(hlen:bz.length<=sizeLine)
  (dY:0<bz.length):(bL w x bz).OK w R F:=λc st hc he=>by
 rw [hc];obtain⟨L',G',N',t'⟩:=st;obtain rfl:=cp.l.inj (aY.cons.mp he).1;obtain rfl:=cp.l.inj (aY.cons.mp (aY.cons.mp he).2).1;show aD w R F _ 5 (lc w x) _;rw [HX]
 refineλh g dr os Rl=>((pg ha hr fh hlen bz.length ⟨0,#[],0,none,N',t'⟩ R (Nat.zero_add _) (by rw [List.take_zero];exact .nil) (.inr dY)) h g dr os Rl).aT λr s'=> ?_
 rintro⟨F',⟨L',G',N',t'⟩,hl,cu,ht,ho,rfl,rfl,y',rfl,hi,hb,hn⟩;obtain⟨i,xs,n,o,M,tk⟩:=y';cases o with
 |none=>exact absurd rfl hn
 |some q=>
  obtain⟨k1,j,ti,k2,v,tv⟩:=q;obtain rfl:i=bz.length:=hi;refine⟨F',⟨_,G x,N',t'⟩,hl,⟨cu.size,cu.mem,cu.nd,cu.old,cu.gO,cu.fix,λp hp=> ?_⟩,ht,ho,
   ⟨F',N',t',lk tv [n,k1,j,ti,k2],λJ=>v,λJ=> .none,λJ=>⟨.none,.none,.fields #[],#[]⟩,λJ=>xs,⟨0,0,0,0⟩,[]⟩,rfl,⟨rfl,hb⟩,rfl,rfl⟩
  rw [G,List.mem_singleton]at hp;subst hp;exact ha
noncomputable def OF(x:aU)(t N tk:Nat)(a:aL):In:=⟨x,t,N,tk,a.t,a.l 0⟩
def pl(x:aU)(t N tk:Nat):bE:= .hk (kN x #[10] (N+1)) λa=> .hk (gZ (N+1)) λJ=> .hk (bL w (OF x t N tk a) (bj x #[10])) λb=> .hk (ik #[13,10] 1 (N+2) (b.l 0) (b.k 0) (bl (bj x #[10]).length 0 (bj x #[10]))) λe=>
 leaf (.ok (.ret (.bytes (Bytes.joined #[13,10] (bl (bj x #[10]).length 0 (bj x #[10]))) (e.k 0))))
def mS(x:aU)(t N tk:Nat)(aa:RB):ax:=aR w 400 6 tT (pl w x t N tk) aa (c x t) ⟨[],[],N,tk⟩
theorem sh w x t N tk:∀aa,aE (mS w x t N tk aa):=by apply bh w
end CR
noncomputable def SP(x:aU):aU:=Bytes.joined #[13,10] (bl (bj x #[10]).length 0 (bj x #[10]))
def gV(x:aU):az:=aW 7 (λc=>CR.c x (cA c 0)) (λb=> .ok (.ret (.bytes (SP x) (b.k 0)))) λJ J=>True
theorem gV.ok{w:World}{R:aA}{F:aj}{x:aU}(fh:∀p∈bj x #[10],p.size<=sizeLine)(hlen:(bj x #[10]).length<=sizeLine)(dY:0<(bj x #[10]).length)
  (wQ:Bytes.tooLong ((bl (bj x #[10]).length 0 (bj x #[10])).toArray.foldl (λn p=>n+p.size) ((#[13,10]:aU).size*((bl (bj x #[10]).length 0 (bj x #[10])).toArray.size-1)))=false)
  (hz:(SP x).size<=sizeLine):(gV x).OK w R F:=by
 refine aW.of (G1:=[]) cB λc R N t=> ?_;refine aD.run (d:=6) nr (CR.sh w x (cA c 0) N t) ⟨kN.ok rfl fh hlen,λa J hf=> ?_⟩;refine⟨gZ.ok hf.1,λb J BU=> ?_⟩;rw [show b.F=a.F from BU];refine⟨CR.bL.ok hf.1 hf.2 fh hlen dY,λb J BU=> ?_⟩;rw [show b.F=a.F from BU.1];refine⟨ik.ok BU.2 wQ hz,λe J It=> ?_⟩;rw [show e.F=a.F from It];exact VC.leaf λN' t'=>⟨bB a.F N' t' (e.k 0),rfl,rfl,rfl,trivial,rfl⟩
end H
theorem aq{a:Addr}{o:Obj}{l:aA}(h:F a=some o)(hl:∀p∈l,F p.1=some p.2):∀p∈(a,o)::l,F p.1=some p.2:=by
 intro p hp;rcases List.mem_cons.mp hp with rfl|hp
 ·exact h
 ·exact hl p hp
def gm(x y:aU)(b:Bool):az:=⟨1,λc=> .builtin "bytes.__contains__" ⟨[.bytes x (cA c 0),.bytes y (cA c 1)],[]⟩,λJ=>[],λJ J=> .ok (.ret (.bool b)),qm,same⟩
theorem gm.ok{w:World}{R:aA}{F:aj}{x y:aU}{b:Bool}(h:(Bytes.find? x y 0 x.size).isSome=b):(gm x y b).OK w R F:=λc st hc he=>by
 have:=we.ok (w:=w) (R:=R) (F:=F) (x:=x) (y:=y) c st hc he;refine aD.aT this λr F' ah hp=> ?_;rcases hp with⟨a,h1,⟨h2,h3⟩,h4,h5⟩|⟨a,h1,⟨h2,h3⟩,h4,h5⟩
 ·rw [h]at h3;subst h3;exact⟨a,h1,h2,h4,h5⟩
 ·rw [h]at h3;subst h3;exact⟨a,h1,h2,h4,h5⟩
theorem ub{x:aU}{n:Nat}(hx:x.size<=n):KBy.picked x none (some (n:Int))=x:=by rw [KBc.picked_eq];show((x.toList.drop 0).take (clipAt x.size n-0)).toArray=x;rw [clipAt_nat,Nat.min_eq_right hx,List.drop_zero,Nat.sub_zero,List.take_of_length_le (by simp),Array.toArray_toList]
namespace H
namespace IB
noncomputable def c(x:aU)(t:Nat):Code:= .call (.ref 207) ⟨[.bytes x t],[]⟩
def pl(x:aU)(N:Nat)(b:Bool):bE:= .hk (oj x 8000 1 (N+1)) λJ=> .hk (gm (KBy.picked x none (some 8000)) #[0] b) λJ=>leaf (.ok (.ret (.bool b)))
def S(x:aU)(t N tk:Nat)(b:Bool)(aa:RB):ax:=aR w 200 4 ((zJ [[2,0,0],t9,[0,1,0,35]])++[1,0,49]) (pl x N b) aa (c x t) ⟨[],[],N,tk⟩
theorem iw(x:aU)(t N tk:Nat)(b:Bool)(aa:RB):aE (S w x t N tk b aa):=by kernel_rfl
end IB
def fk(x:aU):az:=aW 5 (λc=>IB.c x (cA c 0)) (λJ=> .ok (.ret (.bool false))) same
theorem fk.ok{w:World}{R:aA}{F:aj}{x:aU}(hx:x.size<=8000)(h0:(Bytes.find? x #[0] 0 x.size).isSome=false):(fk x).OK w R F:=by refine aW.of (G1:=[]) cB λc R N t=> ?_;refine aD.run (d:=4) nr (IB.iw w x (cA c 0) N t false) ⟨oj.ok (Nat.le_trans hx (by rw [sizeLine_eq];decide)),λa J hf=> ?_⟩;rw [show a.F=F from hf];refine VC.sm (gm.ok (by rw [show(8000:Int)=((8000:Nat):Int)from rfl,ub hx];exact h0)) λa=> ?_;exact VC.leaf λN' t'=>⟨bB F N' t' 0,rfl,rfl,rfl,rfl,rfl⟩
namespace TL
noncomputable def c(x:aU)(t:Nat):Code:= .call (.ref 304) ⟨[.bytes x t],[]⟩
def S(x:aU)(t N tk:Nat)(aa:RB):ax:=aR w 200 4 (zJ [[2,0,0],t9,[0,0,1,0,62]]) (.hk (gW x #[13,10] #[10]) λa=>leaf (.ok (.ret (.bytes (ew x #[13,10] #[10]) (a.k 0))))) aa (c x t) ⟨[],[],N,tk⟩
theorem iw(x:aU)(t N tk:Nat)(aa:RB):aE (S w x t N tk aa):=by kernel_rfl
end TL
noncomputable def jU(x:aU):aU:=ew x #[13,10] #[10]
def qM(x:aU):az:=aW 5 (λc=>TL.c x (cA c 0)) (λb=> .ok (.ret (.bytes (jU x) (b.k 0)))) same
theorem qM.ok{w:World}{R:aA}{F:aj}{x:aU}(hz:x.size+(Bytes.occurrences x #[13,10] 0 x.size).length*1<=16777216)(zg:(jU x).size<=sizeLine):(qM x).OK w R F:=by refine aW.of (G1:=[]) cB λc R N t=> ?_;refine aD.run (d:=4) nr (TL.iw w x (cA c 0) N t) ⟨gW.ok rfl hz zg,λa J hf=> ?_⟩;rw [show a.F=F from hf];exact VC.leaf λN' t'=>⟨bB F N' t' (a.k 0),rfl,rfl,rfl,rfl,rfl⟩
noncomputable def sL(dx:Addr):Obj:={cls:= .ref 293,dict:=some dx,data:= .plain}
structure iy where
 k1:Nat
 k2:Nat
 k3:Nat
 k4:Nat
 k5:Nat
 k6:Nat
 ts:Nat
def sM(q:iy)(ak aN:Bool):Obj:={cls:= .type "dict",data:= .dict #[d P "clean_conversion" q.k1 (.bool true),d P "smudge_conversion" q.k2 (match ak with|true=> .bool true|false=> .none),d P "binary_detection" q.k3 (.bool true),
 d P "safecrlf" q.k4 (.bytes #[102,97,108,115,101] q.ts),d P "require_lf_only" q.k5 (.bool aN),d P "index_has_crlf" q.k6 .none] 6}
def bW(F:aj)(a:Addr)(ak aN:Bool):Prop:=∃dx q,F a=some (sL dx)/\F dx=some (sM w.params q ak aN)
namespace CL
noncomputable def c(a:Addr)(x:aU)(t:Nat):Code:= .call (.ref 275) ⟨[.ref a,.bytes x t],[]⟩
def G(a dx:Addr)(q:iy)(ak aN:Bool):aA:=[(a,sL dx),(dx,sM P q ak aN)]
noncomputable def Jt:List Nat:=(zJ [[2,0,0,0],FG,[1,1],oW,[4,1],oW,[4],kA])
noncomputable def Nj:List Nat:=(zJ [[1],oW,[4],kA])
noncomputable def Kw:List Nat:=(zJ [[1,1,1],oW,[4,1,47,1]])
def S(a dx:Addr)(q:iy)(ak aN:Bool)(x:aU)(t N tk:Nat)(aa:RB):ax:=aR w 400 6 (Jt++Nj++Kw) (.hk (fk x) λJ=> .hk (qM x) λb=>leaf (.ok (.ret (.bytes (jU x) (b.k 0))))) aa (c a x t) ⟨[],G w.params a dx q ak aN,N,tk⟩
theorem iw w a dx q ak aN x t N tk:∀aa,aE (S w a dx q ak aN x t N tk aa):=by apply bh w
end CL
def jy(a:Addr)(x:aU):az:=aW 7 (λc=>CL.c a x (cA c 1)) (λb=> .ok (.ret (.bytes (jU x) (b.k 0)))) same
theorem jy.ok{w:World}{R:aA}{F:aj}{a:Addr}{x:aU}{ak aN:Bool}(hf:bW w F a ak aN)(hx:x.size<=8000)(h0:(Bytes.find? x #[0] 0 x.size).isSome=false)
  (hz:x.size+(Bytes.occurrences x #[13,10] 0 x.size).length*1<=16777216) (zg:(jU x).size<=sizeLine):(jy a x).OK w R F:=by
 obtain⟨dx,q,h1,h2⟩:=hf;refine aW.of (G1:=CL.G w.params a dx q ak aN) (aq h1 (aq h2 cB)) λc R N t=> ?_;refine aD.run (d:=6) nr (CL.iw w a dx q ak aN x (cA c 1) N t) ⟨fk.ok hx h0,λb J hf=> ?_⟩;rw [show b.F=F from hf];refine VC.sm (qM.ok hz zg) λb=> ?_;exact VC.leaf λN' t'=>⟨bB F N' t' (b.k 0),rfl,rfl,rfl,rfl,rfl⟩
namespace SM
noncomputable def c(a:Addr)(x:aU)(t:Nat):Code:= .call (.ref 283) ⟨[.ref a,.bytes x t],[]⟩
def S0(a dx:Addr)(q:iy)(aN:Bool)(x:aU)(t N tk:Nat)(aa:RB):ax:=aR w 400 6 (zJ [[2,0,0,0],FG,[1,1],oW,[4,1]]) (leaf (.ok (.ret (.bytes x t)))) aa (c a x t) ⟨[],CL.G w.params a dx q false aN,N,tk⟩
def S1(a dx:Addr)(q:iy)(x:aU)(t N tk:Nat)(aa:RB):ax:=aR w 400 8 (CL.Jt++CL.Nj++CL.Kw) (.hk (fk x) λJ=> .hk (gV x) λb=>leaf (.ok (.ret (.bytes (SP x) (b.k 0))))) aa (c a x t) ⟨[],CL.G w.params a dx q true false,N,tk⟩
def S2(a dx:Addr)(q:iy)(x:aU)(t N tk:Nat)(aa:RB):ax:=aR w 400 8 (CL.Jt++(zJ [[1],oW,[4,1,1,0,49]])++[1]) (.hk (fk x) λJ=> .hk (gm x #[13] true) λJ=>leaf (.ok (.ret (.bytes x t)))) aa (c a x t) ⟨[],CL.G w.params a dx q true true,N,tk⟩
def S3(a dx:Addr)(q:iy)(x:aU)(t N tk:Nat)(aa:RB):ax:=aR w 400 8 (CL.Jt++(zJ [[1],oW,[4,1,1,0,49]])++[0,1,0,0]++CL.Kw)
 (.hk (fk x) λJ=> .hk (gm x #[13] false) λJ=> .hk (gV x) λb=>leaf (.ok (.ret (.bytes (SP x) (b.k 0))))) aa (c a x t) ⟨[],CL.G w.params a dx q true true,N,tk⟩
theorem lx w a dx q aN x t N tk:∀aa,aE (S0 w a dx q aN x t N tk aa):=by apply bh w
theorem lu w a dx q x t N tk:∀aa,aE (S1 w a dx q x t N tk aa):=by apply bh w
theorem lr w a dx q x t N tk:∀aa,aE (S2 w a dx q x t N tk aa):=by apply bh w
theorem lq w a dx q x t N tk:∀aa,aE (S3 w a dx q x t N tk aa):=by apply bh w
end SM
noncomputable def eu(ak aN:Bool)(x:aU):aU:=match ak with
 |false=>x
 |true=>match aN&&(Bytes.find? x #[13] 0 x.size).isSome with
  |true=>x
  |false=>SP x
structure Ka(x:aU):Prop where
 size:x.size<=8000
 Hz:(Bytes.find? x #[0] 0 x.size).isSome=false
 NJ:x.size+(Bytes.occurrences x #[13,10] 0 x.size).length*1<=16777216
 NI:(jU x).size<=sizeLine
 Ni:∀p∈bj x #[10],p.size<=sizeLine
 Nh:(bj x #[10]).length<=sizeLine
 Ng:0<(bj x #[10]).length
 Oi:Bytes.tooLong ((bl (bj x #[10]).length 0 (bj x #[10])).toArray.foldl (λn p=>n+p.size) ((#[13,10]:aU).size*((bl (bj x #[10]).length 0 (bj x #[10])).toArray.size-1)))=false
 Oh:(SP x).size<=sizeLine
def kQ(a:Addr)(x:aU)(ak aN:Bool):az:=aW 9 (λc=>SM.c a x (cA c 1)) (λb=> .ok (.ret (.bytes (eu ak aN x) (b.k 0)))) λJ J=>True
theorem kQ.ok{w:World}{R:aA}{F:aj}{a:Addr}{x:aU}{ak aN:Bool}(hf:bW w F a ak aN)(hx:Ka x):(kQ a x ak aN).OK w R F:=by
 obtain⟨dx,q,h1,h2⟩:=hf;refine aW.of (G1:=CL.G w.params a dx q ak aN) (aq h1 (aq h2 cB)) λc R N t=> ?_;cases ak with
 |false=>refine aD.run (d:=6) (by decide) (SM.lx w a dx q aN x (cA c 1) N t) ?_;exact VC.leaf λN' t'=>⟨bB F N' t' (cA c 1),rfl,rfl,rfl,trivial,rfl⟩
 |true=>
  cases aN with
  |false=>refine aD.run (d:=8) nr (SM.lu w a dx q x (cA c 1) N t) ⟨fk.ok hx.size hx.Hz,λb J hf=> ?_⟩;rw [show b.F=F from hf];refine⟨gV.ok hx.Ni hx.Nh hx.Ng hx.Oi hx.Oh,λb J hf=> ?_⟩;exact VC.leaf λN' t'=>⟨bB b.F N' t' (b.k 0),rfl,rfl,rfl,trivial,rfl⟩
  |true=>
   cases e:(Bytes.find? x #[13] 0 x.size).isSome with
   |true=>refine aD.run (d:=8) nr (SM.lr w a dx q x (cA c 1) N t) ⟨fk.ok hx.size hx.Hz,λb J hf=> ?_⟩;rw [show b.F=F from hf];refine VC.sm (gm.ok e) λb=> ?_;exact VC.leaf λN' t'=>⟨bB F N' t' (cA c 1),rfl,rfl,rfl,trivial,by unfold eu;rw [e];rfl⟩
   |false=>refine aD.run (d:=8) nr (SM.lq w a dx q x (cA c 1) N t) ⟨fk.ok hx.size hx.Hz,λb J hf=> ?_⟩;rw [show b.F=F from hf];refine VC.sm (gm.ok e) λb=> ?_;refine⟨gV.ok hx.Ni hx.Nh hx.Ng hx.Oi hx.Oh,λb J hf=> ?_⟩;exact VC.leaf λN' t'=>⟨bB b.F N' t' (b.k 0),rfl,rfl,rfl,trivial,by unfold eu;rw [e];rfl⟩
end H
def cU(x y:aU)(b:Bool):az:=⟨0,λc=> .builtin "bytes.__eq__" ⟨[.bytes x (cA c 0),.bytes y (cA c 1)],[]⟩,λJ=>[],λJ J=> .ok (.ret (.bool b)),fz,same⟩
theorem cU.ok{w:World}{R:aA}{F:aj}{x y:aU}{b:Bool}(h:decide (x=y)=b):(cU x y b).OK w R F:=λc st hc he=>by
 have:=cP.ok (w:=w) (R:=R) (F:=F) (x:=x) (y:=y) c st hc he;refine aD.aT this λr F' ah hp=> ?_;rcases hp with⟨a,h1,⟨h2,h3⟩,h4,h5⟩|⟨a,h1,⟨h2,h3⟩,h4,h5⟩
 ·rw [h]at h3;subst h3;exact⟨a,h1,h2,h4,h5⟩
 ·rw [h]at h3;subst h3;exact⟨a,h1,h2,h4,h5⟩
abbrev Rows:=List (aU × aU)
def rb(af:Rows):aU:=Bytes.joined #[] (aM af)
structure oT(af:Rows):Prop where
 sz:∀p∈af,p.1.size+p.2.size<=16777216
 len:af.length<=sizeLine
 ne:0<af.length
 z1:Bytes.tooLong ((aM af).toArray.foldl (λn p=>n+p.size) ((#[]:aU).size*((aM af).toArray.size-1)))=false
 z:(rb af).size<=sizeLine
namespace H
theorem bu.wk{w:World}{R:aA}{F:aj}{a:Addr}{af:Rows}(hr:bM F a af)(h:oT af):(bu a af).OK w R F:=bu.ok hr h.sz h.len h.ne h.z1 h.z
noncomputable def gP(conv ak aN:Bool):Obj:={cls:= .type "tuple",data:= .seq #[.bool conv,.bool ak,.bool aN]}
noncomputable def nj(ak aN:Bool)(af:Rows):Rows:=match ak with
 |false=>af
 |true=>match aN&&(Bytes.find? (rb af) #[13] 0 (rb af).size).isSome with
  |true=>af
  |false=>LL.laid af #[13,10]
namespace LO
noncomputable def c(u a:Addr):Code:= .call (.ref 1365) ⟨[.ref u,.ref a],[]⟩
def G(u:Addr)(conv ak aN:Bool):aA:=[(u,gP conv ak aN)]
noncomputable def sc:List Nat:=(zJ [[2,0,0],FG,[2,2,2,1,2,10],RE,[4,3,3,2,3],RE,[4,3,3,2,3],RE,[4,3,3,2,3],RE,[4,3,3,2,3,3,7],FG,[1,1]])
def S0(u a:Addr)(conv aN:Bool)(N tk:Nat)(aa:RB):ax:=aR w 400 6 sc (leaf (.ok (.ret (.ref a)))) aa (c u a) ⟨[],G u conv false aN,N,tk⟩
def S1(u a:Addr)(conv:Bool)(af:Rows)(N tk:Nat)(aa:RB):ax:=aR w 400 8 (sc++[0,1,0,0]) (.hk (dE a #[13,10] af) λb=>leaf (.ok (.ret (.ref (b.k 0))))) aa (c u a) ⟨[],G u conv true false,N,tk⟩
def S2(u a:Addr)(conv:Bool)(af:Rows)(N tk:Nat)(aa:RB):ax:=aR w 400 8 (sc++[0,1,0,0]++[1,0,49]++[1]) (.hk (bu a af) λJ=> .hk (gm (rb af) #[13] true) λJ=>leaf (.ok (.ret (.ref a)))) aa (c u a) ⟨[],G u conv true true,N,tk⟩
def S3(u a:Addr)(conv:Bool)(af:Rows)(N tk:Nat)(aa:RB):ax:=aR w 400 8 (sc++[0,1,0,0]++[1,0,49]++[0,1,0,0]) (.hk (bu a af) λJ=> .hk (gm (rb af) #[13] false) λJ=> .hk (dE a #[13,10] af) λb=>leaf (.ok (.ret (.ref (b.k 0))))) aa (c u a) ⟨[],G u conv true true,N,tk⟩
theorem lx w u a conv aN N tk:∀aa,aE (S0 w u a conv aN N tk aa):=by apply bh w
theorem lu w u a conv af N tk:∀aa,aE (S1 w u a conv af N tk aa):=by apply bh w
theorem lr w u a conv af N tk:∀aa,aE (S2 w u a conv af N tk aa):=by apply bh w
theorem lq w u a conv af N tk:∀aa,aE (S3 w u a conv af N tk aa):=by apply bh w
end LO
noncomputable def kU(u a:Addr)(ak aN:Bool)(af:Rows):az:=aW 9 (λc=>LO.c u a) (λb=> .ok (.ret (.ref (b.k 0)))) λF b=>bM b.F (b.k 0) (nj ak aN af)
theorem kU.ok{w:World}{R:aA}{F:aj}{u a:Addr}{conv ak aN:Bool}{af:Rows}(hu:F u=some (gP conv ak aN))(hr:bM F a af)(h:oT af):(kU u a ak aN af).OK w R F:=by
 refine aW.of (G1:=LO.G u conv ak aN) (aq hu cB) λc R N t=> ?_;cases ak with
 |false=>refine aD.run (d:=6) (by decide) (LO.lx w u a conv aN N t) ?_;exact VC.leaf λN' t'=>⟨bB F N' t' a,rfl,rfl,rfl,hr,rfl⟩
 |true=>
  cases aN with
  |false=>refine aD.run (d:=8) nr (LO.lu w u a conv af N t) ⟨dE.ok hr h.len h.ne,λb J hf=> ?_⟩;exact VC.leaf λN' t'=>⟨bB b.F N' t' (b.k 0),rfl,rfl,rfl,hf,rfl⟩
  |true=>
   cases e:(Bytes.find? (rb af) #[13] 0 (rb af).size).isSome with
   |true=>refine aD.run (d:=8) nr (LO.lr w u a conv af N t) ⟨bu.wk hr h,λb J hf=> ?_⟩;rw [show b.F=F from hf];refine VC.sm (gm.ok e) λb=> ?_;exact VC.leaf λN' t'=>⟨bB F N' t' a,rfl,rfl,rfl,(by show bM F a (nj true true af);unfold nj;rw [e];exact hr),rfl⟩
   |false=>refine aD.run (d:=8) nr (LO.lq w u a conv af N t) ⟨bu.wk hr h,λb J hf=> ?_⟩;rw [show b.F=F from hf];refine VC.sm (gm.ok e) λb=> ?_;refine⟨dE.ok hr h.len h.ne,λb J hf=> ?_⟩;exact VC.leaf λN' t'=>⟨bB b.F N' t' (b.k 0),rfl,rfl,rfl,(by show bM b.F (b.k 0) (nj true true af);unfold nj;rw [e];exact hf),rfl⟩
namespace LT
noncomputable def c(u f a:Addr):Code:= .call (.ref 1372) ⟨[.ref u,.ref f,.ref a],[]⟩
def G(P:Params)(f dx:Addr)(q:iy)(ak aN:Bool):aA:=CL.G P f dx q ak aN
noncomputable def sc:List Nat:=(zJ [[2,0,0],FG,[1,0,1,1,0,0]])++(zJ [[1,1,1,2,0,0],RC,[0,2],vX,[2,4],kA])++[0,0]++[1,1,1,0,1,0,0]++[1,0,8]++(zJ [[1,2,0,0],RC,[0,2],vX,[2,4,1,0,0]])++[0,0,1,0,0]++[0,0]++[1,0,8]
def pl(u f a:Addr)(ak aN:Bool)(af:Rows):bE:= .hk (kU u a ak aN af) λo=> .hk (bu a af) λJ=> .hk (kQ f (rb af) ak aN) λJ=> .hk (bu (o.k 0) (nj ak aN af)) λJ=>
 .hk (cU (eu ak aN (rb af)) (rb (nj ak aN af)) true) λJ=> .hk (jy f (eu ak aN (rb af))) λJ=> .hk (dE (o.k 0) #[10] (nj ak aN af)) λl=> .hk (bu (l.k 0) (LL.laid (nj ak aN af) #[10])) λJ=>
 .hk (cU (jU (eu ak aN (rb af))) (rb (LL.laid (nj ak aN af) #[10])) true) λJ=>leaf (.ok (.ret (.bool true)))
def S(u f dx a:Addr)(q:iy)(ak aN:Bool)(af:Rows)(N tk:Nat)(aa:RB):ax:=aR w 600 12 sc (pl u f a ak aN af) aa (c u f a) ⟨[],G w.params f dx q ak aN,N,tk⟩
theorem iw w u f dx a q ak aN af N tk:∀aa,aE (S w u f dx a q ak aN af N tk aa):=by apply bh w
end LT
structure wH(ak aN:Bool)(af:Rows):Prop where
 d1:oT af
 d2:oT (nj ak aN af)
 d3:oT (LL.laid (nj ak aN af) #[10])
 f1:Ka (rb af)
 f2:Ka (eu ak aN (rb af))
 e1:eu ak aN (rb af)=rb (nj ak aN af)
 e2:jU (eu ak aN (rb af))=rb (LL.laid (nj ak aN af) #[10])
noncomputable def eW(u f a:Addr):az:=aW 13 (λc=>LT.c u f a) (λb=> .ok (.ret (.bool true))) λJ J=>True
theorem bW.le{w:World}{F F':aj}(l:F.le F'){a:Addr}{ak aN:Bool}(h:bW w F a ak aN):bW w F' a ak aN:=by obtain⟨dx,q,h1,h2⟩:=h;exact⟨dx,q,l _ _ h1,l _ _ h2⟩
theorem eW.ok{w:World}{R:aA}{F:aj}{u f a:Addr}{conv ak aN:Bool}{af:Rows}(hu:F u=some (gP conv ak aN))(hf:bW w F f ak aN)(hr:bM F a af)(h:wH ak aN af):(eW u f a).OK w R F:=by obtain⟨dx,q,h1,h2⟩:=id hf;refine aW.of (G1:=LT.G w.params f dx q ak aN) (aq h1 (aq h2 cB)) λc R N t=> ?_;refine aD.run (d:=12) nr (LT.iw w u f dx a q ak aN af N t) ⟨kU.ok hu hr h.d1,λo l1 ho=> ?_⟩;refine⟨bu.wk (hr.le l1) h.d1,λb J hb=> ?_⟩;rw [show b.F=o.F from hb];refine⟨kQ.ok (hf.le l1) h.f1,λb l2 J=> ?_⟩;refine⟨bu.wk (ho.le l2) h.d2,λb2 J hb=> ?_⟩;rw [show b2.F=b.F from hb];refine⟨cU.ok (by rw [h.e1];exact decide_eq_true rfl),λb2 J hb=> ?_⟩;rw [show b2.F=b.F from hb];refine⟨jy.ok (hf.le (l1.trans l2)) h.f2.size h.f2.Hz h.f2.NJ h.f2.NI,λb2 J hb=> ?_⟩;rw [show b2.F=b.F from hb];refine⟨dE.ok (ho.le l2) h.d2.len h.d2.ne,λl l3 hl=> ?_⟩;refine⟨bu.wk hl h.d3,λb2 J hb=> ?_⟩;rw [show b2.F=l.F from hb];refine⟨cU.ok (by rw [h.e2];exact decide_eq_true rfl),λb2 J hb=> ?_⟩;rw [show b2.F=l.F from hb];exact VC.leaf λN' t'=>⟨bB l.F N' t' 0,rfl,rfl,rfl,trivial,rfl⟩
end H
abbrev cK:=List (aU × Value)
noncomputable def Ta(P:Params):cK->(Nat->Nat)->Nat->List DictEntry
 |[],_,_=>[]
 |p::l,ts,i=>⟨hashW P (.bytes p.1.toList),.bytes p.1 (ts i),p.2⟩::Ta P l ts (i+1)
noncomputable def bN(l:cK)(ts:nN)(ep:Nat):Obj:={cls:= .type "dict",data:= .dict (Ta P l ts 0).toArray ep}
noncomputable def jI(l:cK):List (List UInt8 × Value):=l.map λp=>(p.1.toList,p.2)
section
variable{w:World}
noncomputable abbrev knd(w:World):=bytesKind H.pw w
theorem S'(l:cK)(ts:nN):∀i,Pairs (knd w) (Ta w.params l ts i) (jI l):=by
 induction l with
 |nil=>exactλJ=> .nil
 |cons p l ih=>exactλi=> .cons (by show isBytes p.1.toList (.bytes p.1 (ts i))=true;simp [isBytes]) rfl (ih (i+1))
theorem p5(l:cK)(ts:nN):∀i,∀e∈Ta w.params l ts i,∃k,(knd w).is k e.key=true/\e.hash=(knd w).hash k:=by
 induction l with
 |nil=>intro i e he;cases he
 |cons p l ih=>
  intro i e he;rcases List.mem_cons.mp he with rfl|he
  ·exact⟨p.1.toList,by show isBytes p.1.toList (.bytes p.1 (ts i))=true;simp [isBytes],rfl⟩
  ·exact ih _ e he
theorem fW{h:Heap}{a:Addr}{l:cK}{ts:nN}{ep:Nat}(ho:h.get? a=some (bN w.params l ts ep))(hn:(l.map (·.1)).Nodup):h.DictOf (knd w) a (jI l):=by
 refine⟨_,_,ep,ho,⟨rfl,rfl,rfl⟩,rfl,λe he=>p5 l ts 0 e (by simpa using he),by simpa using S' l ts 0,?_⟩;have:(jI l).map (·.1)=(l.map (·.1)).map Array.toList:=by simp [jI]
 rw [this];exact List.Pairwise.map _ (λa b h e=>h (Array.ext' e)) hn
theorem vw:∀{es:List DictEntry} {l:cK} (i:Nat),Pairs (knd w) es (jI l)->(∀e∈es,∃k,(knd w).is k e.key=true/\e.hash=(knd w).hash k)->∃ts,es=Ta w.params l ts i
 |[],[],i,_,_=>⟨λJ=>0,rfl⟩
 |[],_::_,i,h,_=>by cases h
 |e::es,[],i,h,_=>by cases h
 |e::es,p::l,i,h,hk=>by
  cases h with
  |cons h1 h2 h3=>
   obtain⟨ts,he⟩:=vw (l:=l) (i+1) h3 λe' wg=>hk e' (.tail _ wg);obtain⟨k,BR,LH⟩:=hk e (.head _);have PK:k=p.1.toList:=(knd w).inj _ _ _ BR h1;obtain⟨t,ht⟩:=isBytes_shape h1;obtain⟨hs,key,val⟩:=e;refine⟨λj=>if j=i then t else ts j,?_⟩;have LY:Ta w.params l (λj=>if j=i then t else ts j) (i+1)=Ta w.params l ts (i+1):=by
    have:∀(l:cK) (m:Nat),i<m->Ta w.params l (λj=>if j=i then t else ts j) m=Ta w.params l ts m:=by
     intro l;induction l with
     |nil=>intro J J;rfl
     |cons q l ih=>intro m hm;simp only [Ta];rw [ih (m+1) (by lia),if_neg (by lia)]
    exact this l (i+1) (by lia)
   simp only [Ta];rw [LY,<-he];have e1:key= .bytes p.1 t:=by rw [show key=_ from ht]
   have e2:hs=hashW w.params (.bytes p.1.toList):=by rw [show hs=_ from LH,PK];rfl
   have e3:val=p.2:=h2;rw [e1,e2,e3,if_pos trivial]
noncomputable def put(l:cK)(k:aU)(v:Value):cK:=if l.any (λp=>p.1==k)then l.map (λp=>if p.1==k then(p.1,v)else p)else l++[(k,v)]
noncomputable def SO(l:cK)(k:aU):Option Value:=(l.find? λp=>p.1==k).map (·.2)
theorem BC(l:cK)(k:aU)(v:Value):stored (jI l) k.toList v=jI (put l k v):=by
 have hk:∀p:aU × Value,decide (p.1.toList=k.toList)=(p.1==k):=λp=>by
  by_cases h:p.1=k
  ·simp [h]
  ·have:p.1.toList≠k.toList:=λe=>h (Array.ext' e);simp [h,this]
 have h1:(jI l).any (λkv=>decide (kv.1=k.toList))=l.any (λp=>p.1==k):=by
  unfold jI;rw [List.any_map]
  congr 1
  funext p;exact hk p
 unfold stored put;rw [h1];cases l.any (λp=>p.1==k)with
 |true=>
  simp only [if_true,jI,List.map_map];apply List.map_congr_left;intro p J;simp only [Function.comp];by_cases h:p.1=k
  ·simp [h]
  ·have:p.1.toList≠k.toList:=λe=>h (Array.ext' e);simp [h,this]
 |false=>simp [jI]
theorem qK(l:cK)(k:aU):valueAt (jI l) k.toList=SO l k:=by
 unfold valueAt SO jI;rw [List.find?_map,Option.map_map];have:((λkv:List UInt8 × Value=>decide (kv.1=k.toList))∘λp:aU × Value=>(p.1.toList,p.2))=λp:aU × Value=>p.1==k:=by
  funext p;by_cases h:p.1=k
  ·simp [h]
  ·have:p.1.toList≠k.toList:=λe=>h (Array.ext' e);simp [h,this]
 rw [this];rfl
theorem vY{l:cK}(hn:(l.map (·.1)).Nodup)(k:aU)(v:Value):((put l k v).map (·.1)).Nodup:=by
 unfold put;cases h:l.any (λp=>p.1==k)with
 |true=>
  rw [if_pos rfl,List.map_map];have:((λp:aU × Value=>p.1)∘λp:aU × Value=>if p.1==k then(p.1,v)else p)=λp=>p.1:=by funext p;simp only [Function.comp];split<;>rfl
  rw [this];exact hn
 |false=>rw [if_neg (by decide),List.map_append,List.nodup_append];refine⟨hn,by simp,?_⟩;intro a ha b hb e;subst e;simp only [List.map_cons,List.map_nil,List.mem_singleton]at hb;subst hb;obtain⟨p,hp,e⟩:=List.mem_map.mp ha;rw [List.any_eq_false]at h;exact h p hp (by simp [e])
end
def bw(j:Nat)(a:Addr)(l:cK)(ts:nN)(ep:Nat)(k:aU)(v:Value):az:=⟨0,λc=> .builtin "dict.__setitem__" ⟨[.ref a,.bytes k (cA c 1),v],[]⟩,λst=>[(.p (bP st.L j),.p (some (a,bN w.params l ts ep)))],
 λJ J=> .ok (.ret .none),λb st=>⟨bg st.L j (bN w.params (put l k v) (λi=>b.k (i+1)) (b.k 0)),st.G,st.N,b.t⟩,same⟩
def rT(j:Nat)(a:Addr)(l:cK)(ts:nN)(ep:Nat)(k:aU)(df:List Value)(x:Value):az:=⟨0,λc=> .builtin "dict.get" ⟨.ref a:: .bytes k (cA c 1)::df,[]⟩,λst=>[(.p (bP st.L j),.p (some (a,bN w.params l ts ep)))],
 λJ J=> .ok (.ret x),fz,same⟩
def fy(j:Nat)(a:Addr)(l:cK)(ts:nN)(ep:Nat)(k:aU)(x:Bool):az:=⟨0,λc=> .builtin "dict.__contains__" ⟨[.ref a,.bytes k (cA c 1)],[]⟩,λst=>[(.p (bP st.L j),.p (some (a,bN w.params l ts ep)))],
 λJ J=> .ok (.ret (.bool x)),fz,same⟩
def ck(j:Nat)(a:Addr)(l:cK)(ts:nN)(ep:Nat)(k:aU)(x:Value):az:=⟨0,λc=> .builtin "dict.__getitem__" ⟨[.ref a,.bytes k (cA c 1)],[]⟩,λst=>[(.p (bP st.L j),.p (some (a,bN w.params l ts ep)))],
 λJ J=> .ok (.ret x),fz,same⟩
def eX(j:Nat)(a:Addr)(l:cK)(ts:nN)(ep n:Nat):az:=⟨0,λc=> .builtin "dict.__len__" ⟨[.ref a],[]⟩,λst=>[(.p (bP st.L j),.p (some (a,bN w.params l ts ep)))],
 λb J=> .ok (.ret (.int n (b.k 0))),fz,same⟩
theorem uC:entryFor table "dict.__setitem__"=some Builtin.«dict.__setitem__»:=entryFor_of_tree (by kernel_rfl)
theorem Td:entryFor table "dict.get"=some Builtin.«dict.get»:=entryFor_of_tree (by kernel_rfl)
theorem wy:entryFor table "dict.__contains__"=some Builtin.«dict.__contains__»:=entryFor_of_tree (by kernel_rfl)
theorem sR:entryFor table "dict.__getitem__"=some Builtin.«dict.__getitem__»:=entryFor_of_tree (by kernel_rfl)
theorem uD:entryFor table "dict.__len__"=some Builtin.«dict.__len__»:=entryFor_of_tree (by kernel_rfl)
theorem aD.ej{w:World}{R:aA}{F:aj}{st:aZ}{aX:Nat}{c:Code}{ai:Result->aj->aZ->Prop}{p:Prop}(hp:∀h,bO (H.KP w.params) F R h st->p)(h:p->aD w R F st aX c ai):aD w R F st aX c ai:=
 λhh g dr os Rl=>h (hp hh Rl) hh g dr os Rl
section
variable{w:World}{R:aA}{F:aj}{j:Nat}{a:Addr}{l:cK}{ts:nN}{ep:Nat}{k:aU}
theorem AV(P:Params):(H.KP P sysModules).isSome=true:=by kernel_rfl
theorem n5{h:Heap}{s:aZ}{p:Addr × Obj}(x:bO (H.KP w.params) F R h s)(hp:p∈s.L++R):(p.1==sysModules)=false:=by
 cases e:p.1==sysModules with
 |false=>rfl
 |true=>
  have e1:p.1=sysModules:=beq_iff_eq.mp e;have:=x.old p hp;rw [e1]at this;cases e2:H.KP w.params sysModules with
  |none=>have:=AV w.params;rw [e2]at this;cases this
  |some o=>rw [x.gO _ _ e2]at this;cases this
theorem kI(k:aU)(t:Tok):(knd w).is k.toList (.bytes k t)=true:=by show isBytes k.toList (.bytes k t)=true;simp [isBytes]
theorem bw.ok{v:Value}(hn:(l.map (·.1)).Nodup)(hz:l.length<=sizeLine):(bw w j a l ts ep k v).OK w R F:=λc st hc he=>by
 rw [hc];have hj:=cp.p.inj (aY.cons.mp he).1;refine aD.h9 (by decide+kernel) uC (meets_dict_setitem_pairs (knd w) a (kI k _) v) λhh g dr os Rl A=>⟨jI l,fW (Rl.mem _ (List.mem_append_left _ (aJ hj))) hn,by simpa [jI]using hz,λh' hd hs=> ?_⟩
 rw [BC]at hd;obtain⟨o,es,p4,ho,⟨x1,x2,x3⟩,JR,hk,hp,J⟩:=hd;obtain⟨vK,he⟩:=vw 0 hp λe he=>hk e (by simpa using he);have wc:h'.get? a=some (bN w.params (put l k v) vK p4):=by rw [ho];obtain⟨c',d',dt,sl⟩:=o;simp only at x1 x2 x3 JR;subst x1 x2 x3 JR;unfold bN;rw [<-he]
 exact⟨F,_,aj.le.refl F,(Rl.mW hj hs wc).toks _,rfl,rfl,{bB F 0 (st.t+1) 0 with k:=λi=>match i with|0=>p4|i+1=>vK i},rfl,rfl,rfl,rfl⟩
theorem kH{h:Heap}(ho:h.get? a=some (bN w.params l ts ep))(hn:(l.map (·.1)).Nodup):h.MapOf (knd w) a (valueAt (jI l)):=(fW ho hn).mapOf
theorem rT.ok{x:Value}{df:List Value}(hn:(l.map (·.1)).Nodup)(hx:(SO l k).getD (df.headD .none)=x)(N4:df=[]\/∃y,df=[y]):(rT w j a l ts ep k df x).OK w R F:=λc st hc he=>by
 rw [hc];have hj:=cp.p.inj (aY.cons.mp he).1;refine aD.ej (p:=(a==sysModules)=false) (λhh Rl=>n5 Rl (List.mem_append_left _ (aJ hj))) λha=> ?_;rcases N4 with rfl|⟨y,rfl⟩
 ·refine aD.h9 (by decide+kernel) Td (meets_dict_get (knd w) a (kI k _) ha) λhh g dr os Rl A=>⟨_,kH (Rl.mem _ (List.mem_append_left _ (aJ hj))) hn,?_⟩
  rw [qK,show(SO l k).getD .none=x from hx];exact bI.pure Rl _ (az.de (h:=rT w j a l ts ep k [] x) (λJ=>rfl) _ 0 rfl rfl)
 ·refine aD.h9 (by decide+kernel) Td (meets_dict_get_default (knd w) a (kI k _) ha y) λhh g dr os Rl A=>⟨_,kH (Rl.mem _ (List.mem_append_left _ (aJ hj))) hn,?_⟩
  rw [qK,show(SO l k).getD y=x from hx];exact bI.pure Rl _ (az.de (h:=rT w j a l ts ep k [y] x) (λJ=>rfl) _ 0 rfl rfl)
theorem fy.ok{x:Bool}(hn:(l.map (·.1)).Nodup)(hx:(SO l k).isSome=x):(fy w j a l ts ep k x).OK w R F:=λc st hc he=>by
 rw [hc];have hj:=cp.p.inj (aY.cons.mp he).1;refine aD.ej (p:=(a==sysModules)=false) (λhh Rl=>n5 Rl (List.mem_append_left _ (aJ hj))) λha=> ?_;refine aD.h9 (by decide+kernel) wy (meets_dict_contains (knd w) a (kI k _) ha) λhh g dr os Rl A=>⟨_,kH (Rl.mem _ (List.mem_append_left _ (aJ hj))) hn,?_⟩
 rw [qK,hx];exact bI.pure Rl _ (az.de (h:=fy w j a l ts ep k x) (λJ=>rfl) _ 0 rfl rfl)
theorem ck.ok{x:Value}(hn:(l.map (·.1)).Nodup)(hx:SO l k=some x):(ck w j a l ts ep k x).OK w R F:=λc st hc he=>by
 rw [hc];have hj:=cp.p.inj (aY.cons.mp he).1;exact aD.h9 (by decide+kernel) sR (meets_dict_getitem (knd w) a (kI k _)) λhh g dr os Rl A=>⟨_,x,kH (Rl.mem _ (List.mem_append_left _ (aJ hj))) hn,by rw [qK,hx],
  bI.pure Rl _ (az.de (h:=ck w j a l ts ep k x) (λJ=>rfl) _ 0 rfl rfl)⟩
theorem eX.ok{n:Nat}(hn:(l.map (·.1)).Nodup)(hx:l.length=n):(eX w j a l ts ep n).OK w R F:=λc st hc he=>by
 rw [hc];have hj:=cp.p.inj (aY.cons.mp he).1;refine aD.ej (p:=(a==sysModules)=false) (λhh Rl=>n5 Rl (List.mem_append_left _ (aJ hj))) λha=> ?_;refine aD.h9 (by decide+kernel) uD (meets_dict_len (knd w) a ha) λhh g dr os Rl A=>⟨_,fW (Rl.mem _ (List.mem_append_left _ (aJ hj))) hn,?_⟩
 rw [show(jI l).length=n by simpa [jI]using hx];exact bI.pure Rl _ (az.de (h:=eX w j a l ts ep n) (λJ=>rfl) _ st.t rfl rfl)
end
noncomputable def z'(s:String):Str:=Str.ofString s
noncomputable def textV(i t:Nat):Value:=match i with
 |0=> .none
 |1=> .bool true
 |2=> .bool false
 |3=> .bytes #[97,117,116,111] t
 |_=> .bytes #[105,110,112,117,116] t
noncomputable def dH(j t:Nat):Value:=match j with
 |0=> .none
 |1=> .bytes #[108,102] t
 |_=> .bytes #[99,114,108,102] t
def bc(k t:Nat):Value:=match k with
 |0=> .str (z' "native") t
 |1=> .str (z' "lf") t
 |_=> .str (z' "crlf") t
noncomputable def GG(l t:Nat):Value:=match l with
 |0=> .bytes #[102,97,108,115,101] t
 |1=> .bytes #[116,114,117,101] t
 |_=> .bytes #[105,110,112,117,116] t
noncomputable def Q4:aU:= #[116,101,120,116]
noncomputable def i5:aU:= #[101,111,108]
noncomputable def zb:aU:= #[99,114,108,102]
noncomputable def attrs(i j tt te:Nat):cK:=match i with
 |0=>match j with
  |0=>[]
  |j+1=>[(i5,dH (j+1) te)]
 |i+1=>match j with
  |0=>[(Q4,textV (i+1) tt)]
  |j+1=>[(Q4,textV (i+1) tt),(i5,dH (j+1) te)]
def cL(a:Nat):Value:=match a with
 |0=> .str (z' "binary") 470
 |1=> .str (z' "text-input") 474
 |2=> .str (z' "text-crlf") 476
 |3=> .str (z' "auto-input") 480
 |_=> .str (z' "auto-crlf") 482
noncomputable def dR(i j l k:Nat):Nat:=match i with
 |0=>match j with
  |0=>match l with
   |0=>0
   |1=>4
   |_=>3
  |1=>1
  |_=>2
 |1=>match j with
  |0=>match l with
   |0=>match k with
    |0=>1
    |1=>1
    |_=>2
   |1=>2
   |_=>1
  |1=>1
  |_=>2
 |2=>match j with
  |0=>0
  |1=>0
  |_=>0
 |3=>match j with
  |0=>match l with
   |0=>match k with
    |0=>3
    |1=>3
    |_=>4
   |1=>4
   |_=>3
  |1=>3
  |_=>4
 |_=>match j with
  |0=>1
  |1=>1
  |_=>2
noncomputable def cg(i j l k:Nat):List Nat:=match i with
 |0=>match j with
  |0=>match l with
   |0=>(zJ [wK,[5,5,5],r4,[5],r4,aO,[3,3,3],aO,[1,16,0,3],FG,[0],Hp,aO,[3,3,3],aO,[1,83,3],FG,Hm,aO,[1,16,3],aO,nU,[3],aO,aO,RZ,aO,RL,[3,1,12],aO,[3,3,3]])
   |1=>(zJ [wK,[5,5,5],r4,[5],r4,aO,[3,3,3],aO,[1,16,0,3],FG,[0],Hp,aO,[3,3,3],aO,[1,83,3],FG,Hm,aO,[1,16,3],aO,nU,[3],aO,aO,RZ,aO,RL,aO,[3,3,3]])
   |_=>(zJ [wK,[5,5,5],r4,[5],r4,aO,[3,3,3],aO,[1,16,0,3],FG,[0],Hp,aO,[3,3,3],aO,[1,83,3],FG,Hm,aO,[1,16,3],aO,nU,[3],aO,aO,RZ,aO,RL,[3,1,12],aO,[3,3,3]])
  |1=>(zJ [wK,[5,5,5],r4,[5],r4,aO,[3,3,3],aO,[1,16,0,3],FG,[0],Hp,aO,[3,3,3],aO,[1,83,3],FG,Hm,aO,[1,16,3],aO,RL,aO,[3,3,3],aO,aO,RZ,aO,[1,16,3]])
  |_=>(zJ [wK,[5,5,5],r4,[5],r4,aO,[3,3,3],aO,[1,16,0,3],FG,[0],Hp,aO,[3,3,3],aO,[1,83,3],FG,Hm,aO,[1,16,3],aO,RL,[3,1,12],aO,[3,3,3],aO,aO,RZ,aO,[1,16,3]])
 |1=>match j with
  |0=>match l with
   |0=>match k with
    |0=>(zJ [wK,[5],aO,[3,3,3],aO,[1,16,3],aO,[1,83,3],FG,Hm,aO,[1,16,3],aO,nU,[3],aO,aO,[7,7,1,7,32,7],vW,[9,1,16,9,1,16],mQ,[5],mQ,vU,[16,3,3,3],aO,[1,16,3],aO,[3,3,3],aO,[1,16,3]])
    |1=>(zJ [wK,[5],aO,[3,3,3],aO,[1,16,3],aO,[1,83,3],FG,Hm,aO,[1,16,3],aO,nU,[3],aO,aO,[7,7,1,7,32,7],vW,[9,1,16,9,1,16,3,3,3],aO,[1,16,3],aO,[3,3,3],aO,[1,16,3]])
    |_=>(zJ [wK,[5],aO,[3,3,3],aO,[1,16,3],aO,[1,83,3],FG,Hm,aO,[1,16,3],aO,nU,[3],aO,aO,[7,7,1,7,32,7],vW,[9,1,16,3,3,3],aO,[1,16,3],aO,[3,3,3],aO,[1,16,3]])
   |1=>(zJ [wK,[5],aO,[3,3,3],aO,[1,16,3],aO,[1,83,3],FG,Hm,aO,[1,16,3],aO,nU,[3],aO,aO,[7,7,1,7,32,7,0,3,3],RC,[9,9,9,9,1,9,1,12,3,3,3],aO,[1,16,3],aO,[3,3,3],aO,[1,16,3]])
   |_=>(zJ [wK,[5],aO,[3,3,3],aO,[1,16,3],aO,[1,83,3],FG,Hm,aO,[1,16,3],aO,nU,[3],aO,aO,[7,7,1,7,32,7],vW,[3,3,3],aO,[1,16,3],aO,[3,3,3],aO,[1,16,3]])
  |1=>(zJ [wK,[5],aO,[3,3,3],aO,[1,16,3],aO,[1,83,3],FG,Hm,aO,[1,16,3],aO,RL,aO,[3,3,3],aO,aO,Hq,[1,16,3],aO,[1,16,3]])
  |_=>(zJ [wK,[5],aO,[3,3,3],aO,[1,16,3],aO,[1,83,3],FG,Hm,aO,[1,16,3],aO,RL,[3,1,12],aO,[3,3,3],aO,aO,Hq,[1,16,3],aO,[1,16,3]])
 |2=>match j with
  |0=>(zJ [wK,[5,5],aO,[3,3,3],aO,[1,16,3],aO,[1,83,3],aO,aO,Hq,[1,16,3],aO,[1,16,3]])
  |1=>(zJ [wK,[5,5],aO,[3,3,3],aO,[1,16,3],aO,[1,83,3],aO,aO,Hq,[1,16,3],aO,[1,16,3]])
  |_=>(zJ [wK,[5,5],aO,[3,3,3],aO,[1,16,3],aO,[1,83,3],aO,aO,Hq,[1,16,3],aO,[1,16,3]])
 |3=>match j with
  |0=>match l with
   |0=>match k with
    |0=>(zJ [wK,RQ,aO,[3,3,3],aO,[1,16,3],aO,[1,83,3],FG,Hm,aO,[1,16,3],r4,[3],aO,nU,[3],r4,[3],aO,aO,Hq,vW,[9,1,16,9,1,16],mQ,[5],mQ,vU,[16,3,3,3],aO,[1,16,3],aO,[3,3,3],aO,[1,16,3]])
    |1=>(zJ [wK,RQ,aO,[3,3,3],aO,[1,16,3],aO,[1,83,3],FG,Hm,aO,[1,16,3],r4,[3],aO,nU,[3],r4,[3],aO,aO,Hq,vW,[9,1,16,9,1,16,3,3,3],aO,[1,16,3],aO,[3,3,3],aO,[1,16,3]])
    |_=>(zJ [wK,RQ,aO,[3,3,3],aO,[1,16,3],aO,[1,83,3],FG,Hm,aO,[1,16,3],r4,[3],aO,nU,[3],r4,[3],aO,aO,Hq,vW,[9,1,16,3,3,3],aO,[1,16,3],aO,[3,3,3],aO,[1,16,3]])
   |1=>(zJ [wK,RQ,aO,[3,3,3],aO,[1,16,3],aO,[1,83,3],FG,Hm,aO,[1,16,3],r4,[3],aO,nU,[3],r4,[3],aO,aO,Hq,[0,3,3],RC,[9,9,9,9,1,9,1,12,3,3,3],aO,[1,16,3],aO,[3,3,3],aO,[1,16,3]])
   |_=>(zJ [wK,RQ,aO,[3,3,3],aO,[1,16,3],aO,[1,83,3],FG,Hm,aO,[1,16,3],r4,[3],aO,nU,[3],r4,[3],aO,aO,Hq,vW,[3,3,3],aO,[1,16,3],aO,[3,3,3],aO,[1,16,3]])
  |1=>(zJ [wK,RQ,aO,[3,3,3],aO,[1,16,3],aO,[1,83,3],FG,Hm,aO,RL,aO,[3,3,3],aO,aO,Hq,[1,16,3],aO,[1,16,3]])
  |_=>(zJ [wK,RQ,aO,[3,3,3],aO,[1,16,3],aO,[1,83,3],FG,Hm,aO,RL,[3],aO,RL,aO,[3,3,3],aO,aO,Hq,[1,16,3],aO,[1,16,3]])
 |_=>match j with
  |0=>(zJ [wK,[5,5,5,1,12],aO,[3,3,3],aO,[1,16,3],aO,[1,83,3],FG,Hm,aO,[1,16,3],aO,nU,[3],aO,aO,Hq,[1,16,3],aO,[1,16,3]])
  |1=>(zJ [wK,[5,5,5,1,12],aO,[3,3,3],aO,[1,16,3],aO,[1,83,3],FG,Hm,aO,[1,16,3],aO,RL,aO,[3,3,3],aO,aO,Hq,[1,16,3],aO,[1,16,3]])
  |_=>(zJ [wK,[5,5,5,1,12],aO,[3,3,3],aO,[1,16,3],aO,[1,83,3],FG,Hm,aO,[1,16,3],aO,RL,[3,1,12],aO,[3,3,3],aO,aO,Hq,[1,16,3],aO,[1,16,3]])
noncomputable def dI(i j l k:Nat):List Nat:=match i with
 |0=>match j with
  |0=>match l with
   |0=>(zJ [[2,0,0],FG,FG,[1,1,47,1,1,12]])
   |1=>(zJ [[2,0,0],FG,FG,[1,1,47,1,1,12]])
   |_=>(zJ [[2,0,0],FG,FG,[1,1,47,1,1,12]])
  |1=>(zJ [[2,0,0],FG,FG,[1,1,1,12],t9,r4])
  |_=>(zJ [[2,0,0],FG,FG,[1,1,1,12],t9,r4])
 |1=>match j with
  |0=>match l with
   |0=>match k with
    |0=>(zJ [[2,0,0],FG,FG,[1,1,41],yB,t9,RO])
    |1=>(zJ [[2,0,0],FG,FG,[1,1,41],yB,t9,RO])
    |_=>(zJ [[2,0,0],FG,FG,[1,1,41],yB,t9,RO])
   |1=>(zJ [[2,0,0],FG,FG,[1],RO,[1,1,12],t9,RO])
   |_=>(zJ [[2,0,0],FG,FG,[1],RO,[1,1,12,1,1,12],t9,RO])
  |1=>(zJ [[2,0,0],FG,FG,[1,1,12],t9,RO])
  |_=>(zJ [[2,0,0],FG,FG,[1,1,12],t9,RO])
 |2=>(zJ [[2,0,0],FG,t9])
 |3=>match j with
  |0=>match l with
   |0=>match k with
    |0=>(zJ [[2,0,0],FG,FG,[1],yB,t9,[1,12]])
    |1=>(zJ [[2,0,0],FG,FG,[1],yB,t9,[1,12]])
    |_=>(zJ [[2,0,0],FG,FG,[1],yB,t9,[1,12]])
   |1=>(zJ [[2,0,0],FG,FG,[1,1,12,1,1,12],t9,[1,12]])
   |_=>(zJ [[2,0,0],FG,FG,[1,1,12,1,1,12,1,1,12],t9,[1,12]])
  |1=>(zJ [[2,0,0],FG,FG,[1,1,12],t9,[1,12]])
  |_=>(zJ [[2,0,0],FG,FG,[1,1,12],t9,[1,12]])
 |_=>match j with
  |0=>(zJ [[2,0,0],FG,FG,[1,1,12],t9,[1,12]])
  |1=>(zJ [[2,0,0],FG,FG,[1,1,12],t9,[1,12]])
  |_=>(zJ [[2,0,0],FG,FG,[1,1,12],t9,[1,12]])
noncomputable def conv(i j l k:Nat):Bool:=match i with
 |0=>match j with
  |0=>match l with
   |0=>false
   |1=>true
   |_=>true
  |1=>true
  |_=>true
 |1=>match j with
  |0=>match l with
   |0=>match k with
    |0=>true
    |1=>true
    |_=>true
   |1=>true
   |_=>true
  |1=>true
  |_=>true
 |2=>false
 |3=>match j with
  |0=>match l with
   |0=>match k with
    |0=>true
    |1=>true
    |_=>true
   |1=>true
   |_=>true
  |1=>true
  |_=>true
 |_=>match j with
  |0=>true
  |1=>true
  |_=>true
noncomputable def bq(i j l k:Nat):Bool:=match i with
 |0=>match j with
  |0=>match l with
   |0=>false
   |1=>true
   |_=>false
  |1=>false
  |_=>true
 |1=>match j with
  |0=>match l with
   |0=>match k with
    |0=>false
    |1=>false
    |_=>true
   |1=>true
   |_=>false
  |1=>false
  |_=>true
 |2=>false
 |3=>match j with
  |0=>match l with
   |0=>match k with
    |0=>false
    |1=>false
    |_=>true
   |1=>true
   |_=>false
  |1=>false
  |_=>true
 |_=>match j with
  |0=>false
  |1=>false
  |_=>true
noncomputable def Oq(i j l k:Nat):Bool:=match i with
 |0=>match j with
  |0=>match l with
   |0=>true
   |1=>true
   |_=>true
  |1=>false
  |_=>false
 |1=>match j with
  |0=>match l with
   |0=>match k with
    |0=>false
    |1=>false
    |_=>false
   |1=>false
   |_=>false
  |1=>false
  |_=>false
 |2=>false
 |3=>match j with
  |0=>match l with
   |0=>match k with
    |0=>true
    |1=>true
    |_=>true
   |1=>true
   |_=>true
  |1=>true
  |_=>true
 |_=>match j with
  |0=>false
  |1=>false
  |_=>false
namespace H
namespace RS
noncomputable def sj(a:Addr)(l:cK)(ts:nN)(ep:Nat)(r:Value):bE:= .ret (.ok (.ret r)) λst=>[(.l (st.L.take 1),.l [(a,bN w.params l ts ep)])]
def pl(i j:Nat)(a:Addr)(tt te:Nat)(ts:nN)(ep:Nat)(r:Value):bE:=
 .hk (rT w 0 a (attrs i j tt te) ts ep Q4 [] (textV i tt)) λJ=>match i with
  |0=> .hk (rT w 0 a (attrs i j tt te) ts ep zb [] .none) λJ=> .hk (rT w 0 a (attrs i j tt te) ts ep i5 [] (dH j te)) λJ=>sj w a (attrs i j tt te) ts ep r
  |2=>sj w a (attrs i j tt te) ts ep r
  |_=> .hk (rT w 0 a (attrs i j tt te) ts ep i5 [] (dH j te)) λJ=>sj w a (attrs i j tt te) ts ep r
def S(sc:List Nat)(i j:Nat)(a:Addr)(tt te:Nat)(ts:nN)(ep:Nat)(x y r:Value)(N tk:Nat)(aa:RB):ax:=
 aR w 900 5 sc (pl w i j a tt te ts ep r) aa (.call (.ref 244) ⟨[.ref a,x,y],[]⟩) ⟨[(a,bN w.params (attrs i j tt te) ts ep)],[],N,tk⟩
theorem ye w a tt te ts ep x y N tk:∀aa,aE (S w (cg 2 0 0 0) 2 0 a tt te ts ep x y (cL (dR 2 0 0 0)) N tk aa):=by apply bh w
theorem G9 w a tt te ts ep x y N tk:∀aa,aE (S w (cg 2 1 0 0) 2 1 a tt te ts ep x y (cL (dR 2 1 0 0)) N tk aa):=by apply bh w
theorem G8 w a tt te ts ep x y N tk:∀aa,aE (S w (cg 2 2 0 0) 2 2 a tt te ts ep x y (cL (dR 2 2 0 0)) N tk aa):=by apply bh w
theorem yr w a tt te ts ep x y N tk:∀aa,aE (S w (cg 0 1 0 0) 0 1 a tt te ts ep x y (cL (dR 0 1 0 0)) N tk aa):=by apply bh w
theorem yq w a tt te ts ep x y N tk:∀aa,aE (S w (cg 0 2 0 0) 0 2 a tt te ts ep x y (cL (dR 0 2 0 0)) N tk aa):=by apply bh w
theorem yh w a tt te ts ep x y N tk:∀aa,aE (S w (cg 1 1 0 0) 1 1 a tt te ts ep x y (cL (dR 1 1 0 0)) N tk aa):=by apply bh w
theorem yg w a tt te ts ep x y N tk:∀aa,aE (S w (cg 1 2 0 0) 1 2 a tt te ts ep x y (cL (dR 1 2 0 0)) N tk aa):=by apply bh w
theorem xX w a tt te ts ep x y N tk:∀aa,aE (S w (cg 3 1 0 0) 3 1 a tt te ts ep x y (cL (dR 3 1 0 0)) N tk aa):=by apply bh w
theorem xW w a tt te ts ep x y N tk:∀aa,aE (S w (cg 3 2 0 0) 3 2 a tt te ts ep x y (cL (dR 3 2 0 0)) N tk aa):=by apply bh w
theorem xU w a tt te ts ep x y N tk:∀aa,aE (S w (cg 4 1 0 0) 4 1 a tt te ts ep x y (cL (dR 4 1 0 0)) N tk aa):=by apply bh w
theorem xS w a tt te ts ep x y N tk:∀aa,aE (S w (cg 4 2 0 0) 4 2 a tt te ts ep x y (cL (dR 4 2 0 0)) N tk aa):=by apply bh w
theorem xV w a tt te ts ep x y N tk:∀aa,aE (S w (cg 4 0 0 0) 4 0 a tt te ts ep x y (cL (dR 4 0 0 0)) N tk aa):=by apply bh w
theorem yx(a:Addr)(tt te:Nat)(ts:nN)(ep:Nat)(t1 t2:Nat)(N tk:Nat):∀aa,aE (S w (cg 0 0 0 0) 0 0 a tt te ts ep (bc 0 t1) (GG 0 t2) (cL (dR 0 0 0 0)) N tk aa):=by apply bh w
theorem Hj(a:Addr)(tt te:Nat)(ts:nN)(ep:Nat)(t1 t2:Nat)(N tk:Nat):∀aa,aE (S w (cg 0 0 0 1) 0 0 a tt te ts ep (bc 1 t1) (GG 0 t2) (cL (dR 0 0 0 1)) N tk aa):=by apply bh w
theorem Hi(a:Addr)(tt te:Nat)(ts:nN)(ep:Nat)(t1 t2:Nat)(N tk:Nat):∀aa,aE (S w (cg 0 0 0 2) 0 0 a tt te ts ep (bc 2 t1) (GG 0 t2) (cL (dR 0 0 0 2)) N tk aa):=by apply bh w
theorem yw(a:Addr)(tt te:Nat)(ts:nN)(ep:Nat)(t1 t2:Nat)(N tk:Nat):∀aa,aE (S w (cg 0 0 1 0) 0 0 a tt te ts ep (bc 0 t1) (GG 1 t2) (cL (dR 0 0 1 0)) N tk aa):=by apply bh w
theorem Hh(a:Addr)(tt te:Nat)(ts:nN)(ep:Nat)(t1 t2:Nat)(N tk:Nat):∀aa,aE (S w (cg 0 0 1 1) 0 0 a tt te ts ep (bc 1 t1) (GG 1 t2) (cL (dR 0 0 1 1)) N tk aa):=by apply bh w
theorem Hg(a:Addr)(tt te:Nat)(ts:nN)(ep:Nat)(t1 t2:Nat)(N tk:Nat):∀aa,aE (S w (cg 0 0 1 2) 0 0 a tt te ts ep (bc 2 t1) (GG 1 t2) (cL (dR 0 0 1 2)) N tk aa):=by apply bh w
theorem yu(a:Addr)(tt te:Nat)(ts:nN)(ep:Nat)(t1 t2:Nat)(N tk:Nat):∀aa,aE (S w (cg 0 0 2 0) 0 0 a tt te ts ep (bc 0 t1) (GG 2 t2) (cL (dR 0 0 2 0)) N tk aa):=by apply bh w
theorem Hf(a:Addr)(tt te:Nat)(ts:nN)(ep:Nat)(t1 t2:Nat)(N tk:Nat):∀aa,aE (S w (cg 0 0 2 1) 0 0 a tt te ts ep (bc 1 t1) (GG 2 t2) (cL (dR 0 0 2 1)) N tk aa):=by apply bh w
theorem He(a:Addr)(tt te:Nat)(ts:nN)(ep:Nat)(t1 t2:Nat)(N tk:Nat):∀aa,aE (S w (cg 0 0 2 2) 0 0 a tt te ts ep (bc 2 t1) (GG 2 t2) (cL (dR 0 0 2 2)) N tk aa):=by apply bh w
theorem yn(a:Addr)(tt te:Nat)(ts:nN)(ep:Nat)(t1 t2:Nat)(N tk:Nat):∀aa,aE (S w (cg 1 0 0 0) 1 0 a tt te ts ep (bc 0 t1) (GG 0 t2) (cL (dR 1 0 0 0)) N tk aa):=by apply bh w
theorem ym(a:Addr)(tt te:Nat)(ts:nN)(ep:Nat)(t1 t2:Nat)(N tk:Nat):∀aa,aE (S w (cg 1 0 0 1) 1 0 a tt te ts ep (bc 1 t1) (GG 0 t2) (cL (dR 1 0 0 1)) N tk aa):=by apply bh w
theorem yk(a:Addr)(tt te:Nat)(ts:nN)(ep:Nat)(t1 t2:Nat)(N tk:Nat):∀aa,aE (S w (cg 1 0 0 2) 1 0 a tt te ts ep (bc 2 t1) (GG 0 t2) (cL (dR 1 0 0 2)) N tk aa):=by apply bh w
theorem yj(a:Addr)(tt te:Nat)(ts:nN)(ep:Nat)(t1 t2:Nat)(N tk:Nat):∀aa,aE (S w (cg 1 0 1 0) 1 0 a tt te ts ep (bc 0 t1) (GG 1 t2) (cL (dR 1 0 1 0)) N tk aa):=by apply bh w
theorem Hd(a:Addr)(tt te:Nat)(ts:nN)(ep:Nat)(t1 t2:Nat)(N tk:Nat):∀aa,aE (S w (cg 1 0 1 1) 1 0 a tt te ts ep (bc 1 t1) (GG 1 t2) (cL (dR 1 0 1 1)) N tk aa):=by apply bh w
theorem Hc(a:Addr)(tt te:Nat)(ts:nN)(ep:Nat)(t1 t2:Nat)(N tk:Nat):∀aa,aE (S w (cg 1 0 1 2) 1 0 a tt te ts ep (bc 2 t1) (GG 1 t2) (cL (dR 1 0 1 2)) N tk aa):=by apply bh w
theorem yi(a:Addr)(tt te:Nat)(ts:nN)(ep:Nat)(t1 t2:Nat)(N tk:Nat):∀aa,aE (S w (cg 1 0 2 0) 1 0 a tt te ts ep (bc 0 t1) (GG 2 t2) (cL (dR 1 0 2 0)) N tk aa):=by apply bh w
theorem Hb(a:Addr)(tt te:Nat)(ts:nN)(ep:Nat)(t1 t2:Nat)(N tk:Nat):∀aa,aE (S w (cg 1 0 2 1) 1 0 a tt te ts ep (bc 1 t1) (GG 2 t2) (cL (dR 1 0 2 1)) N tk aa):=by apply bh w
theorem Ha(a:Addr)(tt te:Nat)(ts:nN)(ep:Nat)(t1 t2:Nat)(N tk:Nat):∀aa,aE (S w (cg 1 0 2 2) 1 0 a tt te ts ep (bc 2 t1) (GG 2 t2) (cL (dR 1 0 2 2)) N tk aa):=by apply bh w
theorem yc(a:Addr)(tt te:Nat)(ts:nN)(ep:Nat)(t1 t2:Nat)(N tk:Nat):∀aa,aE (S w (cg 3 0 0 0) 3 0 a tt te ts ep (bc 0 t1) (GG 0 t2) (cL (dR 3 0 0 0)) N tk aa):=by apply bh w
theorem ya(a:Addr)(tt te:Nat)(ts:nN)(ep:Nat)(t1 t2:Nat)(N tk:Nat):∀aa,aE (S w (cg 3 0 0 1) 3 0 a tt te ts ep (bc 1 t1) (GG 0 t2) (cL (dR 3 0 0 1)) N tk aa):=by apply bh w
theorem Tz(a:Addr)(tt te:Nat)(ts:nN)(ep:Nat)(t1 t2:Nat)(N tk:Nat):∀aa,aE (S w (cg 3 0 0 2) 3 0 a tt te ts ep (bc 2 t1) (GG 0 t2) (cL (dR 3 0 0 2)) N tk aa):=by apply bh w
theorem xZ(a:Addr)(tt te:Nat)(ts:nN)(ep:Nat)(t1 t2:Nat)(N tk:Nat):∀aa,aE (S w (cg 3 0 1 0) 3 0 a tt te ts ep (bc 0 t1) (GG 1 t2) (cL (dR 3 0 1 0)) N tk aa):=by apply bh w
theorem G7(a:Addr)(tt te:Nat)(ts:nN)(ep:Nat)(t1 t2:Nat)(N tk:Nat):∀aa,aE (S w (cg 3 0 1 1) 3 0 a tt te ts ep (bc 1 t1) (GG 1 t2) (cL (dR 3 0 1 1)) N tk aa):=by apply bh w
theorem G6(a:Addr)(tt te:Nat)(ts:nN)(ep:Nat)(t1 t2:Nat)(N tk:Nat):∀aa,aE (S w (cg 3 0 1 2) 3 0 a tt te ts ep (bc 2 t1) (GG 1 t2) (cL (dR 3 0 1 2)) N tk aa):=by apply bh w
theorem xY(a:Addr)(tt te:Nat)(ts:nN)(ep:Nat)(t1 t2:Nat)(N tk:Nat):∀aa,aE (S w (cg 3 0 2 0) 3 0 a tt te ts ep (bc 0 t1) (GG 2 t2) (cL (dR 3 0 2 0)) N tk aa):=by apply bh w
theorem G5(a:Addr)(tt te:Nat)(ts:nN)(ep:Nat)(t1 t2:Nat)(N tk:Nat):∀aa,aE (S w (cg 3 0 2 1) 3 0 a tt te ts ep (bc 1 t1) (GG 2 t2) (cL (dR 3 0 2 1)) N tk aa):=by apply bh w
theorem G4(a:Addr)(tt te:Nat)(ts:nN)(ep:Nat)(t1 t2:Nat)(N tk:Nat):∀aa,aE (S w (cg 3 0 2 2) 3 0 a tt te ts ep (bc 2 t1) (GG 2 t2) (cL (dR 3 0 2 2)) N tk aa):=by apply bh w
theorem all(a:Addr)(tt te:Nat)(ts:nN)(ep t1 t2 N tk:Nat)(aa:RB):∀(i j l k:Nat),i<5->j<3->l<3->k<3->aE (S w (cg i j l k) i j a tt te ts ep (bc k t1) (GG l t2) (cL (dR i j l k)) N tk aa):=λi j l k hi hj hl hk=>by refine UM i j l k hi hj hl hk (λl k=>ye w a tt te ts ep (bc k t1) (GG l t2) N tk aa) (λl k=>G9 w a tt te ts ep (bc k t1) (GG l t2) N tk aa) (λl k=>G8 w a tt te ts ep (bc k t1) (GG l t2) N tk aa) (λl k=>yr w a tt te ts ep (bc k t1) (GG l t2) N tk aa) (λl k=>yq w a tt te ts ep (bc k t1) (GG l t2) N tk aa) (λl k=>yh w a tt te ts ep (bc k t1) (GG l t2) N tk aa) (λl k=>yg w a tt te ts ep (bc k t1) (GG l t2) N tk aa) (λl k=>xX w a tt te ts ep (bc k t1) (GG l t2) N tk aa) (λl k=>xW w a tt te ts ep (bc k t1) (GG l t2) N tk aa) (λl k=>xU w a tt te ts ep (bc k t1) (GG l t2) N tk aa) (λl k=>xS w a tt te ts ep (bc k t1) (GG l t2) N tk aa) (λl k=>xV w a tt te ts ep (bc k t1) (GG l t2) N tk aa) (yx w a tt te ts ep t1 t2 N tk aa) (Hj w a tt te ts ep t1 t2 N tk aa) (Hi w a tt te ts ep t1 t2 N tk aa) (yw w a tt te ts ep t1 t2 N tk aa) (Hh w a tt te ts ep t1 t2 N tk aa) (Hg w a tt te ts ep t1 t2 N tk aa) (yu w a tt te ts ep t1 t2 N tk aa) (Hf w a tt te ts ep t1 t2 N tk aa) (He w a tt te ts ep t1 t2 N tk aa) (yn w a tt te ts ep t1 t2 N tk aa) (ym w a tt te ts ep t1 t2 N tk aa) (yk w a tt te ts ep t1 t2 N tk aa) (yj w a tt te ts ep t1 t2 N tk aa) (Hd w a tt te ts ep t1 t2 N tk aa) (Hc w a tt te ts ep t1 t2 N tk aa) (yi w a tt te ts ep t1 t2 N tk aa) (Hb w a tt te ts ep t1 t2 N tk aa) (Ha w a tt te ts ep t1 t2 N tk aa) (yc w a tt te ts ep t1 t2 N tk aa) (ya w a tt te ts ep t1 t2 N tk aa) (Tz w a tt te ts ep t1 t2 N tk aa) (xZ w a tt te ts ep t1 t2 N tk aa) (G7 w a tt te ts ep t1 t2 N tk aa) (G6 w a tt te ts ep t1 t2 N tk aa) (xY w a tt te ts ep t1 t2 N tk aa) (G5 w a tt te ts ep t1 t2 N tk aa) (G4 w a tt te ts ep t1 t2 N tk aa)
end RS
namespace FL
def S0(N tk:Nat)(aa:RB):ax:=aR w 900 5 (zJ [[2,0,0,0],FG,[1,1],aO,[1,16]]) (leaf (.ok (.ret .none))) aa (.call (.ref 252) ⟨[cL 0],[]⟩) ⟨[],[],N,tk⟩
noncomputable def tT:List Nat:=(zJ [[2,0,0,0],FG,[1,1],aO,[1,16,1],aO,aO,RE,[32,3,1,16,1,16,1,1],Hl,vU,iH,[16,1],vU,iH,[16,0],kA,[1,0,13],vU,mQ,[0,0,27],mQ,mQ,[0,0,0,7,0,7],vX,Bb,[1],cD,[5,5],cD,[5,5],cD,[5,5]])
noncomputable def rx:List Nat:=(zJ [[2,0,0,0],FG,[1,1],aO,[1,16,1],aO,aO,RE,[32,3,1,1],Hl,vU,iH,[16,1],vU,iH,[16,0],kA,[1,0,13],vU,mQ,[0,0,27],mQ,mQ,[0,0,0,7,0,7],vX,Bb,[1],cD,[5,5],cD,[5,5],cD,[5,5]])
noncomputable def OX:List Nat:=(zJ [[2,0,0,0],FG,[1,1],aO,[1,16,1],aO,aO,RE,[32,3,1,16,1,16,1,1],Hl,vU,iH,vU,iH,[0],kA,[1,0,13],vU,mQ,[0,0,27],mQ,mQ,[0,0,0,7,0,7],vX,Bb,[1],cD,[5,5],cD,[5,5],cD,[5,5]])
noncomputable def OW:List Nat:=(zJ [[2,0,0,0],FG,[1,1],aO,[1,16,1],aO,aO,RE,[32,3,1,16,1,1],Hl,vU,iH,[16,1],vU,iH,[16,1,0],kA,[1,0,13],vU,mQ,[0,0,27],mQ,mQ,[0,0,0,7,0,7],vX,Bb,[1],cD,[5,5],cD,[5,5],cD,[5,5]])
noncomputable def q(tk:Nat):iy:=⟨tk+17,tk+19,tk+21,tk+23,tk+25,tk+27,527⟩
def S(sc:List Nat)(a:Nat)(ak aN:Bool)(N tk:Nat)(aa:RB):ax:=aR w 1500 6 sc (.ret (.ok (.ret (.ref (N+3)))) λst=>[(.p (bP st.L 2),.p (some (N+2,sM w.params (q tk) ak aN))),(.p (bP st.L 3),.p (some (N+3,sL (N+2))))]) aa (.call (.ref 252) ⟨[cL a],[]⟩) ⟨[],[],N,tk⟩
theorem lx w N tk:∀aa,aE (S0 w N tk aa):=by apply bh w
theorem lu w N tk:∀aa,aE (S w tT 1 false false N tk aa):=by apply bh w
theorem lr w N tk:∀aa,aE (S w rx 2 true false N tk aa):=by apply bh w
theorem lq w N tk:∀aa,aE (S w OX 3 false true N tk aa):=by apply bh w
theorem tr w N tk:∀aa,aE (S w OW 4 true true N tk aa):=by apply bh w
end FL
namespace RU
def S(sc:List Nat)(x y u v:Value)(conv ak aN:Bool)(N tk:Nat)(aa:RB):ax:=aR w 900 5 sc (.ret (.ok (.ret (.ref (N+1)))) λst=>[(.p (bP st.L 1),.p (some (N+1,gP conv ak aN)))]) aa (.call (.ref 1348) ⟨[x,y,u,v],[]⟩) ⟨[],[],N,tk⟩
theorem ye(t1:Nat)(y u v:Value)(N tk:Nat):∀aa,aE (S w (dI 2 0 0 0) (textV 2 t1) y u v (conv 2 0 0 0) (bq 2 0 0 0) (Oq 2 0 0 0) N tk aa):=by apply bh w
theorem yx(t1 t2:Nat)(u:Value)(t4:Nat)(N tk:Nat):∀aa,aE (S w (dI 0 0 0 0) (textV 0 t1) (dH 0 t2) u (GG 0 t4) (conv 0 0 0 0) (bq 0 0 0 0) (Oq 0 0 0 0) N tk aa):=by apply bh w
theorem yw(t1 t2:Nat)(u:Value)(t4:Nat)(N tk:Nat):∀aa,aE (S w (dI 0 0 1 0) (textV 0 t1) (dH 0 t2) u (GG 1 t4) (conv 0 0 1 0) (bq 0 0 1 0) (Oq 0 0 1 0) N tk aa):=by apply bh w
theorem yu(t1 t2:Nat)(u:Value)(t4:Nat)(N tk:Nat):∀aa,aE (S w (dI 0 0 2 0) (textV 0 t1) (dH 0 t2) u (GG 2 t4) (conv 0 0 2 0) (bq 0 0 2 0) (Oq 0 0 2 0) N tk aa):=by apply bh w
theorem yr(t1 t2:Nat)(u v:Value)(N tk:Nat):∀aa,aE (S w (dI 0 1 0 0) (textV 0 t1) (dH 1 t2) u v (conv 0 1 0 0) (bq 0 1 0 0) (Oq 0 1 0 0) N tk aa):=by apply bh w
theorem yq(t1 t2:Nat)(u v:Value)(N tk:Nat):∀aa,aE (S w (dI 0 2 0 0) (textV 0 t1) (dH 2 t2) u v (conv 0 2 0 0) (bq 0 2 0 0) (Oq 0 2 0 0) N tk aa):=by apply bh w
theorem yh(t1 t2:Nat)(u v:Value)(N tk:Nat):∀aa,aE (S w (dI 1 1 0 0) (textV 1 t1) (dH 1 t2) u v (conv 1 1 0 0) (bq 1 1 0 0) (Oq 1 1 0 0) N tk aa):=by apply bh w
theorem yg(t1 t2:Nat)(u v:Value)(N tk:Nat):∀aa,aE (S w (dI 1 2 0 0) (textV 1 t1) (dH 2 t2) u v (conv 1 2 0 0) (bq 1 2 0 0) (Oq 1 2 0 0) N tk aa):=by apply bh w
theorem xX(t1 t2:Nat)(u v:Value)(N tk:Nat):∀aa,aE (S w (dI 3 1 0 0) (textV 3 t1) (dH 1 t2) u v (conv 3 1 0 0) (bq 3 1 0 0) (Oq 3 1 0 0) N tk aa):=by apply bh w
theorem xW(t1 t2:Nat)(u v:Value)(N tk:Nat):∀aa,aE (S w (dI 3 2 0 0) (textV 3 t1) (dH 2 t2) u v (conv 3 2 0 0) (bq 3 2 0 0) (Oq 3 2 0 0) N tk aa):=by apply bh w
theorem xU(t1 t2:Nat)(u v:Value)(N tk:Nat):∀aa,aE (S w (dI 4 1 0 0) (textV 4 t1) (dH 1 t2) u v (conv 4 1 0 0) (bq 4 1 0 0) (Oq 4 1 0 0) N tk aa):=by apply bh w
theorem xS(t1 t2:Nat)(u v:Value)(N tk:Nat):∀aa,aE (S w (dI 4 2 0 0) (textV 4 t1) (dH 2 t2) u v (conv 4 2 0 0) (bq 4 2 0 0) (Oq 4 2 0 0) N tk aa):=by apply bh w
theorem xV(t1 t2:Nat)(u v:Value)(N tk:Nat):∀aa,aE (S w (dI 4 0 0 0) (textV 4 t1) (dH 0 t2) u v (conv 4 0 0 0) (bq 4 0 0 0) (Oq 4 0 0 0) N tk aa):=by apply bh w
theorem yn(t1 t2 t3 t4:Nat)(N tk:Nat):∀aa,aE (S w (dI 1 0 0 0) (textV 1 t1) (dH 0 t2) (bc 0 t3) (GG 0 t4) (conv 1 0 0 0) (bq 1 0 0 0) (Oq 1 0 0 0) N tk aa):=by apply bh w
theorem ym(t1 t2 t3 t4:Nat)(N tk:Nat):∀aa,aE (S w (dI 1 0 0 1) (textV 1 t1) (dH 0 t2) (bc 1 t3) (GG 0 t4) (conv 1 0 0 1) (bq 1 0 0 1) (Oq 1 0 0 1) N tk aa):=by apply bh w
theorem yk(t1 t2 t3 t4:Nat)(N tk:Nat):∀aa,aE (S w (dI 1 0 0 2) (textV 1 t1) (dH 0 t2) (bc 2 t3) (GG 0 t4) (conv 1 0 0 2) (bq 1 0 0 2) (Oq 1 0 0 2) N tk aa):=by apply bh w
theorem yj(t1 t2:Nat)(u:Value)(t4:Nat)(N tk:Nat):∀aa,aE (S w (dI 1 0 1 0) (textV 1 t1) (dH 0 t2) u (GG 1 t4) (conv 1 0 1 0) (bq 1 0 1 0) (Oq 1 0 1 0) N tk aa):=by apply bh w
theorem yi(t1 t2:Nat)(u:Value)(t4:Nat)(N tk:Nat):∀aa,aE (S w (dI 1 0 2 0) (textV 1 t1) (dH 0 t2) u (GG 2 t4) (conv 1 0 2 0) (bq 1 0 2 0) (Oq 1 0 2 0) N tk aa):=by apply bh w
theorem yc(t1 t2 t3 t4:Nat)(N tk:Nat):∀aa,aE (S w (dI 3 0 0 0) (textV 3 t1) (dH 0 t2) (bc 0 t3) (GG 0 t4) (conv 3 0 0 0) (bq 3 0 0 0) (Oq 3 0 0 0) N tk aa):=by apply bh w
theorem ya(t1 t2 t3 t4:Nat)(N tk:Nat):∀aa,aE (S w (dI 3 0 0 1) (textV 3 t1) (dH 0 t2) (bc 1 t3) (GG 0 t4) (conv 3 0 0 1) (bq 3 0 0 1) (Oq 3 0 0 1) N tk aa):=by apply bh w
theorem Tz(t1 t2 t3 t4:Nat)(N tk:Nat):∀aa,aE (S w (dI 3 0 0 2) (textV 3 t1) (dH 0 t2) (bc 2 t3) (GG 0 t4) (conv 3 0 0 2) (bq 3 0 0 2) (Oq 3 0 0 2) N tk aa):=by apply bh w
theorem xZ(t1 t2:Nat)(u:Value)(t4:Nat)(N tk:Nat):∀aa,aE (S w (dI 3 0 1 0) (textV 3 t1) (dH 0 t2) u (GG 1 t4) (conv 3 0 1 0) (bq 3 0 1 0) (Oq 3 0 1 0) N tk aa):=by apply bh w
theorem xY(t1 t2:Nat)(u:Value)(t4:Nat)(N tk:Nat):∀aa,aE (S w (dI 3 0 2 0) (textV 3 t1) (dH 0 t2) u (GG 2 t4) (conv 3 0 2 0) (bq 3 0 2 0) (Oq 3 0 2 0) N tk aa):=by apply bh w
theorem all(t1 t2 t3 t4 N tk:Nat)(aa:RB):∀(i j l k:Nat),i<5->j<3->l<3->k<3->aE (S w (dI i j l k) (textV i t1) (dH j t2) (bc k t3) (GG l t4) (conv i j l k) (bq i j l k) (Oq i j l k) N tk aa):=λi j l k hi hj hl hk=>by refine UM i j l k hi hj hl hk (λl k=>ye w t1 (dH 0 t2) (bc k t3) (GG l t4) N tk aa) (λl k=>ye w t1 (dH 1 t2) (bc k t3) (GG l t4) N tk aa) (λl k=>ye w t1 (dH 2 t2) (bc k t3) (GG l t4) N tk aa) (λl k=>yr w t1 t2 (bc k t3) (GG l t4) N tk aa) (λl k=>yq w t1 t2 (bc k t3) (GG l t4) N tk aa) (λl k=>yh w t1 t2 (bc k t3) (GG l t4) N tk aa) (λl k=>yg w t1 t2 (bc k t3) (GG l t4) N tk aa) (λl k=>xX w t1 t2 (bc k t3) (GG l t4) N tk aa) (λl k=>xW w t1 t2 (bc k t3) (GG l t4) N tk aa) (λl k=>xU w t1 t2 (bc k t3) (GG l t4) N tk aa) (λl k=>xS w t1 t2 (bc k t3) (GG l t4) N tk aa) (λl k=>xV w t1 t2 (bc k t3) (GG l t4) N tk aa) (yx w t1 t2 (bc 0 t3) t4 N tk aa) (yx w t1 t2 (bc 1 t3) t4 N tk aa) (yx w t1 t2 (bc 2 t3) t4 N tk aa) (yw w t1 t2 (bc 0 t3) t4 N tk aa) (yw w t1 t2 (bc 1 t3) t4 N tk aa) (yw w t1 t2 (bc 2 t3) t4 N tk aa) (yu w t1 t2 (bc 0 t3) t4 N tk aa) (yu w t1 t2 (bc 1 t3) t4 N tk aa) (yu w t1 t2 (bc 2 t3) t4 N tk aa) (yn w t1 t2 t3 t4 N tk aa) (ym w t1 t2 t3 t4 N tk aa) (yk w t1 t2 t3 t4 N tk aa) (yj w t1 t2 (bc 0 t3) t4 N tk aa) (yj w t1 t2 (bc 1 t3) t4 N tk aa) (yj w t1 t2 (bc 2 t3) t4 N tk aa) (yi w t1 t2 (bc 0 t3) t4 N tk aa) (yi w t1 t2 (bc 1 t3) t4 N tk aa) (yi w t1 t2 (bc 2 t3) t4 N tk aa) (yc w t1 t2 t3 t4 N tk aa) (ya w t1 t2 t3 t4 N tk aa) (Tz w t1 t2 t3 t4 N tk aa) (xZ w t1 t2 (bc 0 t3) t4 N tk aa) (xZ w t1 t2 (bc 1 t3) t4 N tk aa) (xZ w t1 t2 (bc 2 t3) t4 N tk aa) (xY w t1 t2 (bc 0 t3) t4 N tk aa) (xY w t1 t2 (bc 1 t3) t4 N tk aa) (xY w t1 t2 (bc 2 t3) t4 N tk aa)
end RU
end H
theorem cT:∀{l:aA} {n:Nat} {p:Addr × Obj},bP l n=some p->bg l n p.2=l
 |[],n,p,e=>by cases n<;>rfl
 |a::l,0,p,e=>by have e:a=p:=Option.some.inj e;subst e;rfl
 |a::l,n+1,p,e=>by show a::bg l n p.2=_;rw [cT (l:=l) (n:=n) e]
def eP(aX j:Nat)(p:Addr × Obj)(code:Code->Code)(res:aL->Result)(d5:aj->aL->Prop):az:=⟨aX,code,λst=>[(.p (bP st.L j),.p (some p))],λa J=>res a,qm,d5⟩
def rp(p:Addr × Obj)(F:aj)(d5:aj->aL->Prop)(res:aL->Result):Result->aj->aZ->Prop:=λr F' ah=>ah.L=[p]/\∃a:aL,a.F=F'/\a.N=ah.N/\a.t=ah.t/\d5 F a/\r=res a
theorem eP.of{w:World}{R:aA}{F:aj}{aX j:Nat}{p:Addr × Obj}{code:Code->Code}{res:aL->Result}{d5:aj->aL->Prop}{G1:aA}(hg:∀p∈G1,F p.1=some p.2)
  (h:∀c R N t,aD w R F ⟨[p],G1,N,t⟩ aX (code c) (rp p F d5 res)):(eP aX j p code res d5).OK w R F:=λc st hc he=>by
 rw [hc];have hj:bP st.L j=some p:=cp.p.inj (aY.cons.mp he).1;refine aD.qY (P:=λr F' o N' t'=>o=p.2/\∃a:aL,a.F=F'/\a.N=N'/\a.t=t'/\d5 F a/\r=res a) hj hg (λR=>(h c R _ _).aT λr F' ah hh=>by obtain⟨h1,h2⟩:=hh;exact⟨p.2,h1,rfl,h2⟩) λr F' o N' t' hh=> ?_;obtain⟨ho,a,h1,h2,h3,h4,h5⟩:=hh;subst ho;refine⟨a,h1,h4,h5,?_⟩;subst h2 h3;rw [cT hj];rfl
namespace H
section
def lY(n:Nat)(a:Addr)(i j l k tt te:Nat)(ts:nN)(ep:Nat):az:=eP 6 n (a,bN w.params (attrs i j tt te) ts ep) (λc=> .call (.ref 244) ⟨[.ref a,bc k (cA c 1),GG l (cA c 2)],[]⟩)
 (λJ=> .ok (.ret (cL (dR i j l k)))) same
variable{w}
theorem je(i j tt te:Nat):((attrs i j tt te).map (·.1)).Nodup:=by unfold attrs;cases i<;>cases j<;>simp [Q4,i5]
theorem uK(i j tt te:Nat):(SO (attrs i j tt te) Q4).getD (([]:List Value).headD .none)=textV i tt:=by unfold attrs SO;cases i<;>cases j<;>kernel_rfl
theorem wF(i j tt te:Nat):(SO (attrs i j tt te) i5).getD (([]:List Value).headD .none)=dH j te:=by unfold attrs SO;cases i<;>cases j<;>kernel_rfl
theorem uL(i j tt te:Nat):(SO (attrs i j tt te) zb).getD (([]:List Value).headD .none)= .none:=by unfold attrs SO;cases i<;>cases j<;>kernel_rfl
theorem lY.ok{w:World}{R:aA}{F:aj}{n:Nat}{a:Addr}{i j l k tt te:Nat}{ts:nN}{ep:Nat}(hi:i<5)(hj:j<3)(hl:l<3)(hk:k<3):(lY w n a i j l k tt te ts ep).OK w R F:=by
 refine eP.of (G1:=[]) cB λc R N t=> ?_;refine aD.run (d:=5) nr (λaa=>RS.all w a tt te ts ep (cA c 1) (cA c 2) N t aa i j l k hi hj hl hk) ⟨rT.ok (je ..) (uK ..) (.inl rfl),λb J hf=> ?_⟩;rw [show b.F=F from hf];have fin:∀i,VC w R (rp (a,bN w.params (attrs i j tt te) ts ep) F same λJ=> .ok (.ret (cL (dR i j l k)))) F (RS.sj w a (attrs i j tt te) ts ep (cL (dR i j l k))):=
  λi=>VC.keep λN' t'=>⟨rfl,bB F N' t' 0,rfl,rfl,rfl,rfl,rfl⟩
 have J1:∀i,VC w R (rp (a,bN w.params (attrs i j tt te) ts ep) F same λJ=> .ok (.ret (cL (dR i j l k)))) F (.hk (rT w 0 a (attrs i j tt te) ts ep i5 [] (dH j te)) λJ=>RS.sj w a (attrs i j tt te) ts ep (cL (dR i j l k))):=
  λi=>⟨rT.ok (je ..) (wF ..) (.inl rfl),λb J hf=>by rw [show b.F=F from hf];exact fin i⟩
 rcases i with _|_|_|_|_|i
 ·refine⟨rT.ok (je ..) (uL ..) (.inl rfl),λb J hf=> ?_⟩;rw [show b.F=F from hf];exact J1 0
 ·exact J1 1
 ·exact fin 2
 ·exact J1 3
 ·exact J1 4
 ·exact absurd hi (by lia)
def mf:az:=aW 6 (λJ=> .call (.ref 252) ⟨[cL 0],[]⟩) (λJ=> .ok (.ret .none)) same
theorem mf.ok:mf.OK w R F:=
 aW.of (G1:=[]) cB λc R N t=>aD.run (d:=5) nr (FL.lx w N t) (VC.leaf λN' t'=>⟨bB F N' t' 0,rfl,rfl,rfl,rfl,rfl⟩)
def k7(w:World)(a:Nat):az:=aW 7 (λJ=> .call (.ref 252) ⟨[cL a],[]⟩) (λb=> .ok (.ret (.ref (b.k 0)))) λF b=>bW w b.F (b.k 0) (a==2||a==4) (a==3||a==4)
theorem ng{a:Nat}{ak aN:Bool}{sc:List Nat}(e:∀N t aa,aE (FL.S w sc a ak aN N t aa))(h1:(a==2||a==4)=ak)(h2:(a==3||a==4)=aN):(k7 w a).OK w R F:=by
 refine aW.of (G1:=[]) cB λc R N t=>aD.run (d:=6) nr (e N t) ?_;refine VC.za (n:=0) (L':=[]) (X:=[(N+2,sM w.params (FL.q t) ak aN),(N+3,sL (N+2))]) (by simp) (λst he=>⟨rfl,?_⟩) λle N' t'=> ?_
 ·have e1:=aY.cons.mp he;have e2:=aY.cons.mp e1.2;intro p hp;simp only [List.mem_cons,List.not_mem_nil,or_false]at hp;rcases hp with rfl|rfl
  ·exact bQ (cp.p.inj e1.1) (Nat.zero_le _)
  ·exact bQ (cp.p.inj e2.1) (Nat.zero_le _)
 ·refine⟨rfl,bB _ N' t' (N+3),rfl,rfl,rfl,?_,rfl⟩;rw [h1,h2];exact⟨N+2,FL.q t,av (p:=(N+3,sL (N+2))) (by simp) (by simp),av (p:=(N+2,sM w.params (FL.q t) ak aN)) (by simp) (by simp)⟩
theorem k7.ok{a:Nat}(h0:a≠0)(h5:a<5):(k7 w a).OK w R F:=by exact Uo (p:=λa=>a≠0->(k7 w a).OK w R F) a h5 (λh=>absurd rfl h) (λJ=>ng (FL.lu w) rfl rfl) (λJ=>ng (FL.lr w) rfl rfl) (λJ=>ng (FL.lq w) rfl rfl) (λJ=>ng (FL.tr w) rfl rfl) h0
def uv(i j l k:Nat):az:=aW 6 (λc=> .call (.ref 1348) ⟨[textV i (cA c 0),dH j (cA c 1),bc k (cA c 2),GG l (cA c 3)],[]⟩) (λb=> .ok (.ret (.ref (b.k 0)))) λF b=>b.F (b.k 0)=some (gP (conv i j l k) (bq i j l k) (Oq i j l k))
theorem uv.ok{i j l k:Nat}(hi:i<5)(hj:j<3)(hl:l<3)(hk:k<3):(uv i j l k).OK w R F:=by
 refine aW.of (G1:=[]) cB λc R N t=>aD.run (d:=5) nr (λaa=>RU.all w (cA c 0) (cA c 1) (cA c 2) (cA c 3) N t aa i j l k hi hj hl hk) ?_;refine VC.za (n:=0) (L':=[]) (X:=[(N+1,gP (conv i j l k) (bq i j l k) (Oq i j l k))]) (by simp) (λst he=>⟨rfl,?_⟩) λle N' t'=> ?_
 ·intro p hp;rw [List.mem_singleton]at hp;subst hp;exact bQ (cp.p.inj (aY.cons.mp he).1) (Nat.zero_le _)
 ·exact⟨rfl,bB _ N' t' (N+1),rfl,rfl,rfl,av (p:=(N+1,gP (conv i j l k) (bq i j l k) (Oq i j l k))) (by simp) (.head _),rfl⟩
variable(w)
theorem SS:∀i j l k,i<5->j<3->l<3->k<3->dR i j l k<5/\(conv i j l k=(dR i j l k !=0))/\(conv i j l k=true->(dR i j l k==2||dR i j l k==4)=bq i j l k/\(dR i j l k==3||dR i j l k==4)=Oq i j l k):=by
 intro i j l k hi hj hl hk;have:∀i:Fin 5,∀j l k:Fin 3,dR i j l k<5/\(conv i j l k=(dR i j l k !=0))/\(conv i j l k=true->(dR i j l k==2||dR i j l k==4)=bq i j l k/\(dR i j l k==3||dR i j l k==4)=Oq i j l k):=by decide+kernel
 exact this ⟨i,hi⟩ ⟨j,hj⟩ ⟨l,hl⟩ ⟨k,hk⟩
end
end H
variable{w}
theorem ab.at{st:aZ}{aX:Nat}{α:Type}{t:Sem α}{P:α->aj->aZ->Prop}(h:ab w R F st aX t P){A:Around}(hA:ff aX A){s:Shared}(Rl:bO (H.KP w.params) F R s.heap st)(ht:s.toks=st.t){Q:α->Shared->Prop}{E:Value->Shared->Prop}
  (hq:∀a F' ah s',F.le F'->bO (H.KP w.params) F' R s'.heap ah->s'.toks=ah.t->s'.os=s.os->P a F' ah->Q a s'):wpAny (model H.pw w) A t Q E s:=by
 obtain⟨h',g,dr,t',os⟩:=s;obtain rfl:t'=st.t:=ht;exact wpAny_mono (h.wM A hA h' g dr os Rl) (λa s' hh=>by obtain⟨F',ah,hl,cu,ht,ho,hp⟩:=hh;exact hq a F' ah s' hl cu ht ho hp) λJ J x=>x.elim
theorem aD.nI{st:aZ}{aX:Nat}{ai:Result->aj->aZ->Prop}{bx:PySem.Env}{ed:PySem.Expr}{pd p0 p1 apos pos p2:Pos}{attr:Str}{rest:List PySem.Stmt}{f cc:Addr}{of oc:Obj}{fd:FuncData}{ar:PySem.Arg}{vs:aV}{file:Str}{tf:Tok}{pl:Sem Bool}
  (PI:bx.kindOf "super"=some .globalImplicit) (PM:bx.kindOf "__class__"=some .free) (uw:(attr==("__class__":Str))=false) (PT:bx.func=some f) (hf:H.KP w.params f=some of) (zr:of.data= .func fd)
  (hp:(fd.params.posonlyargs++fd.params.args).head? =some ar) (zt:bx.code= .ref cc) (EW:H.KP w.params cc=some oc) (EL:oc.data= .fields vs) (BG:vs[2]? =some (.str file tf))
  (sF:((H.pw.main.file:Str)==file)=true) (zi:(H.pw.main.scope.names.lookup ("super":Str)).isSome=false)
  (hi:interactive bx=false) (H7:swapsWith ed none pd.line bx=Pure.pure false) (hs:swapsWith (.Call (.Attribute (.Call (.Name "super" p0) [] [] p1) attr apos) [] [] pos) none p2.line bx=Pure.pure false)
  (he:eval (.Call (.Attribute (.Call (.Name "super" p0) [] [] p1) attr apos) [] [] pos) bx=(do
   let ov<-attributeBase (.Call (.Name "super" p0) [] [] p1) attr bx (eval (.Call (.Name "super" p0) [] [] p1) bx)
   standAt apos.atName
   let(f,first)<-holding [ov] (getMethod ov attr pl)
   callWith pos f first (backTo pos (starEach [] bx)) []))
  (h0:ab w R F st aX (eval ed bx) λJ F0 Aq=>
   ab w R F0 Aq aX (loadName bx "super") λg F1 bU=>g= .type "super"/\
   ab w R F1 bU aX (loadName bx "__class__") λcls F2 fI=>
   ab w R F2 fI aX (loadName bx ar.arg) λself F3 fB=>
   ab w R F3 fB aX (isType cls) λb F4 xj=>b=true/\
   ab w R F4 xj aX (call (.type "super") [cls,self]) λso F5 GD=>
   ab w R F5 GD aX (getMethod so attr pl) λfx F6 GC=>
   ab w R F6 GC aX (callWith pos fx.1 fx.2 (backTo pos (starEach [] bx)) []) λJ F7 GB=>
   ab w R F7 GB aX (execs rest bx) λf F8 FE=>ai (.ok (.ret (match f with| .ret v=>v|_=> .none))) F8 FE):
  aD w R F st (aX+1) (.func (.Expr ed pd:: .Expr (.Call (.Attribute (.Call (.Name "super" p0) [] [] p1) attr apos) [] [] pos) p2::rest) bx) ai:=by
 intro hh g dr os Rl A hA;have B0:ff aX (A.deeper bx):=hA.under (c:= .func [] bx) (cR (by intro J J x;cases x));refine ks_codeAny_funcAt (ks_wpAt_execs_cons (ks_wpAt_Expr_any (PySem.wpAt_of_wpAny (h0.at B0 Rl rfl λf0 F0 Aq s0 l0 R0 t0 o0 h1=> ?_)) hi H7));refine ks_wpAt_execs_cons (ks_wpAt_Expr_any (ks_wpAt_MethodCall (pl:=pl) ?_ he) hi hs);refine ks_wpAt_super_base PI PM uw PT (R0.fix _ _ (R0.gO _ _ hf)) zr hp zt (R0.fix _ _ (R0.gO _ _ EW)) EL BG sF zi ?_;refine h1.at B0 R0 t0 λg1 F1 bU s1 l1 R1 t1 o1 hh=> ?_;obtain⟨AB,h2⟩:=hh;refine⟨AB,?_⟩;refine h2.at B0 R1 t1 λcls F2 fI s2 l2 R2 t2 o2 h3=> ?_;refine h3.at B0 R2 t2 λself F3 fB s3 l3 R3 t3 o3 h4=> ?_;refine h4.at B0 R3 t3 λb F4 xj s4 l4 R4 t4 o4 hh=> ?_;obtain⟨hb,h5⟩:=hh;refine⟨hb,?_⟩;refine h5.at B0 R4 t4 λso F5 GD s5 l5 R5 t5 o5 h6=> ?_;refine h6.at B0 R5 t5 λfx F6 GC s6 l6 R6 t6 o6 h7=> ?_;refine h7.at B0 R6 t6 λJ F7 GB s7 l7 R7 t7 o7 h8=> ?_;refine PySem.wpAt_of_wpAny (h8.at B0 R7 t7 λf8 F8 FE s8 l8 R8 t8 o8 hP=> ?_);exact⟨F8,FE,l0.trans (l1.trans (l2.trans (l3.trans (l4.trans (l5.trans (l6.trans (l7.trans l8))))))),R8,t8,by rw [o8,o7,o6,o5,o4,o3,o2,o1,o0],hP⟩
variable(w)
end Mine
namespace Mine
theorem qI:∀{l:aA} {i j:Nat} {p q:Addr × Obj},bP l i=some p->bP l j=some q->i≠j->∃l':aA,List.Perm l (p::q::l')/\∀o o',List.Perm (bg (bg l i o) j o') ((p.1,o)::(q.1,o')::l')
 |[],i,j,p,q,e,_,_=>by cases i<;>cases e
 |a::l,0,0,p,q,_,_,n=>absurd rfl n
 |a::l,0,j+1,p,q,e,e',_=>by have e:a=p:=Option.some.inj e;subst e;obtain⟨l',hl,ho⟩:=d7 l j q e';exact⟨l',List.Perm.cons a hl,λo o'=>List.Perm.cons (a.1,o) (ho o')⟩
 |a::l,i+1,0,p,q,e,e',_=>by have e':a=q:=Option.some.inj e';subst e';obtain⟨l',hl,ho⟩:=d7 l i p e;exact⟨l',(List.Perm.cons a hl).trans (List.Perm.swap p a l'),λo o'=>(List.Perm.cons (a.1,o') (ho o)).trans (List.Perm.swap (p.1,o) (a.1,o') l')⟩
 |a::l,i+1,j+1,p,q,e,e',n=>by obtain⟨l',hl,ho⟩:=qI (l:=l) (i:=i) (j:=j) e e' (λh=>n (h▸rfl));have sw:∀(x y z:Addr × Obj),List.Perm (z::x::y::l') (x::y::z::l'):=λx y z=>(List.Perm.swap x z (y::l')).trans (List.Perm.cons x (List.Perm.swap y z l'));exact⟨a::l',(List.Perm.cons a hl).trans (sw p q a),λo o'=>(List.Perm.cons a (ho o o')).trans (sw (p.1,o) (q.1,o') a)⟩
theorem aD.ja{w:World}{R:aA}{F:aj}{st:aZ}{aX:Nat}{c:Code}{ai:Result->aj->aZ->Prop}{G1:aA}{i j:Nat}{p q:Addr × Obj}{P:Result->aj->Obj->Obj->aA->Nat->Nat->Prop}(hi:bP st.L i=some p)(hj:bP st.L j=some q)(SH:i≠j)(hg:∀p∈G1,F p.1=some p.2)
  (h:∀R,aD w R F ⟨[p,q],G1,st.N,st.t⟩ aX c λr F' ah=>LV λo o' X=>ah.L=(p.1,o)::(q.1,o')::X/\P r F' o o' X ah.N ah.t) (hq:∀r F' o o' X N' t',P r F' o o' X N' t'->ai r F' ⟨bg (bg st.L i o) j o'++X,st.G,N',t'⟩):
  aD w R F st aX c ai:=by
 obtain⟨l',hl,ho⟩:=qI hi hj SH;refine aD.frame (L1:=[p,q]) (L2:=l') hl hg (h _) λr F' bU hh=> ?_;obtain⟨o,o',X,h1,h2⟩:=hh;refine⟨bg (bg st.L i o) j o'++X,?_,hq _ _ _ _ _ _ _ h2⟩;rw [h1];have e1:List.Perm ((p.1,o)::(q.1,o')::X++l') ((p.1,o)::(q.1,o')::l'++X):=List.Perm.cons _ (List.Perm.cons _ List.perm_append_comm);exact e1.trans ((ho o o').symm.append_right X)
theorem aD.gO{w:World}{R:aA}{F:aj}{st:aZ}{aX:Nat}{c:Code}{ai mL:Result->aj->aZ->Prop}(h:aD w R F st aX c ai)(hp:∀r F' ah,ai r F' ah->∃L',List.Sublist L' ah.L/\mL r F' ⟨L',ah.G,ah.N,ah.t⟩):aD w R F st aX c mL:=λhh g dr os Rl=>
 (h hh g dr os Rl).aT λr s' hh=>by obtain⟨F',ah,hl,cu,ht,ho,kJ⟩:=hh;obtain⟨L',hs,hP⟩:=hp _ _ _ kJ;have Lj:(L'++R).Sublist (ah.L++R):=List.Sublist.append_right hs R;exact⟨F',⟨L',ah.G,ah.N,ah.t⟩,hl,⟨cu.size,λp hp=>cu.mem p (Lj.subset hp),(Lj.map (·.1)).nodup cu.nd,λp hp=>cu.old p (Lj.subset hp),cu.gO,cu.fix,cu.gs⟩,ht,ho,hP⟩
noncomputable def I0:PySem.Stmt->PySem.Expr
 | .Expr e _=>e
 |_=>default
noncomputable def Bm:PySem.Stmt->Pos
 | .Expr _ p=>p
 |_=>default
noncomputable def CG:PySem.Stmt->Pos × Pos × Pos × Pos
 | .Expr (.Call (.Attribute (.Call (.Name _ p0) _ _ p1) _ apos) _ _ pos) _=>(p0,p1,apos,pos)
 |_=>default
noncomputable def gL:Code->List PySem.Stmt
 | .func b _=>b
 |_=>[]
noncomputable def Dl:Code->PySem.Env
 | .func _ e=>e
 |_=>default
noncomputable def SY:Option Obj->FuncData
 |some o=>match o.data with
  | .func fd=>fd
  |_=>default
 |none=>default
noncomputable def oZ:Option Obj->aV
 |some o=>match o.data with
  | .fields vs=>vs
  |_=>default
 |none=>default
noncomputable def iW:Option Obj->Obj
 |some o=>o
 |none=>⟨.none,.none,.fields #[],#[]⟩
noncomputable abbrev cb(C dx:Addr):Obj:={cls:= .ref C,dict:=some dx,data:= .plain}
noncomputable abbrev bA:Obj:={cls:= .type "dict",data:= .dict #[] 0}
theorem ab.exact{w:World}{R:aA}{F:aj}{st:aZ}{aX:Nat}{α:Type}{t:Sem α}{enc:α->Flow}{n d:Nat}{sc:List Nat}{f:Flow}{L G:aA}{N T:Nat}(hl:d<=aX)
  (e:∀aa,(aF w n d sc (.ret (.ok f) (bH L G N T)) aa t enc st).map (·.1)=(aF w n d sc (.ret (.ok f) (bH L G N T)) aa t enc st).map (·.2)):ab w R F st aX t λa F' ah=>enc a=f/\F'=F/\ah=⟨L,G,N,T⟩:=
 ab.run (ai:=λr F' ah=>r= .ok f/\F'=F/\ah=⟨L,G,N,T⟩) hl e (VC.exact ⟨rfl,rfl,rfl⟩) (λa F' ah hh=>by obtain⟨e0,e1,e2⟩:=hh;exact⟨Except.ok.inj e0,e1,e2⟩) λx F' ah hh=>by obtain⟨e0,J⟩:=hh;cases e0
namespace H
section
variable{w}
theorem w7:(H.KP P 1391).isSome=true:=by kernel_rfl
theorem CT{R:aA}{h:Heap}{s:aZ}(x:bO (H.KP w.params) F R h s):1392<=s.N:=by
 cases e:H.KP w.params 1391 with
 |none=>have:=w7 w.params;rw [e]at this;cases this
 |some o=>exact x.Dj (x.gO _ _ e)
def qp(as:List Nat):Frag:=as.map λa=>(a,iW (H.KP P a))
theorem nD(P:Params):∀(as:List Nat),as.all (λa=>(H.KP P a).isSome)=true->∀a o,(qp P as).lookup a=some o->H.KP P a=some o
 |[],_,a,o,e=>by cases e
 |b::as,h,a,o,e=>by
  rw [List.all_cons,Bool.and_eq_true]at h;simp only [qp,List.map_cons,List.lookup]at e;split at e
  ·rename_i q;cases e;rw [beq_iff_eq.mp q];cases e2:H.KP P b with
   |none=>rw [e2]at h;cases h.1
   |some o=>rfl
  ·exact nD P as h.2 a o e
def zA:Frag:=qp P [663,662,585,584,884,883,cStatics,509]
theorem B2(a:Addr)(o:Obj)(e:(zA P).lookup a=some o):H.KP P a=some o:=nD P _ (by kernel_rfl) a o e
theorem sJ:nsIn (zA P) cStatics "thirdparty.any"=some none:=by kernel_rfl
theorem i9{w:World}{R:aA}{F:aj}{st:aZ}{aX:Nat}{so C x f:Addr}{of:Obj}{l₀ l:List Value}{name:Str}{pl:Sem Bool}{i j:Nat}{ox:Obj}
  (hi:bP st.L i=some (so,{cls:= .type "super",data:= .fields #[.ref C,.ref x,.ref C]})) (hj:bP st.L j=some (x,ox)) (hC:(H.KP w.params C).isSome=true)
  (hm:peek (zA w.params) ⟨H.pw,w.params⟩ (mroOf (.ref C))=some l₀) (hl:(l₀.dropWhile (·!= .ref C)).drop 1=l) (Qd:alongIn (zA w.params) name l=some (some (.ref f)))
  (PU:H.KP w.params f=some of) (PX:of.cls= .type "function") (hn:(name==("__class__":Str))=false):
  ab w R F st aX (getMethod (.ref so) name pl) λfx F' ah=>fx=(.ref st.N,[])/\F'=F/\ah=⟨eO st.L st.N {cls:= .type "method",data:= .fields #[.ref f,.ref x]},st.G,st.N+1,st.t+1⟩:= .mk λA hA h g dr os Rl=>by
 have X:(zA w.params).In h:=λa o e=>Rl.fix _ _ (Rl.gO _ _ (B2 _ a o e));have hx:x≠C:=λe=>by
  have h1:=Rl.old _ (List.mem_append_left _ (aJ hj));simp only at h1;rw [e]at h1;cases e2:H.KP w.params C with
  |none=>rw [e2]at hC;cases hC
  |some o=>rw [Rl.gO _ _ e2]at h1;cases h1
 refine ks_wpAny_getMethod_super (Rl.mem _ (List.mem_append_left _ (aJ hi))) (looks_opaque X (sJ _)) (Looks.of_peek X hm) hl X Qd (Rl.fix _ _ (Rl.gO _ _ PU)) PX hx hn ?_;exact⟨F,⟨_,st.G,st.N+1,st.t+1⟩,aj.le.refl F,(Rl.alloc rfl).toks _,rfl,rfl,by rw [Rl.size],rfl,rfl⟩
noncomputable def zB:Option Value->Str
 |some (.str s _)=>s
 |_=>""
theorem he(p0 p1 apos pos:Pos)(bx:PySem.Env)(h:(apos.endLine==pos.line)=true):∃pl:Sem Bool,eval (.Call (.Attribute (.Call (.Name "super" p0) [] [] p1) "__init__" apos) [] [] pos) bx=(do
   let ov<-attributeBase (.Call (.Name "super" p0) [] [] p1) "__init__" bx (eval (.Call (.Name "super" p0) [] [] p1) bx)
   standAt apos.atName
   let(f,first)<-holding [ov] (getMethod ov "__init__" pl)
   callWith pos f first (backTo pos (starEach [] bx)) []):=by
 refine⟨do return(<-importBound (.Call (.Name "super" p0) [] [] p1) bx).getD true,?_⟩;show(attributeBase (.Call (.Name "super" p0) [] [] p1) "__init__" bx (eval (.Call (.Name "super" p0) [] [] p1) bx)>>=λov=>standAt apos.atName>>=λJ=>
  methodCall (.Call (.Name "super" p0) [] [] p1) "__init__" apos pos bx ov 0 (backTo pos (starEach [] bx)) [])=_
 have e:methodCallPos (methodCallForm 0 (backTo pos (starEach [] bx)) []) (.Call (.Name "super" p0) [] [] p1) bx apos pos=Pure.pure pos:=by unfold methodCallPos;rw [h,Bool.or_true];rfl
 unfold methodCall;rw [e];rfl
theorem Tp{aX:Nat}{bx:PySem.Env}{ed:PySem.Expr}{pd p0 p1 apos pos p2:Pos}{rest:List PySem.Stmt}{f cc:Addr}{of oc:Obj}{fd:FuncData}{ar:PySem.Arg}{vs:aV}{file:Str}{tf:Tok}{cls self so m:Value}{l:List Value}{s0 s1 s5 s6 s7 s8:aZ}{g0 g7:Flow}
  (hk:bx.kindOf "super"=some .globalImplicit/\bx.kindOf "__class__"=some .free/\bx.func=some f/\interactive bx=false) (hf:H.KP w.params f=some of) (zr:of.data= .func fd)
  (hp:(fd.params.posonlyargs++fd.params.args).head? =some ar) (Mb:ar.arg="self") (zt:bx.code= .ref cc) (EW:H.KP w.params cc=some oc) (EL:oc.data= .fields vs) (BG:vs[2]? =some (.str file tf))
  (sF:((H.pw.main.file:Str)==file)=true) (H7:swapsWith ed none pd.line bx=Pure.pure false) (hs:swapsWith (.Call (.Attribute (.Call (.Name "super" p0) [] [] p1) "__init__" apos) [] [] pos) none p2.line bx=Pure.pure false) (EK:(apos.endLine==pos.line)=true)
  (c0:ab w R F s0 aX (Fast.tw14044960220447912780 ed bx) λJ F' s'=>Flow.next=g0/\F'=F/\s'=s1)
  (c1:ab w R F s1 aX (Fast.tw8468629109055619292 bx "super") λg F' s'=>Flow.ret g= .ret (.type "super")/\F'=F/\s'=s1)
  (c2:ab w R F s1 aX (Fast.tw8468629109055619292 bx "__class__") λg F' s'=>Flow.ret g= .ret cls/\F'=F/\s'=s1)
  (c3:ab w R F s1 aX (Fast.tw8468629109055619292 bx "self") λg F' s'=>Flow.ret g= .ret self/\F'=F/\s'=s1)
  (c4:ab w R F s1 aX (Fast.tw10380811246957099773 cls) λb F' s'=>Flow.ret (.bool b)= .ret (.bool true)/\F'=F/\s'=s1)
  (c5:ab w R F s1 aX (Fast.tw11478286150595567475 (.type "super") [cls,self]) λg F' s'=>Flow.ret g= .ret so/\F'=F/\s'=s5)
  (c6:∀pl,ab w R F s5 aX (getMethod so "__init__" pl) λg F' s'=>g=(m,l)/\F'=F/\s'=s6)
  (c7:ab w R F s6 aX (Fast.tw8289420714989923916 pos m l (Fast.tw4897270859577272712 pos (Fast.tw13897175071876407860 [] bx)) []) λg F' s'=>Flow.ret g=g7/\F'=F/\s'=s7)
  (c8:ab w R F s7 aX (Fast.tw12563942051412417395 rest bx) λg F' s'=>id g= .next/\F'=F/\s'=s8):
  aD w R F s0 (aX+1) (.func (.Expr ed pd:: .Expr (.Call (.Attribute (.Call (.Name "super" p0) [] [] p1) "__init__" apos) [] [] pos) p2::rest) bx) λr F' ah=>r= .ok (.ret .none)/\F'=F/\ah=s8:=by
 obtain⟨h1,h2,h3,h4⟩:=hk;obtain⟨pl,wW⟩:=he p0 p1 apos pos bx EK;refine aD.nI h1 h2 (by decide+kernel) h3 hf zr hp zt EW EL BG sF (by kernel_rfl) h4 H7 hs wW ?_;rw [Mb,Fast.te14044960220447912780,Fast.te8468629109055619292,Fast.te10380811246957099773,Fast.te11478286150595567475,Fast.te8289420714989923916,Fast.te4897270859577272712,Fast.te13897175071876407860,Fast.te12563942051412417395];refine c0.aT λJ F0 Aq J hh=> ?_;obtain⟨J,e1,e2⟩:=hh;subst e1 e2;refine c1.aT λg F1 bU J hh=> ?_;obtain⟨e0,e1,e2⟩:=hh;refine⟨Flow.ret.inj e0,?_⟩;subst e1 e2;refine c2.aT λcls F2 fI J hh=> ?_;obtain⟨e0,e1,e2⟩:=hh;obtain rfl:=Flow.ret.inj e0;subst e1 e2;refine c3.aT λself F3 fB J hh=> ?_;obtain⟨e0,e1,e2⟩:=hh;obtain rfl:=Flow.ret.inj e0;subst e1 e2;refine c4.aT λbb F4 xj J hh=> ?_;obtain⟨e0,e1,e2⟩:=hh;refine⟨Value.bool.inj (Flow.ret.inj e0),?_⟩;subst e1 e2;refine c5.aT λso F5 GD J hh=> ?_;obtain⟨e0,e1,e2⟩:=hh;obtain rfl:=Flow.ret.inj e0;subst e1 e2;refine(c6 pl).aT λfx F6 GC J hh=> ?_;obtain⟨e0,e1,e2⟩:=hh;subst e0 e1 e2;refine c7.aT λJ F7 GB J hh=> ?_;obtain⟨J,e1,e2⟩:=hh;subst e1 e2;refine c8.aT λf8 F8 FE J hh=> ?_;obtain⟨e0,e1,e2⟩:=hh;obtain rfl:f8= .next:=e0;subst e1 e2;exact⟨rfl,rfl,rfl⟩
variable(w)
namespace BI
def fr(k:Nat)(b:Addr):Obj:={cls:= .type "frame",data:= .dict #[d P "self" k (.ref b)] 1}
def L0(dd b N t:Nat):aA:=[(dd,bA),(b,cb 663 dd),(N,fr P t b)]
noncomputable def AW(b:Addr):Obj:={cls:= .type "super",data:= .fields #[.ref 663,.ref b,.ref 663]}
def L5(dd b N t:Nat):aA:=[(dd,bA),(b,cb 663 dd),(N,fr P t b),(N+1,AW b)]
noncomputable def Eo(b:Addr):Obj:={cls:= .type "method",data:= .fields #[.ref 509,.ref b]}
def L6(dd b N t:Nat):aA:=[(dd,bA),(b,cb 663 dd),(N,fr P t b),(N+1,AW b),(N+2,Eo b)]
def Ey(k1 k2 k3 k4:Nat):Obj:={cls:= .type "dict",data:= .dict #[d P "_sha" k1 .none,d P "_chunked_text" k2 .none,d P "_needs_serialization" k3 (.bool true),d P "object_format" k4 (.ref 374)] 4}
def L7(dd b N t:Nat):aA:=[(dd,Ey P (t+6) (t+8) (t+10) (t+12)),(b,cb 663 dd),(N,fr P t b),(N+1,AW b),(N+2,Eo b),(N+3,fr P (t+3) b)]
def zc(k1 k2 k3 k4 l:Nat):Obj:={cls:= .type "dict",data:= .dict #[d P "_sha" k1 .none,d P "_chunked_text" k2 (.ref l),d P "_needs_serialization" k3 (.bool false),d P "object_format" k4 (.ref 374)] 4}
def L8(dd b N t:Nat):aA:=[(dd,zc P (t+6) (t+8) (t+10) (t+12) (N+4)),(b,cb 663 dd),(N,fr P t b),(N+1,AW b),(N+2,Eo b),(N+3,fr P (t+3) b),(N+4,aw #[] 0)]
noncomputable def c(b:Addr):Code:= .call (.ref 605) ⟨[.ref b],[]⟩
def lc(dd b N t:Nat):Code:=kh (aR w 100 6 [2,0,0,5,5,0] (leaf (.ok .next)) v7 (c b) ⟨[(dd,bA),(b,cb 663 dd)],[],N,t⟩)
def ed(dd b N t:Nat):PySem.Expr:=I0 ((gL (lc w dd b N t)).headD default)
def pd(dd b N t:Nat):Pos:=Bm ((gL (lc w dd b N t)).headD default)
def p2(dd b N t:Nat):Pos:=Bm ((gL (lc w dd b N t)).tail.headD default)
def pp(dd b N t:Nat):Pos × Pos × Pos × Pos:=CG ((gL (lc w dd b N t)).tail.headD default)
def rs(dd b N t:Nat):List PySem.Stmt:=(gL (lc w dd b N t)).tail.tail
def ev(dd b N t:Nat):PySem.Env:=Dl (lc w dd b N t)
def ph(dd b N t:Nat):Code:= .func (.Expr (ed w dd b N t) (pd w dd b N t):: .Expr (.Call (.Attribute (.Call (.Name "super" (pp w dd b N t).1) [] [] (pp w dd b N t).2.1) "__init__" (pp w dd b N t).2.2.1) [] [] (pp w dd b N t).2.2.2) (p2 w dd b N t)::rs w dd b N t) (ev w dd b N t)
def cS(dd b N t:Nat)(aa:RB):ax:=aR w 100 5 [2,0,0,5,5,0] (.again 5 (ph w dd b N t) (bH (L0 w.params dd b N t) [] (N+1) (t+1))) aa (c b) ⟨[(dd,bA),(b,cb 663 dd)],[],N,t⟩
theorem zY w dd b N t:∀aa,aE (cS w dd b N t aa):=by apply bh w
def S0(dd b N t:Nat)(aa:RB):ax:=aF w 100 4 [] (.ret (.ok .next) (bH (L0 w.params dd b N t) [] (N+1) (t+2))) aa (Fast.tw14044960220447912780 (ed w dd b N t) (ev w dd b N t)) (λJ=> .next) ⟨L0 w.params dd b N t,[],N+1,t+1⟩
def S1(dd b N t:Nat)(aa:RB):ax:=aF w 100 4 [0,0] (.ret (.ok (.ret (.type "super"))) (bH (L0 w.params dd b N t) [] (N+1) (t+2))) aa (Fast.tw8468629109055619292 (ev w dd b N t) "super") .ret ⟨L0 w.params dd b N t,[],N+1,t+2⟩
def S2(dd b N t:Nat)(aa:RB):ax:=aF w 100 4 [0] (.ret (.ok (.ret (.ref 663))) (bH (L0 w.params dd b N t) [] (N+1) (t+2))) aa (Fast.tw8468629109055619292 (ev w dd b N t) "__class__") .ret ⟨L0 w.params dd b N t,[],N+1,t+2⟩
def S3(dd b N t:Nat)(aa:RB):ax:=aF w 100 4 [5] (.ret (.ok (.ret (.ref b))) (bH (L0 w.params dd b N t) [] (N+1) (t+2))) aa (Fast.tw8468629109055619292 (ev w dd b N t) "self") .ret ⟨L0 w.params dd b N t,[],N+1,t+2⟩
def S4(dd b N t:Nat)(aa:RB):ax:=aF w 100 4 [0] (.ret (.ok (.ret (.bool true))) (bH (L0 w.params dd b N t) [] (N+1) (t+2))) aa (Fast.tw10380811246957099773 (.ref 663)) (λx=> .ret (.bool x)) ⟨L0 w.params dd b N t,[],N+1,t+2⟩
def S5(dd b N t:Nat)(aa:RB):ax:=aF w 400 4 (zJ [[1,13,0,1,35,7,7,1,7,33,0,3,3,0],RK]) (.ret (.ok (.ret (.ref (N+1)))) (bH (L5 w.params dd b N t) [] (N+2) (t+2))) aa (Fast.tw11478286150595567475 (.type "super") [.ref 663,.ref b]) .ret ⟨L0 w.params dd b N t,[],N+1,t+2⟩
theorem Ah(R:aA)(F:aj)(pl:Sem Bool)(dd b N t:Nat):ab w R F ⟨L5 w.params dd b N t,[],N+2,t+2⟩ 4 (getMethod (.ref (N+1)) "__init__" pl) λfx F' ah=>fx=(.ref (N+2),[])/\F'=F/\ah=⟨L6 w.params dd b N t,[],N+3,t+3⟩:=
 i9 (i:=3) (j:=1) (l₀:=[.ref 663,.ref 585,.type "object"]) (l:=[.ref 585,.type "object"]) (of:=iW (H.KP w.params 509)) rfl rfl (by kernel_rfl) (by kernel_rfl) (by kernel_rfl) (by kernel_rfl) (by kernel_rfl) (by kernel_rfl) (by decide+kernel)
def S7(dd b N t:Nat)(aa:RB):ax:=aF w 800 4 (zJ [[9,0,1,9,2,0,0,11,11,1,11,3],mQ,[1],yC,mQ,[3],Hl,[11,3],mQ,[1],yC,mQ,[3],Hl,[11,3],mQ,[1],yC,mQ,[3],Hl,[0,11,3],mQ,[1],yC,mQ,[3],Hl])
 (.ret (.ok (.ret .none)) (bH (L7 w.params dd b N t) [] (N+4) (t+13))) aa (Fast.tw8289420714989923916 (pp w dd b N t).2.2.2 (.ref (N+2)) [] (Fast.tw4897270859577272712 (pp w dd b N t).2.2.2 (Fast.tw13897175071876407860 [] (ev w dd b N t))) []) .ret ⟨L6 w.params dd b N t,[],N+3,t+3⟩
def S8(dd b N t:Nat)(aa:RB):ax:=aF w 400 4 (zJ [[5,3],mQ,[1],yC,mQ,[3],Hl,[5,3],mQ,[1],yC,mQ,[3],Hl])
 (.ret (.ok .next) (bH (L8 w.params dd b N t) [] (N+5) (t+17))) aa (Fast.tw12563942051412417395 (rs w dd b N t) (ev w dd b N t)) id ⟨L7 w.params dd b N t,[],N+4,t+13⟩
section
variable(w:World)(pl:Sem Bool)(dd b N t:Nat)(aa:RB)
theorem lx:aE (S0 w dd b N t aa):=by apply bR w
theorem lu:aE (S1 w dd b N t aa):=by apply bR w
theorem lr:aE (S2 w dd b N t aa):=by apply bR w
theorem lq:aE (S3 w dd b N t aa):=by apply bR w
theorem tr:aE (S4 w dd b N t aa):=by apply bR w
theorem Ai:aE (S5 w dd b N t aa):=by apply bR w
theorem Ag:aE (S7 w dd b N t aa):=by apply bR w
theorem Af:aE (S8 w dd b N t aa):=by apply bR w
theorem uB:(ev w dd b N t).kindOf "super"=some .globalImplicit/\(ev w dd b N t).kindOf "__class__"=some .free/\(ev w dd b N t).func=some 605/\interactive (ev w dd b N t)=false:=by rw [Fast.te4777696345729990297,Fast.te15112477048112897374];exact⟨by kernel_rfl,by kernel_rfl,by kernel_rfl,by kernel_rfl⟩
end
abbrev fd:FuncData:=SY (H.KP P 605)
abbrev cc:Nat:=match(fd P).code with
 | .ref a=>a
 |_=>0
abbrev ar:PySem.Arg:=((fd P).params.posonlyargs++(fd P).params.args).headD default
theorem hf:H.KP P 605=some (iW (H.KP P 605)):=by kernel_rfl
theorem zr:(iW (H.KP P 605)).data= .func (fd P):=by kernel_rfl
theorem hp:((fd P).params.posonlyargs++(fd P).params.args).head? =some (ar P):=by kernel_rfl
theorem Mb:(ar P).arg="self":=by kernel_rfl
theorem zt(dd b N t:Nat):(ev w dd b N t).code= .ref (cc w.params):=by kernel_rfl
theorem EW:H.KP P (cc P)=some (iW (H.KP P (cc P))):=by kernel_rfl
theorem EL:(iW (H.KP P (cc P))).data= .fields (oZ (H.KP P (cc P))):=by kernel_rfl
theorem BG:(oZ (H.KP P (cc P)))[2]? =some (.str (zB (oZ (H.KP P (cc P)))[2]?) (jO ((oZ (H.KP P (cc P)))[2]?.getD .none))):=by kernel_rfl
theorem sF:((H.pw.main.file:Str)==zB (oZ (H.KP P (cc P)))[2]?)=true:=by kernel_rfl
theorem H7(dd b N t:Nat):swapsWith (ed w dd b N t) none (pd w dd b N t).line (ev w dd b N t)=Pure.pure false:=by rw [Fast.te17223243974762974889];kernel_rfl
theorem hs(dd b N t:Nat):swapsWith (.Call (.Attribute (.Call (.Name "super" (pp w dd b N t).1) [] [] (pp w dd b N t).2.1) "__init__" (pp w dd b N t).2.2.1) [] [] (pp w dd b N t).2.2.2) none (p2 w dd b N t).line (ev w dd b N t)=Pure.pure false:=by rw [Fast.te17223243974762974889];kernel_rfl
theorem EK(dd b N t:Nat):((pp w dd b N t).2.2.1.endLine==(pp w dd b N t).2.2.2.line)=true:=by kernel_rfl
theorem body(R:aA)(F:aj)(dd b N t:Nat):aD w R F ⟨L0 w.params dd b N t,[],N+1,t+1⟩ 5 (ph w dd b N t) λr F' ah=>r= .ok (.ret .none)/\F'=F/\ah=⟨L8 w.params dd b N t,[],N+5,t+17⟩:=
 Tp (uB w dd b N t) (hf _) (zr _) (hp _) (Mb _) (zt ..) (EW _) (EL _) (BG _) (sF _) (H7 ..) (hs ..) (EK ..) (ab.exact nr λaa=>lx w dd b N t aa) (ab.exact nr λaa=>lu w dd b N t aa) (ab.exact nr λaa=>lr w dd b N t aa) (ab.exact nr λaa=>lq w dd b N t aa) (ab.exact nr λaa=>tr w dd b N t aa) (ab.exact nr λaa=>Ai w dd b N t aa) (λpl=>Ah w R F pl dd b N t) (ab.exact nr λaa=>Ag w dd b N t aa) (ab.exact nr λaa=>Af w dd b N t aa)
theorem go(R:aA)(F:aj)(dd b N t:Nat):aD w R F ⟨[(dd,bA),(b,cb 663 dd)],[],N,t⟩ 6 (c b) λr F' ah=>r= .ok (.ret .none)/\F'=F/\ah.L=L8 w.params dd b N t/\ah.N=N+5:=
 aD.run (d:=5) nr (zY w dd b N t) (λst he=>by rw [eA he];exact(body w R F dd b N t).aT λr F' ah hh=>by obtain⟨h1,h2,h3⟩:=hh;rw [h3];exact⟨h1,h2,rfl,rfl⟩)
def hk(i j:Nat)(dd b:Addr):az:=⟨6,λJ=>c b,λst=>[(.p (bP st.L i),.p (some (dd,bA))),(.p (bP st.L j),.p (some (b,cb 663 dd)))],λJ J=> .ok (.ret .none),λa st=>⟨bg (bg st.L i (zc w.params (a.k 0) (a.k 1) (a.k 2) (a.k 3) (a.k 4))) j (cb 663 dd)++[],st.G,a.N,a.t⟩,same⟩
theorem hk.ok{w:World}{R:aA}{F:aj}{i j:Nat}{dd b:Addr}(SH:i≠j):(hk w i j dd b).OK w R F:=λcc st hc he=>by rw [hc];have e1:=aY.cons.mp he;have e2:=aY.cons.mp e1.2;refine aD.ja (G1:=[]) (P:=λr F' o o' X N' t'=>r= .ok (.ret .none)/\F'=F/\(TY λk1 k2 k3 k4 l=>o=zc w.params k1 k2 k3 k4 l)/\o'=cb 663 dd/\X=[]) (cp.p.inj e1.1) (cp.p.inj e2.1) SH cB (λR=>(go w R F dd b _ _).gO λr F' ah hh=>by obtain⟨h1,h2,h3,h4⟩:=hh;exact⟨[(dd,zc w.params (st.t+6) (st.t+8) (st.t+10) (st.t+12) (st.N+4)),(b,cb 663 dd)],by rw [h3];exact List.Sublist.cons₂ _ (List.Sublist.cons₂ _ (List.nil_sublist _)),_,_,_,rfl,h1,h2,⟨_,_,_,_,_,rfl⟩,rfl,rfl⟩) λr F' o o' X N' t' hh=> ?_;obtain⟨h1,h2,⟨k1,k2,k3,k4,l,h3⟩,h4,h5⟩:=hh;subst h2 h3 h4 h5;exact⟨{bB F' N' t' 0 with k:=lk l [k1,k2,k3,k4]},rfl,rfl,h1,rfl⟩
end BI
namespace TI
def fr(k:Nat)(b:Addr):Obj:={cls:= .type "frame",data:= .dict #[d P "self" k (.ref b)] 1}
def L0(dd b N t:Nat):aA:=[(dd,bA),(b,cb 884 dd),(N,fr P t b)]
noncomputable def AW(b:Addr):Obj:={cls:= .type "super",data:= .fields #[.ref 884,.ref b,.ref 884]}
def L5(dd b N t:Nat):aA:=[(dd,bA),(b,cb 884 dd),(N,fr P t b),(N+1,AW b)]
noncomputable def Eo(b:Addr):Obj:={cls:= .type "method",data:= .fields #[.ref 509,.ref b]}
def L6(dd b N t:Nat):aA:=[(dd,bA),(b,cb 884 dd),(N,fr P t b),(N+1,AW b),(N+2,Eo b)]
def Ey(k1 k2 k3 k4:Nat):Obj:={cls:= .type "dict",data:= .dict #[d P "_sha" k1 .none,d P "_chunked_text" k2 .none,d P "_needs_serialization" k3 (.bool true),d P "object_format" k4 (.ref 374)] 4}
def L7(dd b N t:Nat):aA:=[(dd,Ey P (t+6) (t+8) (t+10) (t+12)),(b,cb 884 dd),(N,fr P t b),(N+1,AW b),(N+2,Eo b),(N+3,fr P (t+3) b)]
def zc(k1 k2 k3 k4 k5 l:Nat):Obj:={cls:= .type "dict",data:= .dict #[d P "_sha" k1 .none,d P "_chunked_text" k2 .none,d P "_needs_serialization" k3 (.bool true),d P "object_format" k4 (.ref 374),d P "_entries" k5 (.ref l)] 5}
def L8(dd b N t:Nat):aA:=[(dd,zc P (t+6) (t+8) (t+10) (t+12) (t+14) (N+4)),(b,cb 884 dd),(N,fr P t b),(N+1,AW b),(N+2,Eo b),(N+3,fr P (t+3) b),(N+4,bA)]
noncomputable def c(b:Addr):Code:= .call (.ref 805) ⟨[.ref b],[]⟩
def lc(dd b N t:Nat):Code:=kh (aR w 100 6 [2,0,0,5,5,0] (leaf (.ok .next)) v7 (c b) ⟨[(dd,bA),(b,cb 884 dd)],[],N,t⟩)
def ed(dd b N t:Nat):PySem.Expr:=I0 ((gL (lc w dd b N t)).headD default)
def pd(dd b N t:Nat):Pos:=Bm ((gL (lc w dd b N t)).headD default)
def p2(dd b N t:Nat):Pos:=Bm ((gL (lc w dd b N t)).tail.headD default)
def pp(dd b N t:Nat):Pos × Pos × Pos × Pos:=CG ((gL (lc w dd b N t)).tail.headD default)
def rs(dd b N t:Nat):List PySem.Stmt:=(gL (lc w dd b N t)).tail.tail
def ev(dd b N t:Nat):PySem.Env:=Dl (lc w dd b N t)
def ph(dd b N t:Nat):Code:= .func (.Expr (ed w dd b N t) (pd w dd b N t):: .Expr (.Call (.Attribute (.Call (.Name "super" (pp w dd b N t).1) [] [] (pp w dd b N t).2.1) "__init__" (pp w dd b N t).2.2.1) [] [] (pp w dd b N t).2.2.2) (p2 w dd b N t)::rs w dd b N t) (ev w dd b N t)
def cS(dd b N t:Nat)(aa:RB):ax:=aR w 100 5 [2,0,0,5,5,0] (.again 5 (ph w dd b N t) (bH (L0 w.params dd b N t) [] (N+1) (t+1))) aa (c b) ⟨[(dd,bA),(b,cb 884 dd)],[],N,t⟩
theorem zY w dd b N t:∀aa,aE (cS w dd b N t aa):=by apply bh w
def S0(dd b N t:Nat)(aa:RB):ax:=aF w 100 4 [] (.ret (.ok .next) (bH (L0 w.params dd b N t) [] (N+1) (t+2))) aa (Fast.tw14044960220447912780 (ed w dd b N t) (ev w dd b N t)) (λJ=> .next) ⟨L0 w.params dd b N t,[],N+1,t+1⟩
def S1(dd b N t:Nat)(aa:RB):ax:=aF w 100 4 [0,0] (.ret (.ok (.ret (.type "super"))) (bH (L0 w.params dd b N t) [] (N+1) (t+2))) aa (Fast.tw8468629109055619292 (ev w dd b N t) "super") .ret ⟨L0 w.params dd b N t,[],N+1,t+2⟩
def S2(dd b N t:Nat)(aa:RB):ax:=aF w 100 4 [0] (.ret (.ok (.ret (.ref 884))) (bH (L0 w.params dd b N t) [] (N+1) (t+2))) aa (Fast.tw8468629109055619292 (ev w dd b N t) "__class__") .ret ⟨L0 w.params dd b N t,[],N+1,t+2⟩
def S3(dd b N t:Nat)(aa:RB):ax:=aF w 100 4 [5] (.ret (.ok (.ret (.ref b))) (bH (L0 w.params dd b N t) [] (N+1) (t+2))) aa (Fast.tw8468629109055619292 (ev w dd b N t) "self") .ret ⟨L0 w.params dd b N t,[],N+1,t+2⟩
def S4(dd b N t:Nat)(aa:RB):ax:=aF w 100 4 [0] (.ret (.ok (.ret (.bool true))) (bH (L0 w.params dd b N t) [] (N+1) (t+2))) aa (Fast.tw10380811246957099773 (.ref 884)) (λx=> .ret (.bool x)) ⟨L0 w.params dd b N t,[],N+1,t+2⟩
def S5(dd b N t:Nat)(aa:RB):ax:=aF w 400 4 (zJ [[1,13,0,1,35,7,7,1,7,33,0,3,3,0],RK]) (.ret (.ok (.ret (.ref (N+1)))) (bH (L5 w.params dd b N t) [] (N+2) (t+2))) aa (Fast.tw11478286150595567475 (.type "super") [.ref 884,.ref b]) .ret ⟨L0 w.params dd b N t,[],N+1,t+2⟩
theorem Ah(R:aA)(F:aj)(pl:Sem Bool)(dd b N t:Nat):ab w R F ⟨L5 w.params dd b N t,[],N+2,t+2⟩ 4 (getMethod (.ref (N+1)) "__init__" pl) λfx F' ah=>fx=(.ref (N+2),[])/\F'=F/\ah=⟨L6 w.params dd b N t,[],N+3,t+3⟩:=
 i9 (i:=3) (j:=1) (l₀:=[.ref 884,.ref 585,.type "object"]) (l:=[.ref 585,.type "object"]) (of:=iW (H.KP w.params 509)) rfl rfl (by kernel_rfl) (by kernel_rfl) (by kernel_rfl) (by kernel_rfl) (by kernel_rfl) (by kernel_rfl) (by decide+kernel)
def S7(dd b N t:Nat)(aa:RB):ax:=aF w 800 4 (zJ [[9,0,1,9,2,0,0,11,11,1,11,3],mQ,[1],yC,mQ,[3],Hl,[11,3],mQ,[1],yC,mQ,[3],Hl,[11,3],mQ,[1],yC,mQ,[3],Hl,[0,11,3],mQ,[1],yC,mQ,[3],Hl])
 (.ret (.ok (.ret .none)) (bH (L7 w.params dd b N t) [] (N+4) (t+13))) aa (Fast.tw8289420714989923916 (pp w dd b N t).2.2.2 (.ref (N+2)) [] (Fast.tw4897270859577272712 (pp w dd b N t).2.2.2 (Fast.tw13897175071876407860 [] (ev w dd b N t))) []) .ret ⟨L6 w.params dd b N t,[],N+3,t+3⟩
def S8(dd b N t:Nat)(aa:RB):ax:=aF w 400 4 (zJ [[5,3],mQ,[1],yC,mQ,[3],Hl])
 (.ret (.ok .next) (bH (L8 w.params dd b N t) [] (N+5) (t+15))) aa (Fast.tw12563942051412417395 (rs w dd b N t) (ev w dd b N t)) id ⟨L7 w.params dd b N t,[],N+4,t+13⟩
section
variable(w:World)(pl:Sem Bool)(dd b N t:Nat)(aa:RB)
theorem lx:aE (S0 w dd b N t aa):=by apply bR w
theorem lu:aE (S1 w dd b N t aa):=by apply bR w
theorem lr:aE (S2 w dd b N t aa):=by apply bR w
theorem lq:aE (S3 w dd b N t aa):=by apply bR w
theorem tr:aE (S4 w dd b N t aa):=by apply bR w
theorem Ai:aE (S5 w dd b N t aa):=by apply bR w
theorem Ag:aE (S7 w dd b N t aa):=by apply bR w
theorem Af:aE (S8 w dd b N t aa):=by apply bR w
theorem uB:(ev w dd b N t).kindOf "super"=some .globalImplicit/\(ev w dd b N t).kindOf "__class__"=some .free/\(ev w dd b N t).func=some 805/\interactive (ev w dd b N t)=false:=by rw [Fast.te4777696345729990297,Fast.te15112477048112897374];exact⟨by kernel_rfl,by kernel_rfl,by kernel_rfl,by kernel_rfl⟩
end
abbrev fd:FuncData:=SY (H.KP P 805)
abbrev cc:Nat:=match(fd P).code with
 | .ref a=>a
 |_=>0
abbrev ar:PySem.Arg:=((fd P).params.posonlyargs++(fd P).params.args).headD default
theorem hf:H.KP P 805=some (iW (H.KP P 805)):=by kernel_rfl
theorem zr:(iW (H.KP P 805)).data= .func (fd P):=by kernel_rfl
theorem hp:((fd P).params.posonlyargs++(fd P).params.args).head? =some (ar P):=by kernel_rfl
theorem Mb:(ar P).arg="self":=by kernel_rfl
theorem zt(dd b N t:Nat):(ev w dd b N t).code= .ref (cc w.params):=by kernel_rfl
theorem EW:H.KP P (cc P)=some (iW (H.KP P (cc P))):=by kernel_rfl
theorem EL:(iW (H.KP P (cc P))).data= .fields (oZ (H.KP P (cc P))):=by kernel_rfl
theorem BG:(oZ (H.KP P (cc P)))[2]? =some (.str (zB (oZ (H.KP P (cc P)))[2]?) (jO ((oZ (H.KP P (cc P)))[2]?.getD .none))):=by kernel_rfl
theorem sF:((H.pw.main.file:Str)==zB (oZ (H.KP P (cc P)))[2]?)=true:=by kernel_rfl
theorem H7(dd b N t:Nat):swapsWith (ed w dd b N t) none (pd w dd b N t).line (ev w dd b N t)=Pure.pure false:=by rw [Fast.te17223243974762974889];kernel_rfl
theorem hs(dd b N t:Nat):swapsWith (.Call (.Attribute (.Call (.Name "super" (pp w dd b N t).1) [] [] (pp w dd b N t).2.1) "__init__" (pp w dd b N t).2.2.1) [] [] (pp w dd b N t).2.2.2) none (p2 w dd b N t).line (ev w dd b N t)=Pure.pure false:=by rw [Fast.te17223243974762974889];kernel_rfl
theorem EK(dd b N t:Nat):((pp w dd b N t).2.2.1.endLine==(pp w dd b N t).2.2.2.line)=true:=by kernel_rfl
theorem body(R:aA)(F:aj)(dd b N t:Nat):aD w R F ⟨L0 w.params dd b N t,[],N+1,t+1⟩ 5 (ph w dd b N t) λr F' ah=>r= .ok (.ret .none)/\F'=F/\ah=⟨L8 w.params dd b N t,[],N+5,t+15⟩:=
 Tp (uB w dd b N t) (hf _) (zr _) (hp _) (Mb _) (zt ..) (EW _) (EL _) (BG _) (sF _) (H7 ..) (hs ..) (EK ..) (ab.exact nr λaa=>lx w dd b N t aa) (ab.exact nr λaa=>lu w dd b N t aa) (ab.exact nr λaa=>lr w dd b N t aa) (ab.exact nr λaa=>lq w dd b N t aa) (ab.exact nr λaa=>tr w dd b N t aa) (ab.exact nr λaa=>Ai w dd b N t aa) (λpl=>Ah w R F pl dd b N t) (ab.exact nr λaa=>Ag w dd b N t aa) (ab.exact nr λaa=>Af w dd b N t aa)
theorem go(R:aA)(F:aj)(dd b N t:Nat):aD w R F ⟨[(dd,bA),(b,cb 884 dd)],[],N,t⟩ 6 (c b) λr F' ah=>r= .ok (.ret .none)/\F'=F/\ah.L=L8 w.params dd b N t/\ah.N=N+5:=
 aD.run (d:=5) nr (zY w dd b N t) (λst he=>by rw [eA he];exact(body w R F dd b N t).aT λr F' ah hh=>by obtain⟨h1,h2,h3⟩:=hh;rw [h3];exact⟨h1,h2,rfl,rfl⟩)
def hk(i j:Nat)(dd b:Addr):az:=⟨6,λJ=>c b,λst=>[(.p (bP st.L i),.p (some (dd,bA))),(.p (bP st.L j),.p (some (b,cb 884 dd)))],λJ J=> .ok (.ret .none),λa st=>⟨bg (bg st.L i (zc w.params (a.k 0) (a.k 1) (a.k 2) (a.k 3) (a.k 4) (a.k 5))) j (cb 884 dd)++[(a.k 5,bA)],st.G,a.N,a.t⟩,λF a=>a.F=F/\1392<=a.k 5⟩
theorem hk.ok{w:World}{R:aA}{F:aj}{i j:Nat}{dd b:Addr}(SH:i≠j):(hk w i j dd b).OK w R F:=λcc st hc he=>by
 rw [hc];have e1:=aY.cons.mp he;have e2:=aY.cons.mp e1.2;refine aD.ej (p:=1392<=st.N) (λhh Rl=>CT Rl) λhN=> ?_;refine aD.ja (G1:=[]) (P:=λr F' o o' X N' t'=>r= .ok (.ret .none)/\F'=F/\(TQ λk1 k2 k3 k4 k5 l=>o=zc w.params k1 k2 k3 k4 k5 l/\X=[(l,bA)]/\1392<=l)/\o'=cb 884 dd) (cp.p.inj e1.1) (cp.p.inj e2.1) SH cB (λR=>(go w R F dd b _ _).gO λr F' ah ⟨h1,h2,h3,h4⟩=>⟨[(dd,zc w.params (st.t+6) (st.t+8) (st.t+10) (st.t+12) (st.t+14) (st.N+4)),(b,cb 884 dd),(st.N+4,bA)],
  by rw [h3];exact List.Sublist.cons₂ _ (List.Sublist.cons₂ _ (List.Sublist.cons _ (List.Sublist.cons _ (List.Sublist.cons _ (List.Sublist.cons _ (List.Sublist.refl _)))))),_,_,_,rfl,h1,h2,⟨_,_,_,_,_,_,rfl,rfl,Nat.le_trans hN (Nat.le_add_right _ 4)⟩,rfl⟩) λr F' o o' X N' t' hh=> ?_
 obtain⟨h1,h2,⟨k1,k2,k3,k4,k5,l,h3,h5,h6⟩,h4⟩:=hh;subst h2 h3 h4 h5;exact⟨{bB F' N' t' 0 with k:=lk l [k1,k2,k3,k4,k5]},rfl,⟨rfl,h6⟩,h1,rfl⟩
end TI
end
end H
end Mine
end
section
open PySem PySem.W PyProof.Rows PySem.Builtin PySem.Builtin._codecs
namespace Mine
noncomputable def jK(n:Nat):aU:=(((toString (n:Int)).toList.map λch=>ch.toNat.toUInt8)).toArray
noncomputable def jY:List Nat:=List.range 300++(List.range 8).map λk=>(k+1)*7919%10007
theorem zE(self:Value):jY.map (λn=>encodeNarrow "str.encode" asciiCodec none self (Str.ofString (toString ((n:Nat):Int))))=jY.map (λn=>(pure (jK n):Sem aU)):=by kernel_rfl
theorem B5(self:Value){n:Nat}(h:n∈jY):encodeNarrow "str.encode" asciiCodec none self (Str.ofString (toString ((n:Nat):Int)))=(pure (jK n):Sem aU):=List.map_inj_left.mp (zE self) n h
def jZ(n:Nat):az:=⟨0,λc=> .builtin "int.__repr__" ⟨[.int n (cA c 0)],[]⟩,λJ=>[],λa J=> .ok (.ret (.str (Str.ofString (toString ((n:Nat):Int))) (a.k 0))),fz,same⟩
def oi(n:Nat):az:=⟨0,λc=> .builtin "str.encode" ⟨[.str (Str.ofString (toString ((n:Nat):Int))) (cA c 0),.str (Str.ofString "ascii") (cA c 1)],[]⟩,λJ=>[],λa J=> .ok (.ret (.bytes (jK n) (a.k 0))),fz,same⟩
theorem wu:(jY.all λn=>decide ((jK n).size<=5))=true:=by kernel_rfl
theorem ir{n:Nat}(h:n∈jY):(jK n).size<=5:=by have:=List.all_eq_true.mp wu n h;simpa using this
theorem tY:(jY.all λn=>decide ((Str.ofString (toString ((n:Nat):Int))).length<=5))=true:=by kernel_rfl
theorem tZ{n:Nat}(h:n∈jY):(Str.ofString (toString ((n:Nat):Int))).length<=5:=by have:=List.all_eq_true.mp tY n h;simpa using this
theorem yK:(jY.all λn=>decide (n<16384))=true:=by kernel_rfl
theorem Bp{n:Nat}(h:n∈jY):n<16384:=by have:=List.all_eq_true.mp yK n h;simpa using this
theorem jr{n:Nat}(h:n<300):n∈jY:=List.mem_append_left _ (List.mem_range.mpr h)
theorem sQ:entryFor table "int.__repr__"=some Builtin.«int.__repr__»:=entryFor_of_tree (by kernel_rfl)
theorem rd:entryFor table "str.encode"=some Builtin.«str.encode»:=entryFor_of_tree (by kernel_rfl)
theorem rh(x:Str)(t u:Tok):«str.encode» ⟨[.str x t,.str (Str.ofString "ascii") u],[]⟩=((encodeNarrow "str.encode" asciiCodec none (.str x t) x>>=λb=>mkBytes b)>>=λv=>(ret v:Sem PySem.Fin)):=by kernel_rfl
section
variable{w:World}{R:aA}{F:aj}
theorem jZ.ok{n:Nat}(h:n∈jY):(jZ n).OK w R F:=λc st hc J=>by
 rw [hc];have hl:((n:Int).natAbs).log2<1920:=by
  rw [Int.natAbs_natCast];have hn:=Bp h;have:n.log2<=14:=by
   by_cases h0:n=0
   ·subst h0;decide
   ·have:=(Nat.log2_lt h0 (k:=14)).mpr hn;lia
  lia
 refine aD.meets (by decide+kernel) sQ (gives_int_repr (n:Int) _ hl).meets λhh g dr os Rl A=> ?_;unfold Made.spec Made.post;exact⟨Nat.le_trans (tZ h) (by rw [sizeLine_eq];decide),bI.pure Rl _ (az.de (h:=jZ n) (λJ=>rfl) _ _ rfl rfl)⟩
theorem oi.ok{n:Nat}(h:n∈jY):(oi n).OK w R F:=λc st hc J=>by rw [hc];refine aD.meets (S:=λA R s=>R (.ok (.ret (.bytes (jK n) s.toks))) {s with toks:=s.toks+1}) (by decide+kernel) rd (.of_wp λprog w A R s h'=> ?_) λhh g dr os Rl A=>bI.pure Rl _ (az.de (h:=oi n) (λJ=>rfl) _ _ rfl rfl);rw [rh,B5 _ h];refine wpAny_bind (wpAny_bind (wpAny_pure (wpAny_mkBytes (wpAny_pure ⟨_,rfl,h'⟩) ?_)));exact Nat.le_trans (ir h) (by rw [sizeLine_eq];decide)
def kW(sep:aU)(l:Addr)(ps:lU):az:=⟨0,λc=> .builtin "bytes.join" ⟨[.bytes sep (cA c 0),.ref l],[]⟩,λst=>[],λa J=> .ok (.ret (.bytes (Bytes.joined sep ps) (a.k 0))),fz,same⟩
theorem kW.ok{sep:aU}{l:Addr}{xs:aV}{n:Nat}{ps:lU}(hl:F l=some (aw xs n))(hb:ay xs.toList ps)(wQ:Bytes.tooLong (ps.toArray.foldl (λn p=>n+p.size) (sep.size*(ps.toArray.size-1)))=false)
  (hz:(Bytes.joined sep ps).size<=sizeLine):(kW sep l ps).OK w R F:=λc st hc hd=>by
 rw [hc];exact aD.meets (by decide+kernel) Tc (n7 sep _ l xs.toList ps hb wQ hz) λhh g dr os Rl A=>⟨⟨_,n,Rl.fix _ _ hl,rfl,by simp⟩,λt' k=>
  bI.pure Rl k (az.de (h:=kW sep l ps) (λJ=>rfl) k t' rfl rfl)⟩
end
theorem uR{L:aA}{i j:Nat}{p q:Addr × Obj}(hn:(L.map (·.1)).Nodup)(hp:bP L i=some p)(hq:bP L j=some q)(SH:i≠j):p.1≠q.1:=by obtain⟨l',hl,J⟩:=qI hp hq SH;have:=((hl.map (·.1)).nodup_iff).mp hn;rw [List.map_cons,List.nodup_cons,List.map_cons]at this;intro e;exact this.1 (e▸List.mem_cons_self)
theorem VC.CX{w:World}{R:aA}{F:aj}{L' X:aA}{ai:Result->aj->aZ->Prop}{r:Result}{n:Nat}{d4:aZ->ax}(zm:∀st,(st.L.map (·.1)).Nodup->aY (d4 st)->st.L.take n=L'/\(∀p∈X,p∈st.L.drop n)/\(X.map (·.1)).Nodup)
  (h:(X.map (·.1)).Nodup->F.le (cX F X)->∀N' t',ai r (cX F X) ⟨L',[],N',t'⟩):VC w R ai F (.ret r d4):=λhh st Rl e=>by
 have hn:(st.L.map (·.1)).Nodup:=by have:=Rl.nd;rw [List.map_append]at this;exact(List.nodup_append.mp this).1
 obtain⟨h1,h2,h3⟩:=zm st hn e;obtain⟨R1,le⟩:=Rl.mn (G1:=[]) h1 h2 h3 (by intro J p hp;cases hp);exact⟨cX F X,⟨L',[],st.N,st.t⟩,le,R1,rfl,h h3 le _ _⟩
theorem oh(x:aU):Bytes.joined #[] [x]=x:=by simp [Bytes.joined]
namespace H
structure dm where
 dx:Addr
 ch:Addr
 t:Nat
 k1:Nat
 k2:Nat
 k3:Nat
 k4:Nat
def oL(q:dm):Obj:={cls:= .type "dict",data:= .dict #[d P "_sha" q.k1 .none,d P "_chunked_text" q.k2 (.ref q.ch),d P "_needs_serialization" q.k3 (.bool false),d P "object_format" q.k4 (.ref 374)] 4}
def cm(F:aj)(b:Addr)(x:aU):Prop:=∃q:dm,F b=some (cb 663 q.dx)/\F q.dx=some (oL w.params q)/\F q.ch=some (aw #[.bytes x q.t] 0)
theorem cm.le{w:World}{F F':aj}(l:F.le F'){b:Addr}{x:aU}(h:cm w F b x):cm w F' b x:=by obtain⟨q,h1,h2,h3⟩:=h;exact⟨q,l _ _ h1,l _ _ h2,l _ _ h3⟩
namespace BL
def G(b:Addr)(q:dm)(x:aU):aA:=[(b,cb 663 q.dx),(q.dx,oL P q),(q.ch,aw #[.bytes x q.t] 0)]
theorem hG{w:World}{F:aj}{b:Addr}{q:dm}{x:aU}(h1:F b=some (cb 663 q.dx))(h2:F q.dx=some (oL w.params q))(h3:F q.ch=some (aw #[.bytes x q.t] 0)):∀p∈G w.params b q x,F p.1=some p.2:=aq h1 (aq h2 (aq h3 cB))
noncomputable def q1(N t:Nat)(a:aL):dm:=⟨N+1,a.N+1,t,a.k 0,a.k 1,a.k 2,a.k 3⟩
def n4(x:aU)(t N tk:Nat)(aa:RB):ax:=aR w 1500 8 (zJ [[2,0,0],FG,[0],kA,[1,0,13],vU,mQ,[0,0,27],mQ,[0,0,0,5,0,5],mQ,[1,1,1,5],mQ,[5],mQ,[5],mQ,[0,5,3,1],RC,[7,7,7,7,1,0,0,7,0,0,1,28,29,7,5],mQ,[5],mQ,[5],mQ,[0,5,3,7],RC,[11,11,11,11,1,11,11,5],mQ,[1,5,0,6,5,0,5],mQ,[5,0,3,3,3,11,5],mQ,[1,5,0,6,5,0,5],mQ,[5,0,3,3,3,11,5],mQ,[5],mQ,[5],vX,[5,3,11],RC,[13,13,13,13,1,13,13,5],mQ,[1,5,0,6,5,0,5],mQ,[5,0,3,3,3,11,5],mQ,[1,5,0,6,5,0,5],mQ,[5,0,3,3,3,1]]) (.hk (BI.hk w 1 2 (N+1) (N+2)) λa=> .ret (.ok (.ret (.ref (N+2)))) λst=>[(.p (bP st.L 2),.p (some (N+2,cb 663 (N+1)))),(.p (bP st.L 1),.p (some (N+1,oL w.params (q1 N t a)))),(.p (bP st.L 4),.p (some (a.N+1,aw #[.bytes x t] 0)))])
 aa (.call (.ref 544) ⟨[.ref 663,.bytes x t],[]⟩) ⟨[],[],N,tk⟩
def KA(b:Addr)(q:dm)(x:aU)(N tk:Nat)(aa:RB):ax:=aR w 900 5 (zJ [[2,0,0],t9,[2],mQ,[2],mQ,[2],mQ,[0,2,4],RC,RE,[2],mQ,[5,2],mQ,[2,2,0,4,3,2],mQ,[5,2],mQ,[2,2,0,4,3,2],mQ,[5,2],mQ,[2,2,0,4,1,0,14]]) (.hk (kW #[] q.ch [x]) λa=>leaf (.ok (.ret (.bytes (Bytes.joined #[] [x]) (a.k 0))))) aa (.call (.ref 523) ⟨[.ref b],[]⟩) ⟨[],G w.params b q x,N,tk⟩
noncomputable def SE(b:Addr)(x:aU):az:=aW 6 (λJ=> .call (.ref 523) ⟨[.ref b],[]⟩) (λa=> .ok (.ret (.bytes x (a.k 0)))) same
def K8(b:Addr)(q:dm)(x:aU)(N tk:Nat)(aa:RB):ax:=aR w 900 7 (zJ [[2,0],Hl,[0,0,1,2],mQ,[2],mQ,[2],mQ,[0,2,4,0,0,1,0,20]]) (.hk (SE b x) λJ=> .hk (ig x x.size) λa=>leaf (.ok (.ret (.int x.size (a.k 0))))) aa (.call (.ref 568) ⟨[.ref b],[]⟩) ⟨[],G w.params b q x,N,tk⟩
noncomputable def vn(b:Addr)(x:aU):az:=aW 8 (λJ=> .call (.ref 568) ⟨[.ref b],[]⟩) (λa=> .ok (.ret (.int x.size (a.k 0)))) same
noncomputable def head(n:Nat):aU:=(#[98,108,111,98]++ #[32])++jK n++ #[0]
def P9(b:Addr)(q:dm)(x:aU)(N tk:Nat)(aa:RB):ax:=aR w 900 9 (zJ [[2,0,0],t9,[2],mQ,Sb,[0,7,0,0,1,2],mQ,[2],mQ,[2],mQ,[0,2,4,0,0,1,13,1,51,1,50,1,0,44,1,22,1,0,45,1,0,7,1,0,7]]) (.hk (eJ #[98,108,111,98] #[32]) λJ=> .hk (vn b x) λJ=> .hk (jZ x.size) λJ=> .hk (oi x.size) λJ=> .hk (eJ (#[98,108,111,98]++ #[32]) (jK x.size)) λJ=>
 .hk (eJ ((#[98,108,111,98]++ #[32])++jK x.size) #[0]) λa=>leaf (.ok (.ret (.bytes (head x.size) (a.k 0))))) aa (.call (.ref 561) ⟨[.ref b],[]⟩) ⟨[],G w.params b q x,N,tk⟩
noncomputable def mc(b:Addr)(x:aU):az:=aW 10 (λJ=> .call (.ref 561) ⟨[.ref b],[]⟩) (λa=> .ok (.ret (.bytes (head x.size) (a.k 0)))) same
def Mz(b:Addr)(q:dm)(x:aU)(N tk:Nat)(aa:RB):ax:=aR w 900 7 (zJ [[2,0,0],t9,[2],mQ,[2],mQ,[2],mQ,[0,2,4,0,0]]) (.hk (SE b x) λa=>leaf (.ok (.ret (.bytes x (a.k 0))))) aa (.call (.ref 612) ⟨[.ref b],[]⟩) ⟨[],G w.params b q x,N,tk⟩
noncomputable def gH(b:Addr)(x:aU):az:=aW 8 (λJ=> .call (.ref 612) ⟨[.ref b],[]⟩) (λa=> .ok (.ret (.bytes x (a.k 0)))) same
noncomputable def q2(N:Nat)(a a':aL):dm:=⟨N+3,a'.N+1,a'.k 0,a.k 0,a.k 1,a.k 2,a.k 3⟩
def I4(b:Addr)(q:dm)(x:aU)(N tk:Nat)(aa:RB):ax:=aR w 1500 9 (zJ [[2,0],Hl,[0,1],RC,RE,[2],mQ,Sb,[12,0,1],RC,[5,5,1,5,2],mQ,Sb,[12,0,0],kA,[1,0,13],vU,mQ,[0,0,27],mQ,[0,0,0,9,0,9],mQ,[1,1,1,2],mQ,[5,2],mQ,[2,2,0,4,1,9],mQ,[1,9,0,6,9,0,9],mQ,[9,0,7,7,7,1,9],mQ,[9],mQ,[9],mQ,[0,9,7,1,2],mQ,[2],mQ,[2],mQ,[0,2,4,0,0],RC,[11,11,11,11,1,0,0,11,0,0,1,28,29,11,9],mQ,[9],mQ,[9],mQ,[0,9,7,11],RC,[15,15,15,15,1,15,15,9],mQ,[1,9,0,6,9,0,9],mQ,[9,0,7,7,7,15,9],mQ,[1,9,0,6,9,0,9],mQ,[9,0,7,7,7,15,9],mQ,[9],mQ,[9],vX,[9,7,15],RC,[17,17,17,17,1,17,17,9],mQ,[1,9,0,6,9,0,9],mQ,[9,0,7,7,7,15,9],mQ,[1,9,0,6,9,0,9],mQ,[9,0,7,7,7,1]]) (.hk (BI.hk w 3 4 (N+3) (N+4)) λa=> .hk (SE b x) λa'=> .ret (.ok (.ret (.ref (N+4)))) λst=>[(.p (bP st.L 4),.p (some (N+4,cb 663 (N+3)))),(.p (bP st.L 3),.p (some (N+3,oL w.params (q2 N a a')))),(.p (bP st.L 6),.p (some (a'.N+1,aw #[.bytes x (a'.k 0)] 0)))])
 aa (.call (.ref 575) ⟨[.ref b],[]⟩) ⟨[],G w.params b q x,N,tk⟩
section
variable(w:World)(b:Addr)(q:dm)(x:aU)(t N tk:Nat)(aa:RB)
theorem Bq:aE (n4 w x t N tk aa):=by apply bR w
theorem A9:aE (KA w b q x N tk aa):=by apply bR w
theorem Bz:aE (K8 w b q x N tk aa):=by apply bR w
theorem ES:aE (P9 w b q x N tk aa):=by apply bR w
theorem Cd:aE (Mz w b q x N tk aa):=by apply bR w
theorem zR:aE (I4 w b q x N tk aa):=by apply bR w
end
section
variable{w:World}{R:aA}{F:aj}{b:Addr}{x:aU}
theorem SE.ok(hb:cm w F b x)(hz:x.size<=sizeLine):(SE b x).OK w R F:=by
 obtain⟨q,h1,h2,h3⟩:=hb;refine aW.of (hG h1 h2 h3) λc R N t=>aD.run (d:=5) nr (A9 w b q x N t) ?_;have hs:(Bytes.joined #[] [x]).size<=sizeLine:=by rw [oh];exact hz
 refine⟨kW.ok h3 (.cons _ _ .nil) ?_ hs,λa J hf=> ?_⟩
 ·simp [Bytes.tooLong];exact hz
 ·rw [show a.F=F from hf,oh];exact VC.leaf λN' t'=>⟨bB F N' t' (a.k 0),rfl,rfl,rfl,rfl,rfl⟩
theorem vn.ok(hb:cm w F b x)(hz:x.size<=sizeLine):(vn b x).OK w R F:=by obtain⟨q,h1,h2,h3⟩:=id hb;refine aW.of (hG h1 h2 h3) λc R N t=>aD.run (d:=7) nr (Bz w b q x N t) ⟨SE.ok hb hz,λa J hf=> ?_⟩;rw [show a.F=F from hf];refine VC.sm (ig.ok rfl hz) λa=> ?_;exact VC.leaf λN' t'=>⟨bB F N' t' (a.k 0),rfl,rfl,rfl,rfl,rfl⟩
theorem gH.ok(hb:cm w F b x)(hz:x.size<=sizeLine):(gH b x).OK w R F:=by obtain⟨q,h1,h2,h3⟩:=id hb;refine aW.of (hG h1 h2 h3) λc R N t=>aD.run (d:=7) nr (Cd w b q x N t) ⟨SE.ok hb hz,λa J hf=> ?_⟩;rw [show a.F=F from hf];exact VC.leaf λN' t'=>⟨bB F N' t' (a.k 0),rfl,rfl,rfl,rfl,rfl⟩
theorem fP{x:aU}(h:x.size<300):x.size<=sizeLine:=by rw [sizeLine_eq];lia
theorem pU{n:Nat}(h:n∈jY):(head n).size<=11:=by have:=ir h;simp [head];lia
theorem mc.ok(hb:cm w F b x)(hz:x.size<300):(mc b x).OK w R F:=by obtain⟨q,h1,h2,h3⟩:=id hb;have Rb:=ir (jr hz);refine aW.of (hG h1 h2 h3) λc R N t=>aD.run (d:=9) nr (ES w b q x N t) ⟨eJ.ok (by decide),λa J hf=> ?_⟩;rw [show a.F=F from hf];refine VC.sm (vn.ok hb (fP hz)) λa=> ?_;refine VC.sm (jZ.ok (jr hz)) λa=> ?_;refine VC.sm (oi.ok (jr hz)) λa=> ?_;refine VC.sm (eJ.ok (by simp;lia)) λa=> ?_;refine VC.sm (eJ.ok (by simp;lia)) λa=> ?_;exact VC.leaf λN' t'=>⟨bB F N' t' (a.k 0),rfl,rfl,rfl,rfl,rfl⟩
def vl(w:World)(x:aU):az:=aW 9 (λc=> .call (.ref 544) ⟨[.ref 663,.bytes x (cA c 1)],[]⟩) (λa=> .ok (.ret (.ref (a.k 0)))) λF a=>cm w a.F (a.k 0) x
theorem rH{p q r:Addr × Obj}{i j k:Nat}(h1:i≠j)(h2:i≠k)(h3:j≠k){st:aZ}(hn:(st.L.map (·.1)).Nodup)(he:aY [(.p (bP st.L i),.p (some p)),(.p (bP st.L j),.p (some q)),(.p (bP st.L k),.p (some r))]):(∀x∈[p,q,r],x∈st.L.drop 0)/\([p,q,r].map (·.1)).Nodup:=by
 have e1:=aY.cons.mp he;have e2:=aY.cons.mp e1.2;have e3:=aY.cons.mp e2.2;have p1:=cp.p.inj e1.1;have p2:=cp.p.inj e2.1;have p3:=cp.p.inj e3.1;refine⟨?_,?_⟩
 ·intro x hx;simp only [List.mem_cons,List.not_mem_nil,or_false]at hx;rcases hx with rfl|rfl|rfl
  ·exact bQ p1 (Nat.zero_le _)
  ·exact bQ p2 (Nat.zero_le _)
  ·exact bQ p3 (Nat.zero_le _)
 ·have a1:=uR hn p1 p2 h1;have a2:=uR hn p1 p3 h2;have a3:=uR hn p2 p3 h3;simp [a1,a2,a3]
theorem z7{b:Addr}{q:dm}(hn:([(b,cb 663 q.dx),(q.dx,oL w.params q),(q.ch,aw #[.bytes x q.t] 0)].map (·.1)).Nodup):cm w (cX F [(b,cb 663 q.dx),(q.dx,oL w.params q),(q.ch,aw #[.bytes x q.t] 0)]) b x:=
 ⟨q,av (p:=(b,cb 663 q.dx)) hn (by simp),av (p:=(q.dx,oL w.params q)) hn (by simp),av (p:=(q.ch,aw #[.bytes x q.t] 0)) hn (by simp)⟩
theorem vl.ok:(vl w x).OK w R F:=by refine aW.of (G1:=[]) cB λc R N t=>aD.run (d:=8) nr (Bq w x (cA c 1) N t) ⟨BI.hk.ok (by decide),λa J hf=> ?_⟩;rw [show a.F=F from hf];refine VC.CX (n:=0) (L':=[]) (X:=[(N+2,cb 663 (N+1)),(N+1,oL w.params (q1 N (cA c 1) a)),(a.N+1,aw #[.bytes x (cA c 1)] 0)]) (λst hn he=>⟨rfl,rH (by decide) (by decide) (by decide) hn he⟩) λhn le N' t'=> ?_;exact⟨rfl,bB _ N' t' (N+2),rfl,rfl,rfl,z7 (q:=q1 N (cA c 1) a) hn,rfl⟩
noncomputable def mh(w:World)(b:Addr)(x:aU):az:=aW 10 (λJ=> .call (.ref 575) ⟨[.ref b],[]⟩) (λa=> .ok (.ret (.ref (a.k 0)))) λF a=>cm w a.F (a.k 0) x
theorem mh.ok(hb:cm w F b x)(hz:x.size<=sizeLine):(mh w b x).OK w R F:=by obtain⟨q,h1,h2,h3⟩:=id hb;refine aW.of (hG h1 h2 h3) λc R N t=>aD.run (d:=9) nr (zR w b q x N t) ⟨BI.hk.ok (by decide),λa J hf=> ?_⟩;rw [show a.F=F from hf];refine⟨SE.ok hb hz,λa' J hf=> ?_⟩;rw [show a'.F=F from hf];refine VC.CX (n:=0) (L':=[]) (X:=[(N+4,cb 663 (N+3)),(N+3,oL w.params (q2 N a a')),(a'.N+1,aw #[.bytes x (a'.k 0)] 0)]) (λst hn he=>⟨rfl,rH (by decide) (by decide) (by decide) hn he⟩) λhn le N' t'=> ?_;exact⟨rfl,bB _ N' t' (N+4),rfl,rfl,rfl,z7 (q:=q2 N a a') hn,rfl⟩
end
end BL
end H
end Mine
end
section
open PySem PySem.W PyProof.Rows PySem.Builtin
namespace Mine
variable{w}
theorem gQ:∀(ps L:aA),(ps.map (·.1)).Nodup->(∀p∈ps,p∈L)->∃rest,List.Perm L (ps++rest)
 |[],L,_,_=>⟨L,.refl _⟩
 |p::ps,L,hn,h=>by
  rw [List.map_cons,List.nodup_cons]at hn;obtain⟨s,t,rfl⟩:=List.append_of_mem (h p (.head _));obtain⟨rest,hr⟩:=gQ ps (s++t) hn.2 λq hq=>by
   have:=h q (.tail _ hq);rcases List.mem_append.mp this with h1|h1
   ·exact List.mem_append_left _ h1
   ·rcases List.mem_cons.mp h1 with rfl|h1
    ·exact absurd (List.mem_map_of_mem (f:=(·.1)) hq) hn.1
    ·exact List.mem_append_right _ h1
  exact⟨rest,List.perm_middle.trans (List.Perm.cons p hr)⟩
def bJ(ps:List (Nat × (Addr × Obj)))(st:aZ):ax:=ps.map λq=>(.p (bP st.L q.1),.p (some q.2))
theorem fM{ps:List (Nat × (Addr × Obj))}{st:aZ}(h:aY (bJ ps st)):∀q∈ps,bP st.L q.1=some q.2:=λq hq=>cp.p.inj (h _ (List.mem_map_of_mem (f:=λq:Nat × (Addr × Obj)=>((cp.p (bP st.L q.1),cp.p (some q.2)):cp × cp)) hq))
theorem dK{st:aZ}(hn:(st.L.map (·.1)).Nodup):∀{ps:List (Nat × (Addr × Obj))},(∀q∈ps,bP st.L q.1=some q.2)->(ps.map (·.1)).Nodup->((ps.map (·.2)).map (·.1)).Nodup
 |[],_,_=>List.nodup_nil
 |p::ps,h,hi=>by rw [List.map_cons,List.nodup_cons]at hi;rw [List.map_cons,List.map_cons,List.nodup_cons];refine⟨λhm=> ?_,dK hn (λq hq=>h q (.tail _ hq)) hi.2⟩;obtain⟨e,he,P0⟩:=List.mem_map.mp hm;obtain⟨q,hq,rfl⟩:=List.mem_map.mp he;have dY:p.1≠q.1:=λe=>hi.1 (e▸List.mem_map_of_mem (f:=(·.1)) hq);exact uR hn (h p (.head _)) (h q (.tail _ hq)) dY P0.symm
theorem VC.ee{Y X:List (Nat × (Addr × Obj))}{ai:Result->aj->aZ->Prop}{r:Result}(hi:((Y++X).map (·.1)).Nodup)
  (h:((X.map (·.2)).map (·.1)).Nodup->F.le (cX F (X.map (·.2)))->∀N' t',ai r (cX F (X.map (·.2))) ⟨Y.map (·.2),[],N',t'⟩):VC w R ai F (.ret r (bJ (Y++X))):=λhh st Rl e=>by
 have hn:(st.L.map (·.1)).Nodup:=by have:=Rl.nd;rw [List.map_append]at this;exact(List.nodup_append.mp this).1
 have hm:=fM e;have hd:=dK hn hm hi;have C8:∀p∈(Y++X).map (·.2),p∈st.L:=λp hp=>by obtain⟨q,hq,rfl⟩:=List.mem_map.mp hp;exact aJ (hm q hq)
 obtain⟨rest,hr⟩:=gQ _ st.L hd C8;rw [List.map_append,List.append_assoc]at hr;have Rp:=Rl.r9 (L':=Y.map (·.2)++(X.map (·.2)++rest)) (R':=R) (hr.append_right R);have hX:((X.map (·.2)).map (·.1)).Nodup:=by rw [List.map_append,List.map_append]at hd;exact(List.nodup_append.mp hd).2.1
 obtain⟨R1,le⟩:=Rp.mn (n:=(Y.map (·.2)).length) (X:=X.map (·.2)) (L1:=Y.map (·.2)) (G1:=[]) (by simp) (λp hp=>by simp only [List.drop_left];exact List.mem_append_left _ hp) hX (by intro J p hp;cases hp);exact⟨_,⟨Y.map (·.2),[],st.N,st.t⟩,le,R1,rfl,h hX le _ _⟩
theorem VC.gq{Y X:List (Nat × (Addr × Obj))}{ai:Result->aj->aZ->Prop}{r:Result}(hi:((Y++X).map (·.1)).Nodup)
  (h:∀F',F.le F'->(∀k {j a o},bP X k=some (j,a,o)->F' a=some o)->∀N' t',ai r F' ⟨Y.map (·.2),[],N',t'⟩):VC w R ai F (.ret r (bJ (Y++X))):=
 VC.ee hi λhn le N' t'=>h _ le (λJ {_ _ _} e=>av (p:=(_,_)) hn (List.mem_map_of_mem (f:=(·.2)) (aJ e))) N' t'
variable(w)
noncomputable def Cu:aU:= #[48,48,48,48,48,48,48,48,48,48,48,48,48,48,48,48,48,48,48,48,48,48,48,48,48,48,48,48,48,48,48,48,48,48,48,48,48,48,48,48]
noncomputable def vN(n:Nat):Nat:=(n+1)*7919%10007
noncomputable def Ot(n:Nat):aU:=(List.replicate (40-(jK (vN n)).size) 48++(jK (vN n)).toList).toArray
theorem kz:∀i j,i<8->j<8->Ot i=Ot j->i=j:=by
 have:((List.range 8).all λi=>(List.range 8).all λj=> !(Ot i==Ot j)||i==j)=true:=by kernel_rfl
 intro i j hi hj e;have h1:=List.all_eq_true.mp (List.all_eq_true.mp this i (List.mem_range.mpr hi)) j (List.mem_range.mpr hj);simpa [e]using h1
theorem lJ{n:Nat}(h:n<8):vN n∈jY:=List.mem_append_right _ (List.mem_map.mpr ⟨n,List.mem_range.mpr h,rfl⟩)
theorem rU:∀n,n<8->(Ot n).size=40:=by
 have:((List.range 8).all λi=>(Ot i).size==40)=true:=by kernel_rfl
 intro n hn;have h1:=List.all_eq_true.mp this n (List.mem_range.mpr hn);simpa using h1
def iV(x:aU):aU:=H.BL.head x.size++x
theorem vM:∀(a b x y:List UInt8),(0:UInt8)∉a->(0:UInt8)∉b->a++0::x=b++0::y->x=y
 |[],[],x,y,_,_,e=>(List.cons.inj e).2
 |[],c::b,x,y,_,hb,e=>absurd (List.cons.inj e).1 (λh=>hb (by rw [<-h];exact .head _))
 |c::a,[],x,y,ha,_,e=>absurd (List.cons.inj e).1 (λh=>ha (by rw [h];exact .head _))
 |c::a,d::b,x,y,ha,hb,e=>vM a b x y (λh=>ha (.tail _ h)) (λh=>hb (.tail _ h)) (List.cons.inj e).2
theorem wq:(jY.all λn=> !(jK n).toList.contains 0)=true:=by kernel_rfl
theorem sa{x y:aU}(hx:x.size<300)(hy:y.size<300)(e:iV x=iV y):x=y:=by
 have nz:∀{n:Nat},n<300->(0:UInt8)∉(jK n).toList:=λh hm=>by have:=List.all_eq_true.mp wq _ (jr h);rw [List.contains_iff_mem.mpr hm]at this;cases this
 have e1:=congrArg Array.toList e;have e2:(jK x.size).toList++0::x.toList=(jK y.size).toList++0::y.toList:=by simp only [iV,H.BL.head,Array.toList_append,List.append_assoc]at e1;have e3:=List.append_cancel_left e1;have e4:=List.append_cancel_left e3;simpa using e4
 exact Array.ext' (vM _ _ _ _ (nz hx) (nz hy) e2)
theorem uM(l:cK)(k:aU)(v:Value):SO (put l k v) k=some v:=by
 unfold SO put;cases h:l.any (λp=>p.1==k)with
 |true=>
  rw [if_pos rfl];obtain⟨p,hp,he⟩:=List.any_eq_true.mp h;clear h;induction l with
  |nil=>cases hp
  |cons q l ih=>
   rw [List.map_cons,List.find?_cons];by_cases hq:q.1=k
   ·simp [hq]
   ·have wV:(q.1==k)=false:=by simpa using hq
    simp only [wV,Bool.false_eq_true,if_false];rcases List.mem_cons.mp hp with rfl|hp
    ·rw [wV]at he;cases he
    ·exact ih hp
 |false=>
  rw [if_neg (by decide),List.find?_append];have:l.find? (λp=>p.1==k)=none:=by rw [List.find?_eq_none];intro p hp;rw [List.any_eq_false]at h;exact h p hp
  simp [this]
theorem qg{l:cK}{k k':aU}{v:Value}(hk:k'≠k):SO (put l k v) k'=SO l k':=by
 unfold SO put;cases h:l.any (λp=>p.1==k)with
 |true=>
  rw [if_pos rfl];clear h;induction l with
  |nil=>rfl
  |cons q l ih=>
   rw [List.map_cons,List.find?_cons,List.find?_cons];by_cases hq:q.1=k
   ·have e1:(k==k')=false:=by simpa usingλe:k=k'=>hk e.symm
    simp only [hq,beq_self_eq_true,if_true,e1];exact ih
   ·have wV:(q.1==k)=false:=by simpa using hq
    simp only [wV,Bool.false_eq_true,if_false];split
    ·rfl
    ·exact ih
 |false=>
  rw [if_neg (by decide),List.find?_append];have e1:(k==k')=false:=by simpa usingλe:k=k'=>hk e.symm
  cases l.find? λp=>p.1==k'<;>simp [e1]
theorem jq{l:cK}{k:aU}{v:Value}(h:k∉l.map (·.1)):put l k v=l++[(k,v)]:=by
 unfold put;rw [if_neg (by rw [Bool.not_eq_true,List.any_eq_false];intro p hp e;exact h (List.mem_map.mpr ⟨p,hp,by simpa using e⟩))]
theorem Ck{l:cK}{k:aU}(h:k∉l.map (·.1)):SO l k=none:=by
 unfold SO;rw [List.find?_eq_none.mpr]
 ·rfl
 ·intro p hp e;exact h (List.mem_map.mpr ⟨p,hp,by simpa using e⟩)
theorem gM{l:cK}(hn:(l.map (·.1)).Nodup){i:Nat}{p:aU × Value}(h:l[i]? =some p):SO l p.1=some p.2:=by
 unfold SO;induction l generalizing i with
 |nil=>cases h
 |cons q l ih=>
  rw [List.map_cons,List.nodup_cons]at hn;rw [List.find?_cons];cases i with
  |zero=>have h:q=p:=Option.some.inj h;subst h;simp
  |succ i=>
   have h:l[i]? =some p:=h;have hm:p∈l:=List.mem_of_getElem? h;have:(q.1==p.1)=false:=by have:q.1≠p.1:=λe=>hn.1 (List.mem_map.mpr ⟨p,hm,e.symm⟩);simpa using this
   rw [this];exact ih hn.2 h
namespace H
namespace FM
noncomputable def AZ:FuncBody->List PySem.Stmt
 | .stmts b=>b
 |_=>[]
def defOf:PySem.Stmt:=(AZ (SY (H.KP P 1341)).body).tail.headD (.Pass ⟨0,0,0,0⟩)
def Qw(N:Nat):FuncData:=match defOf P with
 | .FunctionDef name args body _ _ _ scope _ _ _=>{SY (H.KP P 1341)with name:=name,qualname:="_law_format.<locals>.digest",params:=args,body:= .stmts body,scope:=scope,closure:=[("known",N+1)],closureTuple:= .ref (N+3),code:= .ref (N+9)}
 |_=>default
def IJ(N:Nat):Obj:={cls:= .type "function",data:= .func (Qw P N)}
noncomputable def J6(N t:Nat):Obj:={cls:= .type "code",data:= .fields #[.str "digest" t,.str "_law_format.<locals>.digest" (t+1),.str "/claim/cut.py" (t+2),.int 1554 0,.int 1 0,.int 0 0,.int 0 0,.int 19 0,.ref (N+4),.bool true,.int 181 0,.ref (N+5),.none,.ref (N+6),.ref (N+7),.ref (N+8),.int (t+5:Nat) 0,.int 1554 0,.str "/claim/cut.py" (t+6)]}
noncomputable abbrev J5(kn:Addr):Obj:={cls:= .type "cell",data:= .cell (some (.ref kn))}
def IK(N t:Nat):Obj:={cls:= .type "dict",data:= .dict #[d P "name" (t+20) (.str "law" (t+8)),d P "type_num" (t+22) (.int 1 (t+9)),d P "oid_length" (t+24) (.int 20 (t+10)),d P "hex_length" (t+26) (.int 40 (t+11)),d P "hash_func" (t+28) (.ref (N+10))] 5}
noncomputable abbrev SQ:Obj:={cls:= .none,data:= .fields #[]}
def G(N t kn:Nat):aA:=[(N+10,IJ P N),(N+9,J6 N t),(N+1,J5 kn)]
noncomputable def c(N:Nat)(o:aU)(t:Nat):Code:= .call (.ref (N+10)) ⟨[.bytes o t],[]⟩
theorem vd(N t kn:Nat)(o:aU)(u:Nat)(l:cK)(ts:nN)(ep:Nat)(v:aU)(tv M tk:Nat):∀aa,aE (aR w 300 4 (zJ [[2,2,4],RE,[6],t9,[0,57,6,3],t9,[1,0,27]])
 (.hk (fy w 0 kn l ts ep o true) λJ=> .hk (ck w 0 kn l ts ep o (.bytes v tv)) λJ=> .ret (.ok (.ret (.bytes v tv))) λst=>[(.l (st.L.take 1),.l [(kn,bN w.params l ts ep)])])
 aa (c N o u) ⟨[(kn,bN w.params l ts ep)],G w.params N t kn,M,tk⟩):=by apply bh w
def n4(n N t kn:Nat)(o:aU)(u:Nat)(l:cK)(ts:nN)(ep:Nat)(M tk:Nat)(aa:RB):ax:=aR w 600 6 (zJ [[2,2,4],RE,[6],t9,[0,57,1,77,1,82],vX,[6,1,24,1,1,1,0,72,1,26,1,40,1,23,1,13,1,51,1,50,1,0,44,1,22,1,0,45,1,0,7,1,75,1,39,5,5,5,5,5,6,3],t9,[0,26,6,3],t9,[1,0,27]])
 (.hk (fy w 0 kn l ts ep o false) λJ=> .hk (eX w 0 kn l ts ep n) λJ=> .hk (jZ (vN n)) λJ=> .hk (oi (vN n)) λJ=> .hk (eJ Cu (jK (vN n))) λa=> .hk (bw w 0 kn l ts ep o (.bytes (Ot n) (a.t+2))) λb=>
 .hk (ck w 0 kn (put l o (.bytes (Ot n) (a.t+2))) (λi=>b.k (i+1)) (b.k 0) o (.bytes (Ot n) (a.t+2))) λJ=> .ret (.ok (.ret (.bytes (Ot n) (a.t+2)))) λst=>[(.l (st.L.take 1),.l [(kn,bN w.params (put l o (.bytes (Ot n) (a.t+2))) (λi=>b.k (i+1)) (b.k 0))])])
 aa (c N o u) ⟨[(kn,bN w.params l ts ep)],G w.params N t kn,M,tk⟩
theorem yU w N t kn o u l ts ep M tk:∀aa,aE (n4 w 0 N t kn o u l ts ep M tk aa):=by apply bh w
theorem yT w N t kn o u l ts ep M tk:∀aa,aE (n4 w 1 N t kn o u l ts ep M tk aa):=by apply bh w
theorem yS w N t kn o u l ts ep M tk:∀aa,aE (n4 w 2 N t kn o u l ts ep M tk aa):=by apply bh w
theorem yR w N t kn o u l ts ep M tk:∀aa,aE (n4 w 3 N t kn o u l ts ep M tk aa):=by apply bh w
theorem yQ w N t kn o u l ts ep M tk:∀aa,aE (n4 w 4 N t kn o u l ts ep M tk aa):=by apply bh w
theorem yP w N t kn o u l ts ep M tk:∀aa,aE (n4 w 5 N t kn o u l ts ep M tk aa):=by apply bh w
theorem yO w N t kn o u l ts ep M tk:∀aa,aE (n4 w 6 N t kn o u l ts ep M tk aa):=by apply bh w
theorem yN w N t kn o u l ts ep M tk:∀aa,aE (n4 w 7 N t kn o u l ts ep M tk aa):=by apply bh w
def Ga(os:lU)(D:Obj):Prop:=LV λ(l:cK) (ts:nN) (ep:Nat)=>D=bN P l ts ep/\l.map (·.1)=os/\∀(i:Nat) (p:aU × Value),l[i]? =some p->∃t,p.2= .bytes (Ot i) t
def vo(j:Nat)(kn:Addr)(D:Obj)(os:lU)(N:Nat)(o:aU):az:=⟨7,λcc=>c N o (cA cc 0),λst=>[(.p (bP st.L j),.p (some (kn,D)))],λa J=> .ok (.ret (.bytes (a.x 0) (a.k 0))),λa st=>⟨bg st.L j (a.o 0),st.G,a.N,a.t⟩,
 λF a=>a.F=F/\∃f6 i,Ga w.params f6 (a.o 0)/\f6.Nodup/\(f6=os\/f6=os++[o])/\f6[i]? =some o/\a.x 0=Ot i⟩
abbrev TC(F:aj)(n kn:Nat)(w:World)(l:cK)(o:aU):Result->aj->aZ->Prop:=λr F' ah=>F'=F/\LV λvK p4 tv=>r= .ok (.ret (.bytes (Ot n) tv))/\ah.L=[(kn,bN w.params (l++[(o,.bytes (Ot n) tv)]) vK p4)]
theorem gc{w:World}{R:aA}{F:aj}{n N t kn:Nat}{o:aU}{u:Nat}{l:cK}{ts:nN}{ep M tk:Nat}(e:∀aa,aE (n4 w n N t kn o u l ts ep M tk aa))(h8:n<8)(hl:l.length=n)(hn:(l.map (·.1)).Nodup)(ho:o∉l.map (·.1)):
  aD w R F ⟨[(kn,bN w.params l ts ep)],G w.params N t kn,M,tk⟩ 7 (c N o u) (TC F n kn w l o):=by
 have hs:l.length<=sizeLine:=by rw [sizeLine_eq];lia
 refine aD.run (d:=6) nr e ⟨fy.ok hn (by rw [Ck ho];rfl),λa J hf=> ?_⟩;rw [show a.F=F from hf];refine VC.sm (eX.ok hn hl) λa=> ?_;refine VC.sm (jZ.ok (lJ h8)) λa=> ?_;refine VC.sm (oi.ok (lJ h8)) λa=> ?_;have h5:=ir (lJ h8);refine VC.sm (eJ.ok (by have:Cu.size=40:=rfl;lia)) λa=> ?_;refine VC.sm (bw.ok hn hs) λb=> ?_;refine⟨ck.ok (vY hn o _) (uM ..),λa' J hf=> ?_⟩;rw [show a'.F=F from hf];exact VC.keep λN' t'=>⟨rfl,λi=>b.k (i+1),b.k 0,a.t+2,rfl,by rw [jq ho]⟩
theorem vo.ok{w:World}{R:aA}{F:aj}{j N t kn:Nat}{D:Obj}{os:lU}{o:aU}(hF:∀p∈G w.params N t kn,F p.1=some p.2)(hD:Ga w.params os D)(hn:os.Nodup)(hlen:os.length<8):(vo w j kn D os N o).OK w R F:=λcc st hc he=>by
 rw [hc];have hj:=cp.p.inj (aY.cons.mp he).1;obtain⟨l,ts,ep,rfl,UD,hv⟩:=hD;have kL:(l.map (·.1)).Nodup:=by rw [UD];exact hn
 have LC:l.length<8:=by have:=congrArg List.length UD;rw [List.length_map]at this;lia
 refine aD.qY (P:=λr F' D' N' t'=>F'=F/\LV λf6 i tv=>Ga w.params f6 D'/\f6.Nodup/\(f6=os\/f6=os++[o])/\f6[i]? =some o/\r= .ok (.ret (.bytes (Ot i) tv))) hj hF (λR=> ?_) λr F' D' N' t' hh=> ?_
 ·by_cases ho:o∈os
  ·obtain⟨i,hi⟩:=List.getElem?_of_mem ho;have LB:∃p,l[i]? =some p/\p.1=o:=by
    rw [<-UD,List.getElem?_map]at hi;cases e:l[i]? with
    |none=>rw [e]at hi;cases hi
    |some p=>rw [e]at hi;exact⟨p,rfl,Option.some.inj hi⟩
   obtain⟨p,hp,rfl⟩:=LB;obtain⟨tv,Li⟩:=hv i p hp;have uw:=gM kL hp;rw [Li]at uw;refine(aD.run (d:=4) nr (vd w N t kn p.1 (cA cc 0) l ts ep (Ot i) tv st.N st.t) (ai:=λr F' ah=>F'=F/\r= .ok (.ret (.bytes (Ot i) tv))/\ah.L=[(kn,bN w.params l ts ep)]) ⟨fy.ok kL (by rw [uw];rfl),λa J hf=> ?_⟩).le (show 5<=7 by decide)|>.aT λr F' ah hh=>by obtain⟨h1,h2,h3⟩:=hh;exact⟨_,h3,h1,os,i,tv,⟨l,ts,ep,rfl,UD,hv⟩,hn,.inl rfl,hi,h2⟩
   rw [show a.F=F from hf];refine⟨ck.ok kL uw,λa' J hf=> ?_⟩;rw [show a'.F=F from hf];exact VC.keep λN' t'=>⟨rfl,rfl,rfl⟩
  ·have wc:o∉l.map (·.1):=by rw [UD];exact ho
   have key:aD w R F ⟨[(kn,bN w.params l ts ep)],G w.params N t kn,st.N,st.t⟩ 7 (c N o (cA cc 0)) λr F' ah=>F'=F/\LV λvK p4 tv=>r= .ok (.ret (.bytes (Ot l.length) tv))/\ah.L=[(kn,bN w.params (l++[(o,.bytes (Ot l.length) tv)]) vK p4)]:=by
    have hg:∀n,l.length=n->n<8->aD w R F ⟨[(kn,bN w.params l ts ep)],G w.params N t kn,st.N,st.t⟩ 7 (c N o (cA cc 0)) λr F' ah=>F'=F/\LV λvK p4 tv=>r= .ok (.ret (.bytes (Ot n) tv))/\ah.L=[(kn,bN w.params (l++[(o,.bytes (Ot n) tv)]) vK p4)]:=λn sD h8=>by revert sD;refine US n h8 (λsD=>gc (yU w N t kn o _ l ts ep _ _) (by decide) sD kL wc) (λsD=>gc (yT w N t kn o _ l ts ep _ _) (by decide) sD kL wc) (λsD=>gc (yS w N t kn o _ l ts ep _ _) (by decide) sD kL wc) (λsD=>gc (yR w N t kn o _ l ts ep _ _) (by decide) sD kL wc) (λsD=>gc (yQ w N t kn o _ l ts ep _ _) (by decide) sD kL wc) (λsD=>gc (yP w N t kn o _ l ts ep _ _) (by decide) sD kL wc) (λsD=>gc (yO w N t kn o _ l ts ep _ _) (by decide) sD kL wc) (λsD=>gc (yN w N t kn o _ l ts ep _ _) (by decide) sD kL wc)
    exact hg _ rfl LC
   refine key.aT λr F' ah hq=> ?_;obtain⟨h1,vK,p4,tv,h2,h3⟩:=hq;refine⟨_,h3,h1,os++[o],l.length,tv,⟨_,_,_,rfl,by rw [List.map_append,UD];rfl,λi p hp=> ?_⟩,?_,.inr rfl,?_,h2⟩
   ·by_cases hi:i<l.length
    ·rw [List.getElem?_append_left hi]at hp;exact hv i p hp
    ·by_cases C9:i=l.length
     ·subst C9;rw [List.getElem?_append_right nr,Nat.sub_self]at hp;have hp:(o,Value.bytes (Ot l.length) tv)=p:=Option.some.inj hp;exact⟨tv,by rw [<-hp]⟩
     ·rw [List.getElem?_eq_none (by simp;lia)]at hp;cases hp
   ·rw [List.nodup_append];refine⟨hn,by simp,λa ha b hb e=> ?_⟩;rw [List.mem_singleton]at hb;exact ho (by rw [<-hb,<-e];exact ha)
   ·have:os.length=l.length:=by rw [<-UD,List.length_map]
    rw [<-this,List.getElem?_append_right nr,Nat.sub_self];rfl
 ·obtain⟨h1,f6,i,tv,h2,h3,h4,h5,h6⟩:=hh;subst h1;exact⟨{bB F' N' t' tv with x:=λJ=>Ot i,o:=λJ=>D'},rfl,⟨rfl,f6,i,h2,h3,h4,h5,rfl⟩,h6,rfl⟩
end FM
end H
end Mine
namespace Mine
namespace H
structure jF where
 N:Nat
 t:Nat
 so:Nat
 dx:Nat
 dt:Nat
 k1:Nat
 k2:Nat
def FD(s:jF):Obj:={cls:= .type "dict",data:= .dict #[d P "object_format" s.k1 (.ref (s.N+12)),d P "_data" s.k2 (.ref s.dt)] 2}
structure mM(w:World)(F:aj)(N t:Nat):Prop where
 fm:F (N+12)=some (cb 368 (N+11))
 fd:F (N+11)=some (FM.IK w.params N t)
 dg:F (N+10)=some (FM.IJ w.params N)
 cd:F (N+9)=some (FM.J6 N t)
 cl:F (N+1)=some (FM.J5 (N+2))
theorem mM.le{w:World}{F F':aj}(l:F.le F'){N t:Nat}(h:mM w F N t):mM w F' N t:=⟨l _ _ h.fm,l _ _ h.fd,l _ _ h.dg,l _ _ h.cd,l _ _ h.cl⟩
structure hJ(w:World)(F:aj)(s:jF):Prop where
 f:mM w F s.N s.t
 o:F s.so=some (cb 1315 s.dx)
 d:F s.dx=some (FD w.params s)
theorem hJ.le{w:World}{F F':aj}(l:F.le F'){s:jF}(h:hJ w F s):hJ w F' s:=⟨h.f.le l,l _ _ h.o,l _ _ h.d⟩
structure dk(P:Params)(cs:lU)(D:Obj):Prop where
 o:FM.Ga P (cs.map iV) D
 n:cs.Nodup
 z:∀c∈cs,c.size<300
def fU(F:aj)(cs:lU)(D:Obj):Prop:=LV λ(l:cK) (ts:nN) (ep:Nat)=>D=bN w.params l ts ep/\l.map (·.1)=(List.range cs.length).map Ot/\∀(i:Nat) (c:aU),cs[i]? =some c->∃b,SO l (Ot i)=some (.ref b)/\cm w F b c
theorem fU.le{w:World}{F F':aj}(hl:F.le F'){cs:lU}{D:Obj}(h:fU w F cs D):fU w F' cs D:=by obtain⟨l,ts,ep,h1,h2,h3⟩:=h;exact⟨l,ts,ep,h1,h2,λi c hc=>by obtain⟨b,hb,hi⟩:=h3 i c hc;exact⟨b,hb,hi.le hl⟩⟩
theorem nY{cs:lU}(h:cs.Nodup)(hz:∀c∈cs,c.size<300):(cs.map iV).Nodup:=by
 induction cs with
 |nil=>exact List.nodup_nil
 |cons c cs ih=>rw [List.nodup_cons]at h;rw [List.map_cons,List.nodup_cons];refine⟨λhm=> ?_,ih h.2 λc hc=>hz c (.tail _ hc)⟩;obtain⟨c',wX,e⟩:=List.mem_map.mp hm;exact h.1 (sa (hz c' (.tail _ wX)) (hz c (.head _)) e▸wX)
theorem nM{n:Nat}(h:n<=8):((List.range n).map Ot).Nodup:=by rw [List.Nodup,List.pairwise_map];refine List.Pairwise.imp_of_mem ?_ (List.nodup_range (n:=n));intro a b ha hb dY e;exact dY (kz a b (by have:=List.mem_range.mp ha;lia) (by have:=List.mem_range.mp hb;lia) e)
namespace GI
def G(P:Params)(s:jF)(b:Addr)(q:dm)(x:aU):aA:=BL.G P b q x++[(s.N+12,cb 368 (s.N+11)),(s.N+11,FM.IK P s.N s.t),(s.N+10,FM.IJ P s.N)]
def S(s:jF)(b:Addr)(q:dm)(x:aU)(D:Obj)(os:lU)(N tk:Nat)(aa:RB):ax:=aR w 900 11 (zJ [[2,0,0,3,3],RE,[8,0,0,0,8,0,0,0,8],vX,[8,10,3,2],mQ,[2],mQ,[2],mQ,[0,2,4,0,0,3,2],mQ,[2],mQ,[2],mQ,[0,2,4,0,0],SD,[0]])
 (.hk (BL.mc b x) λJ=> .hk (BL.SE b x) λJ=> .hk (eJ (BL.head x.size) x) λJ=> .hk (FM.vo w 0 (s.N+2) D os s.N (iV x)) λa=> .ret (.ok (.ret (.bytes (a.x 0) (a.k 0)))) λst=>[(.l (st.L.take 1),.l [(s.N+2,a.o 0)])])
 aa (.call (.ref 582) ⟨[.ref b,.ref (s.N+12)],[]⟩) ⟨[(s.N+2,D)],G w.params s b q x,N,tk⟩
theorem iw w s b q x D os N tk:∀aa,aE (S w s b q x D os N tk aa):=by apply bh w
end GI
def Rn(j:Nat)(s:jF)(b:Addr)(x:aU)(cs:lU)(D:Obj):az:=⟨12,λJ=> .call (.ref 582) ⟨[.ref b,.ref (s.N+12)],[]⟩,λst=>[(.p (bP st.L j),.p (some (s.N+2,D)))],λa J=> .ok (.ret (.bytes (a.x 0) (a.k 0))),λa st=>⟨bg st.L j (a.o 0),st.G,a.N,a.t⟩,
 λF a=>a.F=F/\∃dQ i,dk w.params dQ (a.o 0)/\(dQ=cs\/dQ=cs++[x])/\dQ[i]? =some x/\a.x 0=Ot i⟩
theorem uo{P:Params}{cs:lU}{x:aU}{D':Obj}{f6:lU}{i:Nat}(hn:cs.Nodup)(hz:∀c∈cs,c.size<300)(hx:x.size<300)(h2:FM.Ga P f6 D')(h3:f6.Nodup)(h4:f6=cs.map iV\/f6=cs.map iV++[iV x])(h5:f6[i]? =some (iV x)):
  ∃dQ,dk P dQ D'/\(dQ=cs\/dQ=cs++[x])/\dQ[i]? =some x:=by
 have key:∀dQ:lU,(∀c∈dQ,c.size<300)->f6=dQ.map iV->dQ[i]? =some x:=λdQ wR e=>by
  rw [e,List.getElem?_map]at h5;cases hc:dQ[i]? with
  |none=>rw [hc]at h5;cases h5
  |some c=>rw [hc]at h5;rw [sa (wR c (List.mem_of_getElem? hc)) hx (Option.some.inj h5)]
 rcases h4 with rfl|rfl
 ·exact⟨cs,⟨h2,hn,hz⟩,.inl rfl,key cs hz rfl⟩
 ·have wR:∀c∈cs++[x],c.size<300:=λc hc=>by
   rcases List.mem_append.mp hc with hc|hc
   ·exact hz c hc
   ·rw [List.mem_singleton]at hc;rw [hc];exact hx
  have e:cs.map iV++[iV x]=(cs++[x]).map iV:=by simp
  refine⟨cs++[x],⟨e▸h2,?_,wR⟩,.inr rfl,key _ wR e⟩;rw [e]at h3;rw [List.Nodup,List.pairwise_map]at h3;exact h3.imp λh e=>h (congrArg iV e)
theorem Rn.ok{w:World}{R:aA}{F:aj}{j:Nat}{s:jF}{b:Addr}{x:aU}{cs:lU}{D:Obj}(hf:mM w F s.N s.t)(hb:cm w F b x)(hx:x.size<300)(hk:dk w.params cs D)(h8:cs.length<8):(Rn w j s b x cs D).OK w R F:=λcc st hc he=>by
 rw [hc];have hj:=cp.p.inj (aY.cons.mp he).1;obtain⟨q,h1,h2,h3⟩:=id hb;have hg:∀p∈GI.G w.params s b q x,F p.1=some p.2:=λp hp=>by
  rcases List.mem_append.mp hp with hp|hp
  ·exact BL.hG h1 h2 h3 p hp
  ·exact aq hf.fm (aq hf.fd (aq hf.dg cB)) p hp
 have FU:∀p∈FM.G w.params s.N s.t (s.N+2),F p.1=some p.2:=aq hf.dg (aq hf.cd (aq hf.cl cB));refine aD.qY (P:=λr F' D' N' t'=>F'=F/\LV λdQ i tv=>dk w.params dQ D'/\(dQ=cs\/dQ=cs++[x])/\dQ[i]? =some x/\r= .ok (.ret (.bytes (Ot i) tv))) hj hg (λR=> ?_) λr F' D' N' t' hh=> ?_
 ·refine aD.run (d:=11) nr (GI.iw w s b q x D (cs.map iV) st.N st.t) ⟨BL.mc.ok hb hx,λa J hf=> ?_⟩;rw [show a.F=F from hf];refine VC.sm (BL.SE.ok hb (BL.fP hx)) λa=> ?_;have hh:=BL.pU (jr hx);refine VC.sm (eJ.ok (by lia)) λa=> ?_;refine⟨FM.vo.ok (t:=s.t) FU hk.o (nY hk.n hk.z) (by simpa using h8),λa J hf=> ?_⟩;rw [show a.F=F from hf.1];obtain⟨f6,i,g1,g2,g3,g4,g5⟩:=hf.2;obtain⟨dQ,k1,k2,k3⟩:=uo hk.n hk.z hx g1 g2 g3 g4;exact VC.keep λN' t'=>⟨_,rfl,rfl,dQ,i,a.k 0,k1,k2,k3,by rw [g5]⟩
 ·obtain⟨y1,dQ,i,tv,y2,y3,y4,y5⟩:=hh;subst y1;exact⟨{bB F' N' t' tv with x:=λJ=>Ot i,o:=λJ=>D'},rfl,⟨rfl,dQ,i,y2,y3,y4,rfl⟩,y5,rfl⟩
namespace AO
def G(P:Params)(s:jF)(b:Addr)(q:dm)(x:aU):aA:=[(s.so,cb 1315 s.dx),(s.dx,FD P s)]++BL.G P b q x
def S(s:jF)(b:Addr)(q:dm)(x:aU)(cs:lU)(D:Obj)(l:cK)(ts:nN)(ep N tk:Nat)(aa:RB):ax:=aR w 900 13 (zJ [[2,0,0,5,5,5,5,1,5,6],mQ,[6],mQ,[6],mQ,[0,6,8,0,0,5],oW,[4,5,6],mQ,[6],mQ,[6],mQ,[0,6,8,5],oW,[4,0,0],RE,[0,26]])
 (.hk (BL.mh w b x) λa=> .hk (Rn w 0 s b x cs D) λa2=> .hk (bw w 1 s.dt l ts ep (a2.x 0) (.ref (a.k 0))) λa3=> .ret (.ok (.ret .none)) λst=>[(.l (st.L.take 2),.l [(s.N+2,a2.o 0),(s.dt,bN w.params (put l (a2.x 0) (.ref (a.k 0))) (λi=>a3.k (i+1)) (a3.k 0))])])
 aa (.call (.ref 1312) ⟨[.ref s.so,.ref b],[]⟩) ⟨[(s.N+2,D),(s.dt,bN w.params l ts ep)],G w.params s b q x,N,tk⟩
theorem iw w s b q x cs D l ts ep N tk:∀aa,aE (S w s b q x cs D l ts ep N tk aa):=by apply bh w
end AO
def k8(i j:Nat)(s:jF)(b:Addr)(x:aU)(cs:lU)(D D2:Obj):az:=⟨14,λJ=> .call (.ref 1312) ⟨[.ref s.so,.ref b],[]⟩,λst=>[(.p (bP st.L i),.p (some (s.N+2,D))),(.p (bP st.L j),.p (some (s.dt,D2)))],λJ J=> .ok (.ret .none),λa st=>⟨bg (bg st.L i (a.o 0)) j (a.o 1)++[],st.G,a.N,a.t⟩,
 λF a=>F.le a.F/\∃dQ,dk w.params dQ (a.o 0)/\fU w a.F dQ (a.o 1)/\(dQ=cs\/dQ=cs++[x])/\x∈dQ⟩
theorem k8.ok{w:World}{R:aA}{F:aj}{i j:Nat}{s:jF}{b:Addr}{x:aU}{cs:lU}{D D2:Obj}(SH:i≠j)(hf:hJ w F s)(hb:cm w F b x)(hx:x.size<300)(hk:dk w.params cs D)(hd:fU w F cs D2)(h8:cs.length<8):(k8 w i j s b x cs D D2).OK w R F:=λcc st hc he=>by
 rw [hc];have e1:=aY.cons.mp he;have e2:=aY.cons.mp e1.2;obtain⟨q,h1,h2,h3⟩:=id hb;obtain⟨l,ts,ep,rfl,hl,Iw⟩:=hd;have hn:(l.map (·.1)).Nodup:=by rw [hl];exact nM (by lia)
 have hlen:l.length=cs.length:=by have:=congrArg List.length hl;simpa using this
 have hg:∀p∈AO.G w.params s b q x,F p.1=some p.2:=λp hp=>by
  rcases List.mem_append.mp hp with hp|hp
  ·exact aq hf.o (aq hf.d cB) p hp
  ·exact BL.hG h1 h2 h3 p hp
 refine aD.ja (P:=λr F' D' jN X N' t'=>F.le F'/\X=[]/\r= .ok (.ret .none)/\∃dQ,dk w.params dQ D'/\fU w F' dQ jN/\(dQ=cs\/dQ=cs++[x])/\x∈dQ) (cp.p.inj e1.1) (cp.p.inj e2.1) SH hg (λR=> ?_) λr F' o o' X N' t' hh=> ?_
 ·refine aD.run (d:=13) nr (AO.iw w s b q x cs D l ts ep st.N st.t) ⟨BL.mh.ok hb (BL.fP hx),λa le De=> ?_⟩;refine⟨Rn.ok (hf.f.le le) (hb.le le) hx hk h8,λa2 J BU=> ?_⟩;rw [show a2.F=a.F from BU.1];obtain⟨dQ,i,g1,g2,g3,g4⟩:=BU.2;refine⟨bw.ok hn (by rw [sizeLine_eq];lia),λa3 J It=> ?_⟩;rw [show a3.F=a.F from It];refine VC.keep λN' t'=>⟨_,_,[],rfl,le,rfl,rfl,dQ,g1,?_,g2,List.mem_of_getElem? g3⟩
  rw [g4];have Io:i<8:=by
   have:=(List.getElem?_eq_some_iff.mp g3).1;rcases g2 with rfl|rfl
   ·lia
   ·simp at this;lia
  rcases g2 with rfl|rfl
  ·have C8:∃v,SO l (Ot i)=some v:=by obtain⟨b',sH,J⟩:=Iw i x g3;exact⟨_,sH⟩
   refine⟨_,_,_,rfl,?_,λk c hc=> ?_⟩
   ·have Mc:l.any (λp=>p.1==Ot i)=true:=by
     obtain⟨v,hv⟩:=C8;unfold SO at hv;cases zr:l.find? (λp=>p.1==Ot i)with
     |none=>rw [zr]at hv;cases hv
     |some p=>exact List.any_eq_true.mpr ⟨p,List.mem_of_find?_eq_some zr,by simpa using List.find?_some zr⟩
    unfold put;rw [if_pos Mc,List.map_map,<-hl];apply List.map_congr_left;intro p J;simp only [Function.comp];split<;>rfl
   ·by_cases Im:k=i
    ·subst Im;rw [g3]at hc;obtain rfl:=Option.some.inj hc;exact⟨a.k 0,uM ..,De⟩
    ·have PN:k<8:=by have:=(List.getElem?_eq_some_iff.mp hc).1;lia
     obtain⟨b',sH,LU⟩:=Iw k c hc;exact⟨b',by rw [qg λe=>Im (kz _ _ PN Io e)];exact sH,LU.le le⟩
  ·have PQ:i=cs.length:=by
    have h1:=(List.getElem?_eq_some_iff.mp g3).1;by_cases rz:i<cs.length
    ·rw [List.getElem?_append_left rz]at g3;have zk:=List.mem_of_getElem? g3;have:=g1.n;rw [List.nodup_append]at this;exact absurd rfl (this.2.2 x zk x (by simp))
    ·simp at h1;lia
   subst PQ;have Lv:Ot cs.length∉l.map (·.1):=by rw [hl];intro hm;obtain⟨k,hk,e⟩:=List.mem_map.mp hm;have hk:=List.mem_range.mp hk;have:=kz _ _ (by lia) Io e;lia
   refine⟨_,_,_,rfl,?_,λk c hc=> ?_⟩
   ·rw [jq Lv,List.map_append,hl,List.length_append];show _=(List.range (cs.length+1)).map Ot;rw [List.range_succ,List.map_append];rfl
   ·by_cases Im:k=cs.length
    ·subst Im;rw [g3]at hc;obtain rfl:=Option.some.inj hc;exact⟨a.k 0,uM ..,De⟩
    ·have rz:k<cs.length:=by have:=(List.getElem?_eq_some_iff.mp hc).1;simp at this;lia
     rw [List.getElem?_append_left rz]at hc;obtain⟨b',sH,LU⟩:=Iw k c hc;exact⟨b',by rw [qg λe=>Im (kz _ _ (by lia) Io e)];exact sH,LU.le le⟩
 ·obtain⟨y1,y2,y3,y4⟩:=hh;subst y2 y3;obtain⟨dQ,g⟩:=y4;exact⟨{bB F' N' t' 0 with o:=lk o' [o]},rfl,⟨y1,dQ,g⟩,rfl,rfl⟩
namespace IT
def G(P:Params)(s:jF)(b:Addr)(q:dm)(x:aU):aA:=[(s.so,cb 1315 s.dx),(s.dx,FD P s),(s.N+12,cb 368 (s.N+11)),(s.N+11,FM.IK P s.N s.t)]++BL.G P b q x
def S(s:jF)(b:Addr)(q:dm)(x y:aU)(u:Nat)(l:cK)(ts:nN)(ep N tk:Nat)(aa:RB):ax:=aR w 900 11 (zJ [[2,0,0,3,3],RE,oW,[4,3,2,0,0],RC,[0,2],vX,[2,4,3],RC,[5,5,5,5,1,0,0,5,1,0,20,5],oW,[4],Sq,[1,41,0,0,5],RC,[7,7,7,7,1,7],t9,[1,0,27,14,10],mQ,[10],mQ,[10],mQ,[0,10,12,0,0]])
 (.hk (ig y 40) λJ=> .hk (ck w 0 s.dt l ts ep y (.ref b)) λJ=> .hk (BL.mh w b x) λa=> .ret (.ok (.ret (.ref (a.k 0)))) λst=>[(.l (st.L.take 1),.l [(s.dt,bN w.params l ts ep)])])
 aa (.call (.ref 1305) ⟨[.ref s.so,.bytes y u],[]⟩) ⟨[(s.dt,bN w.params l ts ep)],G w.params s b q x,N,tk⟩
theorem iw w s b q x y u l ts ep N tk:∀aa,aE (S w s b q x y u l ts ep N tk aa):=by apply bh w
end IT
def UE(j:Nat)(s:jF)(D:Obj)(i:Nat)(x:aU):az:=eP 12 j (s.dt,D) (λc=> .call (.ref 1305) ⟨[.ref s.so,.bytes (Ot i) (cA c 1)],[]⟩) (λa=> .ok (.ret (.ref (a.k 0)))) λF a=>F.le a.F/\cm w a.F (a.k 0) x
theorem UE.ok{w:World}{R:aA}{F:aj}{j i:Nat}{s:jF}{x:aU}{cs:lU}{D:Obj}(hf:hJ w F s)(hd:fU w F cs D)(h8:cs.length<=8)(hi:cs[i]? =some x)(hx:x.size<300):(UE w j s D i x).OK w R F:=by
 obtain⟨l,ts,ep,rfl,hl,Iw⟩:=hd;obtain⟨b,hb,JS⟩:=Iw i x hi;obtain⟨q,h1,h2,h3⟩:=id JS;have hn:(l.map (·.1)).Nodup:=by rw [hl];exact nM h8
 have Io:i<8:=by have:=(List.getElem?_eq_some_iff.mp hi).1;lia
 have hg:∀p∈IT.G w.params s b q x,F p.1=some p.2:=λp hp=>by
  rcases List.mem_append.mp hp with hp|hp
  ·exact aq hf.o (aq hf.d (aq hf.f.fm (aq hf.f.fd cB))) p hp
  ·exact BL.hG h1 h2 h3 p hp
 refine eP.of hg λc R N t=>aD.run (d:=11) nr (IT.iw w s b q x (Ot i) (cA c 1) l ts ep N t) ⟨ig.ok (rU i Io) (by rw [sizeLine_eq];decide),λa J hf=> ?_⟩;rw [show a.F=F from hf];refine VC.sm (ck.ok hn hb) λa=> ?_;refine⟨BL.mh.ok JS (BL.fP hx),λa le hf=>VC.keep λN' t'=>⟨rfl,bB a.F N' t' (a.k 0),rfl,rfl,rfl,⟨le,hf⟩,rfl⟩⟩
namespace SN
def S(fm N t:Nat)(aa:RB):ax:=aR w 900 6 (zJ [[1,0,0,1,0,13],vU,mQ,[0,0,27],mQ,mQ,[0,0,0,3,0,3],vX,[2,0,0,5,5,5,5,1,5,5,3],vU,yC,[0,0,0,3],Hl,[5,3],vU,yC,[0,0,0,3],Hl]) (.ret (.ok (.ret (.ref (N+1)))) (bJ ([(3,(N+3,bA))]++[(1,(N+1,cb 1315 N)),(0,(N,{cls:= .type "dict",data:= .dict #[d w.params "object_format" (t+4) (.ref fm),d w.params "_data" (t+6) (.ref (N+3))] 2}))])))
 aa (.call (.ref 1315) ⟨[.ref fm],[]⟩) ⟨[],[],N,t⟩
theorem iw w fm N t:∀aa,aE (S w fm N t aa):=by apply bh w
end SN
end H
end Mine
end
section
open PySem PySem.W PyProof.Rows
namespace Mine
def dw:Frame->Prop
 | .ret _ h _ _ c _ _=>h=none/\eM c
 | .gen .. =>False
theorem gf:∀{fs:List Frame},(∀F∈fs,dw F)->∀x,marksOver fs x=x
 |[],_,x=>rfl
 |F::fs,h,x=>by
  show F.marks (marksOver fs x)=x;rw [gf (λF hF=>h F (.tail _ hF)) x];have:=h F (.head _);cases F with
  |gen=>exact this.elim
  |ret k hd g l c p kp=>obtain⟨rfl,J⟩:=this;rfl
theorem mB:∀{fs:List Frame},(∀F∈fs,dw F)->splitAtGen fs=none
 |[],_=>rfl
 |F::fs,h=>by
  have:=h F (.head _);cases F with
  |gen=>exact this.elim
  |ret k hd g l c p kp=>rw [splitAtGen_ret,mB λF hF=>h F (.tail _ hF)];rfl
theorem mX{Γ:Ctx}{A:Around}{fs:List Frame}(h:Γ.Below A)(hp:∀F∈fs,dw F):(Γ.over fs).In (A.over Γ.code fs):=by have:=Ctx.Woken.over (Γ:={Γ with past:=Γ.handled}) ⟨h,rfl⟩ fs;refine⟨?_,this.2⟩;show(marksOver fs (Γ.handled,Γ.past)).1=(marksOver fs (A.handled,A.handled)).1;rw [gf hp,gf hp];exact h.1
theorem jn{A:Around}{c:Code}{fs:List Frame}{n:Nat}(H:ff (n+fs.length+1) A)(hp:∀F∈fs,dw F)(hc:eM c):ff n (A.over c fs):=by
 have key:∀fs:List Frame,(∀F∈fs,dw F)->frameCount (fs.map Frame.where_)<=5*fs.length/\unitsOf (fs.map Frame.where_)<=10*fs.length:=λfs=>by
  induction fs with
  |nil=>intro J;exact⟨Nat.le_refl _,Nat.le_refl _⟩
  |cons F fs ih=>
   intro h;have h1:=ih λF hF=>h F (.tail _ hF);have:=h F (.head _);cases F with
   |gen=>exact this.elim
   |ret k hd g l c p kp=>obtain⟨J,Ik,C6⟩:=this;rw [List.map_cons];show frameCount ((c,p)::fs.map Frame.where_)<=_/\unitsOf ((c,p)::fs.map Frame.where_)<=_;rw [frameCount_cons,unitsOf_cons,List.length_cons];lia
 have hk:=key fs hp;obtain⟨l,LX⟩:=H.fr;have hd:=H.F9;have un:=H.un;refine⟨?_,⟨c.envs++(envsOf (fs.map Frame.where_)++l),?_⟩,?_,?_⟩
 ·show(marksOver fs (A.handled,A.handled)).1=none;rw [gf hp];exact H.hd
 ·show pushEnvs c.envs (pushEnvs (envsOf (fs.map Frame.where_)) A.frames)=_;rw [pushEnvs_eq,pushEnvs_eq,LX];rfl
 ·show A.depth+frameCount (fs.map Frame.where_)+c.weight+6*n<=960;have:=hc.1;lia
 ·show A.units+unitsOf (fs.map Frame.where_)+c.cUnits+10*n<=9800;have:=hc.2;lia
def dj(M:Model)(A:Around)(c:Code)(t:Sem Fin)(fs:List Frame)(s:Shared)(P:End->Shared->Prop):Prop:=
 ∀Γ p,Γ.code=c->Γ.Below A->∃e s',Runs M Γ p t fs s e s'/\e.quiet=true/\P e s'
section
variable{M:Model}{A:Around}{c:Code}{fs:List Frame}{P:End->Shared->Prop}{s:Shared}
theorem iL{α:Type}{m:Sem α}{k:α->Sem Fin}(hp:∀F∈fs,dw F)(h:wpAny M (A.over c fs) m (λa s'=>dj M A c (k a) fs s' P) (λx s'=>dj M A c (.raise x) fs s' P) s):dj M A c (m.wrap k .raise id id) fs s P:=by rintro Γ p rfl hΓ;obtain⟨e,s',hr,hq⟩:=runs_wrap_of_wp (Φ:=λe s'=>e.quiet=true/\P e s') k .raise id id m (h (Γ.over fs) p (mX hΓ hp)) (λa p' s' h'=>h' Γ p' rfl hΓ) (λx p' s' h'=>h' Γ p' rfl hΓ);exact⟨e,s',hr,hq⟩
theorem AK{l:List Value}{k:Unit->Sem Fin}(h:dj M A c (k ()) fs s P):dj M A c (.point l k) fs s P:=λΓ p hc hΓ=>by obtain⟨e,s',hr,hq⟩:=h Γ p hc hΓ;exact⟨e,s',Runs.head' (λJ J y=> .point y) hr,hq⟩
theorem AJ{k:List (Code × Pos)->Sem Fin}(x:∀(p:Pos) (below:List (Code × Pos)),dj M A c (k ((c,p)::below)) fs s P):dj M A c (.stack k) fs s P:=by rintro Γ p rfl hΓ;obtain⟨e,s',hr,hq⟩:=x p (Γ.over fs).below Γ p rfl hΓ;exact⟨e,s',Runs.head' (λJ J y=> .stack y) hr,hq⟩
theorem AL{a:Addr}{k:Option Obj->Sem Fin}{o:Obj}(ho:s.heap.get? a=some o)(x:dj M A c (k (some o)) fs s P):dj M A c (.loadIfAlive a k) fs s P:=λΓ p hc hΓ=>by
 obtain⟨e,s',hr,hq⟩:=x Γ p hc hΓ;have Ax:Runs M Γ p (k (s.heap.get? a)) fs s e s':=by rw [ho];exact hr
 exact⟨e,s',Runs.head' (λJ J y=> .loadIfAlive y) Ax,hq⟩
theorem Dx{c':Code}{hd:Option Value}{g:Bool}{l:List Value}{k:Result->Sem Fin}(x:∀p,dj M A c' (M.den c') (.ret k hd g l c p []::fs) s P):dj M A c (.call c' hd g l k) fs s P:=by rintro Γ p rfl hΓ;obtain⟨e,s',hr,hq⟩:=x p (Γ.goto c') p rfl (hΓ.goto c');exact⟨e,s',runs_call_seg hr,hq⟩
theorem jk{c':Code}(hq:c'.quiet=true)(x:dj M A c' (M.den c') fs s P):dj M A c (.pure (.again c')) fs s P:=by rintro Γ p rfl hΓ;obtain⟨e,s',hr,wV⟩:=x (Γ.goto c') p rfl (hΓ.goto c');exact⟨e,s',Runs.head (c₁:=c') (λJ J y=> .again hq y) hr,wV⟩
theorem Cv{r:Result}{k:Result->Sem Fin}{hd:Option Value}{g:Bool}{l:List Value}{c₁:Code}{p₁:Pos}{kp}(x:dj M A c₁ (k r) fs s P):dj M A c (leafOf r) (.ret k hd g l c₁ p₁ kp::fs) s P:=by rintro Γ p rfl hΓ;obtain⟨e,s',hr,hq⟩:=x (Γ.goto c₁) p₁ rfl (hΓ.goto c₁);exact⟨e,s',Runs.pop r hr,hq⟩
theorem w4{r:Result}(x:P (.ret r) s):dj M A c (leafOf r) [] s P:=by rintro Γ p rfl _;exact⟨.ret r,s,Runs.leaf r,rfl,x⟩
theorem AI{v:Value}{l:List Value}{k:Resume->Sem Fin}(hp:∀F∈fs,dw F)(PW:fs.any Frame.guarded=false)(x:∀p,P (.susp v false l k c p fs) s):dj M A c (.yield v false l k) fs s P:=by rintro Γ p rfl _;exact⟨_,s,Runs.yield' fs (mB hp),by simp [End.quiet,PW],x p⟩
theorem w3{c':Code}{k:Nat->Sem Fin}(x:dj M A c (k s.gens.size) fs {s with gens:=s.gens.push (.fresh c')} P):dj M A c (.newGen c' k) fs s P:=λΓ p hc hΓ=>by obtain⟨e,s',hr,hq⟩:=x Γ p hc hΓ;exact⟨e,s',Runs.head' (λJ J y=> .newGen y) hr,hq⟩
theorem nu{g:Nat}{k:GenStatus × Option (List (Code × Pos))->Sem Fin}{gs:GenState}(hg:s.gens[g]? =some gs)(x:dj M A c (k gs.seen) fs s P):dj M A c (.genState g k) fs s P:=λΓ p hc hΓ=>by obtain⟨e,s',hr,hq⟩:=x Γ p hc hΓ;exact⟨e,s',Runs.head' (λJ J y=> .genState hg y) hr,hq⟩
def CN(M:Model)(A:Around)(c:Code)(fs:List Frame)(P:End->Shared->Prop)(k:GenResult->Sem Fin)(g:Nat):End->Shared->Prop:=
 λe s₁=>dj M A c (k e.result) fs (s₁.setGen g e.genState) P
theorem nC{Γ:Ctx}{A:Around}(h:Γ.In A)(c:Code)(p:Pos):(Γ.wake c p).Below A:=(h.wake c p).1
theorem tJ{g:Nat}{l:List Value}{k:GenResult->Sem Fin}{c₀:Code}(hp:∀F∈fs,dw F)(hg:s.gens[g]? =some (.fresh c₀))(x:dj M (A.over c fs) c₀ (M.den c₀) [] (s.setGen g .running) (CN M A c fs P k g)):
  dj M A c (.resume g (.send .none) l k) fs s P:=by
 rintro Γ p rfl hΓ;obtain⟨e₁,s₁,Lk,Lo,he⟩:=x ((Γ.over fs).wake c₀ p) p rfl (nC (mX hΓ hp) c₀ p);obtain⟨e,s',hr,hq⟩:=he Γ p rfl hΓ;exact⟨e,s',Runs.head' (λJ J y=>(Sem.runs_resume_iff M _).mpr ⟨e₁.result,_,by unfold Wakes;rw [hg];exact⟨e₁,s₁,Lk,Lo,rfl,rfl⟩,y⟩) hr,hq⟩
theorem tH{g:Nat}{r:Resume}{l:List Value}{k:GenResult->Sem Fin}{k₀:Resume->Sem Fin}{l₀:List Value}{c₀:Code}{p₀:Pos}{AE:List Frame}{cl:Bool}(hp:∀F∈fs,dw F)(hg:s.gens[g]? =some (.suspended k₀ l₀ c₀ p₀ AE cl))
  (x:dj M (A.over c fs) c₀ (k₀ r) AE (s.setGen g .running) (CN M A c fs P k g)):dj M A c (.resume g r l k) fs s P:=by
 rintro Γ p rfl hΓ;obtain⟨e₁,s₁,Lk,Lo,he⟩:=x ((Γ.over fs).wake c₀ p) p₀ rfl (nC (mX hΓ hp) c₀ p);obtain⟨e,s',hr,hq⟩:=he Γ p rfl hΓ;exact⟨e,s',Runs.head' (λJ J y=>(Sem.runs_resume_iff M _).mpr ⟨e₁.result,_,by unfold Wakes;rw [hg];exact⟨e₁,s₁,Lk,Lo,rfl,rfl⟩,y⟩) hr,hq⟩
theorem rk{R:Result->Shared->Prop}(x:dj M A c (M.den c) [] s λe s'=>∃r,e= .ret r/\R r s'):codeAny M A c R s:=by rintro Γ p rfl hΓ;obtain⟨e,s',hr,J,r,rfl,h⟩:=x Γ p rfl hΓ;exact⟨r,s',hr,h⟩
end
inductive Slot where
 |none
 |fresh (c:Code)
 |susp (k:Resume->Sem Fin) (c:Code) (p:Pos) (fs:List Frame)
 |run
 |jJ
structure Aj where
 c:Code
 k:GenResult->Sem Fin
 fs:List Frame
 d:Nat
noncomputable def tQ:Sem Unit->List (Code × Pos)->Sem Unit
 | .stack k,st=>k st
 |_,_=> .unsupported ""
noncomputable def Gh:List String:=["comparison","call","repr","str","hash"]
def u6(w:Nat):Option (Sem Unit):=match w with
 |0=>some (Fast.tw15066281185411960212 0)
 |1=>some Fast.tw3139746846981162851
 |w+2=>match bP Gh w with
  |some x=>some (Fast.tw10648789137845014744 x)
  |none=>none
noncomputable def CH(K:Nat->Option Obj):Nat->Sem Fin->Option (Sem Fin)
 |0,t=>some t
 |n+1,.load a _ k=>match K a with
  |some o=>CH K n (k o)
  |none=>none
 |_+1,_=>none
noncomputable def Bv(w:Nat):Nat:=match w with
 |0=>1
 |1=>1
 |_=>0
noncomputable def HM(o:Obj):Obj:=Obj.mapSeq (λxs=>xs.pop) (Obj.mapSeq (λxs=>xs.push .none) (Obj.mapSeq (λJ=> #[]) o))
noncomputable abbrev dp:Obj:={cls:= .type "list",data:= .seq #[]}
def U6(v:Value):Int:=match v with
 | .int i _=>i
 |_=>0
def uI(c:Code)(sc:List Nat)(s:aZ):Option (Sem Fin × List Nat × aZ × ax):=
 (bP s.L (sc.headD 0)).bind λp=>(bP s.L (sc.tail.headD 0)).bind λq=>cond (Nat.beq (sc.headD 0) (sc.tail.headD 0)) none<|
  some (.pure (.again (.builtin "list.extend.loop" ⟨[.ref p.1,.ref q.1,.none],[]⟩)),sc.tail.tail,⟨bg s.L (sc.headD 0) (HM dp),s.G,s.N,s.t⟩,
   (.c c,.c (.builtin "list.__init__" ⟨[.ref p.1,.ref q.1],[]⟩))::(.o p.2,.o dp)::(.o q.2,.o {cls:= .type "generator",data:= .fields #[.int (Int.ofNat (U6 (Rd (bP (UZ q.2.data).toList 0))).toNat) 0,Rd (bP (UZ q.2.data).toList 1),Rd (bP (UZ q.2.data).toList 2)]})::[])
def kc(c:Code)(sc:List Nat)(s:aZ):Option (Sem Fin × List Nat × aZ × ax):=
 List.rec none (λx sc J=>Nat.rec none (λx J=>Nat.rec (cond (wb c) none (some (den c,sc,s,[]))) (λx J=>Nat.rec (uI c sc s)
  (λi J=>Nat.rec none (λi J=>(bP gp.tail i).bind λg=>some (den (.builtin g (U0 c)),sc,s,[(.c c,.c (.builtin g (U0 c)))])) i) x) x) x) sc
noncomputable def freeSlot:Slot->Bool
 | .none=>true
 | .jJ=>true
 |_=>false
abbrev Um:=Nat->List Nat->bE->(Nat->aL)->Code->Sem Fin->List Frame->Option Aj->Slot->aZ->ax
def oR(fs:List Frame)(n:Nat)(f:(Result->Sem Fin)->Code->List Frame->ax):ax:=match fs with
 |[]=>bk n
 |F::j8=>match F with
  | .ret k _ _ _ c₁ _ _=>f k c₁ j8
  | .gen .. =>bk 40
noncomputable def oG(p:bE)(f:az->(aL->bE)->ax)(x:ax):ax:=match p with
 | .C7 h k=>f h k
 |_=>x
def oU(v:Value)(n:Nat)(x:ax):ax:=match v with
 | .none=>x
 |_=>bk n
def SW(K:Nat->Option Obj)(g:Setting)(gN:Nat)(Z:Um):Um:=λd sc p aa c t fs out sl s=>match t with
  | .pure fin=>match fin with
   | .done f=>match fs with
    |[]=>match out with
     |none=>pz p (.ok f) s
     |some o=>Z o.d sc p aa o.c (o.k (.returned (match f with| .ret v=>v|_=> .none))) o.fs none .jJ s
    |F::j8=>match F with
     | .ret k _ _ _ c₁ _ _=>Z (d+1) sc p aa c₁ (k (.ok f)) j8 out sl s
     | .gen .. =>bk 40
   | .again c'=>o2 (isZero sc)
    (oG p (λh kp=>oS (nP c' sc.tail) 12 λq=>oB (Nat.ble h.aX (d+1)) 15 (oR fs 59 λk c₁ j8=>
      (pairs h c' s++q.2)++Z (d+1) q.1 (kp (aa 0)) (λi=>aa (i+1)) c₁ (k (h.res (aa 0) s)) j8 out sl (h.fH (aa 0) s)))
     (oN out 41 (oB (freeSlot sl) 41 (oS (nP c' sc.tail) 12 λq=>oP p c'
      (λaX MG d4=>oE fs 14 (oB (Nat.ble aX (d+1)) 13 ((.c c',.c MG)::(q.2++d4 s))))
      (λh kp=>oB (Nat.ble h.aX (d+1)) 15 ((pairs h c' s++q.2)++match fs with
       |[]=>pz (kp (aa 0)) (h.res (aa 0) s) (h.fH (aa 0) s)
       |F::j8=>oR (F::j8) 0 λk c₁ j8=>Z (d+1) q.1 (kp (aa 0)) (λi=>aa (i+1)) c₁ (k (h.res (aa 0) s)) j8 none .jJ (h.fH (aa 0) s)))
      λh1 h2 tT k1 rx k2=>oB (Nat.ble h1.aX (d+1)) 15 (oR fs 45 λk c₁ j8=>
       (pairs h1 c' s++q.2)++(Z (d+1) tT (k1 (aa 0)) (λi=>aa (i+1)) c₁ (k (h1.res (aa 0) s)) j8 none .jJ (h1.fH (aa 0) s)++
        Z (d+1) rx (k2 (aa 0)) (λi=>aa (i+1)) c₁ (k (h2.res (aa 0) s)) j8 none .jJ (h2.fH (aa 0) s)))))))
    (oS (kc c' sc s) 10 λx=>x.2.2.2++Z d x.2.1 p aa c' x.1 fs out sl x.2.2.1)
  | .raise e=>match fs with
   |[]=>oN out 46 (pz p (.error e) s)
   |F::j8=>oR (F::j8) 0 λk c₁ j8=>Z (d+1) sc p aa c₁ (k (.error e)) j8 out sl s
  | .rule _ k=>Z d sc p aa c (k ()) fs out sl s
  | .at _ k=>Z d sc p aa c (k ()) fs out sl s
  | .point _ k=>Z d sc p aa c (k ()) fs out sl s
  | .ask k=>Z d sc p aa c (k g) fs out sl s
  | .fresh k=>Z d sc p aa c (k s.t) fs out sl ⟨s.L,s.G,s.N,s.t+1⟩
  | .handled own k=>oF own 7 (Z d sc p aa c (k none) fs out sl s)
  | .load a _ k=>oC sc 1 λj sc=>oS (iA K s a j) 2 λx=>x.2++Z d sc p aa c (k x.1) fs out sl s
  | .loadIfAlive a k=>oC sc 1 λj sc=>oS (iA K s a j) 2 λx=>x.2++Z d sc p aa c (k (some x.1)) fs out sl s
  | .update a _ f k=>oC sc 1 λj sc=>oB (Nat.beq (j%2) 1) 4 (oS (bP s.L (j/2)) 3 λq=>oF (f q.2).isFreed 5 ((.n a,.n q.1)::Z d sc p aa c (k ()) fs out sl ⟨bg s.L (j/2) (f q.2),s.G,s.N,s.t⟩))
  | .alloc o k=>oF o.isFreed 5 (Z d sc p aa c (k s.N) fs out sl ⟨eO s.L s.N o,s.G,s.N+1,s.t⟩)
  | .call c' hd gd l k=>oN hd 8 (o2 (isZero sc)
   (oG p (λh kp=>oB (Nat.ble h.aX d) 17 (pairs h c' s++Z d sc.tail (kp (aa 0)) (λi=>aa (i+1)) c (k (h.res (aa 0) s)) fs out sl (h.fH (aa 0) s)))
    (oN out 41 (oB (freeSlot sl) 41 (oP p c' (λJ J J=>[(.c c',.n 0)])
     (λh kp=>oB (Nat.ble h.aX d) 17 (pairs h c' s++Z d sc.tail (kp (aa 0)) (λi=>aa (i+1)) c (k (h.res (aa 0) s)) fs none .jJ (h.fH (aa 0) s)))
     λh1 h2 tT k1 rx k2=>oB (Nat.ble h1.aX d) 17 (pairs h1 c' s++(Z d tT (k1 (aa 0)) (λi=>aa (i+1)) c (k (h1.res (aa 0) s)) fs none .jJ (h1.fH (aa 0) s)++
      Z d rx (k2 (aa 0)) (λi=>aa (i+1)) c (k (h2.res (aa 0) s)) fs none .jJ (h2.fH (aa 0) s)))))))
   (oS (kc c' sc s) 19 λx=>oD d 6 λd=>x.2.2.2++Z d x.2.1 p (λi=>aa (i+1)) c' x.1 (.ret k none gd l c (aa 0).p []::fs) out sl x.2.2.1))
  | .stack k=>oC sc 1 λw sc=>match w with
   |0=>Z d sc p (λi=>aa (i+1)) c (k ((c,(aa 0).p)::(aa 0).st)) fs out sl s
   |w+1=>oS (u6 w) 42 λr=>oS (CH K (Bv w) (k [])) 43 λX=>(.q k,.q λst=>PySem.W.R.bindR (tQ r st) λJ=>X)::Z d sc p aa c X fs out sl s
  | .newGen c' k=>oN out 47 (match sl with
   | .none=>oF (wb c') 48 (Z d sc p aa c (k gN) fs none (.fresh c') s)
   |_=>bk 49)
  | .genState i k=>match sl with
   | .fresh c₀=>(.n i,.n gN)::Z d sc p aa c (k (.fresh,some [(c₀,default)])) fs out sl s
   | .susp _ c₀ p₀ AE=>(.n i,.n gN)::Z d sc p aa c (k (.suspended,some ((c₀,p₀)::AE.map Frame.where_))) fs out sl s
   |_=>bk 50
  | .resume i r l k=>oN out 51 (match r with
   | .throw _=>bk 52
   | .send v=>oU v 54 (match sl with
    | .fresh c₀=>oD d 6 λd'=>(.n i,.n gN)::Z d' sc p aa c₀ (den c₀) [] (some ⟨c,k,fs,d⟩) .run s
    | .susp k₀ c₀ p₀ AE=>oB (Nat.ble (AE.length+1) d) 6 ((.n i,.n gN)::Z (d-(AE.length+1)) sc p aa c₀ (k₀ (.send .none)) AE (some ⟨c,k,fs,d⟩) .run s)
    |_=>bk 53))
  | .yield v gd l k=>oF gd 55 (oS out 56 λo=>match sl with
   | .run=>oF (fs.any Frame.guarded) 57 (Z o.d sc p (λi=>aa (i+1)) o.c (o.k (.yielded v)) o.fs none (.susp k c (aa 0).p fs) s)
   |_=>bk 58)
  |_=>bk 9
noncomputable def eh(K:Nat->Option Obj)(g:Setting)(gN:Nat):Nat->Um
 |0=>λJ J J J J J J J J J=>bk 0
 |n+1=>SW K g gN (eh K g gN n)
noncomputable def bX(gN n d:Nat)(sc:List Nat)(p:bE)(aa:RB)(c:Code)(s:aZ):ax:=
 match kc c sc s with
 |some (t,Tx,s,ds)=>ds++eh (H.KP w.params) ⟨H.pw,w.params⟩ gN n d Tx p aa c t [] none .none s
 |none=>bk 21
section
variable{prog:Program}{w:World}{A:Around}{c:Code}{fs:List Frame}{P:End->Shared->Prop}{s:Shared}{R:Result->Shared->Prop}
theorem tK{c':Code}{gd:Bool}{l:List Value}{k:Result->Sem Fin}(hp:∀F∈fs,dw F)(h:codeAny (model prog w) (A.over c fs) c' R s)(hR:∀r s',R r s'->dj (model prog w) A c (k r) fs s' P):dj (model prog w) A c (.call c' none gd l k) fs s P:=by
 have H:vJ (model prog w) (A.over c fs) none (.call c' none gd l .pure:Sem Result) (λr s'=>dj (model prog w) A c (k r) fs s' P) (λx s'=>dj (model prog w) A c (.raise x) fs s' P) s:=ko (by rw [gT];exact codeAny_mono h λr s' hr=>iM (wpAny_pure (Q:=λr s'=>dj (model prog w) A c (k r) fs s' P) (hR r s' hr)))
 exact iL (m:= .call c' none gd l .pure) (k:=k) hp (mV H)
theorem ql{c' c₁:Code}{k:Result->Sem Fin}{g:Bool}{l:List Value}{p₁:Pos}{kp:List Value}(hp:∀F∈fs,dw F)(h:codeAny (model prog w) (A.over c₁ fs) c' R s)(hR:∀r s',R r s'->dj (model prog w) A c₁ (k r) fs s' P):
  dj (model prog w) A c' ((model prog w).den c') (.ret k none g l c₁ p₁ kp::fs) s P:=by
 rintro Γ p rfl hΓ;have hb:=(mX (Γ:=Γ.goto c₁) (hΓ.goto c₁) hp).enter Γ.code none p₁ (by intro x;cases x);rw [gT]at hb;have ho:Γ.over (.ret k none g l c₁ p₁ kp::fs)=((Γ.goto c₁).over fs).enter Γ.code none p₁:=Ctx.over_ret Γ Γ.code k none g l c₁ p₁ kp fs;obtain⟨r,s',hr,Mh⟩:=h (((Γ.goto c₁).over fs).enter Γ.code none p₁) p rfl hb;obtain⟨e,vQ,H9,hq⟩:=hR r s' Mh (Γ.goto c₁) p₁ rfl (hΓ.goto c₁);refine⟨e,vQ,.segRet ?_ H9,hq⟩;rw [ho];exact hr
theorem uQ{c':Code}(h:codeAny (model prog w) A c' R s)(hR:∀r s',R r s'->P (.ret r) s'):dj (model prog w) A c' ((model prog w).den c') [] s P:=by rintro Γ p rfl hΓ;obtain⟨r,s',hr,Mh⟩:=h Γ p rfl hΓ;exact⟨.ret r,s',hr,rfl,hR r s' Mh⟩
theorem tP{w':Nat}{r:Sem Unit}(h:u6 w'=some r):r= .stack (tQ r)/\∀{A:Around} {s:Shared} {Q:Unit->Shared->Prop} {E:Value->Shared->Prop},ff 0 A->s.heap.NoLimit->Q () s->wpAny (model prog w) A r Q E s:=by
 unfold u6 at h;split at h
 ·obtain rfl:=Option.some.inj h;rw [<-Fast.te15066281185411960212];exact⟨rfl,λhA hl hq=>wpAny_enterFrame hl (by have:=hA.F9;show _<1000;lia) hq⟩
 ·obtain rfl:=Option.some.inj h;rw [<-Fast.te3139746846981162851];exact⟨rfl,λhA hl hq=>wpAny_roomToWake hl (by have:=hA.F9;show _<1000;lia) hq⟩
 ·split at h
  ·obtain rfl:=Option.some.inj h;rw [<-Fast.te10648789137845014744];exact⟨rfl,λhA hl hq=>wpAny_cRoom (by have:=hA.un;show _<9900;lia) hq⟩
  ·cases h
theorem Dw{w':Nat}{r:Sem Unit}{k:List (Code × Pos)->Sem Fin}{X:Sem Fin}(hr:u6 w'=some r)(hk:k=λst=>PySem.W.R.bindR (tQ r st) λJ=>X)(hp:∀F∈fs,dw F)(hA:ff 0 (A.over c fs))(hl:s.heap.NoLimit)(x:dj (model prog w) A c X fs s P):
  dj (model prog w) A c (.stack k) fs s P:=by
 obtain⟨h1,h2⟩:=tP (prog:=prog) (w:=w) hr;have e:(.stack k:Sem Fin)=r.wrap (λJ=>X) .raise id id:=by
  rw [<-Sem.bind_eq_wrap]
  conv=>rhs;rw [h1]
  rw [hk,<-PySem.W.R.bindR_eq];rfl
 rw [e];exact iL hp (h2 hA hl x)
end
def GR(gN:Nat)(g:Array GenState):Slot->Prop
 | .none=>g.size=gN
 | .fresh c=>g[gN]? =some (.fresh c)/\eM c
 | .susp k c p fs=>(∃l,g[gN]? =some (.suspended k l c p fs false))/\(∀F∈fs,dw F)/\eM c
 | .run=>∃x,g[gN]? =some x
 | .jJ=>True
theorem qz{g:Array GenState}{i:Nat}{x y:GenState}(h:g[i]? =some x):(g.setIfInBounds i y)[i]? =some y:=by obtain⟨hi,J⟩:=Array.getElem?_eq_some_iff.mp h;simp [hi]
section
variable(w:World)(R:aA)(ai:Result->aj->aZ->Prop)(os:OsState)(F₀:aj)(gN:Nat)(Am:Around)
def PO:Option Aj->End->Shared->Prop
 |none=>λe s'=>∃r,e= .ret r/\bI w R os F₀ ai r s'
 |some o=>λe s₁=>dj (model H.pw w) Am o.c (o.k e.result) o.fs (s₁.setGen gN e.genState) λe s'=>∃r,e= .ret r/\bI w R os F₀ ai r s'
def Jl:Option Aj->Prop
 |none=>True
 |some o=>ff (o.d+o.fs.length+1) Am/\(∀F∈o.fs,dw F)/\eM o.c
end
theorem sT{prog:Program}{w:World}{CP:String}{args:Args}{b:Builtin}(hb:entryFor table CP=some b):(model prog w).den (.builtin CP args)=b args:=by show(match entryFor table CP with|some b=>b args|none=>unsupported ((withoutEnding? CP "#data").getD CP))=b args;rw [hb]
theorem rC{prog:Program}{w:World}{A:Around}{E:Value->Shared->Prop}{h:Heap}{g:Array GenState}{d:Drawn}{t:Nat}{os:OsState}{S I:Addr}{gn:Nat}{Q:Fin->Shared->Prop}(hS:h.get? S=some dp)(hI:h.IsGen I gn)(dY:S≠I)
  (hq:∀h',Heap.SameBut S h h'->h'.get? S=some (HM dp)->Q (.again (.builtin "list.extend.loop" ⟨[.ref S,.ref I,.none],[]⟩)) ⟨h',g,d,t,os⟩):wpAny (model prog w) A (Builtin.«list.__init__» ⟨[.ref S,.ref I],[]⟩) Q E ⟨h,g,d,t,os⟩:=by
 show wpAny _ A (do let old<-Builtin.List.listItems (.ref S);Builtin.List.listUpdate (.ref S) (λJ=> #[]);letGo old.toList.reverse;Builtin.List.listExtendWith (.ref S) (.ref I) .none) _ _ _;refine wpAny_bind ?_;unfold Builtin.List.listItems;refine wpAny_bind (wpAny_seqItems hS rfl (wpAny_pure ?_));show wpAny _ A (updateSeq S (λJ=> #[])>>=λJ=>letGo (#[]:aV).toList.reverse>>=λJ=>Builtin.List.listExtendWith (.ref S) (.ref I) .none) _ _ _;refine wpAny_bind (wpAny_updateSeq hS rfl ?_);have N8:=Heap.get?_update_self (Obj.mapSeq (λJ=>(#[]:aV))) hS rfl;have Nk:Heap.SameBut S h (h.update S (Obj.mapSeq (λJ=>(#[]:aV)))):=Heap.SameBut.update ..;have JV:=hI.sameBut Nk dY.symm;refine wpAny_bind (wpAny_letGo ?_);unfold Builtin.List.listExtendWith;refine wpAny_bind (wpAny_typeOf (Heap.IsGen.typeIs (s:=⟨_,g,d,t,os⟩) JV) ?_);have h1:Builtin.List.listSameRef (.ref S) (.ref I)=false:=by simp [Builtin.List.listSameRef,dY]
 have h2:(Value.type "generator"==Value.type "list")=false:=by decide
 have h3:(Value.type "generator"==Value.type "tuple")=false:=by decide
 simp only [h1,h2,h3,Bool.or_false,Bool.false_eq_true,if_false];refine wpAny_bind (wpAny_pyIter_gen JV ?_);refine wpAny_bind (wpAny_holding ?_);unfold Builtin.List.listLengthHint;refine wpAny_bind (wpAny_specialOf (Heap.IsGen.typeIs (s:=⟨_,g,d,t,os⟩) JV) PySem.F.gen_no_len ?_);show wpAny _ A (specialOf (Value.ref I) (Str.ofString "__length_hint__")>>=_) _ _ _;refine wpAny_bind (wpAny_specialOf (Heap.IsGen.typeIs (s:=⟨_,g,d,t,os⟩) JV) PySem.F.gen_no_hint ?_);refine wpAny_pure ?_;show wpAny _ A (rule "list.extend.makes-room">>=λJ=>Builtin.List.listTouch (.ref S)>>=λJ=>again (.builtin "list.extend.loop" ⟨[.ref S,.ref I,.none],[]⟩)) _ _ _;refine wpAny_bind (wpAny_rule ?_);refine wpAny_bind ?_;show wpAny _ A (updateSeq S (·.push .none)>>=λJ=>updateSeq S (·.pop)) _ _ _;refine wpAny_bind (wpAny_updateSeq N8 rfl ?_);have IF:=Heap.get?_update_self (Obj.mapSeq (·.push Value.none)) N8 rfl;refine wpAny_updateSeq (hz:=by seq_fits) IF rfl ?_;have Mg:=Heap.get?_update_self (Obj.mapSeq (·.pop)) IF rfl;exact wpAny_pure (hq _ (Nk.trans ((Heap.SameBut.update ..).trans (Heap.SameBut.update ..))) Mg)
section
variable{w:World}{F:aj}{R:aA}{h:Heap}
theorem Rf{L R:aA}{i j:Nat}{p q:Addr × Obj}(hd:((L++R).map (·.1)).Nodup)(hp:bP L i=some p)(hq:bP L j=some q)(SH:Nat.beq i j=false):p.1≠q.1:=by
 have Ih:(L.map (·.1)).Nodup:=by rw [List.map_append]at hd;exact(List.nodup_append.mp hd).1
 have LQ:i≠j:=λh=>by rw [h,Nat.beq_refl]at SH;cases SH
 intro e;rw [eU]at hp hq;obtain⟨hi,C9⟩:=List.getElem?_eq_some_iff.mp hp;obtain⟨hj,JN⟩:=List.getElem?_eq_some_iff.mp hq;rw [List.Nodup,List.pairwise_iff_getElem]at Ih;rcases Nat.lt_or_gt_of_ne LQ with rz|rz
 ·exact Ih i j (by simpa using hi) (by simpa using hj) rz (by simp [C9,JN,e])
 ·exact Ih j i (by simpa using hj) (by simpa using hi) rz (by simp [C9,JN,e])
theorem mv{c:Code}{sc:List Nat}{s:aZ}{x:Sem Fin × List Nat × aZ × ax}(e:kc c sc s=some x)(hd:aY x.2.2.2)(Rl:bO (H.KP w.params) F R h s):
  eM c/\c.quiet=true/\∀{A:Around} {fs:List Frame} {P:End->Shared->Prop} {g:Array GenState} {dr:Drawn} {os:OsState},(∀F∈fs,dw F)->
   (∀h',bO (H.KP w.params) F R h' x.2.2.1->dj (model H.pw w) A c x.1 fs ⟨h',g,dr,x.2.2.1.t,os⟩ P)->dj (model H.pw w) A c ((model H.pw w).den c) fs ⟨h,g,dr,s.t,os⟩ P:=by
 have Iv:(model H.pw w).den c=den c:=congrFun uH c;cases sc with
 |nil=>cases e
 |cons x sc=>
 rcases x with _|_|_|_|i
 ·cases e
 ·refine U4 e λhb e=> ?_;cases e;have dY:∀id args,c≠.builtin id args:=λid args h=>by rw [h]at hb;cases hb
  exact⟨cR dY,hV dY,λJ hP=>by rw [Iv];exact hP h Rl⟩
 ·refine rA e λp hp e=>rA e λq hq e=>U4 e λSH e=> ?_;cases e;have e1:=aY.cons.mp hd;have e2:=aY.cons.mp e1.2;have FP:=cp.o.inj (aY.cons.mp e2.2).1;have wW:plainId "list.__init__"=true:=by decide+kernel
  rw [cp.c.inj e1.1];refine⟨i3 wW _,plainId_quiet wW _,λLq hP=> ?_⟩;have mp:=Rl.mem _ (List.mem_append_left _ (aJ hp));have mq:=Rl.mem _ (List.mem_append_left _ (aJ hq));rw [cp.o.inj e2.1]at mp;rw [show(model H.pw w).den (.builtin "list.__init__" ⟨[.ref p.1,.ref q.1],[]⟩)=(Builtin.«list.__init__» ⟨[.ref p.1,.ref q.1],[]⟩).wrap .pure .raise id id by rw [<-Sem.bind_eq_wrap];rw [sT PySem.F.entry_list_init];exact(bind_pure (Builtin.«list.__init__» ⟨[.ref p.1,.ref q.1],[]⟩)).symm]
  exact iL Lq (rC mp ⟨_,_,_,mq,congrArg Obj.cls FP,congrArg Obj.data FP,congrArg Obj.slots FP⟩ (Rf Rl.nd hp hq SH) λh' sb ho=>hP h' (Rl.mW hp sb ho))
 ·cases e
 ·refine rA e λg hg e=> ?_;cases e;have hc:=cp.c.inj (aY.cons.mp hd).1;have hm:g∈gp.tail:=aJ hg;exact⟨by rw [hc];exact ou (List.mem_of_mem_tail hm) _,by rw [hc];exact j7 hm _,λJ hP=>by rw [Iv];rw [<-hc]at hP;exact hP h Rl⟩
end
section
variable{w:World}{R:aA}{ai:Result->aj->aZ->Prop}{F₀:aj}{gN:Nat}{Am:Around}
variable(w R ai F₀ gN Am)in
abbrev T8(Z:Um):Prop:=∀{d:Nat} {sc:List Nat} {p:bE} {c:Code} {t:Sem Fin} {fs:List Frame} {out:Option Aj} {sl:Slot} {s:aZ} {F:aj} {h:Heap} {g:Array GenState} {dr:Drawn} {os:OsState} {A:Around},
  F₀.le F->bO (H.KP w.params) F R h s->GR gN g sl->Jl Am out->(out=none->A=Am)->ff (d+fs.length+1) A->(∀F∈fs,dw F)->eM c->
  (∀aa,aY (Z d sc p aa c t fs out sl s))->VC w R ai F p->dj (model H.pw w) A c t fs ⟨h,g,dr,s.t,os⟩ (PO w R ai os F₀ gN Am out)
theorem iR{n:Nat}{C:Prop}{fs:List Frame}{f:(Nat->aL)->(Result->Sem Fin)->Code->List Frame->ax}(h:∀o,aY (oR fs n (f o)))(k:∀k hd g l c₁ p₁ kp j8,fs= .ret k hd g l c₁ p₁ kp::j8->(∀o,aY (f o k c₁ j8))->C):C:=by
 cases fs with
 |nil=>cases ae (h oz)
 |cons F j8=>cases F with
  |ret k' hd g l c₁ p₁ kp=>exact k k' hd g l c₁ p₁ kp j8 rfl h
  |_=>cases ae (h oz)
theorem iG{C:Prop}{p:bE}{f:(Nat->aL)->az->(aL->bE)->ax}{x:(Nat->aL)->ax}(h:∀o,aY (oG p (f o) (x o)))(k:∀h k,p= .C7 h k->(∀o,aY (f o h k))->C)(k':(∀o,aY (x o))->C):C:=by
 cases p with
 |C7 h' k2=>exact k h' k2 rfl h
 |_=>exact k' h
theorem iU{n:Nat}{C:Prop}{v:Value}{x:(Nat->aL)->ax}(h:∀o,aY (oU v n (x o)))(k:v= .none->(∀o,aY (x o))->C):C:=by
 cases v with
 |none=>exact k rfl h
 |_=>cases ae (h oz)
theorem Tr{Z:Um}(ih:T8 w R ai F₀ gN Am Z):T8 w R ai F₀ gN Am (SW (H.KP w.params) ⟨H.pw,w.params⟩ gN Z):= @λd sc p c t fs out sl s F h g dr os A l Rl Gr Oo oA Ro Pf Lc hd V=>by
 have Fo:ff d (A.over c fs):=jn Ro Pf Lc;cases t with
 |pure fin=>
  cases fin with
  |done f=>
   cases fs with
   |nil=>cases out with
    |none=>exact w4 (r:= .ok f) ⟨.ok f,rfl,jB l Rl (hd oz) V⟩
    |some o=>obtain⟨O1,O2,O3⟩:=Oo;exact w4 (r:= .ok f) (ih (d:=o.d) (out:=none) (sl:= .jJ) (A:=Am) l Rl trivial trivial (λJ=>rfl) O1 O2 O3 hd V)
   |cons F' j8=>cases F' with
    |ret k wh g' l' c₁ p₁ kp=>exact Cv (r:= .ok f) (ih l Rl Gr Oo oA (Ro.le (by simp only [List.length_cons];lia)) (λF hF=>Pf F (.tail _ hF)) (Pf _ (.head _)).2 hd V)
    |_=>cases ae (hd oz)
  |again c'=>
   dsimp only [SW]at hd;refine i2 hd ?_ ?_<;>clear hd<;>intro J hd
   ·refine iG hd ?_ ?_<;>clear hd
    ·intro hk kp e hd;refine iS hd ?_;clear hd;intro q eq hd;refine iB hd ?_;clear hd;intro hb hd;refine iR hd ?_;clear hd;intro k wh g' l' c₁ p₁ NN j8 ef hd;have h0:=aY.iK.mp (aY.iK.mp (hd oz)).1;obtain⟨p1,p2⟩:=bV h0.1;have V:VC w R ai F (.C7 hk kp):=e▸V;rw [ef]at Pf Ro⊢;have hF:=Pf _ (.head _);obtain rfl:wh=none:=hF.1;have uO:∀F∈j8,dw F:=λF hF=>Pf F (.tail _ hF);have Cq:ff (d+1+j8.length+1) A:=Ro.le (by simp only [List.length_cons];lia);exact jk (fL eq h0.2) (ql uO (((V.1 c' s p1 p2) h g dr os Rl).le (Nat.le_of_ble_eq_true hb) _ (jn Cq uO hF.2)) (Tq λa h' Rm hl cu hf=>ih (sl:=sl) (l.trans hl) cu Gr Oo oA Cq uO hF.2 (λaa=>eR hd (eL a aa)) (V.2 a hl hf)))
    ·intro hd;refine iN hd ?_;clear hd;intro eo hd;obtain rfl:=oA eo;rw [eo];refine iB hd ?_;clear hd;intro J hd;refine iS hd ?_;clear hd;intro q eq hd;refine iP hd ?_ ?_ ?_<;>clear hd
     ·intro aX MG d4 e hd;refine iE hd ?_;clear hd;intro ef hd;refine iB hd ?_;clear hd;intro hb hd;have h1:=aY.cons.mp (hd oz);have h2:=aY.iK.mp h1.2;have V:VC w R ai F (.again aX MG d4):=e▸V;rw [ef,show c'=MG from cp.c.inj h1.1];have:=((V s h2.2) h g dr os Rl).le (Nat.le_of_ble_eq_true hb);exact jk (cp.c.inj h1.1▸fL eq h2.1) (uQ (this A (Ro.le (by simp))) λr s' h'=>⟨r,rfl,h'.up l⟩)
     ·intro hk kp e hd;refine iB hd ?_;clear hd;intro hb hd;have h0:=aY.iK.mp (aY.iK.mp (hd oz)).1;obtain⟨p1,p2⟩:=bV h0.1;have V:VC w R ai F (.hk hk kp):=e▸V;have hv:=((V.1 c' s p1 p2) h g dr os Rl).le (Nat.le_of_ble_eq_true hb);replace hd:=eR hd;cases fs with
      |nil=>exact jk (fL eq h0.2) (uQ (hv A (Ro.le (by simp))) (p7 λa h' g' Rm hl cu hf=>⟨_,rfl,jB (l.trans hl) cu (hd (eL a oz)) (V.2 a hl hf)⟩))
      |cons F1 Uw=>refine iR hd ?_;clear hd;intro k wh g' l' c₁ p₁ NN j8 ef hd;rw [ef]at Pf Ro⊢;have hF:=Pf _ (.head _);obtain rfl:wh=none:=hF.1;have uO:∀F∈j8,dw F:=λF hF=>Pf F (.tail _ hF);have Cq:ff (d+1+j8.length+1) A:=Ro.le (by simp only [List.length_cons];lia);exact jk (fL eq h0.2) (ql uO (hv _ (jn Cq uO hF.2)) (p7 λa h' g' Rm hl cu hf=>ih (sl:= .jJ) (l.trans hl) cu trivial trivial (λJ=>rfl) Cq uO hF.2 (λaa=>hd (eL a aa)) (V.2 a hl hf)))
     ·intro h1 h2 tT k1 rx k2 e hd;refine iB hd ?_;clear hd;intro hb hd;refine iR hd ?_;clear hd;intro k wh g' l' c₁ p₁ NN j8 ef hd;have h0:=aY.iK.mp (aY.iK.mp (hd oz)).1;obtain⟨p1,p2⟩:=bV h0.1;have V:VC w R ai F (.two h1 h2 tT k1 rx k2):=e▸V;rw [ef]at Pf Ro⊢;have hF:=Pf _ (.head _);obtain rfl:wh=none:=hF.1;have uO:∀F∈j8,dw F:=λF hF=>Pf F (.tail _ hF);have Cq:ff (d+1+j8.length+1) A:=Ro.le (by simp only [List.length_cons];lia);replace hd:=eR hd;exact jk (fL eq h0.2) (ql uO (((V.1 c' s p1 p2) h g dr os Rl).le (Nat.le_of_ble_eq_true hb) _ (jn Cq uO hF.2)) (SX (λa h' g' Rm hl cu hf=>ih (sl:= .jJ) (l.trans hl) cu trivial trivial (λJ=>rfl) Cq uO hF.2 (λaa=>(aY.iK.mp (hd (eL a aa))).1) (V.2.1 a hl hf))
       λa h' g' Rm hl cu hf=>ih (sl:= .jJ) (l.trans hl) cu trivial trivial (λJ=>rfl) Cq uO hF.2 (λaa=>(aY.iK.mp (hd (eL a aa))).2) (V.2.2 a hl hf)))
   ·refine iS hd ?_;clear hd;intro x e hd;have he:=mv e (aY.iK.mp (hd oz)).1 Rl;exact jk he.2.1 (he.2.2 Pf λh' cu=>ih (s:=x.2.2.1) l cu Gr Oo oA Ro Pf he.1 (eR hd) V)
 |raise e=>
  cases fs with
  |nil=>exact iN hd λeo hd=>eo▸w4 (r:= .error e) ⟨.error e,rfl,jB l Rl (hd oz) V⟩
  |cons F1 Uw=>dsimp only [SW]at hd;refine iR hd λk wh g' l' c₁ p₁ NN j8 ef hz=> ?_;rw [ef]at Pf Ro⊢;exact Cv (r:= .error e) (ih l Rl Gr Oo oA (Ro.le (by simp only [List.length_cons];lia)) (λF hF=>Pf F (.tail _ hF)) (Pf _ (.head _)).2 hz V)
 |rule tg k=>exact iL (m:=rule tg) (k:=k) Pf (wpAny_rule (ih l Rl Gr Oo oA Ro Pf Lc hd V))
 |«at» q k=>exact iL (m:=standAt q) (k:=k) Pf (wpAny_standAt (ih l Rl Gr Oo oA Ro Pf Lc hd V))
 |point _ k=>exact AK (ih l Rl Gr Oo oA Ro Pf Lc hd V)
 |ask k=>exact iL (m:=ask) (k:=k) Pf (wpAny_askSetting (ih l Rl Gr Oo oA Ro Pf Lc hd V))
 |fresh k=>exact iL (m:=fresh) (k:=k) Pf (wpAny_fresh (ih (s:=⟨s.L,s.G,s.N,s.t+1⟩) l (Rl.toks _) Gr Oo oA Ro Pf Lc hd V))
 |handled own k=>cases own with
  |false=>exact iL (m:=handled) (k:=k) Pf (wpAny_handled (by rw [Fo.hd];exact ih l Rl Gr Oo oA Ro Pf Lc hd V))
  |true=>cases ae (hd oz)
 |load a q k=>dsimp only [SW]at hd;exact iC hd λj Tx J hd=>iS hd λx e hd=>iL (m:=loadPart a q) (k:=k) Pf (wpAny_loadPart (Rl.d4 e (aY.iK.mp (hd oz)).1) (ih l Rl Gr Oo oA Ro Pf Lc (eR hd) V))
 |loadIfAlive a k=>dsimp only [SW]at hd;exact iC hd λj Tx J hd=>iS hd λx e hd=>AL (Rl.d4 e (aY.iK.mp (hd oz)).1) (ih l Rl Gr Oo oA Ro Pf Lc (eR hd) V)
 |update a q f k=>dsimp only [SW]at hd;refine iC hd λj Tx J hd=>iB hd λJ hd=>iS hd λp' e hd=>iF hd ?_;intro e2 hz;clear hd;obtain rfl:=cp.n.inj (aY.cons.mp (hz oz)).1;exact iL (m:=updatePart p'.1 q f) (k:=k) Pf (wpAny_updatePart (Rl.mem _ (List.mem_append_left _ (aJ e))) (ih (s:=⟨bg s.L _ (f p'.2),s.G,s.N,s.t⟩) l (Rl.update e e2) Gr Oo oA Ro Pf Lc (eC hz) V))
 |alloc o k=>dsimp only [SW]at hd;refine iF hd λe hd=>iL (m:=alloc o) (k:=k) Pf (wpAny_alloc ?_);have es:h.objs.size=s.N:=Rl.size;show dj _ _ _ (k h.objs.size) _ _ _;rw [es];exact ih (s:=⟨eO s.L s.N o,s.G,s.N+1,s.t⟩) l (Rl.alloc e) Gr Oo oA Ro Pf Lc hd V
 |call c' wh gd l' k=>
  dsimp only [SW]at hd;refine iN hd ?_;clear hd;intro e0 hd;rw [e0];refine i2 hd ?_ ?_<;>clear hd<;>intro J hd
  ·refine iG hd ?_ ?_<;>clear hd
   ·intro hk kp e hd;refine iB hd ?_;clear hd;intro hb hd;obtain⟨p1,p2⟩:=bV (aY.iK.mp (hd oz)).1;have V:VC w R ai F (.C7 hk kp):=e▸V;exact tK Pf (((V.1 c' s p1 p2) h g dr os Rl).le (Nat.le_of_ble_eq_true hb) _ Fo) (Tq λa h' Rm hl cu hf=>ih (sl:=sl) (l.trans hl) cu Gr Oo oA Ro Pf Lc (λaa=>eR hd (eL a aa)) (V.2 a hl hf))
   ·intro hd;refine iN hd ?_;clear hd;intro eo hd;obtain rfl:=oA eo;rw [eo];refine iB hd ?_;clear hd;intro J hd;refine iP hd ?_ ?_ ?_<;>clear hd
    ·exactλJ J J J hd=>(mE (hd oz)).elim
    ·intro hk kp e hd;refine iB hd ?_;clear hd;intro hb hd;obtain⟨p1,p2⟩:=bV (aY.iK.mp (hd oz)).1;have V:VC w R ai F (.hk hk kp):=e▸V;exact tK Pf (((V.1 c' s p1 p2) h g dr os Rl).le (Nat.le_of_ble_eq_true hb) _ Fo) (p7 λa h' g' Rm hl cu hf=>ih (sl:= .jJ) (l.trans hl) cu trivial trivial (λJ=>rfl) Ro Pf Lc (λaa=>eR hd (eL a aa)) (V.2 a hl hf))
    ·intro h1 h2 tT k1 rx k2 e hd;refine iB hd ?_;clear hd;intro hb hd;obtain⟨p1,p2⟩:=bV (aY.iK.mp (hd oz)).1;have V:VC w R ai F (.two h1 h2 tT k1 rx k2):=e▸V;replace hd:=eR hd;exact tK Pf (((V.1 c' s p1 p2) h g dr os Rl).le (Nat.le_of_ble_eq_true hb) _ Fo) (SX (λa h' g' Rm hl cu hf=>ih (sl:= .jJ) (l.trans hl) cu trivial trivial (λJ=>rfl) Ro Pf Lc (λaa=>(aY.iK.mp (hd (eL a aa))).1) (V.2.1 a hl hf))
      λa h' g' Rm hl cu hf=>ih (sl:= .jJ) (l.trans hl) cu trivial trivial (λJ=>rfl) Ro Pf Lc (λaa=>(aY.iK.mp (hd (eL a aa))).2) (V.2.2 a hl hf))
  ·refine iS hd ?_;clear hd;intro x e hd;refine iD hd ?_;clear hd;intro d' ed hd;have he:=mv e (aY.iK.mp (hd oz)).1 Rl;refine Dx λp'=> ?_;have uO:∀F∈(.ret k none gd l' c p' []::fs:List Frame),dw F:=λF hF=>by
    rcases List.mem_cons.mp hF with rfl|hF
    ·exact⟨rfl,Lc⟩
    ·exact Pf F hF
   exact he.2.2 uO λh' cu=>ih (s:=x.2.2.1) l cu Gr Oo oA (Ro.le (by simp only [List.length_cons];lia)) uO he.1 (λaa=>eR hd (eL {oz 0 with p:=p'} aa)) V
 |stack k=>
  dsimp only [SW]at hd;refine iC hd ?_;clear hd;intro wd Tx J hz;cases wd with
  |zero=>exact AJ λp' below=>ih l Rl Gr Oo oA Ro Pf Lc (λaa=>hz (eL {oz 0 with p:=p',st:=below} aa)) V
  |succ wd=>exact iS hz λr hr hz=>iS hz λX J hz=>Dw hr (cp.q.inj (aY.cons.mp (hz oz)).1) Pf (Fo.le (Nat.zero_le _)) (Bx Rl) (ih l Rl Gr Oo oA Ro Pf Lc (eC hz) V)
 |newGen c' k=>
  dsimp only [SW]at hd;refine iN hd ?_;clear hd;intro eo hz;rw [eo];cases sl with
  |none=>refine iF hz λhb hz=> ?_;have fh:g.size=gN:=Gr;have hl:eM c':=cR (by rintro id args rfl;cases hb);refine w3 ?_;show dj _ _ _ (k g.size) _ _ _;rw [fh];exact ih (sl:=(.fresh c')) l Rl ⟨by rw [<-fh];simp,hl⟩ trivial (λJ=>oA eo) Ro Pf Lc hz V
  |_=>cases ae (hz oz)
 |genState i k=>
  cases sl with
  |fresh c₀=>obtain rfl:=cp.n.inj (aY.cons.mp (hd oz)).1;exact nu Gr.1 (ih l Rl Gr Oo oA Ro Pf Lc (eC hd) V)
  |susp k₀ c₀ p₀ AE=>obtain rfl:=cp.n.inj (aY.cons.mp (hd oz)).1;obtain⟨l₀,hg⟩:=Gr.1;exact nu hg (ih l Rl Gr Oo oA Ro Pf Lc (eC hd) V)
  |_=>cases ae (hd oz)
 |resume i r l' k=>
  dsimp only [SW]at hd;refine iN hd ?_;clear hd;intro eo hz;obtain rfl:=oA eo;rw [eo];cases r with
  |throw _=>cases ae (hz oz)
  |send v=>
   refine iU hz ?_;clear hz;intro ev hz;rw [ev];cases sl with
   |fresh c₀=>refine iD hz ?_;clear hz;intro d' ed hz;subst ed;obtain rfl:=cp.n.inj (aY.cons.mp (hz oz)).1;refine tJ Pf Gr.1 ?_;rw [show(model H.pw w).den c₀=den c₀ from congrFun uH c₀];exact ih (out:=(some ⟨c,k,fs,d'+1⟩)) (sl:= .run) l Rl ⟨_,qz Gr.1⟩ ⟨Ro,Pf,Lc⟩ (λx=>by cases x) (Fo.le (by simp)) (by intro F hF;cases hF) Gr.2 (eC hz) V
   |susp k₀ c₀ p₀ AE=>refine iB hz ?_;clear hz;intro hb hz;have hle:=Nat.le_of_ble_eq_true hb;obtain rfl:=cp.n.inj (aY.cons.mp (hz oz)).1;obtain⟨⟨l₀,hg⟩,wW,PE⟩:=Gr;exact tH Pf hg (ih (out:=(some ⟨c,k,fs,d⟩)) (sl:= .run) l Rl ⟨_,qz hg⟩ ⟨Ro,Pf,Lc⟩ (λx=>by cases x) (Fo.le (by lia)) wW PE (eC hz) V)
   |_=>cases ae (hz oz)
 |yield v gd l' k=>
  dsimp only [SW]at hd;refine iF hd ?_;clear hd;intro eg hd;refine iS hd ?_;clear hd;intro o eo hz;subst eg eo;cases sl with
  |run=>
   refine iF hz λJQ hz=> ?_;obtain⟨O1,O2,O3⟩:=Oo;refine AI Pf JQ λp'=> ?_;have e:End.genState (.susp v false l' k c p' fs)= .suspended k l' c p' fs false:=by show GenState.suspended k l' c p' fs (false||fs.any Frame.guarded)=_;rw [JQ];rfl
   show dj (model H.pw w) Am o.c (o.k (.yielded v)) o.fs (Shared.setGen ⟨h,g,dr,s.t,os⟩ gN (End.genState (.susp v false l' k c p' fs))) _;rw [e];obtain⟨x,hx⟩:=Gr;exact ih (d:=o.d) (out:=none) (sl:=(.susp k c p' fs)) (A:=Am) l Rl ⟨⟨l',qz hx⟩,Pf,Lc⟩ trivial (λJ=>rfl) O1 O2 O3 (λaa=>hz (eL {oz 0 with p:=p'} aa)) V
  |_=>cases ae (hz oz)
 |_=>cases ae (hd oz)
theorem pX:∀n,T8 w R ai F₀ gN Am (eh (H.KP w.params) ⟨H.pw,w.params⟩ gN n)
 |0=>λJ J J J J J J J hd J=>(ae (hd oz)).elim
 |n+1=>Tr (pX n)
theorem aD.d0{F:aj}{st:aZ}{c:Code}{n d aX:Nat}{sc:List Nat}{p:bE}(hl:d+1<=aX)(e:∀gN aa,(bX w gN n d sc p aa c st).map (·.1)=(bX w gN n d sc p aa c st).map (·.2))
  (V:VC w R ai F p):aD w R F st aX c ai:=by
 intro h g dr os Rl A hA;have e':∀aa,aY (bX w g.size n d sc p aa c st):=λaa=>Rt (e g.size aa);unfold bX at e';split at e'
 ·rename_i t0 wJ s1 Rg e1;have he:=mv e1 (aY.iK.mp (e' oz)).1 Rl;refine rk (he.2.2 (by intro F hF;cases hF) λh' cu=> ?_);exact pX (gN:=g.size) (Am:=A) n (out:=none) (sl:= .none) (g:=g) (dr:=dr) (os:=os) (A:=A) (s:=s1) (aj.le.refl F) cu rfl trivial (λ_=>rfl) (hA.le (by simp;lia)) (by intro F hF;cases hF) he.1 (eR e') V
 ·exact(ae (e' oz)).elim
end
theorem fX{a:Array GenState}{g:Nat}{x:GenState}(h:AllBare a)(hx:x.bare=true):AllBare (a.setIfInBounds g x):=λy hy=>by
 obtain⟨i,hi⟩:=Array.mem_iff_getElem?.mp hy;rw [Array.getElem?_setIfInBounds]at hi;split at hi
 ·split at hi
  ·rw [<-Option.some.inj hi];exact hx
  ·cases hi
 ·exact h y (Array.mem_iff_getElem?.mpr ⟨i,hi⟩)
theorem vR{M:Model}{Γ:Ctx}{p:Pos}{t:Sem Fin}{fs:List Frame}{s s':Shared}{e:End}(h:Runs M Γ p t fs s e s'):AllBare s.gens->AllBare s'.gens:=by
 induction h with
 |done=>exactλb=>b
 |raise=>exactλb=>b
 |yield=>exactλb=>b
 |again _ _ ih=>exact ih
 |rule _ ih=>exact ih
 |«at» _ ih=>exact ih
 |load _ _ ih=>exact ih
 |update _ _ ih=>exact ih
 |loadIfAlive _ ih=>exact ih
 |point _ ih=>exact ih
 |alloc _ ih=>exact ih
 |fresh _ ih=>exact ih
 |ask _ ih=>exact ih
 |choose _ _ ih=>exact ih
 |os _ ih=>exact ih
 |handled _ ih=>exact ih
 |genState _ _ ih=>exact ih
 |stack _ ih=>exact ih
 |thread _ ih=>exact ih
 |newGen _ ih=>exactλb=>ih (b.push rfl)
 |call _ _ zf ze=>exactλb=>ze (zf b)
 |callSusp _ ih=>exact ih
 |resumeFresh _ _ hq _ zf ze=>exactλb=>ze (fX (zf (fX b rfl)) (End.bare_of_quiet hq))
 |resumeSuspended _ _ hq _ zf ze=>exactλb=>ze (fX (zf (fX b rfl)) (End.bare_of_quiet hq))
 |resumeJustStarted _ _ _ ih=>exact ih
 |resumeThrowFresh _ _ ih=>exactλb=>ih (fX b rfl)
 |resumeRunning _ _ ih=>exact ih
 |resumeFinished _ _ ih=>exact ih
 |segRet _ _ zf ze=>exactλb=>ze (zf b)
 |segGen _ _ zf ze=>exactλb=>ze (fX (zf b) rfl)
 |segSuspOut _ _ ih=>exact ih
 |segSuspGen _ _ hq _ zf ze=>exactλb=>ze (fX (zf b) (End.bare_of_quiet hq))
theorem rl{M:Model}{A:Around}{c:Code}{R:Result->Shared->Prop}{s:Shared}(h:codeAny M A c R s)(hb:AllBare s.gens):codeAny M A c (λr s'=>R r s'/\AllBare s'.gens) s:=λΓ p hc hΓ=>by obtain⟨r,s',hr,hR⟩:=h Γ p hc hΓ;exact⟨r,s',hr,hR,vR hr hb⟩
end Mine
end
section
open PySem PySem.W PyProof.Rows PySem.Builtin
namespace Mine
namespace H
section
noncomputable abbrev nA:aU:= #[97]
noncomputable abbrev nB:aU:= #[98,46,99]
noncomputable abbrev jS(u:Nat)(s:aU)(v:Nat):Obj:=dU (.int 33188 u) (.bytes s v)
structure dN where
 tb:Nat
 td:Nat
 te:Nat
 k1:Nat
 k2:Nat
 k3:Nat
 k4:Nat
 k5:Nat
def er(q:dN):Obj:=TI.zc P q.k1 q.k2 q.k3 q.k4 q.k5 q.te
structure Ti where
 a:Nat
 u:Nat
 s:aU
 v:Nat
noncomputable abbrev teO(dx:Addr)(vs:aV):Obj:={cls:= .ref 750,dict:=some dx,data:= .seq vs 0}
def j4(i j:Nat)(r d:Addr)(k1 k2:aU)(v1 v2:Value)(ts:nN)(ep:Nat):az:=⟨4,λJ=> .builtin "proto.collect" ⟨[.ref r],[]⟩,λst=>[(.p (bP st.L i),.p (some (r,{cls:= .type "dict_items",data:= .fields #[.ref d]}))),(.p (bP st.L j),.p (some (d,bN w.params [(k1,v1),(k2,v2)] ts ep)))],
 λa J=> .ok (.ret (.ref (a.k 0))),λa st=>⟨st.L++[(a.k 0,aw #[.ref (a.k 1),.ref (a.k 2)] (a.k 3)),(a.k 1,dU (.bytes k1 (a.k 4)) v1),(a.k 2,dU (.bytes k2 (a.k 5)) v2)],st.G,a.N,a.t⟩,same⟩
variable{w}
def mi(i:Nat)(r:Addr)(vs:aV):az:=⟨4,λJ=> .builtin "proto.collect" ⟨[.ref r],[]⟩,λst=>[(.p (bP st.L i),.p (some (r,{cls:= .type "tuple",data:= .seq vs})))],
 λa J=> .ok (.ret (.ref (a.k 0))),λa st=>⟨st.L++[(a.k 0,aw vs (a.k 1))],st.G,a.N,a.t⟩,same⟩
theorem iT{K:Nat->Option Obj}{F:aj}{R:aA}{h h':Heap}{s:aZ}(x:bO K F R h s)(hk:∀b o,h.get? b=some o->h'.get? b=some o){X:aA}(hX:∀p∈X,h'.get? p.1=some p.2)(hn:(X.map (·.1)).Nodup)(hN:∀p∈X,s.N<=p.1)(t:Nat):
  bO K F R h' ⟨s.L++X,s.G,h'.objs.size,t⟩:=by
 have hp:List.Perm ((s.L++R)++X) ((s.L++X)++R):=by rw [List.append_assoc,List.append_assoc];exact List.Perm.append_left _ List.perm_append_comm
 refine⟨rfl,λp BK=> ?_,?_,λp BK=> ?_,x.gO,λa o e=>hk _ _ (x.fix a o e),x.gs⟩
 ·rcases List.mem_append.mp (hp.mem_iff.mpr BK)with h1|h1
  ·exact hk _ _ (x.mem p h1)
  ·exact hX p h1
 ·refine((hp.map (·.1)).nodup_iff).mp ?_;rw [List.map_append,List.nodup_append];refine⟨x.nd,hn,λa ha b hb e=> ?_⟩;obtain⟨p,pQ,rfl⟩:=List.mem_map.mp ha;obtain⟨q,Py,rfl⟩:=List.mem_map.mp hb;have h1:=x.lt pQ;have h2:=hN q Py;have e:p.1=q.1:=e;exact Nat.lt_irrefl _ (Nat.lt_of_lt_of_le (e▸h1) h2)
 ·rcases List.mem_append.mp (hp.mem_iff.mpr BK)with h1|h1
  ·exact x.old p h1
  ·exact x.none (hN p h1)
theorem ua:plainId "proto.collect"=true:=by decide+kernel
theorem vb:plainId "list.__iadd__"=true:=by decide+kernel
theorem uG:entryFor table "proto.collect"=some Builtin.«proto.collect»:=entryFor_of_tree (by kernel_rfl)
theorem B9:entryFor table "list.__iadd__"=some Builtin.«list.__iadd__»:=entryFor_of_tree (by kernel_rfl)
theorem fK{A:Around}{R:Result->Shared->Prop}{s:Shared}{r:Addr}
  (h:wpAny (model H.pw w) A.in1 (Builtin.List.listExtendWith (.ref s.heap.objs.size) (.ref r) (.ref s.heap.objs.size))
   (λfin s'=>match fin with| .done f=>R (.ok f) s'| .again c'=>c'.quiet=true/\codeAny (model H.pw w) A c' R s') (λe s'=>R (.error e) s') {s with heap:=s.heap.push dp}):
  codeAny (model H.pw w) A (.builtin "proto.collect" ⟨[.ref r],[]⟩) R s:=by
 refine codeAny_builtin uG ?_;rw [Around.under_plainId ua _];show wpAny _ A.in1 (newList []>>=λl=>again (.builtin "list.__iadd__" ⟨[l,.ref r],[]⟩)) _ _ s;refine wpAny_bind (wpAny_newObj_type ?_);refine wpAny_pure ⟨plainId_quiet vb _,codeAny_builtin B9 ?_⟩;rw [Around.under_plainId vb _];exact h
theorem UY{l:List Nat}(h:l.length=2):∃a b,l=[a,b]:=by
 cases l with
 |nil=>cases h
 |cons a l=>cases l with
  |nil=>cases h
  |cons b l=>cases l with
   |nil=>exact⟨a,b,rfl⟩
   |cons c l=>cases h
theorem j4.ok{i j:Nat}{r d:Addr}{k1 k2:aU}{v1 v2:Value}{ts:nN}{ep:Nat}(LI:k1≠k2):(j4 w i j r d k1 k2 v1 v2 ts ep).J' w R F:=λcc st hc he=>by
 rw [hc];have e1:=aY.cons.mp he;have hi:=cp.p.inj e1.1;have hj:=cp.p.inj (aY.cons.mp e1.2).1;intro h g dr os Rl A hA;have mr:=Rl.mem _ (List.mem_append_left _ (aJ hi));have md:=Rl.mem _ (List.mem_append_left _ (aJ hj));have Ih:([(k1,v1),(k2,v2)].map (·.1)).Nodup:=by simp [LI]
 have hm:h.DictAt (knd w) d (jI [(k1,v1),(k2,v2)]) ep:=by
  refine⟨_,_,md,⟨rfl,rfl,rfl⟩,rfl,λe he=>p5 [(k1,v1),(k2,v2)] ts 0 e (by simpa using he),by simpa using S' [(k1,v1),(k2,v2)] ts 0,?_⟩;have:(jI [(k1,v1),(k2,v2)]).map (·.1)=([(k1,v1),(k2,v2)].map (·.1)).map Array.toList:=by simp [jI]
  rw [this];exact List.Pairwise.map _ (λa b h e=>h (Array.ext' e)) Ih
 have hS:=Rl.size;have Jv:r<h.objs.size:=Heap.lt_size mr;have Mw:d<h.objs.size:=Heap.lt_size md;have up:∀b o,h.get? b=some o->(h.push dp).get? b=some o:=λb o e=>Heap.get?_push_of_some _ e;refine fK ?_;refine kdx_extend (A:=A) (s:=⟨h.push dp,g,dr,st.t,os⟩) (knd:=knd w) (kvs:=jI [(k1,v1),(k2,v2)]) (ep:=ep)
  (R:=λq s'=>bI w R os F (λq F' ah=>(j4 w i j r d k1 k2 v1 v2 ts ep).post F st q F' ah) q s'/\s'.gens=g)
  hA.hd ⟨_,up _ _ mr,rfl,rfl⟩ (hm.push _) h.objs.size (Nat.ne_of_gt Jv) (Nat.ne_of_lt Mw) (.ref h.objs.size) 0 (Heap.get?_push_size _ rfl) (λh' tk acc c as hk E0 hl hG ux=> ?_) (by rw [sizeLine_eq];simp [jI])
 obtain⟨a1,a2,rfl⟩:=UY (show as.length=2 from hl)
 ·
  obtain⟨y1,x1,w1,p1,q1,m1⟩:=hG.pairs 0 a1 rfl;obtain⟨y2,x2,w2,p2,q2,m2⟩:=hG.pairs 1 a2 rfl;obtain⟨rfl,rfl⟩:=Prod.mk.inj (Option.some.inj (show some (k1.toList,v1)=some (x1,w1)from p1));obtain⟨rfl,rfl⟩:=Prod.mk.inj (Option.some.inj (show some (k2.toList,v2)=some (x2,w2)from p2));obtain⟨t1,BH⟩:=isBytes_shape q1;obtain⟨t2,Pt⟩:=isBytes_shape q2;have g1:=hG.above a1 (by simp);have g2:=hG.above a2 (by simp);have g3:a1<a2:=by have:=hG.rise;rw [List.pairwise_cons]at this;exact this.1 a2 (by simp)
  have fh:(h.push dp).objs.size=h.objs.size+1:=Heap.size_push ..;have JY:h.objs.size+1<a1:=by have:(h.push dp).objs.size<a1:=g1;lia
  have ea:acc= #[.ref a1,.ref a2]:=Array.ext' (by rw [ux];rfl);subst ea;have hX:∀p∈[(h.objs.size,aw #[.ref a1,.ref a2] c),(a1,dU (.bytes k1 t1) v1),(a2,dU (.bytes k2 t2) v2)],h'.get? p.1=some p.2:=λp hp=>by
   simp only [List.mem_cons,List.not_mem_nil,or_false]at hp;rcases hp with rfl|rfl|rfl
   ·exact E0
   ·rw [show y1= .bytes k1 t1 by rw [BH]]at m1;exact m1
   ·rw [show y2= .bytes k2 t2 by rw [Pt]]at m2;exact m2
  have R1:=iT Rl (λb o e=>hk b o (Nat.ne_of_lt (Heap.lt_size e)) (up b o e)) hX (by
   simp only [List.map_cons,List.map_nil,List.nodup_cons,List.mem_cons,List.not_mem_nil,or_false,not_or];exact⟨⟨Nat.ne_of_lt (Nat.lt_of_succ_lt JY),Nat.ne_of_lt (Nat.lt_trans (Nat.lt_of_succ_lt JY) g3)⟩,Nat.ne_of_lt g3,λh=>h,List.nodup_nil⟩) (λp hp=>by
   simp only [List.mem_cons,List.not_mem_nil,or_false]at hp;rcases hp with rfl|rfl|rfl
   ·exact Nat.le_of_eq hS.symm
   ·exact hS▸Nat.le_of_lt (Nat.lt_of_succ_lt JY)
   ·exact hS▸Nat.le_of_lt (Nat.lt_trans (Nat.lt_of_succ_lt JY) g3)) tk
  exact⟨⟨F,_,aj.le.refl F,R1,rfl,rfl,{bB F h'.objs.size tk 0 with k:=lk t2 [h.objs.size,a1,a2,c,t1]},rfl,rfl,rfl,rfl⟩,rfl⟩
theorem mi.ok{i:Nat}{r:Addr}{vs:aV}(hz:vs.size<=16):(mi i r vs).J' w R F:=λcc st hc he=>by
 rw [hc];have hi:=cp.p.inj (aY.cons.mp he).1;intro h g dr os Rl A hA;have mr:=Rl.mem _ (List.mem_append_left _ (aJ hi));have Jv:r<h.objs.size:=Heap.lt_size mr;have NH:(h.push dp).get? r=some {cls:= .type "tuple",data:= .seq vs}:=Heap.get?_push_of_some _ mr;have mS:(h.push dp).get? h.objs.size=some dp:=Heap.get?_push_size _ rfl;refine fK ?_;show wpAny _ A.in1 (Builtin.List.listExtendWith (.ref h.objs.size) (.ref r) (.ref h.objs.size)) _ _ ⟨h.push dp,g,dr,st.t,os⟩;unfold Builtin.List.listExtendWith;refine wpAny_bind (wpAny_typeOf (T:="tuple") (s:=⟨h.push dp,g,dr,st.t,os⟩) ⟨_,NH,rfl⟩ ?_);have h2:(Builtin.List.listSameRef (.ref h.objs.size) (.ref r)||Value.type "tuple"==Value.type "list"||Value.type "tuple"==Value.type "tuple")=true:=by rw [show(Value.type "tuple"==Value.type "tuple")=true by decide,Bool.or_true]
 simp only [h2,if_true];unfold Builtin.List.listItems;refine wpAny_bind (wpAny_bind (wpAny_seqItems (s:=⟨h.push dp,g,dr,st.t,os⟩) NH rfl (wpAny_pure ?_)));refine wpAny_bind (wpAny_bind (wpAny_seqItems (s:=⟨h.push dp,g,dr,st.t,os⟩) mS rfl (wpAny_pure ?_)));show wpAny _ A.in1 (updateSeq h.objs.size (·++vs)>>=λJ=>ret (.ref h.objs.size)) _ _ _;refine wpAny_bind (wpAny_updateSeq mS rfl ?_ (by rw [sizeLine_eq];decide) (by rw [sizeLine_eq];simp;lia));have Pd:=Heap.get?_update_self (Obj.mapSeq (·++vs)) mS rfl;refine wpAny_pure ?_;have hS:=Rl.size;have sb:Heap.SameBut h.objs.size (h.push dp) ((h.push dp).update h.objs.size (Obj.mapSeq (·++vs))):=Heap.SameBut.update ..;obtain⟨n,hn⟩:∃n,Obj.mapSeq (·++vs) dp=aw vs n:=by exact⟨_,congrArg (λv=>({cls:= .type "list",dict:=none,data:= .seq v (if(#[]++vs:aV).size==(#[]:aV).size then 0 else 0+1),slots:= #[]}:Obj)) (Array.empty_append (xs:=vs))⟩
 have hX:∀p∈[(h.objs.size,aw vs n)],((h.push dp).update h.objs.size (Obj.mapSeq (·++vs))).get? p.1=some p.2:=λp hp=>by rw [List.mem_singleton]at hp;subst hp;rw [Pd,hn]
 have R1:=iT Rl (λb o e=>(sb.2 b (Nat.ne_of_lt (Heap.lt_size e))).trans (Heap.get?_push_of_some _ e)) hX (by simp) (λp hp=>by rw [List.mem_singleton]at hp;subst hp;exact Nat.le_of_eq hS.symm) st.t
 exact⟨⟨F,_,aj.le.refl F,R1,rfl,rfl,{bB F _ st.t 0 with k:=lk n [h.objs.size]},rfl,rfl,rfl,rfl⟩,rfl⟩
variable(w)
namespace TR
def L(q:dN)(x y:Ti)(ts:nN)(ep:Nat):aA:=[(q.td,er P q),(q.te,bN P [(nA,.ref x.a),(nB,.ref y.a)] ts ep)]
noncomputable def G(q:dN)(x y:Ti):aA:=[(q.tb,cb 884 q.td),(x.a,jS x.u x.s x.v),(y.a,jS y.u y.s y.v)]
def Pm(q:dN)(x y:Ti)(ts:nN)(ep N tk gN:Nat)(aa:RB):ax:=bX w gN 6000 30 (zJ [[1,0,0,5,5,1,1,0,0,5,2],mQ,[2],mQ,[2],vX,[2,1],kA,[0,7,7,7,7,1,1,0,7,2],mQ,[5,2],mQ,[2,2,0,1,7],kA,[9,9,9,9,1,1,13,1,95,0,13,13,1,13,2,6,5,38,11,1,11,74,11,2,9,0,9,9,0,0,9,3,3],RE,[92,3,9,1,89,0,17,1,23,88,23,23,23,23,23,1,0,0,29,29,1,1,29,19,19,19,1,19,10],Sl,Sl,Sl,[31,35,29,29],RG,[10,37,37,1,37,4,37,37,4,37,37,37,1,37,4,37,37,4,37,37,37,1,37,4,37,37,4,37,37,41,29,29,29,29],mQ,mQ,mQ,[0,29],kA,[43,43,43,43,1,1,43],mQ,mQ,mQ,[43],kA,[45,45,45,45,1,1,45,1,62,43],vX,[5],mQ,vU,[41,29,27,27,27,1,0,0,47,47,1,1,47,21,21,21,1,21,10,49,49,1,49,4,49,49,21],RP,[49,4,49,49,21],RP,[49,4,49,49,21,49,49,53,47,47,6,6,6,1,6,10,55,55,1,55,4,55,55,6,55,55,55,1,55,4,55,55,6,55,55,55,1,55,4,55,55,6,55,55,59,47,47,47,47],mQ,mQ,mQ,[0,47],kA,[61,61,61,61,1,1,61],mQ,mQ,mQ,[61],kA,[63,63,63,63,1,1,63,1,62,61],vX,[5],mQ,vU,[41,47,27,27,27,27,1,90,27,27,27,23,23,23,23,23,23,1,23,20,65,1,65,1,65,8,65,65,23,65,65,65,19,19,19,1,19,10],Sk,Sk,Sk,[67,71,9,9,9,9,9],RG,[10,73,73,1,73,4,73,73,4,73,73,73,1,73,4,73,73,4,73,73,73,1,73,4,73,73,4,73,73,77],Sy,kA,[1,0,13,0,0],aO,[0,0,1,0,86],kA,[79,79,79,79,79,79,79,79,1,1,0,0,1,15,79,79,79,79,1],mQ,[0,85],mQ,mQ,[83,0,87,0,87],vU,[87,0,22,87],mQ,Sw,[65,21,21,21,1,21,10],Sj,Sj,Sj,[89,93,9,9,9,9,9,6,6,6,1,6,10,95,95,1,95,4,95,95,6,95,95,95,1,95,4,95,95,6,95,95,95,1,95,4,95,95,6,95,95,99],Sy,kA,[1,0,13,0,0],aO,[0,0,1,0,86],kA,[101,101,101,101,101,101,101,101,1,1,0,0,1,15,101,101,101,101,1],mQ,[0,85],mQ,mQ,[105,0,109,0,109],vU,[109,0,22,109],mQ,Sw,[113,1,117]])
 (.C7 (j4 w 7 1 (N+5) q.te nA nB (.ref x.a) (.ref y.a) ts ep) λa=> .C7 (mi 40 (a.N+29) #[.bytes nA (a.k 4),.int 33188 x.u,.bytes x.s x.v]) λb=> .C7 (mi 51 (b.N+9) #[.bytes nB (a.k 5),.int 33188 y.u,.bytes y.s y.v]) λc=>
 .ret (.ok (.ret (.ref (N+4)))) (bJ ([(0,(q.td,er w.params q)),(1,(q.te,bN w.params [(nA,.ref x.a),(nB,.ref y.a)] ts ep))]++[(6,(N+4,aw #[.ref (b.N+1),.ref (c.N+1)] 4)),(43,(b.N+1,teO b.N #[.bytes nA (a.k 4),.int 33188 x.u,.bytes x.s x.v])),(42,(b.N,bA)),(54,(c.N+1,teO c.N #[.bytes nB (a.k 5),.int 33188 y.u,.bytes y.s y.v])),(53,(c.N,bA))])))
 aa (.call (.ref 862) ⟨[.ref q.tb],[]⟩) ⟨L w.params q x y ts ep,G q x y,N,tk⟩
theorem Ex(tb td te k1 k2 k3 k4 k5:Nat)(x y:Ti)(ts:nN)(ep N tk gN:Nat):∀aa,aE (Pm w ⟨tb,td,te+1392,k1,k2,k3,k4,k5⟩ x y ts ep N tk gN aa):=by apply bh w
end TR
structure MV where
 l:Nat
 n:Nat
 e1:Nat
 d1:Nat
 e2:Nat
 d2:Nat
 t1:Nat
 t2:Nat
structure Jn(F:aj)(z:MV)(x y:Ti):Prop where
 l:F z.l=some (aw #[.ref z.e1,.ref z.e2] z.n)
 e1:F z.e1=some (teO z.d1 #[.bytes nA z.t1,.int 33188 x.u,.bytes x.s x.v])
 d1:F z.d1=some bA
 e2:F z.e2=some (teO z.d2 #[.bytes nB z.t2,.int 33188 y.u,.bytes y.s y.v])
 d2:F z.d2=some bA
noncomputable def HZ(a:aL):MV:=⟨a.k 0,a.k 1,a.k 2,a.k 3,a.k 4,a.k 5,a.k 6,a.k 7⟩
def m'(i j:Nat)(q:dN)(x y:Ti)(ts:nN)(ep:Nat):az:=⟨31,λJ=> .call (.ref 862) ⟨[.ref q.tb],[]⟩,λst=>[(.p (bP st.L i),.p (some (q.td,er w.params q))),(.p (bP st.L j),.p (some (q.te,bN w.params [(nA,.ref x.a),(nB,.ref y.a)] ts ep)))],
 λa J=> .ok (.ret (.ref (a.k 0))),qm,λF a=>F.le a.F/\Jn a.F (HZ a) x y⟩
theorem m'.ok{w:World}{R:aA}{F:aj}{i j:Nat}{q:dN}{x y:Ti}{ts:nN}{ep:Nat}(SH:i≠j)(hb:F q.tb=some (cb 884 q.td))(hx:F x.a=some (jS x.u x.s x.v))(hy:F y.a=some (jS y.u y.s y.v))(H5:1392<=q.te):(m' w i j q x y ts ep).OK w R F:=λcc st hc he=>by
 rw [hc];have e1:=aY.cons.mp he;have hi:=cp.p.inj e1.1;have hj:=cp.p.inj (aY.cons.mp e1.2).1;refine aD.ja (G1:=TR.G q x y) (P:=λr F' o o' X N' t'=>o=er w.params q/\o'=bN w.params [(nA,.ref x.a),(nB,.ref y.a)] ts ep/\X=[]/\F.le F'/\∃z,Jn F' z x y/\r= .ok (.ret (.ref z.l))) hi hj SH (aq hb (aq hx (aq hy cB))) (λR=> ?_) λr F' o o' X N' t' hh=> ?_
 ·obtain⟨tb,td,te,k1,k2,k3,k4,k5⟩:=q;obtain⟨e,rfl⟩:∃e,te=e+1392:=⟨te-1392,(Nat.sub_add_cancel H5).symm⟩
  refine aD.d0 (d:=30) nr (λgN=>TR.Ex w tb td e k1 k2 k3 k4 k5 x y ts ep st.N st.t gN) ⟨j4.ok (by decide),λa J hf=> ?_⟩;rw [show a.F=F from hf];refine⟨mi.ok (by show 3<=16;decide),λb J hf=> ?_⟩;rw [show b.F=F from hf];refine⟨mi.ok (by show 3<=16;decide),λc J hf=> ?_⟩;rw [show c.F=F from hf];refine VC.gq (nd (by kernel_rfl)) λF' le hn N' t'=> ?_;refine⟨_,_,[],rfl,rfl,rfl,rfl,le,⟨st.N+4,4,b.N+1,b.N,c.N+1,c.N,a.k 4,a.k 5⟩,?_,rfl⟩;exact⟨hn 0 rfl,hn 1 rfl,hn 2 rfl,
   hn 3 rfl,hn 4 rfl⟩
 ·obtain⟨y1,y2,y3,y4,z,y5,y6⟩:=hh;subst y1 y2 y3;refine⟨{bB F' N' t' 0 with k:=lk z.t2 [z.l,z.n,z.e1,z.d1,z.e2,z.d2,z.t1]},rfl,⟨y4,y5⟩,y6,?_⟩;have s1:bg st.L i (er w.params q)=st.L:=cT hi;rw [s1];have s2:bg st.L j (bN w.params [(nA,.ref x.a),(nB,.ref y.a)] ts ep)=st.L:=cT hj;rw [s2,List.append_nil];rfl
end
end H
theorem aD.uz{w:World}{R:aA}{F:aj}{st:aZ}{aX:Nat}{c:Code}{ai:Result->aj->aZ->Prop}{G1:aA}{P:Result->aj->aA->Nat->Nat->Prop}(hg:∀p∈G1,F p.1=some p.2)
  (h:∀R,aD w R F ⟨[],G1,st.N,st.t⟩ aX c λr F' ah=>P r F' ah.L ah.N ah.t) (hq:∀r F' X N' t',P r F' X N' t'->ai r F' ⟨st.L++X,st.G,N',t'⟩):aD w R F st aX c ai:=
 aD.frame (L1:=[]) (L2:=st.L) (.refl _) hg (h _) λr F' bU h2=>⟨st.L++bU.L,List.perm_append_comm,hq _ _ _ _ _ h2⟩
namespace H
noncomputable def mZ(fm:Addr):az:=⟨7,λJ=> .call (.ref 1315) ⟨[.ref fm],[]⟩,λJ=>[],λa J=> .ok (.ret (.ref (a.k 0))),λa st=>⟨st.L++[(a.k 2,bA)],st.G,a.N,a.t⟩,
 λF a=>F.le a.F/\a.F (a.k 0)=some (cb 1315 (a.k 1))/\a.F (a.k 1)=some {cls:= .type "dict",data:= .dict #[d w.params "object_format" (a.k 3) (.ref fm),d w.params "_data" (a.k 4) (.ref (a.k 2))] 2}⟩
theorem mZ.ok{w:World}{R:aA}{F:aj}{fm:Addr}:(mZ w fm).OK w R F:=λcc st hc J=>by
 rw [hc];refine aD.uz (G1:=[]) (P:=λr F' X N' t'=>TY λso dx dt k1 k2=>X=[(dt,bA)]/\r= .ok (.ret (.ref so))/\F.le F'/\F' so=some (cb 1315 dx)/\F' dx=some {cls:= .type "dict",data:= .dict #[d w.params "object_format" k1 (.ref fm),d w.params "_data" k2 (.ref dt)] 2}) cB (λR=> ?_)
  λr F' X N' t' hh=> ?_
 ·refine aD.run (d:=6) nr (SN.iw w fm st.N st.t) (VC.gq (nd (by kernel_rfl)) λF' le hn N' t'=> ?_);exact⟨st.N+1,st.N,st.N+3,st.t+4,st.t+6,rfl,rfl,le,hn 0 rfl,hn 1 rfl⟩
 ·obtain⟨so,dx,dt,k1,k2,y1,y2,y3,y4,y5⟩:=hh;subst y1;exact⟨{bB F' N' t' 0 with k:=lk k2 [so,dx,dt,k1]},rfl,⟨y3,y4,y5⟩,y2,rfl⟩
noncomputable def iz(N:Nat):Obj:={cls:= .none,data:= .fields #[.int 1554 0,.int 4 0,.ref (N+9)]}
theorem E4(N t:Nat):∀aa,aE (aR w 2000 8 (zJ [[2,0,0,1,5,5,0],t9,[0,0,0,3,3,0,3,0],kA,[1,0,13],vU,mQ,[0,0,27],mQ,mQ,[0,0,0,27,0,27],vX,[2,0,0,29,29,29,29,29,29,29,29,29,29,29,29,1,29,29,27],vU,Be,[29,29,27],vU,Be,[29,29,27],vU,Be,[29,29,27],vU,Be,[29,29,27],vU,Be]) (.ret (.ok (.ret (.ref (N+12)))) (bJ ([(0,(1336,iz N)),(3,(N+2,bA))]++[(13,(N+12,cb 368 (N+11))),(12,(N+11,FM.IK w.params N t)),(11,(N+10,FM.IJ w.params N)),(10,(N+9,FM.J6 N t)),(2,(N+1,FM.J5 (N+2)))])))
 aa (.call (.ref 1341) ⟨[],[]⟩) ⟨[(1336,FM.SQ)],[],N,t⟩):=by apply bh w
def kZ(j:Nat):az:=⟨9,λJ=> .call (.ref 1341) ⟨[],[]⟩,λst=>[(.p (bP st.L j),.p (some (1336,FM.SQ)))],λa J=> .ok (.ret (.ref (a.k 0+12))),λa st=>⟨bg st.L j (iz (a.k 0))++[(a.k 0+2,bA)],st.G,a.N,a.t⟩,λF a=>F.le a.F/\mM w a.F (a.k 0) (a.k 1)⟩
theorem kZ.ok{w:World}{R:aA}{F:aj}{j:Nat}:(kZ w j).OK w R F:=λcc st hc he=>by
 rw [hc];have hj:=cp.p.inj (aY.cons.mp he).1;obtain⟨l',hl,ho⟩:=d7 _ _ _ hj;refine aD.frame (L1:=[(1336,FM.SQ)]) (L2:=l') (jT:=λr F' ah=>ah.L=[(1336,iz st.N),(st.N+2,bA)]/\r= .ok (.ret (.ref (st.N+12)))/\F.le F'/\mM w F' st.N st.t) hl (G1:=[]) cB ?_ λr F' bU hh=> ?_
 ·refine aD.run (d:=8) nr (E4 w st.N st.t) (VC.gq (nd (by kernel_rfl)) λF' le hn N' t'=> ?_);exact⟨rfl,rfl,le,⟨hn 0 rfl,hn 1 rfl,hn 2 rfl,hn 3 rfl,hn 4 rfl⟩⟩
 ·obtain⟨y1,y2,y3,y4⟩:=hh;refine⟨bg st.L j (iz st.N)++[(st.N+2,bA)],?_,{bB F' bU.N bU.t 0 with k:=lk st.t [st.N]},rfl,⟨y3,y4⟩,y2,rfl⟩;rw [y1];exact(List.Perm.cons _ List.perm_append_comm).trans ((ho (iz st.N)).symm.append_right [(st.N+2,bA)])
noncomputable def jG(a:aL):dN:=⟨a.k 0,a.k 1,a.k 2,a.k 3,a.k 4,a.k 5,a.k 6,a.k 7⟩
theorem Dz(N t:Nat):∀aa,aE (aR w 900 8 (zJ [[1,0,0,1,0,13],vU,mQ,[0,0,27],mQ,[0,0,0,3,0,3],mQ]) (.hk (TI.hk w 0 1 N (N+1)) λa=> .ret (.ok (.ret (.ref (N+1)))) (bJ ([(0,(N,TI.zc w.params (a.k 0) (a.k 1) (a.k 2) (a.k 3) (a.k 4) (a.k 5))),(2,(a.k 5,bA))]++[(1,(N+1,cb 884 N))])))
 aa (.call (.ref 884) ⟨[],[]⟩) ⟨[],[],N,t⟩):=by apply bh w
def dC:az:=⟨9,λJ=> .call (.ref 884) ⟨[],[]⟩,λJ=>[],λa J=> .ok (.ret (.ref (a.k 0))),λa st=>⟨st.L++[(a.k 1,er w.params (jG a)),(a.k 2,bA)],st.G,a.N,a.t⟩,λF a=>F.le a.F/\a.F (a.k 0)=some (cb 884 (a.k 1))/\1392<=a.k 2⟩
theorem dC.ok{w:World}{R:aA}{F:aj}:(dC w).OK w R F:=λcc st hc J=>by
 rw [hc];refine aD.uz (G1:=[]) (P:=λr F' X N' t'=>∃q:dN,X=[(q.td,er w.params q),(q.te,bA)]/\r= .ok (.ret (.ref q.tb))/\F.le F'/\F' q.tb=some (cb 884 q.td)/\1392<=q.te) cB (λR=> ?_) λr F' X N' t' hh=> ?_
 ·refine aD.run (d:=8) nr (Dz w st.N st.t) ⟨TI.hk.ok (by decide),λa J hf=> ?_⟩;rw [show a.F=F from hf.1];refine VC.gq (nd (by kernel_rfl)) λF' le hn N' t'=> ?_;exact⟨⟨st.N+1,st.N,a.k 5,a.k 0,a.k 1,a.k 2,a.k 3,a.k 4⟩,rfl,rfl,le,hn 0 rfl,hf.2⟩
 ·obtain⟨q,y1,y2,y3,y4,y5⟩:=hh;subst y1;exact⟨{bB F' N' t' 0 with k:=lk q.k5 [q.tb,q.td,q.te,q.k1,q.k2,q.k3,q.k4]},rfl,⟨y3,y4,y5⟩,y2,rfl⟩
theorem Fi(q:dN)(nm:aU)(tn u:Nat)(s:aU)(v:Nat)(l:cK)(ts:nN)(ep N t:Nat):∀aa,aE (aR w 900 6 (zJ [[2,0,0,5,5,5,5,5,5,5,5,1,5,5,5,2],mQ,[5,2],mQ,[2,2,0,1,5],RE,[0,26,5,2],mQ,[1,2,0,6,2,0,2],mQ,[2],Hl]) (.hk (bw w 1 q.te l ts ep nm (.ref (N+1))) λa=> .ret (.ok (.ret .none)) (bJ ([(0,(q.td,er w.params q)),(1,(q.te,bN w.params (put l nm (.ref (N+1))) (λi=>a.k (i+1)) (a.k 0)))]++[(3,(N+1,jS u s v))])))
 aa (.call (.ref 847) ⟨[.ref q.tb,.bytes nm tn,.int 33188 u,.bytes s v],[]⟩) ⟨[(q.td,er w.params q),(q.te,bN w.params l ts ep)],[(q.tb,cb 884 q.td)],N,t⟩):=by apply bh w
def K2(q:dN)(n:Nat)(l:cK)(ts:nN)(ep N t:Nat)(aa:RB):ax:=aR w 900 6 (zJ [[2,0,0,5,5,1,0,0,5,2],mQ,[5,2],mQ,[2,2,0,1,1,24,3,1,3,0,72]]) (.hk (eX w 1 q.te l ts ep 2) λa=> .ret (.ok (.ret (.int 2 (a.t)))) λst=>[(.l (st.L.take 2),.l [(q.td,er w.params q),(q.te,bN w.params l ts ep)])])
 aa (.call (.ref 840) ⟨[.ref q.tb],[]⟩) ⟨[(q.td,er w.params q),(q.te,bN w.params l ts ep)],[(q.tb,cb 884 q.td)],N,t⟩
theorem uj w q n l ts ep N t:∀aa,aE (K2 w q n l ts ep N t aa):=by apply bh w
def Mk(q:dN)(nm:aU)(tn a:Nat)(l:cK)(ts:nN)(ep N t:Nat)(aa:RB):ax:=aR w 900 6 (zJ [[2,0,0,5,5,5,5,1,5,2],mQ,[5,2],mQ,[2,2,0,1,5,3],RE,[0,27,14]]) (.hk (ck w 1 q.te l ts ep nm (.ref a)) λJ=> .ret (.ok (.ret (.ref a))) λst=>[(.l (st.L.take 2),.l [(q.td,er w.params q),(q.te,bN w.params l ts ep)])])
 aa (.call (.ref 819) ⟨[.ref q.tb,.bytes nm tn],[]⟩) ⟨[(q.td,er w.params q),(q.te,bN w.params l ts ep)],[(q.tb,cb 884 q.td)],N,t⟩
theorem uy w q nm tn a l ts ep N t:∀aa,aE (Mk w q nm tn a l ts ep N t aa):=by apply bh w
def d8(i j:Nat)(q:dN)(nm:aU)(s:aU)(l:cK)(ts:nN)(ep:Nat):az:=⟨7,λc=> .call (.ref 847) ⟨[.ref q.tb,.bytes nm (cA c 1),.int 33188 (cA c 2),.bytes s (cA c 3)],[]⟩,λst=>[(.p (bP st.L i),.p (some (q.td,er w.params q))),(.p (bP st.L j),.p (some (q.te,bN w.params l ts ep)))],
 λJ J=> .ok (.ret .none),λa st=>⟨bg (bg st.L i (er w.params q)) j (bN w.params (put l nm (.ref (a.k 0))) (λn=>a.k (n+4)) (a.k 3))++[],st.G,a.N,a.t⟩,λF a=>F.le a.F/\a.F (a.k 0)=some (jS (a.k 1) s (a.k 2))⟩
theorem d8.ok{w:World}{R:aA}{F:aj}{i j:Nat}{q:dN}{nm s:aU}{l:cK}{ts:nN}{ep:Nat}(SH:i≠j)(hb:F q.tb=some (cb 884 q.td))(hn:(l.map (·.1)).Nodup)(hz:l.length<=sizeLine):(d8 w i j q nm s l ts ep).OK w R F:=λcc st hc he=>by
 rw [hc];have e1:=aY.cons.mp he;refine aD.ja (G1:=[(q.tb,cb 884 q.td)]) (P:=λr F' o o' X N' t'=>TY λad u v p4 vK=>o=er w.params q/\o'=bN w.params (put l nm (.ref ad)) vK p4/\X=[]/\F.le F'/\F' ad=some (jS u s v)/\r= .ok (.ret .none)) (cp.p.inj e1.1) (cp.p.inj (aY.cons.mp e1.2).1) SH (aq hb cB) (λR=> ?_)
  λr F' o o' X N' t' hh=> ?_
 ·refine aD.run (d:=6) nr (Fi w q nm (cA cc 1) (cA cc 2) s (cA cc 3) l ts ep st.N st.t) ⟨bw.ok hn hz,λa J hf=> ?_⟩;rw [show a.F=F from hf];refine VC.gq (nd (by kernel_rfl)) λF' le kL N' t'=> ?_;exact⟨_,_,[],rfl,st.N+1,cA cc 2,cA cc 3,a.k 0,λi=>a.k (i+1),rfl,rfl,rfl,le,kL 0 rfl,rfl⟩
 ·obtain⟨ad,u,v,p4,vK,y1,y2,y3,y4,y5,y6⟩:=hh;subst y1 y2 y3;exact⟨{bB F' N' t' 0 with k:=λn=>match n with|0=>ad|1=>u|2=>v|3=>p4|n+4=>vK n},rfl,⟨y4,y5⟩,y6,rfl⟩
theorem aD.CK{w:World}{R:aA}{F:aj}{st:aZ}{aX:Nat}{c:Code}{ai:Result->aj->aZ->Prop}{G1:aA}{i j:Nat}{p q:Addr × Obj}{P:Result->aj->Nat->Nat->Prop}(hi:bP st.L i=some p)(hj:bP st.L j=some q)(SH:i≠j)(hg:∀p∈G1,F p.1=some p.2)
  (h:∀R,aD w R F ⟨[p,q],G1,st.N,st.t⟩ aX c λr F' ah=>ah.L=[p,q]/\P r F' ah.N ah.t) (hq:∀r F' N' t',P r F' N' t'->ai r F' ⟨st.L,st.G,N',t'⟩):aD w R F st aX c ai:=by
 refine aD.ja (P:=λr F' o o' X N' t'=>o=p.2/\o'=q.2/\X=[]/\P r F' N' t') hi hj SH hg (λR=>(h R).aT λr F' ah hh=>by obtain⟨y1,y2⟩:=hh;exact⟨p.2,q.2,[],y1,rfl,rfl,rfl,y2⟩) λr F' o o' X N' t' hh=> ?_;obtain⟨y1,y2,y3,y4⟩:=hh;subst y1 y2 y3;rw [cT hi,cT hj,List.append_nil];exact hq _ _ _ _ y4
def jt(i j:Nat)(q:dN)(l:cK)(ts:nN)(ep:Nat):az:=⟨7,λJ=> .call (.ref 840) ⟨[.ref q.tb],[]⟩,λst=>[(.p (bP st.L i),.p (some (q.td,er w.params q))),(.p (bP st.L j),.p (some (q.te,bN w.params l ts ep)))],λa J=> .ok (.ret (.int 2 (a.k 0))),qm,same⟩
theorem jt.ok{w:World}{R:aA}{F:aj}{i j:Nat}{q:dN}{l:cK}{ts:nN}{ep:Nat}(SH:i≠j)(hb:F q.tb=some (cb 884 q.td))(hn:(l.map (·.1)).Nodup)(hl:l.length=2):(jt w i j q l ts ep).OK w R F:=λcc st hc he=>by
 rw [hc];have e1:=aY.cons.mp he;refine aD.CK (G1:=[(q.tb,cb 884 q.td)]) (P:=λr F' N' t'=>F'=F/\∃k,r= .ok (.ret (.int 2 k))) (cp.p.inj e1.1) (cp.p.inj (aY.cons.mp e1.2).1) SH (aq hb cB) (λR=> ?_) λr F' N' t' hh=> ?_
 ·refine aD.run (d:=6) nr (uj w q 2 l ts ep st.N st.t) ⟨eX.ok hn hl,λa J hf=> ?_⟩;rw [show a.F=F from hf];exact VC.keep λN' t'=>⟨rfl,rfl,_,rfl⟩
 ·obtain⟨y1,k,y2⟩:=hh;subst y1;exact⟨bB F' N' t' k,rfl,rfl,y2,rfl⟩
def dD(i j:Nat)(q:dN)(nm:aU)(ad:Nat)(l:cK)(ts:nN)(ep:Nat):az:=⟨7,λc=> .call (.ref 819) ⟨[.ref q.tb,.bytes nm (cA c 1)],[]⟩,λst=>[(.p (bP st.L i),.p (some (q.td,er w.params q))),(.p (bP st.L j),.p (some (q.te,bN w.params l ts ep)))],λJ J=> .ok (.ret (.ref ad)),qm,same⟩
theorem dD.ok{w:World}{R:aA}{F:aj}{i j:Nat}{q:dN}{nm:aU}{ad:Nat}{l:cK}{ts:nN}{ep:Nat}(SH:i≠j)(hb:F q.tb=some (cb 884 q.td))(hn:(l.map (·.1)).Nodup)(hl:SO l nm=some (.ref ad)):(dD w i j q nm ad l ts ep).OK w R F:=λcc st hc he=>by
 rw [hc];have e1:=aY.cons.mp he;refine aD.CK (G1:=[(q.tb,cb 884 q.td)]) (P:=λr F' N' t'=>F'=F/\r= .ok (.ret (.ref ad))) (cp.p.inj e1.1) (cp.p.inj (aY.cons.mp e1.2).1) SH (aq hb cB) (λR=> ?_) λr F' N' t' hh=> ?_
 ·refine aD.run (d:=6) nr (uy w q nm (cA cc 1) ad l ts ep st.N st.t) ⟨ck.ok hn hl,λa J hf=> ?_⟩;rw [show a.F=F from hf];exact VC.keep λN' t'=>⟨rfl,rfl,rfl⟩
 ·obtain⟨y1,y2⟩:=hh;subst y1;exact⟨bB F' N' t' 0,rfl,rfl,y2,rfl⟩
theorem BE(gN:Nat)(b:Addr)(q:dm)(x:aU)(N t:Nat):∀aa,aE (bX w gN 300 5 (zJ [[1,0,0],t9,[1,2],mQ,Sb,[12]]) (leaf (.ok (.ret (.bool true)))) aa (.call (.ref 495) ⟨[.ref b],[]⟩) ⟨[],BL.G w.params b q x,N,t⟩):=by apply bh w
noncomputable def fw(b:Addr):az:=aW 6 (λJ=> .call (.ref 495) ⟨[.ref b],[]⟩) (λJ=> .ok (.ret (.bool true))) same
theorem fw.ok{w:World}{R:aA}{F:aj}{b:Addr}{x:aU}(hb:cm w F b x):(fw b).OK w R F:=by obtain⟨q,h1,h2,h3⟩:=hb;refine aW.of (BL.hG h1 h2 h3) λc R N t=>aD.d0 (d:=5) nr (λgN=>BE w gN b q x N t) ?_;exact VC.leaf λN' t'=>⟨bB F N' t' 0,rfl,rfl,rfl,rfl,rfl⟩
def tF(so ci k1 k2 k3:Nat):Obj:={cls:= .type "dict",data:= .dict #[d P "object_store" k1 (.ref so),d P "make_merge3" k2 (.ref 1379),d P "conflict_info" k3 (.ref ci)] 3}
theorem En(gN:Nat)(so N t:Nat):∀aa,aE (bX w gN 1200 8 (zJ [[1,0,0,1,0,13],vU,mQ,[0,0,27],mQ,mQ,[0,0,0,3,0,3],vX,[1,0,0,5,5,5,5,5,5,1,1,5,5,3],vU,yC,[0,0,0,3],Hl,[5,5,3],vU,yC,[0,0,0,3],Hl,[5,3],vU,yC,[0,0,0,3],Hl]) (.ret (.ok (.ret (.ref (N+1)))) (bJ ([(3,(N+3,bA))]++[(1,(N+1,cb 1259 N)),(0,(N,tF w.params so (N+3) (t+5) (t+7) (t+9)))]))) aa (.call (.ref 1259) ⟨[.ref so,.ref 1379],[]⟩) ⟨[],[],N,t⟩):=by apply bh w
noncomputable def kS(so:Addr):az:=⟨9,λJ=> .call (.ref 1259) ⟨[.ref so,.ref 1379],[]⟩,λJ=>[],λa J=> .ok (.ret (.ref (a.k 0))),λa st=>⟨st.L++[(a.k 2,bA)],st.G,a.N,a.t⟩,
 λF a=>F.le a.F/\a.F (a.k 0)=some (cb 1259 (a.k 1))/\a.F (a.k 1)=some (tF w.params so (a.k 2) (a.k 3) (a.k 4) (a.k 5))/\1392<=a.k 2⟩
theorem kS.ok{w:World}{R:aA}{F:aj}{so:Addr}:(kS w so).OK w R F:=λcc st hc J=>by
 rw [hc];refine aD.ej (p:=1392<=st.N) (λhh Rl=>CT Rl) λhN=> ?_;refine aD.uz (G1:=[]) (P:=λr F' X N' t'=>TQ λmg dx ci k1 k2 k3=>X=[(ci,bA)]/\r= .ok (.ret (.ref mg))/\F.le F'/\F' mg=some (cb 1259 dx)/\F' dx=some (tF w.params so ci k1 k2 k3)/\1392<=ci) cB (λR=> ?_)
  λr F' X N' t' hh=> ?_
 ·refine aD.d0 (d:=8) nr (λgN=>En w gN so st.N st.t) (VC.gq (nd (by kernel_rfl)) λF' le hn N' t'=> ?_);exact⟨st.N+1,st.N,st.N+3,st.t+5,st.t+7,st.t+9,rfl,rfl,le,hn 0 rfl,hn 1 rfl,Nat.le_trans hN (Nat.le_add_right _ 3)⟩
 ·obtain⟨mg,dx,ci,k1,k2,k3,y1,y2,y3,y4,y5,y6⟩:=hh;subst y1;exact⟨{bB F' N' t' 0 with k:=lk k3 [mg,dx,ci,k1,k2]},rfl,⟨y3,y4,y5,y6⟩,y2,rfl⟩
structure R3 where
 a:Addr
 e:Nat
 r:Nat->aU
 t:Nat->Nat
noncomputable def DZ(x:R3):Obj:=aw #[.bytes (x.r 0) (x.t 0),.bytes (x.r 1) (x.t 1),.bytes (x.r 2) (x.t 2)] x.e
namespace LG
noncomputable def G(x y z:R3):aA:=[(x.a,DZ x),(y.a,DZ y),(z.a,DZ z)]
noncomputable def wJ:List Nat:=(zJ [[1,0,0],FG,t9,Ss,[7,0]])
noncomputable def c(x y z:Addr):Code:= .call (.ref 1379) ⟨[.ref x,.ref y,.ref z],[]⟩
structure In where
 x:R3
 y:R3
 z:R3
 N:Nat
 t:Nat
def lc(i:In):Code:=kh (bX w 0 400 8 wJ (leaf (.ok .next)) v7 (c i.x.a i.y.a i.z.a) ⟨[],G i.x i.y i.z,i.N,i.t⟩)
def fr(i:In)(o:Option (Nat × Nat × Nat)):Obj:=match o with
 |none=>{cls:= .type "frame",data:= .dict #[d P "x" i.t (.ref i.x.a),d P "y" (i.t+1) (.ref i.y.a),d P "z" (i.t+2) (.ref i.z.a),d P "groups" (i.t+3) (.ref (i.N+1))] 4}
 |some (k1,k,k2)=>{cls:= .type "frame",data:= .dict #[d P "x" i.t (.ref i.x.a),d P "y" (i.t+1) (.ref i.y.a),d P "z" (i.t+2) (.ref i.z.a),d P "groups" (i.t+3) (.ref (i.N+1)),d P "k" k1 (.int k k2)] 5}
noncomputable def Kz(i:In):Obj:={cls:= .type "range",data:= .fields #[.int 0 (i.t+5),.int 3 (i.t+4),.int 1 (i.t+6)]}
noncomputable def tX(k m:Nat):Obj:={cls:= .type "range_iterator",data:= .fields #[.int k 0,.int m 0,.int 1 0]}
def lL(i:In)(o:Option (Nat × Nat × Nat))(vs:aV)(ep k m:Nat):aA:=[(i.N,fr P i o),(i.N+1,aw vs ep),(i.N+2,Kz i),(i.N+3,tX k m)]
noncomputable def j6(tag:Str)(t l:Nat):Obj:={cls:= .type "tuple",data:= .seq #[.str tag t,.ref l]}
noncomputable def i8(t l1 l2 l3:Nat):Obj:={cls:= .type "tuple",data:= .seq #[.str "conflict" t,.ref l1,.ref l2,.ref l3]}
def fD(i:In)(k1:Nat)(vs:aV)(ep k tk ad:Nat)(X:List (Nat × (Addr × Obj))):bE:= .again 9 (lc w i) λst=>(.l (st.L.take 4),.l (lL w.params i (some (k1,k,tk)) (vs.push (.ref ad)) (ep+1) (k+1) (2-k)))::bJ X st
def O7(i:In)(k1:Nat)(vs:aV)(ep tk M:Nat):bE:=
 .two (cP (i.x.r 0) (i.y.r 0) true) (cP (i.x.r 0) (i.y.r 0) false) (zJ [fJ,qC,[0,8]]) (λJ=> .two (cP (i.y.r 0) (i.z.r 0) true) (cP (i.y.r 0) (i.z.r 0) false) (zJ [r6,[1],va,[1],Bc]) (λb=>fD w i k1 vs ep 0 tk (M+1) [(4,(M,aw #[.bytes (i.x.r 0) (i.x.t 0)] 0)),(5,(M+1,j6 "unchanged" b.t M))]) (zJ [fJ,qC,[0,8,1,1],va,fJ,[0,8,1,1,60],r6,qC,Bc]) (λJ=> .hk (cU (i.y.r 0) (i.z.r 0) false) λJ=> .hk (cU (i.x.r 0) (i.y.r 0) true) λb=>fD w i k1 vs ep 0 tk (M+1) [(4,(M,aw #[.bytes (i.z.r 0) (i.z.t 0)] 0)),(5,(M+1,j6 "b" (b.t+1) M))]))
  (zJ [fJ,qC,[0,8]]) (λJ=> .two (cP (i.y.r 0) (i.z.r 0) true) (cP (i.y.r 0) (i.z.r 0) false) (zJ [[1,3,3,3,3],fJ,Bc]) (λb=>fD w i k1 vs ep 0 tk (M+1) [(4,(M,aw #[.bytes (i.y.r 0) (i.y.t 0)] 0)),(5,(M+1,j6 "same" b.t M))]) (zJ [[1,1],va,fJ,[0,8,1,1],va,[1],qC,[0,8]]) (λJ=> .hk (cU (i.x.r 0) (i.y.r 0) false) λJ=> .two (cP (i.x.r 0) (i.z.r 0) true) (cP (i.x.r 0) (i.z.r 0) false) (zJ [[1,1,55],r6,[1],va,fJ,qC,Bc]) (λb=>fD w i k1 vs ep 0 tk (M+3) [(4,(M,aw #[.bytes (i.x.r 0) (i.x.t 0)] 0)),(5,(M+1,aw #[.bytes (i.y.r 0) (i.y.t 0)] 0)),(6,(M+2,aw #[.bytes (i.z.r 0) (i.z.t 0)] 0)),(7,(M+3,i8 (b.t+1) M (M+1) (M+2)))]) (zJ [r6,[1],va,fJ,qC,Bc]) (λb=>fD w i k1 vs ep 0 tk (M+3) [(4,(M,aw #[.bytes (i.x.r 0) (i.x.t 0)] 0)),(5,(M+1,aw #[.bytes (i.y.r 0) (i.y.t 0)] 0)),(6,(M+2,aw #[.bytes (i.z.r 0) (i.z.t 0)] 0)),(7,(M+3,i8 b.t M (M+1) (M+2)))])))
def OU(gN:Nat)(i:In)(k1 k2:Nat)(vs:aV)(ep M tk:Nat)(aa:RB):ax:=bX w gN 900 8 (zJ [[1,7,1,7,19],RK,[7],t9,va,fJ,[0,8]]) (O7 w i (tk+1) vs ep tk M) aa (lc w i) ⟨lL w.params i none vs ep 0 3,G i.x i.y i.z,M,tk⟩
theorem DC w gN i k1 k2 ep M tk:∀aa,aE (OU w gN i k1 k2 #[] ep M tk aa):=by apply bh w
def O6(i:In)(k1:Nat)(vs:aV)(ep tk M:Nat):bE:=
 .two (cP (i.x.r 1) (i.y.r 1) true) (cP (i.x.r 1) (i.y.r 1) false) (zJ [fJ,qC,[0,8]]) (λJ=> .two (cP (i.y.r 1) (i.z.r 1) true) (cP (i.y.r 1) (i.z.r 1) false) (zJ [r6,[1],va,[1],Bc]) (λb=>fD w i k1 vs ep 1 tk (M+1) [(4,(M,aw #[.bytes (i.x.r 1) (i.x.t 1)] 0)),(5,(M+1,j6 "unchanged" b.t M))]) (zJ [fJ,qC,[0,8,1,1],va,fJ,[0,8,1,1,60],r6,qC,Bc]) (λJ=> .hk (cU (i.y.r 1) (i.z.r 1) false) λJ=> .hk (cU (i.x.r 1) (i.y.r 1) true) λb=>fD w i k1 vs ep 1 tk (M+1) [(4,(M,aw #[.bytes (i.z.r 1) (i.z.t 1)] 0)),(5,(M+1,j6 "b" (b.t+1) M))]))
  (zJ [fJ,qC,[0,8]]) (λJ=> .two (cP (i.y.r 1) (i.z.r 1) true) (cP (i.y.r 1) (i.z.r 1) false) (zJ [[1,3,3,3,3],fJ,Bc]) (λb=>fD w i k1 vs ep 1 tk (M+1) [(4,(M,aw #[.bytes (i.y.r 1) (i.y.t 1)] 0)),(5,(M+1,j6 "same" b.t M))]) (zJ [[1,1],va,fJ,[0,8,1,1],va,[1],qC,[0,8]]) (λJ=> .hk (cU (i.x.r 1) (i.y.r 1) false) λJ=> .two (cP (i.x.r 1) (i.z.r 1) true) (cP (i.x.r 1) (i.z.r 1) false) (zJ [[1,1,55,1,3,3,3,3],fJ,Bc]) (λb=>fD w i k1 vs ep 1 tk (M+1) [(4,(M,aw #[.bytes (i.y.r 1) (i.y.t 1)] 0)),(5,(M+1,j6 "a" (b.t+1) M))]) (zJ [r6,[1],va,fJ,qC,Bc]) (λb=>fD w i k1 vs ep 1 tk (M+3) [(4,(M,aw #[.bytes (i.x.r 1) (i.x.t 1)] 0)),(5,(M+1,aw #[.bytes (i.y.r 1) (i.y.t 1)] 0)),(6,(M+2,aw #[.bytes (i.z.r 1) (i.z.t 1)] 0)),(7,(M+3,i8 b.t M (M+1) (M+2)))])))
def OT(gN:Nat)(i:In)(k1 k2:Nat)(vs:aV)(ep M tk:Nat)(aa:RB):ax:=bX w gN 900 8 (zJ [[1,7,1,7,19],RK,[7],t9,va,fJ,[0,8]]) (O6 w i k1 vs ep tk M) aa (lc w i) ⟨lL w.params i (some (k1,0,k2)) vs ep 1 2,G i.x i.y i.z,M,tk⟩
theorem DB(gN:Nat)(i:In)(k1 k2:Nat)(ep M tk:Nat)(g0:Nat):∀aa,aE (OT w gN i k1 k2 #[.ref g0] ep M tk aa):=by apply bh w
def O5(i:In)(k1:Nat)(vs:aV)(ep tk M:Nat):bE:=
 .two (cP (i.x.r 2) (i.y.r 2) true) (cP (i.x.r 2) (i.y.r 2) false) (zJ [fJ,qC,[0,8]]) (λJ=> .two (cP (i.y.r 2) (i.z.r 2) true) (cP (i.y.r 2) (i.z.r 2) false) (zJ [r6,[1],va,[1],Bc]) (λb=>fD w i k1 vs ep 2 tk (M+1) [(4,(M,aw #[.bytes (i.x.r 2) (i.x.t 2)] 0)),(5,(M+1,j6 "unchanged" b.t M))]) (zJ [fJ,qC,[0,8,1,1],va,fJ,[0,8,1,1,60,1,1],va,[1],qC,[0,8],r6,[1],va,fJ,qC,Bc]) (λJ=> .hk (cU (i.y.r 2) (i.z.r 2) false) λJ=> .hk (cU (i.x.r 2) (i.y.r 2) true) λJ=> .hk (cU (i.x.r 2) (i.z.r 2) false) λb=>fD w i k1 vs ep 2 tk (M+3) [(4,(M,aw #[.bytes (i.x.r 2) (i.x.t 2)] 0)),(5,(M+1,aw #[.bytes (i.y.r 2) (i.y.t 2)] 0)),(6,(M+2,aw #[.bytes (i.z.r 2) (i.z.t 2)] 0)),(7,(M+3,i8 b.t M (M+1) (M+2)))]))
  (zJ [fJ,qC,[0,8]]) (λJ=> .two (cP (i.y.r 2) (i.z.r 2) true) (cP (i.y.r 2) (i.z.r 2) false) (zJ [[1,3,3,3,3],fJ,Bc]) (λb=>fD w i k1 vs ep 2 tk (M+1) [(4,(M,aw #[.bytes (i.y.r 2) (i.y.t 2)] 0)),(5,(M+1,j6 "same" b.t M))]) (zJ [[1,1],va,fJ,[0,8,1,1],va,[1],qC,[0,8]]) (λJ=> .hk (cU (i.x.r 2) (i.y.r 2) false) λJ=> .two (cP (i.x.r 2) (i.z.r 2) true) (cP (i.x.r 2) (i.z.r 2) false) (zJ [[1,1,55,1,3,3,3,3],fJ,Bc]) (λb=>fD w i k1 vs ep 2 tk (M+1) [(4,(M,aw #[.bytes (i.y.r 2) (i.y.t 2)] 0)),(5,(M+1,j6 "a" (b.t+1) M))]) (zJ [r6,[1],va,fJ,qC,Bc]) (λb=>fD w i k1 vs ep 2 tk (M+3) [(4,(M,aw #[.bytes (i.x.r 2) (i.x.t 2)] 0)),(5,(M+1,aw #[.bytes (i.y.r 2) (i.y.t 2)] 0)),(6,(M+2,aw #[.bytes (i.z.r 2) (i.z.t 2)] 0)),(7,(M+3,i8 b.t M (M+1) (M+2)))])))
def OS(gN:Nat)(i:In)(k1 k2:Nat)(vs:aV)(ep M tk:Nat)(aa:RB):ax:=bX w gN 900 8 (zJ [[1,7,1,7,19],RK,[7],t9,va,fJ,[0,8]]) (O5 w i k1 vs ep tk M) aa (lc w i) ⟨lL w.params i (some (k1,1,k2)) vs ep 2 1,G i.x i.y i.z,M,tk⟩
theorem DA(gN:Nat)(i:In)(k1 k2:Nat)(ep M tk:Nat)(g0:Nat)(g1:Nat):∀aa,aE (OS w gN i k1 k2 #[.ref g0,.ref g1] ep M tk aa):=by apply bh w
noncomputable def gk(k:Nat)(x y z:aU):Nat:=if x=y/\y=z then 0 else if y=z then 1 else if x=y/\k<2 then 2 else if x=z/\0<k then 3 else 4
def Cr(F:aj)(ad:Nat)(tag:Str)(b:aU):Prop:=LV λt l u=>F ad=some (j6 tag t l)/\F l=some (aw #[.bytes b u] 0)
def cW(F:aj)(ad k:Nat)(x y z:aU):Prop:=UJ (gk k x y z) (Cr F ad "unchanged" x) (Cr F ad "same" y) (Cr F ad "b" z) (Cr F ad "a" y)<|
  Uq λt l1 l2 l3 u1 u2 u3=>F ad=some (i8 t l1 l2 l3)/\F l1=some (aw #[.bytes x u1] 0)/\F l2=some (aw #[.bytes y u2] 0)/\F l3=some (aw #[.bytes z u3] 0)
theorem Cr.le{F F':aj}(l:F.le F'){ad:Nat}{tag:Str}{b:aU}(h:Cr F ad tag b):Cr F' ad tag b:=by obtain⟨t,a,u,h1,h2⟩:=h;exact⟨t,a,u,l _ _ h1,l _ _ h2⟩
theorem cW.le{F F':aj}(l:F.le F'){ad k:Nat}{x y z:aU}(h:cW F ad k x y z):cW F' ad k x y z:=by
 unfold cW at h⊢;generalize gk k x y z=q at h⊢;rcases q with _|_|_|_|n
 ·exact Cr.le l h
 ·exact Cr.le l h
 ·exact Cr.le l h
 ·exact Cr.le l h
 ·obtain⟨t,l1,l2,l3,u1,u2,u3,h1,h2,h3,h4⟩:=h;exact⟨t,l1,l2,l3,u1,u2,u3,l _ _ h1,l _ _ h2,l _ _ h3,l _ _ h4⟩
section
variable{w:World}{R:aA}{F:aj}{ai:Result->aj->aZ->Prop}{i:In}
theorem dF{k1:Nat}{vs:aV}{ep k tk ad:Nat}{X:List (Nat × (Addr × Obj))}(hG:∀p∈G i.x i.y i.z,F p.1=some p.2)(hi:(X.map (·.1)).Nodup)(h4:∀q∈X,4<=q.1)
  (h:((X.map (·.2)).map (·.1)).Nodup->F.le (cX F (X.map (·.2)))->∀R M' t',aD w R (cX F (X.map (·.2))) ⟨lL w.params i (some (k1,k,tk)) (vs.push (.ref ad)) (ep+1) (k+1) (2-k),G i.x i.y i.z,M',t'⟩ 9 (lc w i) ai):VC w R ai F (fD w i k1 vs ep k tk ad X):=λst he=>by
 have e1:=aY.cons.mp he;have hm:=fM e1.2;refine aD.ej (p:=(st.L.map (·.1)).Nodup) (λhh Rl=>by have:=Rl.nd;rw [List.map_append]at this;exact(List.nodup_append.mp this).1) λhn=> ?_
 have hd:=dK hn hm hi;refine aD.zO (n:=4) (X:=X.map (·.2)) (cp.l.inj e1.1) (λp hp=> ?_) hd (λle p hp=>le _ _ (hG p hp)) (λle R=>h hd le R _ _);obtain⟨q,hq,rfl⟩:=List.mem_map.mp hp;exact bQ (hm q hq) (h4 q hq)
abbrev jM(w:World)(i:In)(ai:Result->aj->aZ->Prop)(F:aj)(k1 k tk:Nat)(vs:aV)(ep:Nat):Prop:=∀F' ad M' t',F.le F'->cW F' ad k (i.x.r k) (i.y.r k) (i.z.r k)->∀R,aD w R F' ⟨lL w.params i (some (k1,k,tk)) (vs.push (.ref ad)) (ep+1) (k+1) (2-k),G i.x i.y i.z,M',t'⟩ 9 (lc w i) ai
theorem gv{ad l u t:Nat}{tag:Str}{b:aU}{F:aj}(hn:([(l,aw #[.bytes b u] 0),(ad,j6 tag t l)].map (·.1)).Nodup):Cr (cX F [(l,aw #[.bytes b u] 0),(ad,j6 tag t l)]) ad tag b:=
 ⟨t,l,u,av (p:=(ad,j6 tag t l)) hn (by simp),av (p:=(l,aw #[.bytes b u] 0)) hn (by simp)⟩
theorem lh{l1 l2 l3 ad t u1 u2 u3:Nat}{x y z:aU}{F:aj}(hn:([(l1,aw #[.bytes x u1] 0),(l2,aw #[.bytes y u2] 0),(l3,aw #[.bytes z u3] 0),(ad,i8 t l1 l2 l3)].map (·.1)).Nodup):
  Uq λt' m1 m2 m3 v1 v2 v3=>cX F [(l1,aw #[.bytes x u1] 0),(l2,aw #[.bytes y u2] 0),(l3,aw #[.bytes z u3] 0),(ad,i8 t l1 l2 l3)] ad=some (i8 t' m1 m2 m3)/\cX F [(l1,aw #[.bytes x u1] 0),(l2,aw #[.bytes y u2] 0),(l3,aw #[.bytes z u3] 0),(ad,i8 t l1 l2 l3)] m1=some (aw #[.bytes x v1] 0)/\
   cX F [(l1,aw #[.bytes x u1] 0),(l2,aw #[.bytes y u2] 0),(l3,aw #[.bytes z u3] 0),(ad,i8 t l1 l2 l3)] m2=some (aw #[.bytes y v2] 0)/\cX F [(l1,aw #[.bytes x u1] 0),(l2,aw #[.bytes y u2] 0),(l3,aw #[.bytes z u3] 0),(ad,i8 t l1 l2 l3)] m3=some (aw #[.bytes z v3] 0):=
 ⟨t,l1,l2,l3,u1,u2,u3,av (p:=(ad,i8 t l1 l2 l3)) hn (by simp),av (p:=(l1,aw #[.bytes x u1] 0)) hn (by simp),av (p:=(l2,aw #[.bytes y u2] 0)) hn (by simp),av (p:=(l3,aw #[.bytes z u3] 0)) hn (by simp)⟩
theorem Gp{k1 k2 ep M tk:Nat}{gg:Nat}(hG:∀p∈G i.x i.y i.z,F p.1=some p.2)(hx:jM w i ai F (tk+1) 0 tk #[] ep):
  aD w R F ⟨lL w.params i none #[] ep 0 3,G i.x i.y i.z,M,tk⟩ 9 (lc w i) ai:=by
 refine aD.d0 (d:=8) nr (λgN=>DC w gN i k1 k2 ep M tk) ⟨cP.ok,λa J hf=> ?_,λa J hf=> ?_⟩
 ·rw [show a.F=F from hf.1];have e1:=of_decide_eq_true hf.2;refine⟨cP.ok,λb J hf=> ?_,λb J hf=> ?_⟩
  ·rw [show b.F=F from hf.1];have e2:=of_decide_eq_true hf.2;exact dF hG (nd (by kernel_rfl)) (by simp) λhn le R M' t'=>hx _ _ M' t' le (by unfold cW;rw [show gk 0 (i.x.r 0) (i.y.r 0) (i.z.r 0)=0 by simp [gk,e1,e2]];exact gv hn) R
  ·rw [show b.F=F from hf.1];have e2:=of_decide_eq_false hf.2;refine VC.sm (cU.ok hf.2) λb=> ?_;refine VC.sm (cU.ok (decide_eq_true e1)) λb=> ?_;exact dF hG (nd (by kernel_rfl)) (by simp) λhn le R M' t'=>hx _ _ M' t' le (by unfold cW;rw [show gk 0 (i.x.r 0) (i.y.r 0) (i.z.r 0)=2 by simp [gk,e1,e2]];exact gv hn) R
 ·rw [show a.F=F from hf.1];have e1:=of_decide_eq_false hf.2;refine⟨cP.ok,λb J hf=> ?_,λb J hf=> ?_⟩
  ·rw [show b.F=F from hf.1];have e2:=of_decide_eq_true hf.2;exact dF hG (nd (by kernel_rfl)) (by simp) λhn le R M' t'=>hx _ _ M' t' le (by unfold cW;rw [show gk 0 (i.x.r 0) (i.y.r 0) (i.z.r 0)=1 by unfold gk;rw [if_neg (λh=>e1 h.1),if_pos e2]];exact gv hn) R
  ·rw [show b.F=F from hf.1];have e2:=of_decide_eq_false hf.2;refine VC.sm (cU.ok (decide_eq_false e1)) λb=> ?_;refine⟨cP.ok,λb J hf=> ?_,λb J hf=> ?_⟩
   ·rw [show b.F=F from hf.1];have e3:=of_decide_eq_true hf.2;exact dF hG (nd (by kernel_rfl)) (by simp) λhn le R M' t'=>hx _ _ M' t' le (by unfold cW;rw [show gk 0 (i.x.r 0) (i.y.r 0) (i.z.r 0)=4 by unfold gk;rw [if_neg (λh=>e1 h.1),if_neg e2,if_neg (λh=>e1 h.1),if_neg (λh=>Nat.lt_irrefl _ h.2)]];exact lh hn) R
   ·rw [show b.F=F from hf.1];have e3:=of_decide_eq_false hf.2;exact dF hG (nd (by kernel_rfl)) (by simp) λhn le R M' t'=>hx _ _ M' t' le (by unfold cW;rw [show gk 0 (i.x.r 0) (i.y.r 0) (i.z.r 0)=4 by unfold gk;rw [if_neg (λh=>e1 h.1),if_neg e2,if_neg (λh=>e1 h.1),if_neg (λh=>e3 h.1)]];exact lh hn) R
theorem Gn{k1 k2 ep M tk:Nat}{g0:Nat}(hG:∀p∈G i.x i.y i.z,F p.1=some p.2)(hx:jM w i ai F k1 1 tk #[.ref g0] ep):
  aD w R F ⟨lL w.params i (some (k1,0,k2)) #[.ref g0] ep 1 2,G i.x i.y i.z,M,tk⟩ 9 (lc w i) ai:=by
 refine aD.d0 (d:=8) nr (λgN=>DB w gN i k1 k2 ep M tk g0) ⟨cP.ok,λa J hf=> ?_,λa J hf=> ?_⟩
 ·rw [show a.F=F from hf.1];have e1:=of_decide_eq_true hf.2;refine⟨cP.ok,λb J hf=> ?_,λb J hf=> ?_⟩
  ·rw [show b.F=F from hf.1];have e2:=of_decide_eq_true hf.2;exact dF hG (nd (by kernel_rfl)) (by simp) λhn le R M' t'=>hx _ _ M' t' le (by unfold cW;rw [show gk 1 (i.x.r 1) (i.y.r 1) (i.z.r 1)=0 by simp [gk,e1,e2]];exact gv hn) R
  ·rw [show b.F=F from hf.1];have e2:=of_decide_eq_false hf.2;refine VC.sm (cU.ok hf.2) λb=> ?_;refine VC.sm (cU.ok (decide_eq_true e1)) λb=> ?_;exact dF hG (nd (by kernel_rfl)) (by simp) λhn le R M' t'=>hx _ _ M' t' le (by unfold cW;rw [show gk 1 (i.x.r 1) (i.y.r 1) (i.z.r 1)=2 by simp [gk,e1,e2]];exact gv hn) R
 ·rw [show a.F=F from hf.1];have e1:=of_decide_eq_false hf.2;refine⟨cP.ok,λb J hf=> ?_,λb J hf=> ?_⟩
  ·rw [show b.F=F from hf.1];have e2:=of_decide_eq_true hf.2;exact dF hG (nd (by kernel_rfl)) (by simp) λhn le R M' t'=>hx _ _ M' t' le (by unfold cW;rw [show gk 1 (i.x.r 1) (i.y.r 1) (i.z.r 1)=1 by unfold gk;rw [if_neg (λh=>e1 h.1),if_pos e2]];exact gv hn) R
  ·rw [show b.F=F from hf.1];have e2:=of_decide_eq_false hf.2;refine VC.sm (cU.ok (decide_eq_false e1)) λb=> ?_;refine⟨cP.ok,λb J hf=> ?_,λb J hf=> ?_⟩
   ·rw [show b.F=F from hf.1];have e3:=of_decide_eq_true hf.2;exact dF hG (nd (by kernel_rfl)) (by simp) λhn le R M' t'=>hx _ _ M' t' le (by unfold cW;rw [show gk 1 (i.x.r 1) (i.y.r 1) (i.z.r 1)=3 by unfold gk;rw [if_neg (λh=>e1 h.1),if_neg e2,if_neg (λh=>e1 h.1),if_pos ⟨e3,by decide⟩]];exact gv hn) R
   ·rw [show b.F=F from hf.1];have e3:=of_decide_eq_false hf.2;exact dF hG (nd (by kernel_rfl)) (by simp) λhn le R M' t'=>hx _ _ M' t' le (by unfold cW;rw [show gk 1 (i.x.r 1) (i.y.r 1) (i.z.r 1)=4 by unfold gk;rw [if_neg (λh=>e1 h.1),if_neg e2,if_neg (λh=>e1 h.1),if_neg (λh=>e3 h.1)]];exact lh hn) R
theorem Gm{k1 k2 ep M tk:Nat}{g0 g1:Nat}(hG:∀p∈G i.x i.y i.z,F p.1=some p.2)(hx:jM w i ai F k1 2 tk #[.ref g0,.ref g1] ep):
  aD w R F ⟨lL w.params i (some (k1,1,k2)) #[.ref g0,.ref g1] ep 2 1,G i.x i.y i.z,M,tk⟩ 9 (lc w i) ai:=by
 refine aD.d0 (d:=8) nr (λgN=>DA w gN i k1 k2 ep M tk g0 g1) ⟨cP.ok,λa J hf=> ?_,λa J hf=> ?_⟩
 ·rw [show a.F=F from hf.1];have e1:=of_decide_eq_true hf.2;refine⟨cP.ok,λb J hf=> ?_,λb J hf=> ?_⟩
  ·rw [show b.F=F from hf.1];have e2:=of_decide_eq_true hf.2;exact dF hG (nd (by kernel_rfl)) (by simp) λhn le R M' t'=>hx _ _ M' t' le (by unfold cW;rw [show gk 2 (i.x.r 2) (i.y.r 2) (i.z.r 2)=0 by simp [gk,e1,e2]];exact gv hn) R
  ·rw [show b.F=F from hf.1];have e2:=of_decide_eq_false hf.2;refine VC.sm (cU.ok hf.2) λb=> ?_;refine VC.sm (cU.ok (decide_eq_true e1)) λb=> ?_;refine VC.sm (cU.ok (decide_eq_false (by rw [e1];exact e2))) λb=> ?_;exact dF hG (nd (by kernel_rfl)) (by simp) λhn le R M' t'=>hx _ _ M' t' le (by unfold cW;rw [show gk 2 (i.x.r 2) (i.y.r 2) (i.z.r 2)=4 by simp [gk,e1,e2]];exact lh hn) R
 ·rw [show a.F=F from hf.1];have e1:=of_decide_eq_false hf.2;refine⟨cP.ok,λb J hf=> ?_,λb J hf=> ?_⟩
  ·rw [show b.F=F from hf.1];have e2:=of_decide_eq_true hf.2;exact dF hG (nd (by kernel_rfl)) (by simp) λhn le R M' t'=>hx _ _ M' t' le (by unfold cW;rw [show gk 2 (i.x.r 2) (i.y.r 2) (i.z.r 2)=1 by unfold gk;rw [if_neg (λh=>e1 h.1),if_pos e2]];exact gv hn) R
  ·rw [show b.F=F from hf.1];have e2:=of_decide_eq_false hf.2;refine VC.sm (cU.ok (decide_eq_false e1)) λb=> ?_;refine⟨cP.ok,λb J hf=> ?_,λb J hf=> ?_⟩
   ·rw [show b.F=F from hf.1];have e3:=of_decide_eq_true hf.2;exact dF hG (nd (by kernel_rfl)) (by simp) λhn le R M' t'=>hx _ _ M' t' le (by unfold cW;rw [show gk 2 (i.x.r 2) (i.y.r 2) (i.z.r 2)=3 by unfold gk;rw [if_neg (λh=>e1 h.1),if_neg e2,if_neg (λh=>e1 h.1),if_pos ⟨e3,by decide⟩]];exact gv hn) R
   ·rw [show b.F=F from hf.1];have e3:=of_decide_eq_false hf.2;exact dF hG (nd (by kernel_rfl)) (by simp) λhn le R M' t'=>hx _ _ M' t' le (by unfold cW;rw [show gk 2 (i.x.r 2) (i.y.r 2) (i.z.r 2)=4 by unfold gk;rw [if_neg (λh=>e1 h.1),if_neg e2,if_neg (λh=>e1 h.1),if_neg (λh=>e3 h.1)]];exact lh hn) R
end
def eS(gN:Nat)(i:In)(k1 k2 g0 g1 g2 ep M tk:Nat)(aa:RB):ax:=bX w gN 900 8 [1,7,1,7,19,7,7,7,11,1] (.ret (.ok .next) λst=>[(.l (st.L.take 4),.l (lL w.params i (some (k1,2,k2)) #[.ref g0,.ref g1,.ref g2] ep 3 0))]) aa (lc w i) ⟨lL w.params i (some (k1,2,k2)) #[.ref g0,.ref g1,.ref g2] ep 3 0,G i.x i.y i.z,M,tk⟩
theorem oH w gN i k1 k2 g0 g1 g2 ep M tk:∀aa,aE (eS w gN i k1 k2 g0 g1 g2 ep M tk aa):=by apply bh w
def bL(i:In):az:=⟨9,λJ=>lc w i,bH (lL w.params i none #[] 0 0 3) (G i.x i.y i.z) (i.N+4) (i.t+7),λJ J=> .ok .next,λa st=>⟨lL w.params i (some (a.k 0,2,a.k 1)) #[.ref (a.k 2),.ref (a.k 3),.ref (a.k 4)] 3 3 0,st.G,a.N,a.t⟩,
 λF a=>F.le a.F/\∀k,k<3->cW a.F (a.k (k+2)) k (i.x.r k) (i.y.r k) (i.z.r k)⟩
theorem bL.ok{w:World}{R:aA}{F:aj}{i:In}(hG:∀p∈G i.x i.y i.z,F p.1=some p.2):(bL w i).OK w R F:=λcc st hc he=>by
 have wU:=eA he;rw [hc];subst wU;refine aD.frame (L1:=lL w.params i none #[] 0 0 3) (L2:=[]) (G1:=G i.x i.y i.z) (jT:=λr F' ah=>r= .ok .next/\TY λk1 k2 a0 a1 a2=>F.le F'/\cW F' a0 0 (i.x.r 0) (i.y.r 0) (i.z.r 0)/\cW F' a1 1 (i.x.r 1) (i.y.r 1) (i.z.r 1)/\cW F' a2 2 (i.x.r 2) (i.y.r 2) (i.z.r 2)/\ah.L=lL w.params i (some (k1,2,k2)) #[.ref a0,.ref a1,.ref a2] 3 3 0)
  (by rw [List.append_nil]) hG ?_ λr F' bU hh=> ?_
 ·refine Gp (k1:=0) (k2:=0) (gg:=0) hG λF1 a0 M1 t1 l1 q0 R=> ?_;have IG:∀p∈G i.x i.y i.z,F1 p.1=some p.2:=λp hp=>l1 _ _ (hG p hp);refine Gn (k2:=i.t+7) (g0:=a0) IG λF2 a1 M2 t2 l2 q1 R=> ?_;have Mj:∀p∈G i.x i.y i.z,F2 p.1=some p.2:=λp hp=>l2 _ _ (IG p hp);refine Gm (k2:=t1) (g0:=a0) (g1:=a1) Mj λF3 a2 M3 t3 l3 q2 R=> ?_;have key:aD w R F3 ⟨lL w.params i (some (i.t+7+1,2,t2)) #[.ref a0,.ref a1,.ref a2] 3 3 0,G i.x i.y i.z,M3,t3⟩ 9 (lc w i) λr F' ah=>F'=F3/\r= .ok .next/\ah.L=lL w.params i (some (i.t+7+1,2,t2)) #[.ref a0,.ref a1,.ref a2] 3 3 0:=
   aD.d0 (d:=8) nr (λgN=>oH w gN i (i.t+7+1) t2 a0 a1 a2 3 M3 t3) (VC.keep λN' t'=>⟨rfl,rfl,rfl⟩)
  refine key.aT λr F' ah hh=> ?_;obtain⟨y1,y2,y3⟩:=hh;subst y1;exact⟨y2,_,_,a0,a1,a2,l1.trans (l2.trans l3),(q0.le l2).le l3,q1.le l3,q2,y3⟩
 ·obtain⟨y1,k1,k2,a0,a1,a2,y2,y3,y4,y5,y6⟩:=hh;refine⟨_,by rw [List.append_nil],{bB F' bU.N bU.t 0 with k:=lk a2 [k1,k2,a0,a1]},rfl,⟨y2,λk hk=> ?_⟩,y1,by rw [y6];rfl⟩;exact Tn k hk y3 y4 y5
def wS(gN:Nat)(i:In)(aa:RB):ax:=bX w gN 900 9 (wJ++[1]) (.hk (bL w i) λa=> .ret (.ok (.ret (.ref (i.N+1)))) (bJ ([]++[(1,(i.N+1,aw #[.ref (a.k 2),.ref (a.k 3),.ref (a.k 4)] 3))]))) aa (c i.x.a i.y.a i.z.a) ⟨[],G i.x i.y i.z,i.N,i.t⟩
theorem rD w gN i:∀aa,aE (wS w gN i aa):=by apply bh w
end LG
structure Ao(F:aj)(l n a0 a1 a2:Nat)(x y z:R3):Prop where
 l:F l=some (aw #[.ref a0,.ref a1,.ref a2] n)
 g0:LG.cW F a0 0 (x.r 0) (y.r 0) (z.r 0)
 g1:LG.cW F a1 1 (x.r 1) (y.r 1) (z.r 1)
 g2:LG.cW F a2 2 (x.r 2) (y.r 2) (z.r 2)
noncomputable def kY(x y z:R3):az:=aW 10 (λJ=>LG.c x.a y.a z.a) (λa=> .ok (.ret (.ref (a.k 0)))) λF a=>Ao a.F (a.k 0) (a.k 1) (a.k 2) (a.k 3) (a.k 4) x y z
theorem kY.ok{w:World}{R:aA}{F:aj}{x y z:R3}(hx:F x.a=some (DZ x))(hy:F y.a=some (DZ y))(hz:F z.a=some (DZ z)):(kY x y z).OK w R F:=by have hG:∀p∈LG.G x y z,F p.1=some p.2:=aq hx (aq hy (aq hz cB));refine aW.of hG λc R N t=>aD.d0 (d:=9) nr (λgN=>LG.rD w gN ⟨x,y,z,N,t⟩) ⟨LG.bL.ok hG,λa le hf=> ?_⟩;refine VC.gq (nd (by kernel_rfl)) λF' gU hn N' t'=> ?_;refine⟨rfl,{bB _ N' t' 0 with k:=λn=>match n with|0=>N+1|1=>3|n+2=>a.k (n+2)},rfl,rfl,rfl,?_,rfl⟩;exact⟨hn 0 rfl,(hf.2 0 (by decide)).le gU,(hf.2 1 (by decide)).le gU,(hf.2 2 (by decide)).le gU⟩
end H
abbrev dP:=aU × aU
theorem HY{w:World}{h:Heap}{a:Addr}{x:dP}{t u:Nat}(ha:h.get? a=some (dU (.bytes x.1 t) (.bytes x.2 u))):IsTupleKey (knd w) h [x.1.toList,x.2.toList] a:=
 ⟨_,_,_,ha,rfl,rfl,.cons (kI x.1 t) (.cons (kI x.2 u) .nil)⟩
theorem DX(x y:dP):decide ([x.1.toList,x.2.toList]=[y.1.toList,y.2.toList])=decide (x=y):=by
 obtain⟨x1,x2⟩:=x;obtain⟨y1,y2⟩:=y;have:([x1.toList,x2.toList]=[y1.toList,y2.toList])↔((x1,x2)=(y1,y2)):=by
  constructor
  ·intro h;have h1:=(List.cons.inj h).1;have h2:=(List.cons.inj (List.cons.inj h).2).1;rw [Array.ext' h1,Array.ext' h2]
  ·intro h;obtain⟨rfl,rfl⟩:=Prod.mk.inj h;rfl
 exact decide_eq_decide.mpr this
theorem zG:entryFor table "tuple.__eq__"=some Builtin.«tuple.__eq__»:=entryFor_of_tree (by kernel_rfl)
section
variable{w:World}{R:aA}{F:aj}{st:aZ}{aX:Nat}
theorem ab.DY{T id:String}{op:CmpOp}{a b:Addr}{P:Value->aj->aZ->Prop}
  (ha:∀hh,bO (H.KP w.params) F R hh st->∃o,hh.get? a=some o/\o.cls= .type T) (hb:∀hh,bO (H.KP w.params) F R hh st->∃o,hh.get? b=some o/\o.cls= .type T)
  (slot:PySem.Slot T (cmpInfo op).2.1 id) (args:argsOk id ⟨[.ref a,.ref b],[]⟩)
  (h:aD w R F st aX (.builtin id ⟨[.ref a,.ref b],[]⟩) λr F' ah=>∃c,r= .ok (.ret (.bool c))/\P (.bool c) F' ah):ab w R F st aX (richCompare op (.ref a) (.ref b)) P:= .mk λA hA hh g dr os Rl=>by
 refine wpAny_richCompare_same_room (ha _ Rl) (hb _ Rl) slot (wpAny_call (codeAny_call_builtin_code (plainId_quiet slot.plain _) ?_)) (by have:=hA.un;show A.units<9900;omega);refine slot.check _ _ _ _ _ _ _ _ (ha _ Rl) args ?_;refine codeAny_mono (h hh g dr os Rl A hA) λr s' h'=> ?_;obtain⟨F',ah,hl,cu,ht,ho,c,rfl,hp⟩:=h';exact⟨(by intro h;cases h),F',ah,hl,cu,ht,ho,hp⟩
theorem ab.release{vs keep:List Value}{P:Unit->aj->aZ->Prop}(h:P () F st):ab w R F st aX (PySem.release vs keep) P:= .mk λA hA hh g dr os Rl=>wpAny_release ⟨F,st,aj.le.refl F,Rl,rfl,rfl,h⟩
theorem ab.iu{op:CmpOp}{l r:PySem.Expr}{q:Pos}{bx:PySem.Env}{x:Sem Value}{a b:Value}{bU fI:aZ}{P:Bool->aj->aZ->Prop}(hm:behindInMarks op r=false)(Ls:∀a b,compareOp op a b=richCompare op a b)
  (hl:ab w R F st aX (PySem.eval l bx) λv F' ah=>v=a/\F'=F/\ah=bU) (hr:ab w R F bU aX (PySem.eval r bx) λv F' ah=>v=b/\F'=F/\ah=fI)
  (hc:ab w R F fI aX (richCompare op a b) λv F' ah=>∃c,v= .bool c/\P c F' ah):ab w R F st aX (isTrue (.Compare l [op] [r] q) bx x) P:=by
 show ab w R F st aX (PySem.eval l bx>>=λleft=>testChain q left [op] [markedBehindIn op r (PySem.eval r bx)]) P;refine ab.bind hl λv F' ah J hh=> ?_;obtain⟨e1,e2,e3⟩:=hh;subst e1 e2 e3;have e:markedBehindIn op r (PySem.eval r bx)=PySem.eval r bx:=by unfold markedBehindIn;rw [hm]
 rw [e];show ab w R F' ah aX (PySem.holding [v] (PySem.eval r bx)>>=λrv=>PySem.standAt q>>=λJ=>operate [v,rv] (compareOp op v rv)>>=λc=>PySem.holding [c] (truthy c)) P;refine ab.bind (ab.holding hr) λu F1 DH J hh=> ?_;obtain⟨e1,e2,e3⟩:=hh;subst e1 e2 e3;refine ab.bind (P:=λJ F2 ku=>F2=F1/\ku=DH) (ab.standAt ⟨rfl,rfl⟩) λJ F2 ku J hh=> ?_;obtain⟨e1,e2⟩:=hh;subst e1 e2;rw [Ls];show ab w R F2 ku aX ((PySem.holding [v,u] (richCompare op v u)>>=λr=>PySem.release [v,u] [r]>>=λJ=>Pure.pure r)>>=λc=>PySem.holding [c] (truthy c)) P;refine ab.bind (P:=λv F' ah=>∃c,v= .bool c/\P c F' ah) (ab.bind (ab.holding hc) λc F3 fB J wX=>ab.bind (P:=λJ F2 ku=>F2=F3/\ku=fB) (ab.release ⟨rfl,rfl⟩) λJ F4 xj J ⟨e1,e2⟩=> ?_) λc F3 fB J hh=> ?_
 ·subst e1 e2;exact ab.pure wX
 ·obtain⟨d,e1,hp⟩:=hh;subst e1;exact ab.pure hp
theorem ab.Ed{x y:PySem.Expr}{q:Pos}{bx:PySem.Env}{u:Sem Value}{P:Bool->aj->aZ->Prop}
  (h:ab w R F st aX (isTrue x bx (PySem.eval x bx)) λb F' ah=>match b with
   |true=>P true F' ah
   |false=>ab w R F' ah aX (isTrue y bx (PySem.eval y bx)) P):ab w R F st aX (isTrue (.BoolOp .Or [x,y] q) bx u) P:=by
 show ab w R F st aX (isTrue x bx (PySem.eval x bx)>>=λb=>match BoolOp.Or,b with
  | .And,false=>Pure.pure false
  | .Or,true=>Pure.pure true
  |_,_=>isTrue y bx (PySem.eval y bx)>>=λb=>match BoolOp.Or,b with
   | .And,false=>Pure.pure false
   | .Or,true=>Pure.pure true
   |_,_=>(Pure.pure false:Sem Bool)) P
 refine ab.bind h λb F' ah J hb=> ?_;cases b with
 |true=>exact ab.pure hb
 |false=>
  refine ab.bind (hb:ab w R F' ah aX (isTrue y bx (PySem.eval y bx)) P) λb F1 bU J hb=> ?_;cases b with
  |true=>exact ab.pure hb
  |false=>exact ab.pure hb
theorem ab.ia{test:PySem.Expr}{body orelse:List PySem.Stmt}{q:Pos}{bx:PySem.Env}{P:Flow->aj->aZ->Prop}
  (h:ab w R F st aX (isTrue test bx (PySem.eval test bx)) λb F' ah=>ab w R F' ah aX (match b with
   |true=>execs body bx
   |false=>execs orelse bx) P):ab w R F st aX (execs [.If test body orelse q] bx) P:=by
 show ab w R F st aX ((PySem.standAt q>>=λJ=>isTrue test bx (PySem.eval test bx)>>=λb=>if b=true then execs body bx else execs orelse bx)>>=λf=>match f with
  | .next=>(Pure.pure .next:Sem Flow)
  |f=>Pure.pure f) P
 refine ab.bind (P:=P) (ab.bind (P:=λJ F2 ku=>F2=F/\ku=st) (ab.standAt ⟨rfl,rfl⟩) λJ F2 ku J ⟨e1,e2⟩=> ?_) λf F' ah J hf=> ?_
 ·subst e1 e2;refine ab.bind h λb F' ah J hb=> ?_;cases b<;>exact hb
 ·cases f<;>exact ab.pure hf
end
theorem aD.ee{w:World}{R:aA}{F:aj}{st:aZ}{aX:Nat}{c:Code}{ai:Result->aj->aZ->Prop}{Y X:List (Nat × (Addr × Obj))}{G1:aA}(hi:((Y++X).map (·.1)).Nodup)(e:aY (bJ (Y++X) st))(hg:∀p∈G1,F p.1=some p.2)
  (h:((X.map (·.2)).map (·.1)).Nodup->F.le (cX F (X.map (·.2)))->aD w R (cX F (X.map (·.2))) ⟨Y.map (·.2),G1,st.N,st.t⟩ aX c ai):aD w R F st aX c ai:=λhh g dr os Rl=>by
 have hn:(st.L.map (·.1)).Nodup:=by have:=Rl.nd;rw [List.map_append]at this;exact(List.nodup_append.mp this).1
 have hm:=fM e;have hd:=dK hn hm hi;have C8:∀p∈(Y++X).map (·.2),p∈st.L:=λp hp=>by obtain⟨q,hq,rfl⟩:=List.mem_map.mp hp;exact aJ (hm q hq)
 obtain⟨rest,hr⟩:=gQ _ st.L hd C8;rw [List.map_append,List.append_assoc]at hr;have Rp:=Rl.r9 (L':=Y.map (·.2)++(X.map (·.2)++rest)) (R':=R) (hr.append_right R);have hX:((X.map (·.2)).map (·.1)).Nodup:=by rw [List.map_append,List.map_append]at hd;exact(List.nodup_append.mp hd).2.1
 obtain⟨R1,le⟩:=Rp.mn (n:=(Y.map (·.2)).length) (X:=X.map (·.2)) (L1:=Y.map (·.2)) (G1:=G1) (by simp) (λp hp=>by simp only [List.drop_left];exact List.mem_append_left _ hp) hX (λle p hp=>le _ _ (hg p hp));exact(h hX le hh g dr os R1).aT λr s' h'=>h'.up le
def i7(j1 j2:Nat)(l1:Addr)(vs:aV)(n:Nat)(l2:Addr)(ws:aV)(m:Nat):az:=⟨0,λJ=> .builtin "list.__add__" ⟨[.ref l1,.ref l2],[]⟩,λst=>[(.p (bP st.L j1),.p (some (l1,aw vs n))),(.p (bP st.L j2),.p (some (l2,aw ws m)))],
 λJ st=> .ok (.ret (.ref st.N)),λJ st=>⟨eO st.L st.N (aw (vs++ws) 0),st.G,st.N+1,st.t⟩,same⟩
theorem B8:entryFor table "list.__add__"=some Builtin.«list.__add__»:=entryFor_of_tree (by kernel_rfl)
theorem i7.ok{w:World}{R:aA}{F:aj}{j1 j2:Nat}{l1 l2:Addr}{vs ws:aV}{n m:Nat}(hz:vs.size+ws.size<=sizeLine):(i7 j1 j2 l1 vs n l2 ws m).OK w R F:=λc st hc hd=>by
 rw [hc];have h1:bP st.L j1=some (l1,aw vs n):=cp.p.inj (aY.cons.mp hd).1;have h2:bP st.L j2=some (l2,aw ws m):=cp.p.inj (aY.cons.mp (aY.cons.mp hd).2).1;refine aD.meets (by decide+kernel) B8 (AutoSeq1.list___add___list_list_0 l1 vs n l2 ws m hz) λhh g dr os Rl A=>⟨Rl.mem _ (List.mem_append_left _ (aJ h1)),Rl.mem _ (List.mem_append_left _ (aJ h2)),?_⟩
 have e:hh.objs.size=st.N:=Rl.size;show bI w R os F _ (.ok (.ret (.ref hh.objs.size))) _;rw [e];exact⟨F,_,aj.le.refl F,Rl.alloc rfl,rfl,rfl,bB F 0 0 0,rfl,rfl,rfl,rfl⟩
noncomputable def mu(o:Option Obj):List Stmt:=match(SY o).body with
 | .stmts b=>b
 |_=>[]
def aB(l:List Stmt)(n:Nat):Stmt:=match bP l n with
 |some s=>s
 |none=>default
noncomputable def iq:Stmt->List Stmt
 | .For _ _ b _ _=>b
 |_=>[]
noncomputable def eB:Stmt->PySem.Expr
 | .For t _ _ _ _=>t
 |_=>default
noncomputable def cC:Stmt->PySem.Expr
 | .If t _ _ _=>t
 |_=>default
noncomputable def cY:Stmt->List Stmt
 | .If _ b _ _=>b
 |_=>[]
noncomputable def gD:Stmt->List Stmt
 | .If _ _ b _=>b
 |_=>[]
noncomputable def BF:Stmt->Pos
 | .If _ _ _ p=>p
 |_=>default
def lS:PySem.Expr->Nat->PySem.Expr
 | .BoolOp _ l _,n=>match bP l n with
  |some e=>e
  |none=>default
 |_,_=>default
noncomputable def NB:PySem.Expr->Pos
 | .BoolOp _ _ p=>p
 |_=>default
noncomputable def ki:PySem.Expr->PySem.Expr
 | .Compare l _ _ _=>l
 |_=>default
def UA:PySem.Expr->PySem.Expr
 | .Compare _ _ rs _=>rs.headD default
 |_=>default
noncomputable def zX:PySem.Expr->Pos
 | .Compare _ _ _ p=>p
 |_=>default
noncomputable def sO(a N:Nat):PySem.Env:={scope:=(SY (H.KP P a)).scope,locals:=N,globals:=(SY (H.KP P a)).globals,cells:=(SY (H.KP P a)).closure,qual:=(SY (H.KP P a)).qualname++(".<locals>.":Str),func:=some a,code:=(SY (H.KP P a)).code,frame:=some N,builtins:=(SY (H.KP P a)).builtins}
namespace H
structure RT where
 a:Addr
 e:Nat
 r:Nat->Addr
 p:Nat->dP
 t:Nat->Nat
 u:Nat->Nat
noncomputable def A6(x:RT)(k:Nat):Obj:=dU (.bytes (x.p k).1 (x.t k)) (.bytes (x.p k).2 (x.u k))
noncomputable def O0(x:RT):Obj:=aw #[.ref (x.r 0),.ref (x.r 1),.ref (x.r 2)] x.e
noncomputable def rG(x:RT):aA:=[(x.a,O0 x),(x.r 0,A6 x 0),(x.r 1,A6 x 1),(x.r 2,A6 x 2)]
theorem xR{a:Addr}{p0 p1 p2:dP}(h:bM F a [p0,p1,p2]):∃x:RT,x.a=a/\[x.p 0,x.p 1,x.p 2]=[p0,p1,p2]/\∀q∈rG x,F q.1=some q.2:=by
 obtain⟨vs,ep,h1,h2⟩:=h;obtain⟨vs⟩:=vs;have h2:cy F vs _:=h2;cases h2 with|cons r0 t0 e0 OM te0 EJ hs=>
 cases hs with|cons r1 t1 e1 OL te1 EH hs=>
 cases hs with|cons r2 t2 e2 OJ te2 H9 hs=>
 cases hs;refine⟨⟨a,ep,lk r2 [r0,r1],lk ((t2,e2)) [(t0,e0),(t1,e1)],lk OJ [OM,OL],lk te2 [te0,te1]⟩,rfl,rfl,λq hq=> ?_⟩;simp only [rG,List.mem_cons,List.not_mem_nil,or_false]at hq;rcases hq with rfl|rfl|rfl|rfl
 ·exact h1
 ·exact EJ
 ·exact EH
 ·exact H9
noncomputable def mark(k:Nat):aU:=match k with
 |0=> #[60,60,60,60,60,60,60,32,111,117,114,115]
 |1=> #[61,61,61,61,61,61,61]
 |_=> #[62,62,62,62,62,62,62,32,116,104,101,105,114,115]
namespace LP
def G(x y z:RT):aA:=rG x++(rG y++rG z)
noncomputable def wJ:List Nat:=(zJ [[1,0,0],FG,FG,Ss,[7,0]])
noncomputable def c(x y z:Addr):Code:= .call (.ref 1386) ⟨[.ref x,.ref y,.ref z],[]⟩
structure In where
 x:RT
 y:RT
 z:RT
 N:Nat
 t:Nat
def fr(i:In)(ra:Nat)(cl:Bool)(o:Option (Nat × Nat × Nat)):Obj:=match o with
 |none=>{cls:= .type "frame",data:= .dict #[d P "x" i.t (.ref i.x.a),d P "y" (i.t+1) (.ref i.y.a),d P "z" (i.t+2) (.ref i.z.a),d P "rows" (i.t+3) (.ref ra),d P "clash" (i.t+4) (.bool cl)] 5}
 |some (k1,k,k2)=>{cls:= .type "frame",data:= .dict #[d P "x" i.t (.ref i.x.a),d P "y" (i.t+1) (.ref i.y.a),d P "z" (i.t+2) (.ref i.z.a),d P "rows" (i.t+3) (.ref ra),d P "clash" (i.t+4) (.bool cl),d P "k" k1 (.int k k2)] 6}
noncomputable def Kz(i:In):Obj:={cls:= .type "range",data:= .fields #[.int 0 (i.t+6),.int 3 (i.t+5),.int 1 (i.t+7)]}
def lL(i:In)(o:Option (Nat × Nat × Nat))(ra:Nat)(cl:Bool)(vs:aV)(ep k m:Nat):aA:=[(i.N,fr P i ra cl o),(ra,aw vs ep),(i.N+2,Kz i),(i.N+3,LG.tX k m)]
noncomputable def Hy(l:aA)(js:List Nat):List (Nat × (Addr × Obj)):=js.zip l
def AF:Stmt:=aB (mu (H.KP P 1386)) 2
def C2:Stmt:=aB (iq (AF P)) 0
def C1:Stmt:=aB (gD (C2 P)) 0
def c1:PySem.Expr:=lS (cC (C2 P)) 0
def c2:PySem.Expr:=lS (cC (C2 P)) 1
def c3:PySem.Expr:=cC (C1 P)
abbrev ev(i:In):PySem.Env:=sO w.params 1386 i.N
def tg:PySem.Expr:=eB (AF P)
def pG:PySem.Expr:= .BoolOp .Or [.Compare (ki (c1 P)) [.Eq] [UA (c1 P)] (zX (c1 P)),.Compare (ki (c2 P)) [.Eq] [UA (c2 P)] (zX (c2 P))] (NB (cC (C2 P)))
def Lf:Stmt:= .If (.Compare (ki (c3 P)) [.Eq] [UA (c3 P)] (zX (c3 P))) (cY (C1 P)) (gD (C1 P)) (BF (C1 P))
def Dr:List Stmt:=[.If (pG P) (cY (C2 P)) [Lf P] (BF (C2 P))]
def ph(i:In):Code:= .forLoop (tg w.params) (.ref (i.N+3)) (Dr w.params) [] (ev w i)
theorem Es(it v:Value):letOwnedTupleGo (tg P) it v=Pure.pure ():=by kernel_rfl
theorem QE:behindInMarks .Eq (UA (c1 P))=false:=by kernel_rfl
theorem QD:behindInMarks .Eq (UA (c2 P))=false:=by kernel_rfl
theorem QC:behindInMarks .Eq (UA (c3 P))=false:=by kernel_rfl
def sA(i:In)(k1 k tk ra:Nat)(cl:Bool)(vs:aV)(ep M t:Nat):aZ:=⟨lL P i (some (k1,k,tk)) ra cl vs ep (k+1) (2-k),G i.x i.y i.z,M,t⟩
noncomputable def Br(M t:Nat):List (Nat × (Addr × Obj)):=[(6,(M+2,dU (.bytes (mark 0) (t+1)) (.bytes #[10] (t+5)))),(9,(M+5,dU (.bytes (mark 1) (t+7)) (.bytes #[10] (t+10)))),(12,(M+8,dU (.bytes (mark 2) (t+13)) (.bytes #[10] (t+15))))]
noncomputable def HD(i:In)(k M:Nat):aV:= #[.ref (M+2),.ref (i.y.r k),.ref (M+5),.ref (i.z.r k),.ref (M+8)]
def E5(i:In)(k1 k tk ra:Nat)(cl:Bool)(vs:aV)(ep:Nat):bE:= .ret (.ok .next) (bJ (Hy (lL P i (some (k1,k,tk)) ra cl vs ep (k+1) (2-k)) [0,1,2,3]++[]))
def IZ(i:In)(k1 k tk M t:Nat)(vs:aV):bE:= .ret (.ok .next) (bJ (Hy (lL P i (some (k1,k,tk)) (M+10) true (vs++HD i k M) 0 (k+1) (2-k)) [0,14,2,3]++Br M t))
abbrev eK:=Fast.tw14044960220447912780
abbrev bD:=Fast.tw12563942051412417395
abbrev jE:=Fast.tw17772580674575903948
theorem k3{p:Nat->Prop}(a:p 0)(b:p 1)(c:p 2):∀k,k<3->p k
 |0,_=>a
 |1,_=>b
 |2,_=>c
 |n+3,h=>absurd h (by lia)
noncomputable def oo(k1 k2:Nat):Nat->Option (Nat × Nat × Nat)
 |0=>none
 |k+1=>some (k1,k,k2)
noncomputable def kk(k1 tk:Nat):Nat->Nat
 |0=>tk+1
 |_=>k1
section
variable(w:World)(i:In)(k1 tk ra:Nat)(cl:Bool)(vs:aV)(ep M t:Nat)
theorem KS:∀k:Nat,k<3->∀aa:Nat->aL,aE (aF w 300 8 (zJ [[7,1,7,19],RK,[7]]) (.ret (.ok (.ret (.int k tk))) (bH (lL w.params i (oo k1 t k) ra cl vs ep (k+1) (2-k)) (G i.x i.y i.z) M (tk+1))) aa (Fast.tw9404975358583537561 (.ref (i.N+3))) CR.jL ⟨lL w.params i (oo k1 t k) ra cl vs ep k (2-k+1),G i.x i.y i.z,M,tk⟩):=by apply k3<;>apply bh w
theorem MO:∀k:Nat,k<3->∀aa:Nat->aL,aE (aF w 100 8 [1,1] (.ret (.ok .next) (bH (sA w.params i (kk k1 tk k) k tk ra cl vs ep M 0).L (G i.x i.y i.z) M (tk+2))) aa (jE (tg w.params) (ev w i) (.int k tk)) (λJ=> .next) ⟨lL w.params i (oo k1 t k) ra cl vs ep (k+1) (2-k),G i.x i.y i.z,M,tk+1⟩):=by apply k3<;>apply bh w
def ex(k:Nat)(sc:List Nat)(r:Nat)(e:PySem.Expr)(aa:RB):ax:=aF w 200 8 sc (.ret (.ok (.ret (.ref r))) (bH (sA w.params i k1 k tk ra cl vs ep M 0).L (G i.x i.y i.z) M t)) aa (eK e (ev w i)) .ret (sA w.params i k1 k tk ra cl vs ep M t)
theorem e0:∀k:Nat,k<3->∀aa,aE (ex w i k1 tk ra cl vs ep M t k (zJ [[1],Sg]) (i.y.r k) (ki (c1 w.params)) aa):=by apply k3<;>apply bh w
theorem e1:∀k:Nat,k<3->∀aa,aE (ex w i k1 tk ra cl vs ep M t k (zJ [[1],Se]) (i.z.r k) (UA (c1 w.params)) aa):=by apply k3<;>apply bh w
theorem e2:∀k:Nat,k<3->∀aa,aE (ex w i k1 tk ra cl vs ep M t k (zJ [[1,1],va]) (i.x.r k) (ki (c2 w.params)) aa):=by apply k3<;>apply bh w
theorem e3:∀k:Nat,k<3->∀aa,aE (ex w i k1 tk ra cl vs ep M t k (zJ [[1],Se]) (i.z.r k) (UA (c2 w.params)) aa):=by apply k3<;>apply bh w
theorem e4:∀k:Nat,k<3->∀aa,aE (ex w i k1 tk ra cl vs ep M t k (zJ [[1,1],va]) (i.x.r k) (ki (c3 w.params)) aa):=by apply k3<;>apply bh w
theorem e5:∀k:Nat,k<3->∀aa,aE (ex w i k1 tk ra cl vs ep M t k (zJ [[1],Sg]) (i.y.r k) (UA (c3 w.params)) aa):=by apply k3<;>apply bh w
theorem KJ:∀k:Nat,k<3->∀aa:Nat->aL,aE (aF w 200 8 (zJ [r6,Sg,[1,3,0,5]]) (.hk (br 1 ra vs ep (.ref (i.y.r k))) λb=>E5 w.params i k1 k tk ra cl (vs.push (.ref (i.y.r k))) (b.k 0)) aa (bD (cY (C2 w.params)) (ev w i)) id (sA w.params i k1 k tk ra cl vs ep M t)):=by apply k3<;>apply bh w
theorem KD:∀k:Nat,k<3->∀aa:Nat->aL,aE (aF w 200 8 (zJ [r6,Se,[1,3,0,5]]) (.hk (br 1 ra vs ep (.ref (i.z.r k))) λb=>E5 w.params i k1 k tk ra cl (vs.push (.ref (i.z.r k))) (b.k 0)) aa (bD (cY (C1 w.params)) (ev w i)) id (sA w.params i k1 k tk ra cl vs ep M t)):=by apply k3<;>apply bh w
theorem KC:∀k:Nat,k<3->∀aa:Nat->aL,aE (aF w 900 8 (zJ [[1,1,1,0],RC,[1,11,11,11,1,11,7,11,14,1],Sg,[0],RC,[1,17,17,17,1,17,7,17,14,1],Se,[0],RC,[1,23,23,23,1,23,7,23,14,3,27,3,1,3,0,89,1,1]]) (.hk (i7 1 13 ra vs ep (M+9) (HD i k M) 0) λJ=>IZ w.params i k1 k tk M t vs) aa (bD (gD (C1 w.params)) (ev w i)) id (sA w.params i k1 k tk ra cl vs ep M t)):=by apply k3<;>apply bh w
end
theorem xO{vs ws:List Value}{af rows':Rows}(x:cy F vs af)(y:cy F ws rows'):cy F (vs++ws) (af++rows'):=by
 induction x with
 |nil=>exact y
 |cons r t e tt te hr hs ih=>exact .cons r t e tt te hr ih
noncomputable def step(o:Bool × Rows)(x y z:dP):Bool × Rows:=if y=z\/x=z then(o.1,o.2++[y])else if x=y then(o.1,o.2++[z])else(true,o.2++[(mark 0,#[10]),y,(mark 1,#[10]),z,(mark 2,#[10])])
theorem rM(o:Bool × Rows)(x y z:dP):(step o x y z).2.length<=o.2.length+5:=by
 unfold step;split
 ·simp
 ·split<;>simp
noncomputable def plain(p q r:Nat->dP):Bool × Rows:=step (step (step (false,[]) (p 0) (q 0) (r 0)) (p 1) (q 1) (r 1)) (p 2) (q 2) (r 2)
theorem cQ(e:PySem.Expr)(bx:PySem.Env):PySem.eval e bx=eK e bx:=by show _=Fast.tw14044960220447912780 e bx;rw [<-Fast.te14044960220447912780]
theorem aH(l:List Stmt)(bx:PySem.Env):PySem.execs l bx=bD l bx:=by show _=Fast.tw12563942051412417395 l bx;rw [<-Fast.te12563942051412417395]
theorem fY(t:PySem.Expr)(bx:PySem.Env)(v:Value):PySem.assign t bx v=jE t bx v:=by show _=Fast.tw17772580674575903948 t bx v;rw [<-Fast.te17772580674575903948]
theorem jb{r:Option Value}{v:Value}(h:CR.jL r= .ret v):r=some v:=by
 cases r with
 |none=>cases h
 |some u=>cases h;rfl
section
variable{w:World}{R:aA}{F:aj}{ai:Result->aj->aZ->Prop}{i:In}
theorem tW{st:aZ}{a b:Addr}{x y:dP}{t1 t2 u1 u2:Nat}(ha:F a=some (dU (.bytes x.1 t1) (.bytes x.2 t2)))(hb:F b=some (dU (.bytes y.1 u1) (.bytes y.2 u2))):
  ab w R F st 8 (richCompare .Eq (.ref a) (.ref b)) λv F' ah=>∃c,v= .bool c/\c=decide (x=y)/\F'=F/\ah=st:=by
 refine ab.DY (P:=λv F' ah=>∃c,v= .bool c/\c=decide (x=y)/\F'=F/\ah=st) (λhh Rl=>⟨_,Rl.fix _ _ ha,rfl⟩) (λhh Rl=>⟨_,Rl.fix _ _ hb,rfl⟩) PySem.F.slot_tuple_eq (PySem.F.args_tuple_eq_2 _ _) ?_;intro h g dr os Rl A hA;refine codeAny_builtin zG ?_;rw [Around.under_plainId (by decide+kernel)];refine tuple_eq_tree (s:=⟨h,g,dr,st.t,os⟩) (HY (x:=x) (Rl.fix _ _ ha)) (HY (x:=y) (Rl.fix _ _ hb)) ?_;rw [DX];exact⟨F,st,aj.le.refl F,Rl,rfl,rfl,_,rfl,_,rfl,rfl,rfl,rfl⟩
abbrev jM(w:World)(i:In)(ai:Result->aj->aZ->Prop)(F:aj)(k1 k tk:Nat)(o:Bool × Rows):Prop:=∀F' ra vs ep M' t',F.le F'->cy F' vs.toList o.2->∀R,aD w R F' ⟨lL w.params i (some (k1,k,tk)) ra o.1 vs ep (k+1) (2-k),G i.x i.y i.z,M',t'⟩ 9 (ph w i) ai
theorem uT{F F':aj}{vs:aV}{af:Rows}{r t u:Nat}{p:dP}(l:F.le F')(h:cy F vs.toList af)(hr:F r=some (dU (.bytes p.1 t) (.bytes p.2 u))):cy F' (vs.push (.ref r)).toList (af++[p]):=by rw [Array.toList_push];exact(h.le l).eO r p.1 p.2 t u (l _ _ hr)
def uP(P:Params)(i:In)(F:aj)(k1 k tk:Nat)(o:Bool × Rows)(f:Flow)(F':aj)(ah:aZ):Prop:=f= .next/\F.le F'/\LV λra vs ep=>cy F' vs.toList o.2/\ah.L=lL P i (some (k1,k,tk)) ra o.1 vs ep (k+1) (2-k)
theorem M8{k1 k tk ra:Nat}{cl:Bool}{vs:aV}{ep:Nat}{af:Rows}(h:cy F vs.toList af):VC w R (λr F' ah=>∃f,r= .ok f/\uP w.params i F k1 k tk (cl,af) f F' ah) F (E5 w.params i k1 k tk ra cl vs ep):=
 VC.gq (nd (by kernel_rfl)) λF' le J N' t'=>⟨_,rfl,rfl,le,ra,vs,ep,h.le le,rfl⟩
theorem OH{k1 k tk M t:Nat}{vs:aV}{af:Rows}(h:cy F vs.toList af)(hy:F (i.y.r k)=some (A6 i.y k))(hz:F (i.z.r k)=some (A6 i.z k)):
  VC w R (λr F' ah=>∃f,r= .ok f/\uP w.params i F k1 k tk (true,af++[(mark 0,#[10]),i.y.p k,(mark 1,#[10]),i.z.p k,(mark 2,#[10])]) f F' ah) F (IZ w.params i k1 k tk M t vs):=
 VC.gq (nd (by kernel_rfl)) λF' le hn N' t'=>⟨_,rfl,rfl,le,M+10,_,0,by
  rw [Array.toList_append];refine xO (h.le le) ?_;exact .cons (M+2) (mark 0) #[10] _ _ (hn 0 rfl)<|
   .cons (i.y.r k) _ _ _ _ (le _ _ hy)<|
   .cons (M+5) (mark 1) #[10] _ _ (hn 1 rfl)<|
   .cons (i.z.r k) _ _ _ _ (le _ _ hz)<|
   .cons (M+8) (mark 2) #[10] _ _ (hn 2 rfl) .nil,rfl⟩
theorem qG{P:Flow->aj->aZ->Prop}:∀(a:Flow) F' ah,(∃f,(Except.ok (id a):Result)= .ok f/\P f F' ah)->P a F' ah:=λa F' ah hh=>by obtain⟨f,e,h⟩:=hh;cases e;exact h
theorem sf{P:Flow->aj->aZ->Prop}:∀(x:Value) F' ah,¬∃f,(Except.error x:Result)= .ok f/\P f F' ah:=λx F' ah hh=>by obtain⟨f,e,J⟩:=hh;cases e
theorem IV{k k1 tk ra ep M t:Nat}{cl:Bool}{vs:aV}{af:Rows}(hk:k<3)(N0:F (i.x.r k)=some (A6 i.x k))(JP:F (i.y.r k)=some (A6 i.y k))(JO:F (i.z.r k)=some (A6 i.z k))(hr:cy F vs.toList af)(hl:af.length<=100):
  ab w R F (sA w.params i k1 k tk ra cl vs ep M t) 8 (PySem.execs (Dr w.params) (ev w i)) (uP w.params i F k1 k tk (step (cl,af) (i.x.p k) (i.y.p k) (i.z.p k))):=by
 have fh:vs.size<=100:=by have:=hr.length;rw [Array.length_toList]at this;lia
 have NT:vs.size<=sizeLine:=Nat.le_trans fh (by rw [sizeLine_eq];decide);have Px:vs.size+5<=sizeLine:=Nat.le_trans (Nat.add_le_add_right fh 5) (by rw [sizeLine_eq];decide);have bY:ab w R F (sA w.params i k1 k tk ra cl vs ep M t) 8 (PySem.execs (cY (C2 w.params)) (ev w i)) (uP w.params i F k1 k tk (cl,af++[i.y.p k])):=
  ab.eq (aH _ _) (ab.run (enc:=id) (d:=8) nr (KJ w i k1 tk ra cl vs ep M t k hk) ⟨br.ok NT,λb J hf=>by rw [show b.F=F from hf];exact M8 (uT (aj.le.refl F) hr JP)⟩ qG sf)
 have bZ:ab w R F (sA w.params i k1 k tk ra cl vs ep M t) 8 (PySem.execs (cY (C1 w.params)) (ev w i)) (uP w.params i F k1 k tk (cl,af++[i.z.p k])):=
  ab.eq (aH _ _) (ab.run (enc:=id) (d:=8) nr (KD w i k1 tk ra cl vs ep M t k hk) ⟨br.ok NT,λb J hf=>by rw [show b.F=F from hf];exact M8 (uT (aj.le.refl F) hr JO)⟩ qG sf)
 have bC:ab w R F (sA w.params i k1 k tk ra cl vs ep M t) 8 (PySem.execs (gD (C1 w.params)) (ev w i)) (uP w.params i F k1 k tk (true,af++[(mark 0,#[10]),i.y.p k,(mark 1,#[10]),i.z.p k,(mark 2,#[10])])):=
  ab.eq (aH _ _) (ab.run (enc:=id) (d:=8) nr (KC w i k1 tk ra cl vs ep M t k hk) ⟨i7.ok Px,λb J hf=>by rw [show b.F=F from hf];exact OH hr JP JO⟩ qG sf)
 have cE:∀{sc r e},(∀aa,aE (ex w i k1 tk ra cl vs ep M t k sc r e aa))->ab w R F (sA w.params i k1 k tk ra cl vs ep M t) 8 (PySem.eval e (ev w i)) λv F' ah=>v= .ref r/\F'=F/\ah=sA w.params i k1 k tk ra cl vs ep M t:=λq=>
  ab.eq (cQ _ _) ((ab.exact (d:=8) nr q).aT λv F' ah J hh=>by obtain⟨a,b,c⟩:=hh;exact⟨Flow.ret.inj a,b,c⟩)
 refine ab.ia (ab.Ed ((ab.iu (P:=λc F' ah=>c=decide (i.y.p k=i.z.p k)/\F'=F/\ah=sA w.params i k1 k tk ra cl vs ep M t) (QE w.params) (λJ J=>rfl) (cE (e0 _ _ _ _ _ _ _ _ _ _ k hk)) (cE (e1 _ _ _ _ _ _ _ _ _ _ k hk)) (tW JP JO)).aT λc F' ah J hh=> ?_));obtain⟨e1,e2,e3⟩:=hh;subst e1;rw [e2,e3];cases h1:decide (i.y.p k=i.z.p k)with
 |true=>rw [show step (cl,af) (i.x.p k) (i.y.p k) (i.z.p k)=(cl,af++[i.y.p k])by unfold step;rw [if_pos (.inl (of_decide_eq_true h1))]];exact bY
 |false=>
  have Dh:=of_decide_eq_false h1;refine(ab.iu (P:=λc F' ah=>c=decide (i.x.p k=i.z.p k)/\F'=F/\ah=sA w.params i k1 k tk ra cl vs ep M t) (QD w.params) (λJ J=>rfl) (cE (LP.e2 _ _ _ _ _ _ _ _ _ _ k hk)) (cE (LP.e3 _ _ _ _ _ _ _ _ _ _ k hk)) (tW N0 JO)).aT λc F1 bU J hh=> ?_;obtain⟨e1,e2,e3⟩:=hh;subst e1;rw [e2,e3];cases h2:decide (i.x.p k=i.z.p k)with
  |true=>rw [show step (cl,af) (i.x.p k) (i.y.p k) (i.z.p k)=(cl,af++[i.y.p k])by unfold step;rw [if_pos (.inr (of_decide_eq_true h2))]];exact bY
  |false=>
   have E1:=of_decide_eq_false h2;refine ab.ia ((ab.iu (P:=λc F' ah=>c=decide (i.x.p k=i.y.p k)/\F'=F/\ah=sA w.params i k1 k tk ra cl vs ep M t) (QC w.params) (λJ J=>rfl) (cE (LP.e4 _ _ _ _ _ _ _ _ _ _ k hk)) (cE (LP.e5 _ _ _ _ _ _ _ _ _ _ k hk)) (tW N0 JP)).aT λc F2 fI J hh=> ?_);obtain⟨e1,e2,e3⟩:=hh;subst e1;rw [e2,e3];cases h3:decide (i.x.p k=i.y.p k)with
   |true=>rw [show step (cl,af) (i.x.p k) (i.y.p k) (i.z.p k)=(cl,af++[i.z.p k])by unfold step;rw [if_neg (λh=>h.elim Dh E1),if_pos (of_decide_eq_true h3)]];exact bZ
   |false=>rw [show step (cl,af) (i.x.p k) (i.y.p k) (i.z.p k)=(true,af++[(mark 0,#[10]),i.y.p k,(mark 1,#[10]),i.z.p k,(mark 2,#[10])])by unfold step;rw [if_neg (λh=>h.elim Dh E1),if_neg (of_decide_eq_false h3)]];exact bC
theorem lG(k k1 k2:Nat){ra ep M tk:Nat}{cl:Bool}{vs:aV}{af:Rows}(hk:k<3)(hG:∀p∈G i.x i.y i.z,F p.1=some p.2)(g:∀x∈[i.x,i.y,i.z],(x.r k,A6 x k)∈rG x)(hr:cy F vs.toList af)(hl:af.length<=100)(hx:jM w i ai F (kk k1 tk k) k tk (step (cl,af) (i.x.p k) (i.y.p k) (i.z.p k))):
  aD w R F ⟨lL w.params i (oo k1 k2 k) ra cl vs ep k (2-k+1),G i.x i.y i.z,M,tk⟩ 9 (ph w i) ai:=by
 refine aD.jA (aX:=8) (P1:=λv F' ah=>v= .int k tk/\F'=F/\ah=⟨lL w.params i (oo k1 k2 k) ra cl vs ep (k+1) (2-k),G i.x i.y i.z,M,tk+1⟩) (P2:=λF' ah=>F'=F/\ah=⟨lL w.params i (oo k1 k2 k) ra cl vs ep (k+1) (2-k),G i.x i.y i.z,M,tk+1⟩)
  (P3:=λF' ah=>uP w.params i F (kk k1 tk k) k tk (step (cl,af) (i.x.p k) (i.y.p k) (i.z.p k)) .next F' ah) ?_ ?_ ?_
 ·exact ab.eq (CR.dq _) ((ab.exact (d:=8) nr (KS w i k1 tk ra cl vs ep M k2 k hk)).aT λr F' ah J hh=>by obtain⟨a,b,c⟩:=hh;exact⟨_,jb a,rfl,b,c⟩)
 ·rintro v F' ah _ ⟨rfl,rfl,rfl⟩;refine ab.eq (Es _ _ _) (ab.pure ⟨⟨rfl,rfl⟩,?_⟩);refine ab.bind (ab.eq (fY _ _ _) (ab.exact (d:=8) nr (MO w i k1 tk ra cl vs ep M k2 k hk))) λJ F1 bU J hh=> ?_;obtain⟨J,e2,e3⟩:=hh;subst e2 e3;exact(IV hk (hG _ (List.mem_append_left _ (g i.x (by simp)))) (hG _ (List.mem_append_right _ (List.mem_append_left _ (g i.y (by simp))))) (hG _ (List.mem_append_right _ (List.mem_append_right _ (g i.z (by simp))))) hr hl).aT λf F2 fI J h=>⟨h.1,rfl,h.2⟩
 ·rintro F' ah _ ⟨_,le,Q2,QT,p4,h1,h2⟩;exact aD.drop (n:=4) (by rw [h2];rfl) (λp hp=>le _ _ (hG p hp)) λR'=>hx _ _ _ _ _ _ le h1 R'
end
def eS(gN:Nat)(i:In)(k1 k2 ra:Nat)(cl:Bool)(vs:aV)(ep M tk:Nat)(aa:RB):ax:=bX w gN 900 8 [1,7,1,7,19,7,7,7,11,1] (.ret (.ok .next) λst=>[(.l (st.L.take 4),.l (lL w.params i (some (k1,2,k2)) ra cl vs ep 3 0))]) aa (ph w i) ⟨lL w.params i (some (k1,2,k2)) ra cl vs ep 3 0,G i.x i.y i.z,M,tk⟩
theorem oH w gN i k1 k2 ra cl vs ep M tk:∀aa,aE (eS w gN i k1 k2 ra cl vs ep M tk aa):=by apply bh w
def bL(i:In)(cl:Bool)(af:Rows):az:=⟨9,λJ=>ph w i,bH (lL w.params i none (i.N+1) false #[] 0 0 3) (G i.x i.y i.z) (i.N+4) (i.t+8),λJ J=> .ok .next,
 λa st=>⟨lL w.params i (some (a.k 0,2,a.k 1)) (a.k 2) cl (a.l 0) (a.k 3) 3 0,st.G,a.N,a.t⟩,λF a=>F.le a.F/\cy a.F (a.l 0).toList af⟩
theorem bL.ok{w:World}{R:aA}{F:aj}{i:In}{cl:Bool}{af:Rows}(hG:∀p∈G i.x i.y i.z,F p.1=some p.2)(hp:plain i.x.p i.y.p i.z.p=(cl,af)):(bL w i cl af).OK w R F:=λcc st hc he=>by
 have wU:=eA he;rw [hc];subst wU;refine aD.frame (L1:=lL w.params i none (i.N+1) false #[] 0 0 3) (L2:=[]) (G1:=G i.x i.y i.z) (jT:=λr F' ah=>r= .ok .next/\TY λk1 k2 ra vs ep=>F.le F'/\cy F' vs.toList af/\ah.L=lL w.params i (some (k1,2,k2)) ra cl vs ep 3 0)
  (by rw [List.append_nil]) hG ?_ λr F' bU hh=> ?_
 ·refine lG 0 0 0 (by decide) hG (by simp [rG]) .nil (by simp) λF1 r1 v1 e1 M1 t1 l1 q1 R=> ?_;have IG:∀p∈G i.x i.y i.z,F1 p.1=some p.2:=λp hp=>l1 _ _ (hG p hp);have z1:=rM (false,[]) (i.x.p 0) (i.y.p 0) (i.z.p 0);refine lG 1 _ (i.t+8) (by decide) IG (by simp [rG]) q1 (by simp at z1;lia) λF2 r2 v2 e2 M2 t2 l2 q2 R=> ?_;have Mj:∀p∈G i.x i.y i.z,F2 p.1=some p.2:=λp hp=>l2 _ _ (IG p hp);have z2:=rM ((step (false,[]) (i.x.p 0) (i.y.p 0) (i.z.p 0)).1,(step (false,[]) (i.x.p 0) (i.y.p 0) (i.z.p 0)).2) (i.x.p 1) (i.y.p 1) (i.z.p 1);refine lG 2 _ t1 (by decide) Mj (by simp [rG]) q2 (by simp at z1;dsimp only at z2;lia) λF3 r3 v3 e3 M3 t3 l3 q3 R=> ?_;have q3:cy F3 v3.toList (plain i.x.p i.y.p i.z.p).2:=q3;have key:aD w R F3 ⟨lL w.params i (some (i.t+8+1,2,t2)) r3 (plain i.x.p i.y.p i.z.p).1 v3 e3 3 0,G i.x i.y i.z,M3,t3⟩ 9 (ph w i) λr F' ah=>F'=F3/\r= .ok .next/\ah.L=lL w.params i (some (i.t+8+1,2,t2)) r3 (plain i.x.p i.y.p i.z.p).1 v3 e3 3 0:=
   aD.d0 (d:=8) nr (λgN=>oH w gN i (i.t+8+1) t2 r3 (plain i.x.p i.y.p i.z.p).1 v3 e3 M3 t3) (VC.keep λN' t'=>⟨rfl,rfl,rfl⟩)
  refine key.aT λr F' ah hh=> ?_;obtain⟨y1,y2,y3⟩:=hh;subst y1;rw [hp]at q3 y3;exact⟨y2,_,_,_,_,_,l1.trans (l2.trans l3),q3,y3⟩
 ·obtain⟨y1,k1,k2,ra,vs,ep,y2,y3,y4⟩:=hh;exact⟨_,by rw [List.append_nil],{bB F' bU.N bU.t 0 with k:=lk ep [k1,k2,ra],l:=λJ=>vs},rfl,⟨y2,y3⟩,y1,by rw [y4];rfl⟩
def wS(gN:Nat)(i:In)(cl:Bool)(af:Rows)(aa:RB):ax:=bX w gN 900 9 (wJ++[1,1]) (.hk (bL w i cl af) λa=> .ret (.ok (.ret (.ref a.N))) (bJ ([]++[(1,(a.k 2,aw (a.l 0) (a.k 3))),(4,(a.N,dU (.ref (a.k 2)) (.bool cl)))]))) aa (c i.x.a i.y.a i.z.a) ⟨[],G i.x i.y i.z,i.N,i.t⟩
theorem rD w gN i cl af:∀aa,aE (wS w gN i cl af aa):=by apply bh w
end LP
def dZ(F:aj)(ad:Addr)(cl:Bool)(af:Rows):Prop:=∃r,F ad=some (dU (.ref r) (.bool cl))/\bM F r af
theorem dZ.le{F F':aj}(l:F.le F'){ad:Addr}{cl:Bool}{af:Rows}(h:dZ F ad cl af):dZ F' ad cl af:=by obtain⟨r,h1,h2⟩:=h;exact⟨r,l _ _ h1,h2.le l⟩
noncomputable def jw(x y z:Addr)(cl:Bool)(af:Rows):az:=aW 10 (λJ=>LP.c x y z) (λa=> .ok (.ret (.ref (a.k 0)))) λF a=>F.le a.F/\dZ a.F (a.k 0) cl af
theorem jw.ok{w:World}{R:aA}{F:aj}{a b c:Addr}{p q r:Nat->dP}{cl:Bool}{af:Rows}(hx:bM F a [p 0,p 1,p 2])(hy:bM F b [q 0,q 1,q 2])(hz:bM F c [r 0,r 1,r 2])(hp:LP.plain p q r=(cl,af)):(jw a b c cl af).OK w R F:=by
 obtain⟨x,rfl,ex,gx⟩:=xR hx;obtain⟨y,rfl,ey,gy⟩:=xR hy;obtain⟨z,rfl,ez,gz⟩:=xR hz;have hG:∀p∈LP.G x y z,F p.1=some p.2:=λp hp=>by
  rcases List.mem_append.mp hp with h|h
  ·exact gx p h
  ·rcases List.mem_append.mp h with h|h
   ·exact gy p h
   ·exact gz p h
 simp only [List.cons.injEq,and_true]at ex ey ez;have BK:LP.plain x.p y.p z.p=(cl,af):=by rw [<-hp];unfold LP.plain;rw [ex.1,ex.2.1,ex.2.2,ey.1,ey.2.1,ey.2.2,ez.1,ez.2.1,ez.2.2]
 refine aW.of hG λc R N t=>aD.d0 (d:=9) nr (λgN=>LP.rD w gN ⟨x,y,z,N,t⟩ cl af) ⟨LP.bL.ok hG BK,λa le hf=> ?_⟩;refine VC.gq (nd (by kernel_rfl)) λF' gU hn N' t'=> ?_;refine⟨rfl,bB _ N' t' a.N,rfl,rfl,rfl,⟨le.trans gU,a.k 2,hn 1 rfl,a.l 0,a.k 3,hn 0 rfl,hf.2.le gU⟩,rfl⟩
end H
theorem wx(xs ys:List Stmt)(bx:PySem.Env):PySem.execs (xs++ys) bx=(PySem.execs xs bx>>=λf=>match f with
  | .next=>PySem.execs ys bx
  |f=>Pure.pure f):=by
 induction xs with
 |nil=>rfl
 |cons s xs ih=>
  show(PySem.exec s bx>>=λf=>match f with
   | .next=>PySem.execs (xs++ys) bx
   |f=>Pure.pure f)=((PySem.exec s bx>>=λf=>match f with
   | .next=>PySem.execs xs bx
   |f=>Pure.pure f)>>=_)
  rw [bind_assoc,ih];refine congrArg _ (funext λf=> ?_);cases f<;>rfl
section
variable{w:World}{R:aA}{F:aj}{st:aZ}{aX:Nat}
theorem ab.seq{xs ys:List Stmt}{bx:PySem.Env}{P:Flow->aj->aZ->Prop}(h:ab w R F st aX (PySem.execs xs bx) λf F' ah=>f= .next/\ab w R F' ah aX (PySem.execs ys bx) P):ab w R F st aX (PySem.execs (xs++ys) bx) P:=by refine ab.eq (wx xs ys bx) (ab.bind h λf F' ah J hh=> ?_);obtain⟨e,hc⟩:=hh;subst e;exact hc
theorem aD.func{body:List Stmt}{bx:PySem.Env}{ai:Result->aj->aZ->Prop}(h:ab w R F st aX (PySem.execs body bx) λf F' ah=>ai (.ok (.ret (match f with| .ret v=>v|_=> .none))) F' ah):aD w R F st (aX+1) (.func body bx) ai:=by
 refine aD.qH (cR (by intro J J x;cases x)) ?_;show ab w R F st aX (point>>=λJ=>(PySem.execs body bx).onRaise («leaving» bx)>>=λf=>match f with
  | .ret v=>ret v
  |_=>ret .none) _
 refine ab.bind (P:=λJ F' ah=>F'=F/\ah=st) (.mk λA hA hh g dr os Rl=>wpAny_point ⟨F,st,aj.le.refl F,Rl,rfl,rfl,rfl,rfl⟩) λJ F' ah J hh=> ?_;obtain⟨e1,e2⟩:=hh;subst e1 e2;refine ab.bind (ab.onRaise h) λf F1 bU J hp=> ?_;cases f<;>exact ab.pure hp
end
theorem j'(x y:aU)(t u:Nat)(A:Around)(s:Shared):SeqAt.EqAt A s (.bytes x t) (.bytes y u) (decide (x=y)):=λprog w E Q hq=>by refine(bytesKind prog w).eqBool (a:=x.toList) (b:=y.toList) (bytesKind_is _ _ _ _) (bytesKind_is _ _ _ _) ?_;rw [show decide (x.toList=y.toList)=decide (x=y)from decide_eq_decide.mpr ⟨λe=>Array.ext' e,λe=>by rw [e]⟩];exact hq
theorem wA:entryFor table "list.__eq__"=some Builtin.«list.__eq__»:=entryFor_of_tree (by kernel_rfl)
theorem Bw{w:World}{R:aA}{F:aj}{st:aZ}{aX:Nat}{a b:Addr}{vs ws:aV}{n m:Nat}{c:Bool}(e:Nat->Bool)(ha:∀hh,bO (H.KP w.params) F R hh st->hh.get? a=some (aw vs n))(hb:∀hh,bO (H.KP w.params) F R hh st->hh.get? b=some (aw ws m))(fh:vs.size=ws.size)
  (he:∀hh g dr os,bO (H.KP w.params) F R hh st->∀A,A.units<cLine->∀j (h1:j<vs.size) (h2:j<ws.size),SeqAt.EqAt A ⟨hh,g,dr,st.t,os⟩ vs[j] ws[j] (e j)) (hc:(List.range vs.size).all e=c):
  ab w R F st (aX+1) (richCompare .Eq (.ref a) (.ref b)) λv F' ah=>∃d,v= .bool d/\d=c/\F'=F/\ah=st:=by
 refine ab.DY (P:=λv F' ah=>∃d,v= .bool d/\d=c/\F'=F/\ah=st) (λhh Rl=>⟨_,ha hh Rl,rfl⟩) (λhh Rl=>⟨_,hb hh Rl,rfl⟩) PySem.F.slot_list_eq (PySem.F.args_list_eq_2 _ _) ?_;intro h g dr os Rl A hA;refine codeAny_builtin wA ?_;rw [Around.under_plainId (by decide+kernel)];refine SeqAt.list_eqAt a b vs ws n m _ _ _ _ fh e _ _ _ _ ⟨h,g,dr,st.t,os⟩ ⟨ha h Rl,hb h Rl,λj h1 h2=>he h g dr os Rl _ ?_ j h1 h2,?_⟩
 ·have:=hA.un;show A.units+1<9900;lia
 ·rw [hc];exact⟨F,st,aj.le.refl F,Rl,rfl,rfl,_,rfl,_,rfl,rfl,rfl,rfl⟩
namespace H
noncomputable abbrev FN(x:aU)(t n:Nat):Obj:=aw #[.bytes x t] n
theorem qJ{w:World}{R:aA}{F:aj}{st:aZ}{aX:Nat}{a b:Addr}{x y:aU}{t u n m:Nat}(ha:F a=some (FN x t n))(hb:F b=some (FN y u m)):
  ab w R F st (aX+1) (richCompare .Eq (.ref a) (.ref b)) λv F' ah=>∃c,v= .bool c/\c=decide (x=y)/\F'=F/\ah=st:=
 Bw (λJ=>decide (x=y)) (λhh Rl=>Rl.fix _ _ ha) (λhh Rl=>Rl.fix _ _ hb) rfl (λhh g dr os Rl A J j h1 h2=>by
  have:j=0:=by simpa using h1
  subst this;exact j' x y t u _ _) (by simp)
structure R1 where
 a:Addr
 x:aU
 t:Nat
 n:Nat
abbrev R1.In(F:aj)(q:R1):Prop:=F q.a=some (FN q.x q.t q.n)
noncomputable def pI(x y z:R1):aA:=[(x.a,FN x.x x.t x.n),(y.a,FN y.x y.t y.n),(z.a,FN z.x z.t z.n)]
noncomputable abbrev J4(e:PySem.Expr):PySem.Expr:= .Compare (ki e) [.Eq] [UA e] (zX e)
namespace CM
noncomputable def c(x y z:Addr):Code:= .call (.ref 1185) ⟨[.ref x,.ref y,.ref z],[]⟩
def fr(x y z:Addr)(t:Nat):Obj:={cls:= .type "frame",data:= .dict #[d P "base_lines" t (.ref x),d P "a_lines" (t+1) (.ref y),d P "b_lines" (t+2) (.ref z)] 3}
def bd:List Stmt:=mu (H.KP P 1185)
def i1:Stmt:=aB (bd P) 1
def i2:Stmt:=aB (gD (i1 P)) 0
def doc:List Stmt:=[aB (bd P) 0]
def Lg:Stmt:= .If (J4 (cC (i2 P))) (cY (i2 P)) (gD (i2 P)) (BF (i2 P))
def H4:Stmt:= .If (J4 (cC (i1 P))) (cY (i1 P)) [Lg P] (BF (i1 P))
abbrev ev(N:Nat):PySem.Env:=sO P 1185 N
def fc(N:Nat):Code:= .func (doc P++[H4 P]) (ev P N)
theorem b1:behindInMarks .Eq (UA (cC (i1 P)))=false:=by kernel_rfl
theorem b2:behindInMarks .Eq (UA (cC (i2 P)))=false:=by kernel_rfl
def L0(x y z:R1)(N t:Nat):aA:=[(N,fr P x.a y.a z.a t)]
abbrev s0(x y z:R1)(N t tk:Nat):aZ:=⟨L0 P x y z N t,pI x y z,N+1,tk⟩
def sS(gN:Nat)(x y z:R1)(N t:Nat)(aa:RB):ax:=bX w gN 200 7 (zJ [[1,0,0],FG,[1,0]]) (.again 7 (fc w.params N) (bH (L0 w.params x y z N t) (pI x y z) (N+1) (t+3))) aa (c x.a y.a z.a) ⟨[],pI x y z,N,t⟩
theorem xr w gN x y z N t:∀aa,aE (sS w gN x y z N t aa):=by apply bh w
def dc(x y z:R1)(N t tk:Nat)(aa:RB):ax:=aF w 60 6 [] (.ret (.ok .next) (bH (L0 w.params x y z N t) (pI x y z) (N+1) (tk+1))) aa (LP.bD (doc w.params) (ev w.params N)) id (s0 w.params x y z N t tk)
theorem zQ w x y z N t tk:∀aa,aE (dc w x y z N t tk aa):=by apply bh w
def e0(x y z:R1)(N t tk:Nat)(aa:RB):ax:=aF w 60 6 [1] (.ret (.ok (.ret (.ref x.a))) (bH (L0 w.params x y z N t) (pI x y z) (N+1) tk)) aa (LP.eK (ki (cC (i1 w.params))) (ev w.params N)) .ret (s0 w.params x y z N t tk)
theorem zM w x y z N t tk:∀aa,aE (e0 w x y z N t tk aa):=by apply bh w
def e1(x y z:R1)(N t tk:Nat)(aa:RB):ax:=aF w 60 6 [1] (.ret (.ok (.ret (.ref y.a))) (bH (L0 w.params x y z N t) (pI x y z) (N+1) tk)) aa (LP.eK (UA (cC (i1 w.params))) (ev w.params N)) .ret (s0 w.params x y z N t tk)
theorem zL w x y z N t tk:∀aa,aE (e1 w x y z N t tk aa):=by apply bh w
def e2(x y z:R1)(N t tk:Nat)(aa:RB):ax:=aF w 60 6 [1] (.ret (.ok (.ret (.ref x.a))) (bH (L0 w.params x y z N t) (pI x y z) (N+1) tk)) aa (LP.eK (ki (cC (i2 w.params))) (ev w.params N)) .ret (s0 w.params x y z N t tk)
theorem zK w x y z N t tk:∀aa,aE (e2 w x y z N t tk aa):=by apply bh w
def e3(x y z:R1)(N t tk:Nat)(aa:RB):ax:=aF w 60 6 [1] (.ret (.ok (.ret (.ref z.a))) (bH (L0 w.params x y z N t) (pI x y z) (N+1) tk)) aa (LP.eK (UA (cC (i2 w.params))) (ev w.params N)) .ret (s0 w.params x y z N t tk)
theorem R9 w x y z N t tk:∀aa,aE (e3 w x y z N t tk aa):=by apply bh w
def r0(x y z:R1)(N t tk:Nat)(aa:RB):ax:=aF w 60 6 [] (.ret (.ok (.ret (.bool true))) (λst=>[(.l (st.L.take 0),.l [])])) aa (LP.bD (cY (i1 w.params)) (ev w.params N)) id (s0 w.params x y z N t tk)
theorem yp w x y z N t tk:∀aa,aE (r0 w x y z N t tk aa):=by apply bh w
def r1(x y z:R1)(N t tk:Nat)(aa:RB):ax:=aF w 60 6 [] (.ret (.ok (.ret (.bool true))) (λst=>[(.l (st.L.take 0),.l [])])) aa (LP.bD (cY (i2 w.params)) (ev w.params N)) id (s0 w.params x y z N t tk)
theorem yf w x y z N t tk:∀aa,aE (r1 w x y z N t tk aa):=by apply bh w
def r2(x y z:R1)(N t tk:Nat)(aa:RB):ax:=aF w 60 6 [] (.ret (.ok (.ret (.bool false))) (λst=>[(.l (st.L.take 0),.l [])])) aa (LP.bD (gD (i2 w.params)) (ev w.params N)) id (s0 w.params x y z N t tk)
variable{w}
theorem yd w x y z N t tk:∀aa,aE (r2 w x y z N t tk aa):=by apply bh w
noncomputable def res(x y z:R1):Value:= .bool (decide (x.x=y.x\/x.x=z.x))
theorem body{x y z:R1}{N t tk:Nat}(hx:x.In F)(hy:y.In F)(hz:z.In F):
  ab w R F (s0 w.params x y z N t tk) 6 (PySem.execs (doc w.params++[H4 w.params]) (ev w.params N)) λf F' ah=>f= .ret (res x y z)/\F'=F/\ah.L=[]:=by
 refine ab.seq ((ab.eq (LP.aH _ _) (ab.exact (d:=6) nr (zQ w x y z N t tk))).aT λf F0 Aq J hh=> ?_);obtain⟨e1,e2,e3⟩:=hh;refine⟨e1,?_⟩;rw [e2,e3];refine ab.ia ((ab.iu (P:=λc F' ah=>c=decide (x.x=y.x)/\F'=F/\ah=s0 w.params x y z N t (tk+1)) (b1 w.params) (λJ J=>rfl) (ab.eq (LP.cQ _ _) ((ab.exact (d:=6) nr (zM w x y z N t (tk+1))).aT λv F' ah J hh=>by obtain⟨a,b,c⟩:=hh;exact⟨Flow.ret.inj a,b,c⟩)) (ab.eq (LP.cQ _ _) ((ab.exact (d:=6) nr (zL w x y z N t (tk+1))).aT λv F' ah J hh=>by obtain⟨a,b,c⟩:=hh;exact⟨Flow.ret.inj a,b,c⟩)) (qJ hx hy)).aT λc F' ah J hh=> ?_);obtain⟨e1,e2,e3⟩:=hh;subst e1;rw [e2,e3];cases h1:decide (x.x=y.x)with
 |true=>rw [show(Flow.ret (res x y z))= .ret (.bool true)from by unfold res;exact congrArg _ (by rw [decide_eq_true (p:=x.x=y.x\/x.x=z.x) (.inl (of_decide_eq_true h1))])];exact(ab.eq (LP.aH _ _) (ab.run (enc:=id) (d:=6) (ai:=λr F' ah=>r= .ok (.ret (.bool true))/\F'=F/\ah.L=[]) nr (yp w x y z N t (tk+1)) (VC.keep (n:=0) λN' t'=>⟨rfl,rfl,rfl⟩) (λf F' ah h=>⟨Except.ok.inj h.1,h.2⟩) λJ J J h=>by cases h.1))
 |false=>
  refine ab.ia ((ab.iu (P:=λc F' ah=>c=decide (x.x=z.x)/\F'=F/\ah=s0 w.params x y z N t (tk+1)) (b2 w.params) (λJ J=>rfl) (ab.eq (LP.cQ _ _) ((ab.exact (d:=6) nr (zK w x y z N t (tk+1))).aT λv F' ah J hh=>by obtain⟨a,b,c⟩:=hh;exact⟨Flow.ret.inj a,b,c⟩)) (ab.eq (LP.cQ _ _) ((ab.exact (d:=6) nr (R9 w x y z N t (tk+1))).aT λv F' ah J hh=>by obtain⟨a,b,c⟩:=hh;exact⟨Flow.ret.inj a,b,c⟩)) (qJ hx hz)).aT λc F' ah J hh=> ?_);obtain⟨e1,e2,e3⟩:=hh;subst e1;rw [e2,e3];cases h2:decide (x.x=z.x)with
  |true=>rw [show(Flow.ret (res x y z))= .ret (.bool true)from by unfold res;exact congrArg _ (by rw [decide_eq_true (p:=x.x=y.x\/x.x=z.x) (.inr (of_decide_eq_true h2))])];exact(ab.eq (LP.aH _ _) (ab.run (enc:=id) (d:=6) (ai:=λr F' ah=>r= .ok (.ret (.bool true))/\F'=F/\ah.L=[]) nr (yf w x y z N t (tk+1)) (VC.keep (n:=0) λN' t'=>⟨rfl,rfl,rfl⟩) (λf F' ah h=>⟨Except.ok.inj h.1,h.2⟩) λJ J J h=>by cases h.1))
  |false=>rw [show(Flow.ret (res x y z))= .ret (.bool false)from by unfold res;exact congrArg _ (by rw [decide_eq_false (p:=x.x=y.x\/x.x=z.x) (λh=>h.elim (of_decide_eq_false h1) (of_decide_eq_false h2))])];exact(ab.eq (LP.aH _ _) (ab.run (enc:=id) (d:=6) (ai:=λr F' ah=>r= .ok (.ret (.bool false))/\F'=F/\ah.L=[]) nr (yd w x y z N t (tk+1)) (VC.keep (n:=0) λN' t'=>⟨rfl,rfl,rfl⟩) (λf F' ah h=>⟨Except.ok.inj h.1,h.2⟩) λJ J J h=>by cases h.1))
theorem go{x y z:R1}{N t:Nat}(hx:x.In F)(hy:y.In F)(hz:z.In F):aD w R F ⟨[],pI x y z,N,t⟩ 8 (c x.a y.a z.a) λr F' ah=>r= .ok (.ret (res x y z))/\F'=F/\ah.L=[]:=by refine aD.d0 (d:=7) nr (λgN=>xr w gN x y z N t) λst he=> ?_;rw [eA he];refine aD.func ((body hx hy hz).aT λf F' ah J hh=> ?_);obtain⟨e1,e2,e3⟩:=hh;subst e1;exact⟨rfl,e2,e3⟩
variable(w)
end CM
namespace ML
noncomputable def c(x y z:Addr):Code:= .call (.ref 1199) ⟨[.ref x,.ref y,.ref z],[]⟩
def fr(x y z:Addr)(t:Nat):Obj:={cls:= .type "frame",data:= .dict #[d P "base_lines" t (.ref x),d P "a_lines" (t+1) (.ref y),d P "b_lines" (t+2) (.ref z)] 3}
def bd:List Stmt:=mu (H.KP P 1199)
def i1:Stmt:=aB (bd P) 1
def i2:Stmt:=aB (gD (i1 P)) 0
def doc:List Stmt:=[aB (bd P) 0]
def Lg:Stmt:= .If (J4 (cC (i2 P))) (cY (i2 P)) (gD (i2 P)) (BF (i2 P))
def H4:Stmt:= .If (J4 (cC (i1 P))) (cY (i1 P)) [Lg P] (BF (i1 P))
abbrev ev(N:Nat):PySem.Env:=sO P 1199 N
def fc(N:Nat):Code:= .func (doc P++[H4 P]) (ev P N)
theorem b1:behindInMarks .Eq (UA (cC (i1 P)))=false:=by kernel_rfl
theorem b2:behindInMarks .Eq (UA (cC (i2 P)))=false:=by kernel_rfl
def L0(x y z:R1)(N t:Nat):aA:=[(N,fr P x.a y.a z.a t)]
abbrev s0(x y z:R1)(N t tk:Nat):aZ:=⟨L0 P x y z N t,pI x y z,N+1,tk⟩
def sS(gN:Nat)(x y z:R1)(N t:Nat)(aa:RB):ax:=bX w gN 200 7 (zJ [[1,0,0],FG,[1,0]]) (.again 7 (fc w.params N) (bH (L0 w.params x y z N t) (pI x y z) (N+1) (t+3))) aa (c x.a y.a z.a) ⟨[],pI x y z,N,t⟩
theorem xr w gN x y z N t:∀aa,aE (sS w gN x y z N t aa):=by apply bh w
def dc(x y z:R1)(N t tk:Nat)(aa:RB):ax:=aF w 60 6 [] (.ret (.ok .next) (bH (L0 w.params x y z N t) (pI x y z) (N+1) (tk+1))) aa (LP.bD (doc w.params) (ev w.params N)) id (s0 w.params x y z N t tk)
theorem zQ w x y z N t tk:∀aa,aE (dc w x y z N t tk aa):=by apply bh w
def e0(x y z:R1)(N t tk:Nat)(aa:RB):ax:=aF w 60 6 [1] (.ret (.ok (.ret (.ref x.a))) (bH (L0 w.params x y z N t) (pI x y z) (N+1) tk)) aa (LP.eK (ki (cC (i1 w.params))) (ev w.params N)) .ret (s0 w.params x y z N t tk)
theorem zM w x y z N t tk:∀aa,aE (e0 w x y z N t tk aa):=by apply bh w
def e1(x y z:R1)(N t tk:Nat)(aa:RB):ax:=aF w 60 6 [1] (.ret (.ok (.ret (.ref y.a))) (bH (L0 w.params x y z N t) (pI x y z) (N+1) tk)) aa (LP.eK (UA (cC (i1 w.params))) (ev w.params N)) .ret (s0 w.params x y z N t tk)
theorem zL w x y z N t tk:∀aa,aE (e1 w x y z N t tk aa):=by apply bh w
def e2(x y z:R1)(N t tk:Nat)(aa:RB):ax:=aF w 60 6 [1] (.ret (.ok (.ret (.ref x.a))) (bH (L0 w.params x y z N t) (pI x y z) (N+1) tk)) aa (LP.eK (ki (cC (i2 w.params))) (ev w.params N)) .ret (s0 w.params x y z N t tk)
theorem zK w x y z N t tk:∀aa,aE (e2 w x y z N t tk aa):=by apply bh w
def e3(x y z:R1)(N t tk:Nat)(aa:RB):ax:=aF w 60 6 [1] (.ret (.ok (.ret (.ref z.a))) (bH (L0 w.params x y z N t) (pI x y z) (N+1) tk)) aa (LP.eK (UA (cC (i2 w.params))) (ev w.params N)) .ret (s0 w.params x y z N t tk)
theorem R9 w x y z N t tk:∀aa,aE (e3 w x y z N t tk aa):=by apply bh w
def r0(x y z:R1)(N t tk:Nat)(aa:RB):ax:=aF w 60 6 [1] (.ret (.ok (.ret (.ref z.a))) (λst=>[(.l (st.L.take 0),.l [])])) aa (LP.bD (cY (i1 w.params)) (ev w.params N)) id (s0 w.params x y z N t tk)
theorem yp w x y z N t tk:∀aa,aE (r0 w x y z N t tk aa):=by apply bh w
def r1(x y z:R1)(N t tk:Nat)(aa:RB):ax:=aF w 60 6 [1] (.ret (.ok (.ret (.ref y.a))) (λst=>[(.l (st.L.take 0),.l [])])) aa (LP.bD (cY (i2 w.params)) (ev w.params N)) id (s0 w.params x y z N t tk)
theorem yf w x y z N t tk:∀aa,aE (r1 w x y z N t tk aa):=by apply bh w
def r2(x y z:R1)(N t tk:Nat)(aa:RB):ax:=aF w 60 6 [1] (.ret (.ok (.ret (.ref y.a))) (λst=>[(.l (st.L.take 0),.l [])])) aa (LP.bD (gD (i2 w.params)) (ev w.params N)) id (s0 w.params x y z N t tk)
variable{w}
theorem yd w x y z N t tk:∀aa,aE (r2 w x y z N t tk aa):=by apply bh w
noncomputable def res(x y z:R1):Value:= .ref (if x.x=y.x then z.a else y.a)
theorem body{x y z:R1}{N t tk:Nat}(hx:x.In F)(hy:y.In F)(hz:z.In F):
  ab w R F (s0 w.params x y z N t tk) 6 (PySem.execs (doc w.params++[H4 w.params]) (ev w.params N)) λf F' ah=>f= .ret (res x y z)/\F'=F/\ah.L=[]:=by
 refine ab.seq ((ab.eq (LP.aH _ _) (ab.exact (d:=6) nr (zQ w x y z N t tk))).aT λf F0 Aq J hh=> ?_);obtain⟨e1,e2,e3⟩:=hh;refine⟨e1,?_⟩;rw [e2,e3];refine ab.ia ((ab.iu (P:=λc F' ah=>c=decide (x.x=y.x)/\F'=F/\ah=s0 w.params x y z N t (tk+1)) (b1 w.params) (λJ J=>rfl) (ab.eq (LP.cQ _ _) ((ab.exact (d:=6) nr (zM w x y z N t (tk+1))).aT λv F' ah J hh=>by obtain⟨a,b,c⟩:=hh;exact⟨Flow.ret.inj a,b,c⟩)) (ab.eq (LP.cQ _ _) ((ab.exact (d:=6) nr (zL w x y z N t (tk+1))).aT λv F' ah J hh=>by obtain⟨a,b,c⟩:=hh;exact⟨Flow.ret.inj a,b,c⟩)) (qJ hx hy)).aT λc F' ah J hh=> ?_);obtain⟨e1,e2,e3⟩:=hh;subst e1;rw [e2,e3];cases h1:decide (x.x=y.x)with
 |true=>rw [show(Flow.ret (res x y z))= .ret (.ref z.a)from by unfold res;exact congrArg _ (by rw [if_pos (of_decide_eq_true h1)])];exact(ab.eq (LP.aH _ _) (ab.run (enc:=id) (d:=6) (ai:=λr F' ah=>r= .ok (.ret (.ref z.a))/\F'=F/\ah.L=[]) nr (yp w x y z N t (tk+1)) (VC.keep (n:=0) λN' t'=>⟨rfl,rfl,rfl⟩) (λf F' ah h=>⟨Except.ok.inj h.1,h.2⟩) λJ J J h=>by cases h.1))
 |false=>
  refine ab.ia ((ab.iu (P:=λc F' ah=>c=decide (x.x=z.x)/\F'=F/\ah=s0 w.params x y z N t (tk+1)) (b2 w.params) (λJ J=>rfl) (ab.eq (LP.cQ _ _) ((ab.exact (d:=6) nr (zK w x y z N t (tk+1))).aT λv F' ah J hh=>by obtain⟨a,b,c⟩:=hh;exact⟨Flow.ret.inj a,b,c⟩)) (ab.eq (LP.cQ _ _) ((ab.exact (d:=6) nr (R9 w x y z N t (tk+1))).aT λv F' ah J hh=>by obtain⟨a,b,c⟩:=hh;exact⟨Flow.ret.inj a,b,c⟩)) (qJ hx hz)).aT λc F' ah J hh=> ?_);obtain⟨e1,e2,e3⟩:=hh;subst e1;rw [e2,e3];cases h2:decide (x.x=z.x)with
  |true=>rw [show(Flow.ret (res x y z))= .ret (.ref y.a)from by unfold res;exact congrArg _ (by rw [if_neg (of_decide_eq_false h1)])];exact(ab.eq (LP.aH _ _) (ab.run (enc:=id) (d:=6) (ai:=λr F' ah=>r= .ok (.ret (.ref y.a))/\F'=F/\ah.L=[]) nr (yf w x y z N t (tk+1)) (VC.keep (n:=0) λN' t'=>⟨rfl,rfl,rfl⟩) (λf F' ah h=>⟨Except.ok.inj h.1,h.2⟩) λJ J J h=>by cases h.1))
  |false=>rw [show(Flow.ret (res x y z))= .ret (.ref y.a)from by unfold res;exact congrArg _ (by rw [if_neg (of_decide_eq_false h1)])];exact(ab.eq (LP.aH _ _) (ab.run (enc:=id) (d:=6) (ai:=λr F' ah=>r= .ok (.ret (.ref y.a))/\F'=F/\ah.L=[]) nr (yd w x y z N t (tk+1)) (VC.keep (n:=0) λN' t'=>⟨rfl,rfl,rfl⟩) (λf F' ah h=>⟨Except.ok.inj h.1,h.2⟩) λJ J J h=>by cases h.1))
theorem go{x y z:R1}{N t:Nat}(hx:x.In F)(hy:y.In F)(hz:z.In F):aD w R F ⟨[],pI x y z,N,t⟩ 8 (c x.a y.a z.a) λr F' ah=>r= .ok (.ret (res x y z))/\F'=F/\ah.L=[]:=by refine aD.d0 (d:=7) nr (λgN=>xr w gN x y z N t) λst he=> ?_;rw [eA he];refine aD.func ((body hx hy hz).aT λf F' ah J hh=> ?_);obtain⟨e1,e2,e3⟩:=hh;subst e1;exact⟨rfl,e2,e3⟩
variable(w)
end ML
end H
variable{w}
def cF(st:aZ)(j i:Nat):Nat:=match bP st.L j with
 |some p=>match p.2.data with
  | .seq vs _=>match bP vs.toList i with
   |some v=>jO v
   |none=>0
  |_=>0
 |none=>0
def y9(st:aZ)(j:Nat):Obj:={cls:= .type "tuple",data:= .seq #[.str "unchanged" (cF st j 0),.str "a" (cF st j 1),.str "b" (cF st j 2),.str "same" (cF st j 3)]}
def ij(j:Nat)(a:Addr)(s:Str)(b:Bool):az:=⟨0,λc=> .builtin "tuple.__contains__" ⟨[.ref a,.str s (cA c 1)],[]⟩,λst=>[(.p (bP st.L j),.p (some (a,y9 st j)))],λJ J=> .ok (.ret (.bool b)),λJ st=>st,same⟩
theorem zF:entryFor table "tuple.__contains__"=some Builtin.«tuple.__contains__»:=entryFor_of_tree (by kernel_rfl)
theorem ij.ok{j:Nat}{a:Addr}{s:Str}{b:Bool}(hb:([("unchanged":Str),"a","b","same"]).any (·==s)=b):(ij j a s b).OK w R F:=λc st hc hd=>by rw [hc];have hj:bP st.L j=some (a,y9 st j):=cp.p.inj (aY.cons.mp hd).1;intro h g dr os Rl A hA;refine codeAny_builtin zF ?_;rw [Around.under_plainId (by decide+kernel)];refine tuple_contains_strs (s:=⟨h,g,dr,st.t,os⟩) (t:=a) (items:= #[.str "unchanged" (cF st j 0),.str "a" (cF st j 1),.str "b" (cF st j 2),.str "same" (cF st j 3)]) (ys:=["unchanged","a","b","same"]) ⟨_,Rl.mem _ (List.mem_append_left _ (aJ hj)),rfl,0,rfl⟩ (.cons _ _ (.cons _ _ (.cons _ _ (.cons _ _ .nil)))) ?_;rw [hb];exact⟨F,st,aj.le.refl F,Rl,rfl,rfl,bB F 0 0 0,rfl,rfl,rfl,rfl⟩
def dM(j:Nat)(l:Addr)(xs:aV)(n:Nat)(m:Addr)(ys:aV):az:=⟨0,λJ=> .builtin "list.extend" ⟨[.ref l,.ref m],[]⟩,λst=>[(.p (bP st.L j),.p (some (l,aw xs n)))],
 λJ J=> .ok (.ret .none),λa st=>⟨bg st.L j (aw (xs++ys) (a.k 0)),st.G,st.N,st.t⟩,same⟩
theorem wB:entryFor table "list.extend"=some Builtin.«list.extend»:=entryFor_of_tree (by kernel_rfl)
theorem dM.ok{j:Nat}{l m:Addr}{xs ys:aV}{n k:Nat}(hm:F m=some (aw ys k))(hz:xs.size+ys.size<=10000):(dM j l xs n m ys).OK w R F:=λc st hc hd=>by
 rw [hc];have hj:bP st.L j=some (l,aw xs n):=cp.p.inj (aY.cons.mp hd).1;have hs:xs.size+ys.size<=sizeLine:=Nat.le_trans hz (by rw [sizeLine_eq];decide);refine aD.meets (by decide+kernel) wB (AutoSeq1.list_extend_list_list_0 l xs n m ys k (by
  have:Builtin.List.listTooLong (xs.size+ys.size)=false:=by unfold Builtin.List.listTooLong;rw [sizeLine_eq];simp only [decide_eq_false_iff_not,Nat.not_lt,gt_iff_lt];lia
  rw [this,Bool.and_false];exact Bool.false_ne_true) (by lia) (by lia)) λhh g dr os Rl A=>⟨Rl.mem _ (List.mem_append_left _ (aJ hj)),Rl.fix _ _ hm,?_⟩
 exact⟨F,_,aj.le.refl F,Rl.update (f:=Obj.mapSeq λzs=>zs++ys) hj rfl,rfl,rfl,bB F 0 0 _,rfl,rfl,rfl,rfl⟩
variable(w)
theorem ab.drop{w:World}{R:aA}{F:aj}{st:aZ}{aX:Nat}{α:Type}{t:Sem α}{P:α->aj->aZ->Prop}{L1 G1:aA}{n:Nat}(hL:st.L.take n=L1)(hg:∀p∈G1,F p.1=some p.2)
  (h:∀R,ab w R F ⟨L1,G1,st.N,st.t⟩ aX t P):ab w R F st aX t P:= .mk λA hA hh g dr os Rl=>by
 have R1:bO (H.KP w.params) F (st.L.drop n++R) hh ⟨L1,G1,st.N,st.t⟩:=by have:=Rl.r9 (L':=L1) (R':=st.L.drop n++R) (by rw [<-List.append_assoc,<-hL,List.take_append_drop]);exact⟨this.size,this.mem,this.nd,this.old,this.gO,this.fix,hg⟩
 refine wpAny_mono ((h _).wM A hA hh g dr os R1) (λa s' hh=> ?_) λJ J x=>x;obtain⟨F',ah,hl,cu,ht,ho,kJ⟩:=hh;refine⟨F',ah,hl,?_,ht,ho,kJ⟩;have hs:(ah.L++R).Sublist (ah.L++(st.L.drop n++R)):=List.Sublist.append (List.Sublist.refl _) (List.sublist_append_right _ _);exact⟨cu.size,λp hp=>cu.mem p (hs.subset hp),(hs.map (·.1)).nodup cu.nd,λp hp=>cu.old p (hs.subset hp),cu.gO,cu.fix,cu.gs⟩
theorem ay.iK{vs ws:List Value}{bs cs:lU}(h:ay vs bs)(h':ay ws cs):ay (vs++ws) (bs++cs):=by
 induction h with
 |nil=>exact h'
 |cons b t _ ih=>exact .cons b t ih
namespace H
section
variable{w}
noncomputable def j5(x y z:R1)(b:Bool):az:=aW 8 (λJ=>CM.c x.a y.a z.a) (λJ=> .ok (.ret (.bool b))) same
theorem j5.ok{x y z:R1}{b:Bool}(hx:x.In F)(hy:y.In F)(hz:z.In F)(hb:decide (x.x=y.x\/x.x=z.x)=b):(j5 x y z b).OK w R F:=
 aW.of (G1:=pI x y z) (aq hx (aq hy (aq hz cB))) λc R N t=>(CM.go hx hy hz).aT λr F' ah hh=>by obtain⟨e1,e2,e3⟩:=hh;exact⟨e3,bB F' ah.N ah.t 0,rfl,rfl,rfl,e2,by rw [e1,<-hb];rfl⟩
noncomputable def gX(x y z:R1)(m:Addr):az:=aW 8 (λJ=>ML.c x.a y.a z.a) (λJ=> .ok (.ret (.ref m))) same
theorem gX.ok{x y z:R1}{m:Addr}(hx:x.In F)(hy:y.In F)(hz:z.In F)(hm:(if x.x=y.x then z.a else y.a)=m):(gX x y z m).OK w R F:=
 aW.of (G1:=pI x y z) (aq hx (aq hy (aq hz cB))) λc R N t=>(ML.go hx hy hz).aT λr F' ah hh=>by obtain⟨e1,e2,e3⟩:=hh;exact⟨e3,bB F' ah.N ah.t 0,rfl,rfl,rfl,e2,by rw [e1,<-hm];rfl⟩
variable(w)
namespace M3
structure In where
 gl:Addr
 g:Nat->Addr
 n:Nat
 N:Nat
 t:Nat
noncomputable def Di(i:In):Obj:=aw #[.ref (i.g 0),.ref (i.g 1),.ref (i.g 2)] i.n
noncomputable def G(i:In)(ga:Addr)(o:Obj):aA:=[(i.gl,Di i),(ga,o)]
abbrev FQ:=Option (Nat × Nat × Option (Nat × Nat × Nat × Nat × Nat × Nat × Option (Nat × Nat)))
def fr(i:In)(o:FQ):Obj:=match o with
 |none=>{cls:= .type "frame",data:= .dict #[d P "groups" i.t (.ref i.gl),d P "result" (i.t+2) (.ref (i.N+1))] 2}
 |some (kg,g,none)=>{cls:= .type "frame",data:= .dict #[d P "groups" i.t (.ref i.gl),d P "result" (i.t+2) (.ref (i.N+1)),d P "group" kg (.ref g)] 3}
 |some (kg,g,some (kb,b,ka,a,ks,s,none))=>{cls:= .type "frame",data:= .dict #[d P "groups" i.t (.ref i.gl),d P "result" (i.t+2) (.ref (i.N+1)),d P "group" kg (.ref g),d P "b_lines" kb (.ref b),d P "a_lines" ka (.ref a),d P "base_lines" ks (.ref s)] 6}
 |some (kg,g,some (kb,b,ka,a,ks,s,some (km,m)))=>{cls:= .type "frame",data:= .dict #[d P "groups" i.t (.ref i.gl),d P "result" (i.t+2) (.ref (i.N+1)),d P "group" kg (.ref g),d P "b_lines" kb (.ref b),d P "a_lines" ka (.ref a),d P "base_lines" ks (.ref s),d P "merged_lines" km (.ref m)] 7}
noncomputable def HC(o:FQ)(ga tk:Nat):FQ:=match o with
 |none=>some (tk,ga,none)
 |some (kg,_,c)=>some (kg,ga,c)
noncomputable def CQ(o:FQ)(ga tk b a s:Nat):FQ:=match o with
 |none=>some (tk,ga,some (tk+11,b,tk+12,a,tk+13,s,none))
 |some (kg,_,none)=>some (kg,ga,some (tk+11,b,tk+12,a,tk+13,s,none))
 |some (kg,_,some (kb,_,ka,_,ks,_,mm))=>some (kg,ga,some (kb,b,ka,a,ks,s,mm))
noncomputable def HB(o:FQ)(km m:Nat):FQ:=match o with
 |some (kg,g,some (kb,b,ka,a,ks,s,none))=>some (kg,g,some (kb,b,ka,a,ks,s,some (km,m)))
 |some (kg,g,some (kb,b,ka,a,ks,s,some (k,_)))=>some (kg,g,some (kb,b,ka,a,ks,s,some (k,m)))
 |o=>o
def lL(i:In)(o:FQ)(vs:aV)(ep j:Nat):aA:=[(i.N,fr P i o),(i.N+1,aw vs ep),(i.N+2,pK i.gl j)]
noncomputable def wJ:List Nat:=(zJ [[1,0,0],FG,[1],RM,[5,0]])
noncomputable def c(gl:Addr):Code:= .call (.ref 1192) ⟨[.ref gl],[]⟩
def lc(i:In):Code:=kh (bX w 0 400 8 wJ (leaf (.ok .next)) v7 (c i.gl) ⟨[],[(i.gl,Di i)],i.N,i.t⟩)
def fD(i:In)(o:FQ)(vs:aV)(ep j:Nat):bE:= .again 12 (lc w i) λst=>[(.l (st.L.take 3),.l (lL w.params i o vs ep j))]
def pA(i:In)(o:FQ)(vs:aV)(ep j ga l:Nat)(tag:Str)(ys:aV)(M tk:Nat):bE:=
 .hk (cO 2 (i.N+2) i.gl j (.ref ga) []) λJ=> .hk (ij 3 M tag true) λJ=> .hk (dM 1 (i.N+1) vs ep l ys) λe=>fD w i (HC o ga tk) (vs++ys) (e.k 0) (j+1)
def pM(i:In)(o:FQ)(vs:aV)(ep j ga:Nat)(x y z:R1)(m:Addr)(ys:aV)(M tk:Nat):bE:=
 .hk (cO 2 (i.N+2) i.gl j (.ref ga) []) λJ=> .hk (ij 3 M "conflict" false) λJ=> .hk (j5 x y z true) λJ=> .hk (gX x y z m) λb=> .hk (dM 1 (i.N+1) vs ep m ys) λe=>
  fD w i (HB (CQ o ga tk z.a y.a x.a) b.t m) (vs++ys) (e.k 0) (j+1)
noncomputable def mk(k:Nat):aU:=match k with
 |0=> #[60,60,60,60,60,60,60,32,111,117,114,115,10]
 |1=> #[61,61,61,61,61,61,61,10]
 |_=> #[62,62,62,62,62,62,62,32,116,104,101,105,114,115,10]
def pC(i:In)(o:FQ)(vs:aV)(ep j ga:Nat)(x y z:R1)(M tk:Nat):bE:=
 .hk (cO 2 (i.N+2) i.gl j (.ref ga) []) λJ=> .hk (ij 3 M "conflict" false) λJ=> .hk (j5 x y z false) λa=> .hk (br 1 (i.N+1) vs ep (.bytes (mk 0) a.t)) λb=>
 .hk (dM 1 (i.N+1) (vs.push (.bytes (mk 0) a.t)) (b.k 0) y.a #[.bytes y.x y.t]) λb=> .hk (br 1 (i.N+1) (vs.push (.bytes (mk 0) a.t)++ #[Value.bytes y.x y.t]) (b.k 0) (.bytes (mk 1) (a.t+1))) λb=>
 .hk (dM 1 (i.N+1) ((vs.push (.bytes (mk 0) a.t)++ #[Value.bytes y.x y.t]).push (.bytes (mk 1) (a.t+1))) (b.k 0) z.a #[.bytes z.x z.t]) λb=>
 .hk (br 1 (i.N+1) ((vs.push (.bytes (mk 0) a.t)++ #[Value.bytes y.x y.t]).push (.bytes (mk 1) (a.t+1))++ #[Value.bytes z.x z.t]) (b.k 0) (.bytes (mk 2) (a.t+2))) λb=>
  fD w i (CQ o ga tk z.a y.a x.a) (((vs.push (.bytes (mk 0) a.t)++ #[Value.bytes y.x y.t]).push (.bytes (mk 1) (a.t+1))++ #[Value.bytes z.x z.t]).push (.bytes (mk 2) (a.t+2))) (b.k 0) (j+1)
def tA(gN:Nat)(i:In)(o:FQ)(vs:aV)(ep j ga:Nat)(l:Nat)(tag:Str)(tt:Nat)(ys:aV)(M tk:Nat)(aa:RB):ax:=bX w gN 1200 11 (zJ [[1,5,1,5,0,4,1,1,1],yD,[7,7,1,7,0,28],r6,yD,[1,3,0,76,0]]) (pA w i o vs ep j ga l tag ys M tk) aa (lc w i) ⟨lL w.params i o vs ep j,G i ga (LG.j6 tag tt l),M,tk⟩
theorem Gy(gN:Nat)(i:In)(o:FQ)(vs:aV)(ep j ga:Nat)(l:Nat)(tag:Str)(tt:Nat)(ys:aV)(M tk:Nat)(aa:RB):aE (tA w gN i o vs ep j ga l tag tt ys M tk aa):=by
 rcases o with _|⟨kg,g,_|⟨kb,b,ka,a,ks,s,_|⟨km,m1⟩⟩⟩
 ·apply bR w
 ·apply bR w
 ·apply bR w
 ·apply bR w
def tM(gN:Nat)(i:In)(o:FQ)(vs:aV)(ep j ga:Nat)(x y z:R1)(m:Addr)(tt:Nat)(ys:aV)(M tk:Nat)(aa:RB):ax:=bX w gN 1200 11 (zJ [[1,5,1,5,0,4,1,1,1],yD,[7,7,1,7,0,28,1],yD,[1,16,1],yD,[1],yD,[1],yD,[9,9,9,1,9,10],Bh,Bh,Bh,Bh,[11,15],FG,Hl,vU,[1,1,0,0,1,1],r6,[1,3,0,76,0]]) (pM w i o vs ep j ga x y z m ys M tk) aa (lc w i) ⟨lL w.params i o vs ep j,G i ga (LG.i8 tt x.a y.a z.a),M,tk⟩
theorem CD(gN:Nat)(i:In)(o:FQ)(vs:aV)(ep j ga:Nat)(x y z:R1)(m:Addr)(tt:Nat)(ys:aV)(M tk:Nat)(aa:RB):aE (tM w gN i o vs ep j ga x y z m tt ys M tk aa):=by
 rcases o with _|⟨kg,g,_|⟨kb,b,ka,a,ks,s,_|⟨km,m1⟩⟩⟩
 ·apply bR w
 ·apply bR w
 ·apply bR w
 ·apply bR w
def tC(gN:Nat)(i:In)(o:FQ)(vs:aV)(ep j ga:Nat)(x y z:R1)(tt:Nat)(M tk:Nat)(aa:RB):ax:=bX w gN 1200 11 (zJ [[1,5,1,5,0,4,1,1,1],yD,[7,7,1,7,0,28,1],yD,[1,16,1],yD,[1],yD,[1],yD,[9,9,9,1,9,10],Bh,Bh,Bh,Bh,[11,15],FG,Hl,[0,0],r6,[3,0,5],r6,[1,3,0,76],r6,[3,0,5],r6,[1,3,0,76],r6,[3,0,5,0]]) (pC w i o vs ep j ga x y z M tk) aa (lc w i) ⟨lL w.params i o vs ep j,G i ga (LG.i8 tt x.a y.a z.a),M,tk⟩
theorem Gx(gN:Nat)(i:In)(o:FQ)(vs:aV)(ep j ga:Nat)(x y z:R1)(tt:Nat)(M tk:Nat)(aa:RB):aE (tC w gN i o vs ep j ga x y z tt M tk aa):=by
 rcases o with _|⟨kg,g,_|⟨kb,b,ka,a,ks,s,_|⟨km,m1⟩⟩⟩
 ·apply bR w
 ·apply bR w
 ·apply bR w
 ·apply bR w
noncomputable def dX(k:Nat)(x y z:aU):lU:=UJ (LG.gk k x y z) [x] [y] [z] [y]<|if x=y then [z]else if x=z then [y]else [mk 0,y,mk 1,z,mk 2]
theorem mG(k:Nat)(x y z:aU):(dX k x y z).length<=5:=by
 unfold dX;generalize LG.gk k x y z=q;rcases q with _|_|_|_|n
 ·exact Nat.le_of_ble_eq_true rfl
 ·exact Nat.le_of_ble_eq_true rfl
 ·exact Nat.le_of_ble_eq_true rfl
 ·exact Nat.le_of_ble_eq_true rfl
 ·show(if x=y then [z]else if x=z then [y]else [mk 0,y,mk 1,z,mk 2]).length<=5;by_cases h:x=y
  ·rw [if_pos h];exact Nat.le_of_ble_eq_true rfl
  ·rw [if_neg h];by_cases h:x=z
   ·rw [if_pos h];exact Nat.le_of_ble_eq_true rfl
   ·rw [if_neg h];exact Nat.le_of_ble_eq_true rfl
section
variable{w:World}{R:aA}{F:aj}{ai:Result->aj->aZ->Prop}{i:In}
abbrev jM(w:World)(i:In)(ai:Result->aj->aZ->Prop)(F:aj)(j:Nat)(ps:lU):Prop:=∀o vs ep M' t',ay vs.toList ps->∀R,aD w R F ⟨lL w.params i o vs ep j,[],M',t'⟩ 12 (lc w i) ai
theorem Jr{o:FQ}{vs:aV}{ep j:Nat}(h:∀M' t' R,aD w R F ⟨lL w.params i o vs ep j,[],M',t'⟩ 12 (lc w i) ai):VC w R ai F (fD w i o vs ep j):=λst he=>
 aD.drop (n:=3) (cp.l.inj (aY.cons.mp he).1) cB λR'=>h _ _ R'
theorem I'{vs:aV}{ps:lU}(h:ay vs.toList ps)(x:aU)(t:Nat):ay (vs++ #[Value.bytes x t]).toList (ps++[x]):=by rw [Array.toList_append];exact h.iK (.cons x t .nil)
theorem MH{vs:aV}{ps:lU}(h:ay vs.toList ps)(x:aU)(t:Nat):ay (vs.push (Value.bytes x t)).toList (ps++[x]):=by rw [Array.toList_push];exact h.iK (.cons x t .nil)
theorem uU{o:FQ}{vs:aV}{ep j ga M tk:Nat}{tag:Str}{b:aU}{ps:lU}(hl:F i.gl=some (Di i))(hj:(#[Value.ref (i.g 0),.ref (i.g 1),.ref (i.g 2)]:aV)[j]? =some (.ref ga))(h:LG.Cr F ga tag b)(ht:([("unchanged":Str),"a","b","same"]).any (·==tag)=true)
  (hb:ay vs.toList ps) (hz:ps.length<=100) (hx:jM w i ai F (j+1) (ps++[b])):aD w R F ⟨lL w.params i o vs ep j,[],M,tk⟩ 12 (lc w i) ai:=by
 obtain⟨t,l,u,h1,h2⟩:=h;have fh:vs.size<=100:=by have:=hb.length;rw [Array.length_toList]at this;lia
 refine aD.drop (n:=3) rfl (aq hl (aq h1 cB)) λR'=>aD.d0 (d:=11) nr (λgN=>Gy w gN i o vs ep j ga l tag t #[.bytes b u] M tk) ⟨cO.ok hl hj (by intro p hp;cases hp),λa J hf=> ?_⟩;rw [show a.F=F from hf];refine VC.sm (ij.ok ht) λa=> ?_;refine VC.sm (dM.ok h2 (by simp;lia)) λe=> ?_;exact Jr λM' t' R=>hx _ _ _ _ _ (I' hb b u) R
theorem Gl{o:FQ}{vs:aV}{ep j ga M tk t:Nat}{x y z:R1}{ps:lU}(hl:F i.gl=some (Di i))(hj:(#[Value.ref (i.g 0),.ref (i.g 1),.ref (i.g 2)]:aV)[j]? =some (.ref ga))(h1:F ga=some (LG.i8 t x.a y.a z.a))(hX:x.In F)(hY:y.In F)(hZ:z.In F)
  (hb:ay vs.toList ps) (hz:ps.length<=100) (hx:jM w i ai F (j+1) (ps++(if x.x=y.x then [z.x]else if x.x=z.x then [y.x]else [mk 0,y.x,mk 1,z.x,mk 2]))):aD w R F ⟨lL w.params i o vs ep j,[],M,tk⟩ 12 (lc w i) ai:=by
 have fh:vs.size<=100:=by have:=hb.length;rw [Array.length_toList]at this;lia
 have hG:∀p∈G i ga (LG.i8 t x.a y.a z.a),F p.1=some p.2:=aq hl (aq h1 cB);have hk:([("unchanged":Str),"a","b","same"]).any (·==("conflict":Str))=false:=by decide+kernel
 have sl:∀n,n<=9000->n<=sizeLine:=λn h=>Nat.le_trans h (by rw [sizeLine_eq];decide);refine aD.drop (n:=3) rfl hG λR'=> ?_;by_cases e1:x.x=y.x
 ·rw [if_pos e1]at hx;refine aD.d0 (d:=11) nr (λgN=>CD w gN i o vs ep j ga x y z z.a t #[.bytes z.x z.t] M tk) ⟨cO.ok hl hj (by intro p hp;cases hp),λa J hf=> ?_⟩;rw [show a.F=F from hf];refine VC.sm (ij.ok hk) λa=> ?_;refine VC.sm (j5.ok hX hY hZ (decide_eq_true (.inl e1))) λa=> ?_;refine VC.sm (gX.ok hX hY hZ (if_pos e1)) λb=> ?_;refine VC.sm (dM.ok hZ (by simp;lia)) λe=> ?_;exact Jr λM' t' R=>hx _ _ _ _ _ (I' hb z.x z.t) R
 ·rw [if_neg e1]at hx;by_cases e2:x.x=z.x
  ·rw [if_pos e2]at hx;refine aD.d0 (d:=11) nr (λgN=>CD w gN i o vs ep j ga x y z y.a t #[.bytes y.x y.t] M tk) ⟨cO.ok hl hj (by intro p hp;cases hp),λa J hf=> ?_⟩;rw [show a.F=F from hf];refine VC.sm (ij.ok hk) λa=> ?_;refine VC.sm (j5.ok hX hY hZ (decide_eq_true (.inr e2))) λa=> ?_;refine VC.sm (gX.ok hX hY hZ (if_neg e1)) λb=> ?_;refine VC.sm (dM.ok hY (by simp;lia)) λe=> ?_;exact Jr λM' t' R=>hx _ _ _ _ _ (I' hb y.x y.t) R
  ·rw [if_neg e2]at hx;refine aD.d0 (d:=11) nr (λgN=>Gx w gN i o vs ep j ga x y z t M tk) ⟨cO.ok hl hj (by intro p hp;cases hp),λa J hf=> ?_⟩;rw [show a.F=F from hf];refine VC.sm (ij.ok hk) λa=> ?_;refine VC.sm (j5.ok hX hY hZ (decide_eq_false λh=>h.elim e1 e2)) λa=> ?_;refine VC.sm (br.ok (sl _ (by lia))) λb=> ?_;refine VC.sm (dM.ok hY (by simp;lia)) λb=> ?_;refine VC.sm (br.ok (sl _ (by simp;lia))) λb=> ?_;refine VC.sm (dM.ok hZ (by simp;lia)) λb=> ?_;refine VC.sm (br.ok (sl _ (by simp;lia))) λb=> ?_;exact Jr λM' t' R=>hx _ _ _ _ _ (by have:=MH (I' (MH (I' (MH hb (mk 0) a.t) y.x y.t) (mk 1) (a.t+1)) z.x z.t) (mk 2) (a.t+2);simpa only [List.append_assoc,List.cons_append,List.nil_append]using this) R
theorem lG{o:FQ}{vs:aV}{ep j ga M tk:Nat}{x y z:aU}{ps:lU}(hl:F i.gl=some (Di i))(hj:(#[Value.ref (i.g 0),.ref (i.g 1),.ref (i.g 2)]:aV)[j]? =some (.ref ga))(h:LG.cW F ga j x y z)
  (hb:ay vs.toList ps) (hz:ps.length<=100) (hx:jM w i ai F (j+1) (ps++dX j x y z)):aD w R F ⟨lL w.params i o vs ep j,[],M,tk⟩ 12 (lc w i) ai:=by
 unfold LG.cW at h;unfold dX at hx;generalize LG.gk j x y z=q at h hx;rcases q with _|_|_|_|n
 ·exact uU hl hj h (by decide+kernel) hb hz hx
 ·exact uU hl hj h (by decide+kernel) hb hz hx
 ·exact uU hl hj h (by decide+kernel) hb hz hx
 ·exact uU hl hj h (by decide+kernel) hb hz hx
 ·obtain⟨t,l1,l2,l3,u1,u2,u3,h1,h2,h3,h4⟩:=h;exact Gl (x:=⟨l1,x,u1,0⟩) (y:=⟨l2,y,u2,0⟩) (z:=⟨l3,z,u3,0⟩) hl hj h1 h2 h3 h4 hb hz hx
end
def eS(gN:Nat)(i:In)(o:FQ)(vs:aV)(ep:Nat)(M tk:Nat)(aa:RB):ax:=bX w gN 900 11 [1,5,1,5,0,4,9,1] (.hk (eH 2 (i.N+2) i.gl 3) λJ=> .ret (.ok .next) λst=>[(.l (st.L.take 2),.l [(i.N,fr w.params i o),(i.N+1,aw vs ep)])]) aa (lc w i) ⟨lL w.params i o vs ep 3,[],M,tk⟩
theorem oH w gN i o vs ep M tk:∀aa,aE (eS w gN i o vs ep M tk aa):=by apply bh w
noncomputable def m3(x y z:R3):lU:=(dX 0 (x.r 0) (y.r 0) (z.r 0)++dX 1 (x.r 1) (y.r 1) (z.r 1))++dX 2 (x.r 2) (y.r 2) (z.r 2)
def bL(i:In)(ps:lU):az:=⟨12,λJ=>lc w i,λst=>[(.l st.L,.l (lL w.params i none #[] 0 0))],λJ J=> .ok .next,
 λa st=>⟨[(i.N,a.o 0),(i.N+1,aw (a.l 0) (a.k 0))],st.G,a.N,a.t⟩,λF a=>a.F=F/\(∃o,a.o 0=fr w.params i o)/\ay (a.l 0).toList ps⟩
theorem bL.ok{w:World}{R:aA}{F:aj}{i:In}{x y z:R3}(hl:F i.gl=some (Di i))(h0:LG.cW F (i.g 0) 0 (x.r 0) (y.r 0) (z.r 0))(h1:LG.cW F (i.g 1) 1 (x.r 1) (y.r 1) (z.r 1))(h2:LG.cW F (i.g 2) 2 (x.r 2) (y.r 2) (z.r 2)):(bL w i (m3 x y z)).OK w R F:=λcc st hc he=>by
 have hL:st.L=lL w.params i none #[] 0 0:=cp.l.inj (aY.cons.mp he).1;rw [hc];have z0:=mG 0 (x.r 0) (y.r 0) (z.r 0);have z1:=mG 1 (x.r 1) (y.r 1) (z.r 1);refine aD.frame (L1:=lL w.params i none #[] 0 0) (L2:=[]) (G1:=[]) (jT:=λr F' ah=>r= .ok .next/\F'=F/\LV λo vs ep=>ay vs.toList (m3 x y z)/\ah.L=[(i.N,fr w.params i o),(i.N+1,aw vs ep)])
  (by rw [List.append_nil,hL]) cB ?_ λr F' bU hh=> ?_
 ·refine lG hl rfl h0 .nil (by simp) λo1 v1 e1 M1 t1 b1 R=> ?_;refine lG hl rfl h1 b1 (by simp;lia) λo2 v2 e2 M2 t2 b2 R=> ?_;refine lG hl rfl h2 b2 (by simp;lia) λo3 v3 e3 M3 t3 b3 R=> ?_;refine aD.d0 (d:=11) nr (λgN=>oH w gN i o3 v3 e3 M3 t3) ⟨eH.ok hl rfl,λa J hf=> ?_⟩;rw [show a.F=F from hf];exact VC.keep λN' t'=>⟨rfl,rfl,o3,v3,e3,by simpa [m3]using b3,rfl⟩
 ·obtain⟨y1,y2,o,vs,ep,y3,y4⟩:=hh;exact⟨_,by rw [List.append_nil],{bB F' bU.N bU.t ep with o:=λJ=>fr w.params i o,l:=λJ=>vs},rfl,⟨y2,⟨o,rfl⟩,y3⟩,y1,by rw [y4];rfl⟩
def bd:List Stmt:=mu (H.KP P 1192)
def b3:List Stmt:=[aB (bd P) 0,aB (bd P) 1,aB (bd P) 2]
def rt:List Stmt:=[aB (bd P) 3]
def L0(i:In):aA:=[(i.N,{cls:= .type "frame",data:= .dict #[d P "groups" i.t (.ref i.gl)] 1})]
def g0(i:In):aA:=[(i.gl,Di i)]
def aS(gN:Nat)(i:In)(aa:RB):ax:=bX w gN 200 14 [1,0,0,1,1,1,0] (.again 14 (.func (b3 w.params++rt w.params) (sO w.params 1192 i.N)) (bH (L0 w.params i) (g0 i) (i.N+1) (i.t+1))) aa (c i.gl) ⟨[],g0 i,i.N,i.t⟩
theorem Jg w gN i:∀aa,aE (aS w gN i aa):=by apply bh w
def bS(i:In)(ps:lU)(aa:RB):ax:=aF w 300 12 (zJ [[1,1,1],RM,[5,0]]) (.hk (bL w i ps) λa=> .ret (.ok .next) λst=>[(.l st.L,.l [(i.N,a.o 0),(i.N+1,aw (a.l 0) (a.k 0))])]) aa (LP.bD (b3 w.params) (sO w.params 1192 i.N)) id ⟨L0 w.params i,g0 i,i.N+1,i.t+1⟩
theorem Ja w i ps:∀aa,aE (bS w i ps aa):=by apply bh w
def rS(i:In)(o:FQ)(vs:aV)(ep:Nat)(ps:lU)(M tk:Nat)(aa:RB):ax:=aF w 300 12 [1,1,0,14] (.hk (ik #[] 1 (i.N+1) vs ep ps) λb=> .ret (.ok (.ret (.bytes (Bytes.joined #[] ps) (b.k 0)))) λst=>[(.l (st.L.take 0),.l [])]) aa (LP.bD (rt w.params) (sO w.params 1192 i.N)) id ⟨[(i.N,fr w.params i o),(i.N+1,aw vs ep)],[],M,tk⟩
theorem G3(i:In)(o:FQ)(vs:aV)(ep:Nat)(ps:lU)(M tk:Nat)(aa:RB):aE (rS w i o vs ep ps M tk aa):=by
 rcases o with _|⟨kg,g,_|⟨kb,b,ka,a,ks,s,_|⟨km,m1⟩⟩⟩
 ·apply bR w
 ·apply bR w
 ·apply bR w
 ·apply bR w
end M3
structure OE(ps:lU):Prop where
 z1:Bytes.tooLong (ps.toArray.foldl (λn p=>n+p.size) (0*(ps.toArray.size-1)))=false
 z:(Bytes.joined #[] ps).size<=sizeLine
noncomputable def BP(gl:Addr)(ps:lU):az:=aW 15 (λJ=>M3.c gl) (λb=> .ok (.ret (.bytes (Bytes.joined #[] ps) (b.k 0)))) same
theorem BP.ok{w:World}{R:aA}{F:aj}{l n a0 a1 a2:Nat}{x y z:R3}(h:Ao F l n a0 a1 a2 x y z)(hf:OE (M3.m3 x y z)):(BP l (M3.m3 x y z)).OK w R F:=by
 have hl:F l=some (M3.Di ⟨l,lk a2 [a0,a1],n,0,0⟩):=h.l;refine aW.of (G1:=[(l,aw #[.ref a0,.ref a1,.ref a2] n)]) (aq h.l cB) λc R N t=> ?_
 let i:M3.In:=⟨l,lk a2 [a0,a1],n,N,t⟩
 refine aD.d0 (d:=14) (aX:=15) nr (λgN=>M3.Jg w gN i) λst he=> ?_;rw [eA he];refine aD.func (ab.seq ((ab.eq (LP.aH _ _) (ab.run (enc:=id) (d:=12) (aX:=13) (ai:=λr F' ah=>∃f,r= .ok f/\f= .next/\F'=F/\LV λo vs ep=>ay vs.toList (M3.m3 x y z)/\ah.L=[(i.N,M3.fr w.params i o),(i.N+1,aw vs ep)]) (by lia) (M3.Ja w i (M3.m3 x y z)) ⟨M3.bL.ok h.l h.g0 h.g1 h.g2,λa J BV=> ?_⟩ LP.qG LP.sf)).aT λf F' ah J hh=> ?_))
 ·obtain⟨h1,⟨o,h2⟩,h3⟩:=BV;rw [h1];intro hh st Rl he;refine⟨F,st,aj.le.refl F,Rl,rfl,_,rfl,rfl,rfl,o,a.l 0,a.k 0,h3,?_⟩;rw [<-h2];exact cp.l.inj (aY.cons.mp he).1
 ·obtain⟨e1,e2,o,vs,ep,e3,e4⟩:=hh;refine⟨e1,?_⟩;rw [e2];refine ab.drop (n:=2) (congrArg (List.take 2) e4) cB λR'=> ?_;refine ab.eq (LP.aH _ _) (ab.run (enc:=id) (d:=12) (ai:=λr F' ah=>∃f,r= .ok f/\∃k,f= .ret (.bytes (Bytes.joined #[] (M3.m3 x y z)) k)/\F'=F/\ah.L=[]) (by lia) (M3.G3 w i o vs ep (M3.m3 x y z) _ _) ⟨ik.ok e3 hf.z1 hf.z,λb J PY=> ?_⟩ (λf F' ah h=> ?_) LP.sf)
  ·rw [show b.F=F from PY];exact VC.keep (n:=0) λN' t'=>⟨_,rfl,b.k 0,rfl,rfl,rfl⟩
  ·obtain⟨f',e5,k,e6,e7,e8⟩:=h;cases e5;subst e6;exact⟨e8,bB F' ah.N ah.t k,rfl,rfl,rfl,e7,rfl⟩
end
end H
end Mine
namespace Mine
namespace H
noncomputable def r3(l:Nat->aU)(a:aL):R3:=⟨a.k 0,0,l,λj=>a.k (j+1)⟩
def gj(x:aU)(l:Nat->aU):az:=aW 0 (λc=> .builtin "bytes.splitlines" ⟨[.bytes x (cA c 0),.bool true],[]⟩) (λa=> .ok (.ret (.ref (a.k 0)))) λF a=>F.le a.F/\a.F (a.k 0)=some (DZ (r3 l a))
theorem zH:entryFor table "bytes.splitlines"=some Builtin.«bytes.splitlines»:=entryFor_of_tree (by kernel_rfl)
theorem gj.ok{w:World}{R:aA}{F:aj}{x:aU}{l:Nat->aU}(hl:(Bytes.lines x.size true x.toList).map List.toArray=[l 0,l 1,l 2])(hz:∀j,j<3->(l j).size<=sizeLine):(gj x l).OK w R F:=λc st hc he=>by
 rw [hc];have h3:(Bytes.lines x.size true x.toList).length=3:=by have:=congrArg List.length hl;simpa using this
 refine aD.meets (by decide+kernel) zH (lX x _ (λOu h=>by rw [h]at h3;simp at h3) (λp hp=>by
  rw [hl]at hp;simp only [List.mem_cons,List.not_mem_nil,or_false]at hp;rcases hp with rfl|rfl|rfl
  ·exact hz 0 (by decide)
  ·exact hz 1 (by decide)
  ·exact hz 2 (by decide)) (by rw [h3,sizeLine_eq];decide)) λhh g dr os Rl A vs k hv=> ?_
 have e:hh.objs.size=st.N:=Rl.size;show bI w R os F _ (.ok (.ret (.ref hh.objs.size))) _;rw [e];rw [hl]at hv;cases hv with|cons b0 t0 hv=>
 cases hv with|cons b1 t1 hv=>
 cases hv with|cons b2 t2 hv=>
 cases hv;obtain⟨F',ah,le,cu,ht,ho,hp⟩:=bI.HE (ai:=λr F' ah=>r= .ok (.ret (.ref st.N))/\F'=cX F [(st.N,aw #[.bytes (l 0) t0,.bytes (l 1) t1,.bytes (l 2) t2] 0)]/\ah.L=st.L/\ah.N=st.N+1/\ah.t=k) (g:=g) (dr:=dr) (os:=os) Rl (o:=aw #[.bytes (l 0) t0,.bytes (l 1) t1,.bytes (l 2) t2] 0) rfl k ⟨rfl,rfl,rfl,rfl,rfl⟩;obtain⟨h1,h2,h3,h4,h5⟩:=hp;subst h2;refine⟨_,⟨st.L,st.G,st.N+1,k⟩,le,⟨by rw [cu.size,h4],λp hp=>cu.mem p (by rw [h3];exact hp),by have:=cu.nd;rw [h3]at this;exact this,λp hp=>cu.old p (by rw [h3];exact hp),cu.gO,cu.fix,λp hp=>le _ _ (Rl.gs p hp)⟩,rfl,ho,?_⟩;exact⟨{bB (cX F [(st.N,aw #[.bytes (l 0) t0,.bytes (l 1) t1,.bytes (l 2) t2] 0)]) (st.N+1) k 0 with k:=lk t2 [st.N,t0,t1]},rfl,⟨le,av (p:=(st.N,aw #[.bytes (l 0) t0,.bytes (l 1) t1,.bytes (l 2) t2] 0)) (by simp) (.head _)⟩,rfl,rfl⟩
structure Al(x y z:aU)(l1 l2 l3:Nat->aU)(ps:lU)(b:Bool):Prop where
 xl:(Bytes.lines x.size true x.toList).map List.toArray=[l1 0,l1 1,l1 2]
 yl:(Bytes.lines y.size true y.toList).map List.toArray=[l2 0,l2 1,l2 2]
 zl:(Bytes.lines z.size true z.toList).map List.toArray=[l3 0,l3 1,l3 2]
 s1:∀j,j<3->(l1 j).size<=sizeLine
 s2:∀j,j<3->(l2 j).size<=sizeLine
 s3:∀j,j<3->(l3 j).size<=sizeLine
 xz:x.size<=sizeLine
 yz:y.size<=sizeLine
 zz:z.size<=sizeLine
 M6:y≠z
 Gf:x≠y
 Ge:x≠z
 m3:∀a b c:aL,M3.m3 (r3 l1 a) (r3 l2 b) (r3 l3 c)=ps
 J0:OE ps
 cl:(Bytes.find? (Bytes.joined #[] ps) (mark 0) 0 (Bytes.joined #[] ps).size).isSome=b
namespace MB
noncomputable def c(x y z:Addr):Code:= .call (.ref 1206) ⟨[.ref x,.ref y,.ref z,.ref 1379],[]⟩
structure In where
 a:Addr
 qa:dm
 x:aU
 b:Addr
 qb:dm
 y:aU
 c:Addr
 qc:dm
 z:aU
def G(P:Params)(i:In):aA:=BL.G P i.a i.qa i.x++(BL.G P i.b i.qb i.y++BL.G P i.c i.qc i.z)
def pl(i:In)(l1 l2 l3:Nat->aU)(ps:lU)(b:Bool):bE:=
 .hk (BL.gH i.a i.x) λJ=> .hk (BL.gH i.b i.y) λJ=> .hk (BL.gH i.c i.z) λJ=> .hk (cU i.y i.z false) λJ=> .hk (cU i.x i.y false) λJ=> .hk (cU i.x i.z false) λJ=>
 .hk (gj i.x l1) λa1=> .hk (gj i.y l2) λa2=> .hk (gj i.z l3) λa3=> .hk (kY (r3 l1 a1) (r3 l2 a2) (r3 l3 a3)) λg=> .hk (BP (g.k 0) ps) λm=>
 .hk (gm (Bytes.joined #[] ps) (mark 0) b) λe=> .ret (.ok (.ret (.ref e.N))) (bJ ([]++[(1,(e.N,dU (.bytes (Bytes.joined #[] ps) (m.k 0)) (.bool b)))]))
def mS(gN:Nat)(i:In)(l1 l2 l3:Nat->aU)(ps:lU)(b:Bool)(N t:Nat)(aa:RB):ax:=bX w gN 1500 16 (zJ [[1,0,0],FG,FG,[1,2],mQ,[2],mQ,[1,2],mQ,[5,2],mQ,mQ,[1,0,79,0],Hl,[8],mQ,[8],mQ,[1,8],mQ,[5,8],mQ,mQ,[1,0,79,0],Hl,[14],mQ,[14],mQ,[1,14],mQ,[5,14],mQ,mQ,[1,0,79,0,0],FG,[1,0,8,1,1,1,0,8,1,1,1,0,8,1,1,1,0,80,1,1,0,80,1,1,0,80,0,0,1,1],kA,t9,[0,49],t9]) (pl i l1 l2 l3 ps b) aa (c i.a i.b i.c) ⟨[],G w.params i,N,t⟩
theorem sh w gN i l1 l2 l3 ps b N t:∀aa,aE (mS w gN i l1 l2 l3 ps b N t aa):=by apply bh w
end MB
noncomputable def BO(a b c:Addr)(ps:lU)(cl:Bool):az:=aW 17 (λJ=>MB.c a b c) (λe=> .ok (.ret (.ref (e.k 0)))) λF e=>F.le e.F/\e.F (e.k 0)=some (dU (.bytes (Bytes.joined #[] ps) (e.k 1)) (.bool cl))
theorem BO.ok{w:World}{R:aA}{F:aj}{a b c:Addr}{x y z:aU}{l1 l2 l3:Nat->aU}{ps:lU}{cl:Bool}(hx:cm w F a x)(hy:cm w F b y)(hz:cm w F c z)(h:Al x y z l1 l2 l3 ps cl):(BO a b c ps cl).OK w R F:=by
 obtain⟨qa,qX,zw,Qf⟩:=id hx;obtain⟨qb,FW,BZ,FV⟩:=id hy;obtain⟨qc,BY,EX,Qb⟩:=id hz;have hG:∀p∈MB.G w.params ⟨a,qa,x,b,qb,y,c,qc,z⟩,F p.1=some p.2:=λp hp=>by
  rcases List.mem_append.mp hp with h|h
  ·exact BL.hG qX zw Qf p h
  ·rcases List.mem_append.mp h with h|h
   ·exact BL.hG FW BZ FV p h
   ·exact BL.hG BY EX Qb p h
 refine aW.of hG λcc R N t=>aD.d0 (d:=16) nr (λgN=>MB.sh w gN ⟨a,qa,x,b,qb,y,c,qc,z⟩ l1 l2 l3 ps cl N t) ⟨BL.gH.ok hx h.xz,λe J hf=> ?_⟩;rw [show e.F=F from hf];refine VC.sm (BL.gH.ok hy h.yz) λe=> ?_;refine VC.sm (BL.gH.ok hz h.zz) λe=> ?_;refine VC.sm (cU.ok (decide_eq_false h.M6)) λe=> ?_;refine VC.sm (cU.ok (decide_eq_false h.Gf)) λe=> ?_;refine VC.sm (cU.ok (decide_eq_false h.Ge)) λe=> ?_;refine⟨gj.ok h.xl h.s1,λa1 J mU=>⟨gj.ok h.yl h.s2,λa2 gU BU=>⟨gj.ok h.zl h.s3,λa3 uk It=> ?_⟩⟩⟩;refine⟨kY.ok (uk _ _ (gU _ _ mU.2)) (uk _ _ BU.2) It.2,λg Aw hg=> ?_⟩;refine⟨by rw [<-h.m3 a1 a2 a3];exact BP.ok hg (by rw [h.m3];exact h.J0),λm J hf=> ?_⟩;rw [show m.F=g.F from hf];refine⟨gm.ok h.cl,λe J hf=> ?_⟩;rw [show e.F=g.F from hf];refine VC.gq (nd (by kernel_rfl)) λF' le hn N' t'=> ?_;refine⟨rfl,{bB _ N' t' 0 with k:=lk (m.k 0) [e.N]},rfl,rfl,rfl,⟨(mU.1.trans (gU.trans (uk.trans Aw))).trans le,hn 0 rfl⟩,rfl⟩
end H
structure jf(t:SetTable)(n:Nat):Prop where
 mask:t.mask=7
 wC:t.dummies= #[]
 size:t.place.size=n
 J0:n<=2
 plain:0<n->t.plain=false
theorem jf.fits{t:SetTable}{n:Nat}(h:jf t n):t.fits n=true:=by obtain⟨h1,h2,h3,h4,J⟩:=h;simp only [SetTable.fits,SetTable.fill,h1,h2,h3,Bool.and_eq_true,beq_self_eq_true,true_and,decide_eq_true_eq];show n+0<=7;lia
theorem rQ{t:SetTable}{n:Nat}(h:jf t n)(hn:n<=1)(j:Nat):t.slot j= .empty\/(t.place= #[j]/\∃i,t.slot j= .live i):=by
 unfold SetTable.slot;dsimp only;split
 ·rename_i e;refine .inr ⟨?_,_,rfl⟩;have e:=beq_iff_eq.mp e;obtain⟨hl,he⟩:=Array.getElem?_eq_some_iff.mp e;have h3:=h.size;generalize SetTable.below t.place j=b at hl he;have hb:b=0:=by lia
  subst hb;have hs:t.place.size=1:=by lia
  exact Array.ext (by simp [hs]) λi PR C9=>by
   have:i=0:=by simp at C9;exact C9
   subst this;simpa using he
 ·left;rw [if_neg];unfold SetTable.has;rw [h.wC];simp
theorem vq{t:SetTable}{n:Nat}(h:jf t n)(hn:n<=1)(hash:Int):∀(k fuel:Nat) (p:SetTable.Probe),p.dummy=none->p.more=0->p.j=p.i->p.i<8->p.perturb<32^k->k+2<=fuel->∃j,SetTable.probe.go t (λJ=>hash+1) hash fuel p=some (.empty j none)
 |k,fuel,p,hd,hm,hj,hi,hp,hf=>by
  obtain⟨f,rfl⟩:∃f,fuel=f+1:=⟨fuel-1,by lia⟩
  unfold SetTable.probe.go;rcases rQ h hn p.j with e|⟨e,i,e2⟩
  ·rw [e];exact⟨p.j,by rw [hd]⟩
  ·rw [e2];dsimp only;rw [if_neg (by simp;lia)];have Md:t.advance p={p with j:=(p.i*5+1+p.perturb/32)%8,more:=0,i:=(p.i*5+1+p.perturb/32)%8,perturb:=p.perturb/32}:=by unfold SetTable.advance;rw [if_neg (by lia)];simp only [SetTable.leap,SetTable.runEnd,h.mask];rw [if_neg (by lia)];simp
   rw [Md]
   match k,hp,hf with
   |0,hp,hf=>
    have h0:p.perturb=0:=by simpa using hp
    obtain⟨f2,rfl⟩:∃f2,f=f2+1:=⟨f-1,by lia⟩
    unfold SetTable.probe.go;dsimp only;rcases rQ h hn ((p.i*5+1+p.perturb/32)%8)with e'|⟨e',_⟩
    ·rw [e'];exact⟨_,by rw [hd]⟩
    ·exfalso;rw [e]at e';have:=congrArg (λa:Array Nat=>a.getD 0 0) e';simp only [h0]at this;simp at this;lia
   |k+1,hp,hf=>refine vq h hn hash k f _ hd rfl rfl (Nat.mod_lt _ (by decide)) ?_ (by lia);show p.perturb/32<32^k;rw [Nat.div_lt_iff_lt_mul (by decide)];rw [Nat.pow_succ]at hp;exact hp
theorem wi{t:SetTable}{n:Nat}(h:jf t n)(hn:n<=1)(hash:Int):∃j,t.freeSlot hash=some (j,false):=by
 unfold SetTable.freeSlot SetTable.probe;obtain⟨j,hj⟩:=vq h hn hash 13 (10*SetTable.turns t.mask) (t.probeStart hash) rfl (by simp [SetTable.probeStart,SetTable.runEnd,h.mask]) rfl
  (by show _% (t.mask+1)<8;rw [h.mask];exact Nat.mod_lt _ (by decide)) (by
   show(hash% (2^64:Int)).toNat<32^13;have h1:hash% (2^64:Int)<2^64:=Int.emod_lt_of_pos _ (by decide);have h2:0<=hash% (2^64:Int):=Int.emod_nonneg _ (by decide);have:(32:Nat)^13=36893488147419103232:=by decide
   rw [this];lia) (by rw [h.mask];decide)
 rw [hj];exact⟨j,rfl⟩
theorem BA{t:SetTable}{es:Array (Int × Value)}(h:jf t es.size)(hn:es.size<=1)(hash:Int)(x:Value):∃AH t',layNew t es hash x=(AH,t',false,false)/\List.Perm AH.toList (es.push (hash,x)).toList/\jf {t' with plain:=false} (es.size+1)/\t'.led=t.led/\t'.finger=t.finger:=by
 obtain⟨j,hj⟩:=wi h hn hash;have hp:=layNew_perm t es hash x;unfold layNew at hp⊢;rw [hj]at hp⊢;dsimp only at hp⊢;have sy:(t.put j).1={t with place:=SetTable.insertAt t.place (SetTable.below t.place j) j}:=by unfold SetTable.put;simp only [h.wC,SetTable.has];simp
 have fh:(SetTable.insertAt t.place (SetTable.below t.place j) j).size=es.size+1:=by have:=(SetTable.insertAt_perm t.place (SetTable.below t.place j) j).length_eq;simpa [h.size]using this
 have LY:(SetTable.insertAt es (t.put j).2 (hash,x)).size=es.size+1:=by have:=hp.length_eq;simpa using this
 have dW:(t.put j).1.fits (SetTable.insertAt es (t.put j).2 (hash,x)).size=true:=by rw [LY,sy];simp only [SetTable.fits,SetTable.fill,h.mask,h.wC,fh,Bool.and_eq_true,beq_self_eq_true,true_and,decide_eq_true_eq];show es.size+1+0<=7;lia
 have wU:(t.put j).1.orStandIn (SetTable.insertAt es (t.put j).2 (hash,x)).size=(t.put j).1:=by unfold SetTable.orStandIn;rw [if_pos dW]
 refine⟨SetTable.insertAt es (t.put j).2 (hash,x),(t.put j).1.orStandIn (SetTable.insertAt es (t.put j).2 (hash,x)).size,by rw [dW];rfl,hp,?_,?_,?_⟩
 ·rw [wU,sy];exact⟨h.mask,h.wC,fh,by lia,λJ=>rfl⟩
 ·rw [wU,sy]
 ·rw [wU,sy]
noncomputable abbrev cH(es:Array (Int × Value))(ep:Nat)(t:SetTable):Obj:={cls:= .type "set",data:= .set es ep t}
section
variable{prog:Program}{w:World}{K:Type} [DecidableEq K]{kd:KeyKind prog w K}{A:Around}{E:Value->Shared->Prop}{s:Shared}
theorem mD{a:Addr}{es:Array (Int × Value)}{ep:Nat}{t:SetTable}{k:K}{x:Value}{Q:Bool->Shared->Prop}(ho:s.heap.get? a=some (cH es ep t))(hT:jf t es.size)(hn:es.size<=1)(C':ElemsOf kd es.toList)(EO:kd.is k x=true)(JG:x.scannable=true)(wW:plainKind x=false)
  (Me:es.toList.findIdx? (λe=>kd.is k e.2)=none) (h:∀AH t',List.Perm AH.toList (es.push (kd.hash k,x)).toList->jf t' (es.size+1)->Q true {s with heap:=s.heap.update a (Obj.putSet AH t')}):
  wpAny (model prog w) A (setAddHashed a x (kd.hash k)) Q E s:=by
 have hb:es.size<scanBound:=by show _<4096;lia
 unfold setAddHashed setAddHashedIn;refine wpAny_holding (wpAny_bind (wpAny_setState_of ho rfl hT.fits ?_));dsimp only;rw [byScan_of JG hb C'];simp only [↓reduceIte];unfold setAddByScan;refine wpAny_bind ?_;refine wpAny_bind (wpAny_rule ?_);refine wpAny_bind (wpAny_setScan_of EO ho rfl hT.fits C' ?_);rw [Me];dsimp only;obtain⟨AH,t',hl,hp,ht,_,_⟩:=BA hT hn (kd.hash k) x;rw [hl];dsimp only;have fh:AH.size=es.size+1:=by have:=hp.length_eq;simpa using this
 refine wpAny_bind (wpAny_pure ?_);have fin:∀t2:SetTable,jf t2 (es.size+1)->wpAny (model prog w) A (do
    storeSet a AH t2
    if(!false&&t2.tooFull)=true then do
      let(es,t,Ml):=relayAll t2 AH (SetTable.grown AH.size)
      (match Ml with|true=>rule "set.scan.the-table-gave-way"|false=>pure ())
      storeSet a es t
      pure (some true)
     else pure (some true)) (λQJ s'=>wpAny (model prog w) A (match QJ with
   |some added=>pure added
   |none=>setAddHashedIn a x (kd.hash k) 99999) Q E s') E s:=λt2 h2=>by
  refine wpAny_bind (wpAny_storeSet_of ho rfl ?_ (by rw [fh,sizeLine_eq];lia));have Iq:t2.tooFull=false:=by simp only [SetTable.tooFull,SetTable.fill,h2.mask,h2.wC,h2.size,decide_eq_false_iff_not,ge_iff_le];show¬7*3<=(es.size+1+0)*5;lia
  rw [Iq];exact wpAny_pure (wpAny_pure (h _ _ hp h2))
 split
 ·refine wpAny_bind ?_;rw [hashByValue_scannable 8 JG,wW];refine wpAny_pure ?_;exact fin _ ht
 ·rename_i Lq;refine wpAny_bind (wpAny_pure ?_);exact fin t' ⟨ht.mask,ht.wC,ht.size,ht.J0,λ_=>by simpa using Lq⟩
theorem mC{a:Addr}{es:Array (Int × Value)}{ep:Nat}{t:SetTable}{k:K}{x:Value}{j:Nat}{Q:Bool->Shared->Prop}(ho:s.heap.get? a=some (cH es ep t))(hT:jf t es.size)(C':ElemsOf kd es.toList)(EO:kd.is k x=true)(JG:x.scannable=true)
  (uw:es.toList.findIdx? (λe=>kd.is k e.2)=some j) (h:Q false s):wpAny (model prog w) A (setAddHashed a x (kd.hash k)) Q E s:=by
 have hb:es.size<scanBound:=by have:=hT.J0;show _<4096;lia
 unfold setAddHashed setAddHashedIn;refine wpAny_holding (wpAny_bind (wpAny_setState_of ho rfl hT.fits ?_));dsimp only;rw [byScan_of JG hb C'];simp only [↓reduceIte];unfold setAddByScan;refine wpAny_bind ?_;refine wpAny_bind (wpAny_rule ?_);refine wpAny_bind (wpAny_setScan_of EO ho rfl hT.fits C' ?_);rw [uw];exact wpAny_pure (wpAny_pure h)
end
theorem qx:isSubtype (.type "dict") (.type "set")=pure false:=by rw [isSubtype_type];kernel_rfl
theorem mO:isSubtype (.type "dict") (.type "frozenset")=pure false:=by rw [isSubtype_type];kernel_rfl
theorem nJ:isSubtype (.type "set") (.type "frozenset")=pure false:=by rw [isSubtype_type];kernel_rfl
noncomputable abbrev hA:Int:=(knd w).hash [97]
noncomputable abbrev hB:Int:=(knd w).hash [98,46,99]
def gI(es:Array (Int × Value)):Prop:=∃ta tb,es= #[(hA w,.bytes H.nA ta),(hB w,.bytes H.nB tb)]\/es= #[(hB w,.bytes H.nB tb),(hA w,.bytes H.nA ta)]
theorem qE{w:World}{es:Array (Int × Value)}{ta tb:Nat}(h:List.Perm es.toList [(hA w,.bytes H.nA ta),(hB w,.bytes H.nB tb)]):gI w es:=by
 obtain⟨es⟩:=es;have h:List.Perm es [(hA w,.bytes H.nA ta),(hB w,.bytes H.nB tb)]:=h;have hl:=h.length_eq;rcases es with _|⟨u,_|⟨v,_|⟨x,r⟩⟩⟩
 ·simp at hl
 ·simp at hl
 ·rcases List.mem_cons.mp (h.mem_iff.mp (.head _))with rfl|hu
  ·have h2:=(List.perm_cons _).mp h;have:=List.singleton_perm.mp h2.symm;exact⟨ta,tb,.inl (by rw [List.cons.inj this|>.1])⟩
  ·rw [List.mem_singleton]at hu;subst hu;have h2:=(List.perm_cons _).mp (h.trans (List.Perm.swap _ _ _));have:=List.singleton_perm.mp h2.symm;exact⟨ta,tb,.inr (by rw [List.cons.inj this|>.1])⟩
 ·simp at hl
theorem Dn(t:Nat):(knd w).is [97] (.bytes H.nA t)=true:=kI H.nA t
theorem FZ(t:Nat):(knd w).is [98,46,99] (.bytes H.nB t)=true:=kI H.nB t
theorem H0{w:World}{k k':List UInt8}{v:Value}(h:(knd w).is k v=true)(hn:k'≠k):(knd w).is k' v=false:=by
 cases e:(knd w).is k' v with
 |false=>rfl
 |true=>exact absurd ((knd w).inj _ _ _ e h) hn
theorem jW{w:World}{A:Around}{E:Value->Shared->Prop}{s:Shared}{a:Addr}{es:Array (Int × Value)}{ep:Nat}{t:SetTable}{n more:Nat}{Q:Unit->Shared->Prop}(ho:s.heap.get? a=some (cH es ep t))(hT:jf t n)(hn:es.size=n)(hm:n+more<=4)(h:Q () s):wpAny (model H.pw w) A (setRoomFor a more) Q E s:=by
 unfold setRoomFor;refine wpAny_bind (wpAny_setState_of ho rfl (by rw [hn];exact hT.fits) ?_);have:t.roomFor more=none:=by unfold SetTable.roomFor SetTable.fill;rw [hT.mask,hT.wC,hT.size,if_neg];show¬(n+0+more)*5≥7*3;lia
 rw [this];exact wpAny_pure h
theorem xp{w:World}{A:Around}{E:Value->Shared->Prop}{hp:Heap}{g:Array GenState}{dr:Drawn}{tk:Nat}{os:OsState}{a d:Addr}{led:Bool}{ta tb:Nat}{v1 v2:Value}{ep:Nat}{Q:Fin->Shared->Prop}
  (ha:hp.get? a=some (cH #[] 0 (.fresh 0 0 led))) (hd:hp.get? d=some {cls:= .type "dict",data:= .dict #[⟨hA w,.bytes H.nA ta,v1⟩,⟨hB w,.bytes H.nB tb,v2⟩] ep}) (P6:Unit->(d==sysModules)=false) (dY:d≠a)
  (hQ:∀es t h',gI w es->jf t 2->Heap.SameBut a hp h'->h'.get? a=some (cH es 2 t)->Q (.done (.ret .none)) ⟨h',g,dr,tk,os⟩):
  wpAny (model H.pw w) A (Builtin.«set.__init__» ⟨[.ref a,.ref d],[]⟩) Q E ⟨hp,g,dr,tk,os⟩:=by
 have h1:=qx;have h2:=mO;have JT:jf (SetTable.fresh 0 0 led) 0:=⟨rfl,rfl,rfl,by decide,λh=>absurd h (by decide)⟩
 unfold Builtin.«set.__init__» noKeywords Builtin.Frozenset.updateFrom;wp_walk;have Pw:=P6 ();rw [Pw];simp only [Bool.false_eq_true,if_false];refine wpAny_bind (wpAny_dictEpoch hd rfl ?_);refine wpAny_bind (wpAny_dictEntries hd rfl ?_);refine wpAny_bind (jW (s:=⟨hp,g,dr,tk,os⟩) ha JT rfl (by simp) ?_);refine wpAny_bind (wpAny_dictEntries hd rfl ?_);rw [Std.Legacy.Range.forIn_eq_forIn_range'];refine wpAny_bind ?_
 conv in(List.range' _ _ _)=>simp [Std.Legacy.Range.size,List.range']
 rw [List.forIn_cons];refine wpAny_bind (wpAny_bind (wpAny_dictEntries hd rfl ?_));refine wpAny_bind (wpAny_holding (mD (kd:=knd w) (k:=[97]) (s:=⟨hp,g,dr,tk,os⟩) ha JT (by decide) (λe he=>by cases he) (Dn w ta) rfl rfl rfl λjR t1 p1 T1=> ?_));have qX:(hp.update a (Obj.putSet jR t1)).get? a=some (cH jR 1 t1):=Heap.get?_update_self _ ha rfl;have vO:Heap.SameBut a hp (hp.update a (Obj.putSet jR t1)):=Heap.SameBut.update ..;generalize hp.update a (Obj.putSet jR t1)=pQ at qX vO⊢;have Dc:=(vO.2 d dY).trans hd;refine wpAny_bind (wpAny_dictEpoch (s:=⟨pQ,g,dr,tk,os⟩) Dc rfl ?_);rw [if_neg (by simp)];refine wpAny_pure ?_;dsimp only;have e1:jR= #[(hA w,.bytes H.nA ta)]:=by have:List.Perm jR.toList [(hA w,Value.bytes H.nA ta)]:=p1;exact Array.ext' (List.singleton_perm.mp this.symm).symm
 subst e1;rw [List.forIn_cons];refine wpAny_bind (wpAny_bind (wpAny_dictEntries (s:=⟨pQ,g,dr,tk,os⟩) Dc rfl ?_));refine wpAny_bind (wpAny_holding (mD (kd:=knd w) (k:=[98,46,99]) (s:=⟨pQ,g,dr,tk,os⟩) qX T1 (Nat.le_refl 1) (λe he=>by
  have he:e∈[(hA w,Value.bytes H.nA ta)]:=he;rw [List.mem_singleton]at he;subst he;exact⟨⟨_,Dn w ta,rfl⟩,rfl⟩) (FZ w tb) rfl rfl (by show List.findIdx? (λe:Int × Value=>(knd w).is [98,46,99] e.2) [(hA w,Value.bytes H.nA ta)]=none;rw [List.findIdx?_cons,H0 (Dn w ta) (by decide)];rfl) λni t2 p2 T2=> ?_))
 have zw:(pQ.update a (Obj.putSet ni t2)).get? a=some (cH ni 2 t2):=Heap.get?_update_self _ qX rfl;have DN:Heap.SameBut a hp (pQ.update a (Obj.putSet ni t2)):=vO.trans (Heap.SameBut.update ..);generalize pQ.update a (Obj.putSet ni t2)=Lr at zw DN⊢;have hd2:=(DN.2 d dY).trans hd;refine wpAny_bind (wpAny_dictEpoch (s:=⟨Lr,g,dr,tk,os⟩) hd2 rfl ?_);rw [if_neg (by simp)];refine wpAny_pure ?_;dsimp only;rw [List.forIn_nil];exact wpAny_pure (wpAny_pure (wpAny_pure (hQ ni t2 Lr (qE p2) T2 DN zw)))
variable{w}
theorem gI.el{es:Array (Int × Value)}(h:gI w es):ElemsOf (knd w) es.toList:=by
 obtain⟨ta,tb,rfl|rfl⟩:=h
 all_goals
  intro e he;simp only [List.mem_cons,List.not_mem_nil,or_false]at he;rcases he with rfl|rfl
  ·first|exact⟨⟨_,Dn w ta,rfl⟩,rfl⟩|exact⟨⟨_,FZ w tb,rfl⟩,rfl⟩
  ·first|exact⟨⟨_,FZ w tb,rfl⟩,rfl⟩|exact⟨⟨_,Dn w ta,rfl⟩,rfl⟩
theorem gI.size{w:World}{es:Array (Int × Value)}(h:gI w es):es.size=2:=by obtain⟨ta,tb,rfl|rfl⟩:=h<;>rfl
theorem gI.NP{es:Array (Int × Value)}(h:gI w es){k:List UInt8}(hk:k=[97]\/k=[98,46,99]):∃j,es.toList.findIdx? (λe=>(knd w).is k e.2)=some j:=by
 have:∃e∈es.toList,(knd w).is k e.2=true:=by
  obtain⟨ta,tb,rfl|rfl⟩:=h
  all_goals
   rcases hk with rfl|rfl
   ·first|exact⟨_,.head _,Dn w ta⟩|exact⟨_,.tail _ (.head _),Dn w ta⟩
   ·first|exact⟨_,.head _,FZ w tb⟩|exact⟨_,.tail _ (.head _),FZ w tb⟩
 cases e:es.toList.findIdx? (λe=>(knd w).is k e.2)with
 |some j=>exact⟨j,rfl⟩
 |none=>obtain⟨x,hx,hp⟩:=this;have:=List.findIdx?_eq_none_iff.mp e x hx;rw [hp]at this;cases this
def El(w:World)(e:Int × Value):Prop:=(∃t,e=(hA w,.bytes H.nA t))\/∃t,e=(hB w,.bytes H.nB t)
theorem gI.all{es:Array (Int × Value)}(h:gI w es):∀e∈es,El w e:=by
 obtain⟨ta,tb,rfl|rfl⟩:=h
 all_goals
  intro e he;simp only [List.mem_toArray,List.mem_cons,List.not_mem_nil,or_false]at he;rcases he with rfl|rfl
  ·first|exact .inl ⟨ta,rfl⟩|exact .inr ⟨tb,rfl⟩
  ·first|exact .inr ⟨tb,rfl⟩|exact .inl ⟨ta,rfl⟩
theorem wG{A:Around}{E:Value->Shared->Prop}{s:Shared}{a:Addr}{es:Array (Int × Value)}{ep:Nat}{t:SetTable}{e:Int × Value}{Q:Bool->Shared->Prop}(ho:s.heap.get? a=some (cH es ep t))(hT:jf t 2)(hp:gI w es)(he:El w e)(h:Q false s):
  wpAny (model H.pw w) A (setAddHashed a e.2 e.1) Q E s:=by
 have IE:jf t es.size:=by rw [hp.size];exact hT
 rcases he with⟨u,rfl⟩|⟨u,rfl⟩
 ·obtain⟨j,hj⟩:=hp.NP (.inl rfl);exact mC (kd:=knd w) (k:=[97]) ho IE hp.el (Dn w u) rfl hj h
 ·obtain⟨j,hj⟩:=hp.NP (.inr rfl);exact mC (kd:=knd w) (k:=[98,46,99]) ho IE hp.el (FZ w u) rfl hj h
theorem uh{A:Around}{E:Value->Shared->Prop}{s:Shared}{r l:Addr}{led:Bool}{es:Array (Int × Value)}{t:SetTable}{ep:Nat}{Q:Unit->Shared->Prop}(hr:s.heap.get? r=some (cH #[] 0 (.fresh 0 0 led)))(hl:s.heap.get? l=some (cH es ep t))(dY:r≠l)(hp:gI w es)(hT:jf t 2)
  (h:∀t',jf t' 2->Q () {s with heap:=s.heap.update r (Obj.putSet es t')}):wpAny (model H.pw w) A (setMerge r l) Q E s:=by
 have JT:jf (SetTable.fresh 0 0 led) 0:=⟨rfl,rfl,rfl,by decide,λh=>absurd h (by decide)⟩
 unfold setMerge;rw [if_neg (by simpa using dY)];refine wpAny_bind (wpAny_setState_of hl rfl (by rw [hp.size];exact hT.fits) ?_);dsimp only;have he:es.isEmpty=false:=by
  have:=hp.size;cases h:es.isEmpty with
  |false=>rfl
  |true=>rw [Array.isEmpty_iff_size_eq_zero]at h;lia
 rw [he];simp only [Bool.false_eq_true,if_false];refine wpAny_bind (jW hr JT rfl (by rw [hp.size];decide) ?_);refine wpAny_bind (wpAny_setState_of hr rfl rfl ?_);dsimp only;have zj:(SetTable.fresh 0 0 led).road t= .slotForSlot:=by unfold SetTable.road;rw [if_neg (by simp [SetTable.fill,SetTable.fresh]),hT.mask,hT.wC];rfl
 rw [zj];exact wpAny_storeSet_of hr rfl (h _ ⟨hT.mask,hT.wC,hT.size,by decide,λJ=>by simp [hT.plain (by decide)]⟩) (by rw [hp.size,sizeLine_eq];decide)
theorem r8(f:nN)(u v:Int × Value):pickOrder f #[u,v]= #[u,v]\/pickOrder f #[u,v]= #[v,u]:=by
 have h0:pickOrder f #[u,v]=pickOrder.go f 2 0 [u,v] #[]:=rfl;rw [h0];unfold pickOrder.go;have h1:f 0% [u,v].length=0\/f 0% [u,v].length=1:=by have:f 0% [u,v].length<2:=Nat.mod_lt _ (Nat.succ_pos 1);lia
 rcases h1 with e|e
 ·left;rw [e];simp only [List.getElem?_cons_zero,List.eraseIdx_cons_zero];unfold pickOrder.go;have:f (0+1)% [v].length=0:=Nat.mod_one _;rw [this];simp only [List.getElem?_cons_zero,List.eraseIdx_cons_zero];rfl
 ·right;rw [e];simp only [List.getElem?_cons_succ,List.getElem?_cons_zero,List.eraseIdx_cons_succ,List.eraseIdx_cons_zero];unfold pickOrder.go;have:f (0+1)% [u].length=0:=Nat.mod_one _;rw [this];simp only [List.getElem?_cons_zero,List.eraseIdx_cons_zero];rfl
theorem gS{es:Array (Int × Value)}(h:gI w es)(f:nN):gI w (pickOrder f es):=by
 obtain⟨ta,tb,rfl|rfl⟩:=h
 ·rcases r8 f (hA w,.bytes H.nA ta) (hB w,.bytes H.nB tb)with e|e
  ·rw [e];exact⟨ta,tb,.inl rfl⟩
  ·rw [e];exact⟨ta,tb,.inr rfl⟩
 ·rcases r8 f (hB w,.bytes H.nB tb) (hA w,.bytes H.nA ta)with e|e
  ·rw [e];exact⟨ta,tb,.inr rfl⟩
  ·rw [e];exact⟨ta,tb,.inl rfl⟩
theorem tR{A:Around}{E:Value->Shared->Prop}{s:Shared}{a b:Addr}{jR ni:Array (Int × Value)}{t1 t2:SetTable}{vu vt:Nat}{Q:Bool->Shared->Prop}
  (ha:s.heap.get? a=some (cH jR vu t1)) (hb:s.heap.get? b=some (cH ni vt t2)) (p1:gI w jR) (p2:gI w ni) (T1:jf t1 2) (T2:jf t2 2) (h:Q true s):wpAny (model H.pw w) A (setsQuiet [a,b]) Q E s:=by
 unfold setsQuiet;refine wpAny_bind ?_;refine wpAny_forIn_list _ (λrest r s'=>r=(none,())/\s'=s/\∀c∈rest,c=a\/c=b) _ ?_ ?_ _ _ ⟨rfl,rfl,by simp⟩
 ·rintro x rest r s' ⟨rfl,rfl,hc⟩;obtain⟨es,ep,t,ho,hp,hT⟩:LV λes ep t=>s'.heap.get? x=some (cH es ep t)/\gI w es/\jf t 2:=by
   rcases hc x (.head _)with rfl|rfl
   ·exact⟨_,_,_,ha,p1,T1⟩
   ·exact⟨_,_,_,hb,p2,T2⟩
  refine wpAny_bind (wpAny_setEntries_of ho rfl (by rw [hp.size];exact hT.fits) ?_);refine wpAny_bind ?_;refine PySem.MeetsSeq2.wpAny_forIn_array _ (λrest r vQ=>r=(none,())/\vQ=s'/\∀e∈rest,El w e) _ ?_ ?_ _ _ ⟨rfl,rfl,λe he=>hp.all e (by simpa using he)⟩
  ·rintro⟨h',y⟩ Np r vQ ⟨rfl,rfl,he⟩;rcases he _ (.head _)with⟨u,e⟩|⟨u,e⟩
   ·obtain⟨rfl,rfl⟩:=Prod.mk.inj e;exact wpAny_pure ⟨rfl,rfl,λe wg=>he e (.tail _ wg)⟩
   ·obtain⟨rfl,rfl⟩:=Prod.mk.inj e;exact wpAny_pure ⟨rfl,rfl,λe wg=>he e (.tail _ wg)⟩
  ·rintro r vQ ⟨rfl,rfl,_⟩;exact wpAny_pure ⟨rfl,rfl,λc wX=>hc c (.tail _ wX)⟩
 ·rintro r s' ⟨rfl,rfl,_⟩;exact wpAny_pure h
theorem ug{A:Around}{E:Value->Shared->Prop}{s:Shared}{r o:Addr}{jR ni:Array (Int × Value)}{t1 t2:SetTable}{vu vt:Nat}{each:Sem Unit}{Q:Unit->Shared->Prop}
  (hr:s.heap.get? r=some (cH jR vu t1)) (ho:s.heap.get? o=some (cH ni vt t2)) (dY:r≠o) (p1:gI w jR) (p2:gI w ni) (T1:jf t1 2) (T2:jf t2 2)
  (Iu:∀(s':Shared) (Q':Unit->Shared->Prop),s'.heap.get? o=some (cH ni vt t2)->Q' () s'->wpAny (model H.pw w) A each Q' E s')
  (h:∀h' t' p4,Heap.SameBut r s.heap h'->h'.get? r=some (cH jR p4 t')->jf t' 2->Q () {s with heap:=h'}):wpAny (model H.pw w) A (setMerge r o each) Q E s:=by
 unfold setMerge;rw [if_neg (by simpa using dY)];refine wpAny_bind (wpAny_setState_of ho rfl (by rw [p2.size];exact T2.fits) ?_);dsimp only;have he:ni.isEmpty=false:=by
  have:=p2.size;cases h:ni.isEmpty with
  |false=>rfl
  |true=>rw [Array.isEmpty_iff_size_eq_zero]at h;lia
 rw [he];simp only [Bool.false_eq_true,if_false];refine wpAny_bind (jW hr T1 p1.size (by rw [p2.size];decide) ?_);refine wpAny_bind (wpAny_setState_of hr rfl (by rw [p1.size];exact T1.fits) ?_);dsimp only;have zj:t1.road t2= .oneByOne:=by unfold SetTable.road SetTable.fill;rw [T1.size,T1.wC];rfl
 rw [zj];dsimp only;have walk:∀(s':Shared) (IW:Nat) (Js:SetTable) (xs:Array (Int × Value)),gI w xs->s'.heap.get? r=some (cH jR IW Js)->s'.heap.get? o=some (cH ni vt t2)->jf Js 2->Heap.SameBut r s.heap s'.heap->s'={s with heap:=s'.heap}->
   wpAny (model H.pw w) A (do
    forIn xs PUnit.unit λx (_:PUnit)=>do
     let _<-PySem.holding [x.2] (setAddHashed r x.2 x.1)
     each
     let st<-setState o
     if(st.2.1 !=vt)=true then do
      unsupported "set.changed-during-merge"
      pure (ForInStep.yield PUnit.unit)
     else pure (ForInStep.yield PUnit.unit)) (λ_ vQ=>Q () vQ) E s':=λs' IW Js xs zh Ax wc IE sb hs=>by
  rw [hs];refine PySem.MeetsSeq2.wpAny_forIn_array _ (λrest _ vQ=>vQ={s with heap:=s'.heap}/\∀e∈rest,El w e) _ ?_ ?_ _ _ ⟨rfl,λe he=>zh.all e (by simpa using he)⟩
  ·rintro e rest _ vQ ⟨rfl,C'⟩;refine wpAny_bind (wpAny_holding (wG (s:={s with heap:=s'.heap}) Ax IE p1 (C' e (.head _)) ?_));refine wpAny_bind (Iu _ _ wc ?_);refine wpAny_bind (wpAny_setState_of wc rfl (by rw [p2.size];exact T2.fits) ?_);rw [if_neg (by simp)];exact wpAny_pure ⟨rfl,λe' wg=>C' e' (.tail _ wg)⟩
  ·rintro _ vQ ⟨rfl,_⟩;exact h _ _ _ sb Ax IE
 have wW:(t2.led&&t2.plain)=false:=by rw [T2.plain (by decide),Bool.and_false]
 have fh:decide (ni.size<=1)=false:=by rw [p2.size];rfl
 have C4:s={s with heap:=s.heap}:=by cases s;rfl
 refine wpAny_bind ?_;unfold setWalkUnseen setsByText;refine wpAny_bind (wpAny_setState_of ho rfl (by rw [p2.size];exact T2.fits) ?_);dsimp only;refine wpAny_bind (wpAny_bind (wpAny_askSetting (wpAny_pure ?_)));rw [wW,fh];simp only [Bool.or_false];split
 ·rename_i hb;unfold setWalk setsByText;refine wpAny_bind (wpAny_setState_of ho rfl (by rw [p2.size];exact T2.fits) ?_);dsimp only;refine wpAny_bind (wpAny_bind (wpAny_askSetting (wpAny_pure ?_)));rw [if_pos hb];refine wpAny_bind (wpAny_askSetting (wpAny_pure ?_));exact wpAny_bind (wpAny_mono (walk s vu t1 _ (gS p2 _) hr ho T1 (Heap.SameBut.refl _ _) C4) (λ_ _ hq=>wpAny_pure hq) λ_ _ x=>x)
 ·refine wpAny_bind (tR ho hr p2 p1 T2 T1 ?_);simp only [Bool.not_true,Bool.false_eq_true,if_false];refine wpAny_bind (wpAny_rule ?_);refine wpAny_bind (wpAny_setState_of hr rfl (by rw [p1.size];exact T1.fits) ?_);dsimp only;split
  ·refine wpAny_bind (wpAny_storeSet_of hr rfl ?_ (by rw [p1.size,sizeLine_eq];decide));refine wpAny_pure ?_;have H9:(s.heap.update r (Obj.putSet jR {t1 with led:=t1.led&&t2.led,plain:=t1.plain&&t2.plain})).get? r=some (cH jR (vu+1) {t1 with led:=t1.led&&t2.led,plain:=t1.plain&&t2.plain}):=Heap.get?_update_self _ hr rfl;have sb:Heap.SameBut r s.heap (s.heap.update r (Obj.putSet jR {t1 with led:=t1.led&&t2.led,plain:=t1.plain&&t2.plain})):=Heap.SameBut.update ..;exact wpAny_bind (wpAny_mono (walk {s with heap:=_} (vu+1) _ _ p2 H9 ((sb.2 _ dY.symm).trans ho) ⟨T1.mask,T1.wC,T1.size,by decide,λ_=>by simp [T1.plain (by decide)]⟩ sb rfl) (λ_ _ hq=>wpAny_pure hq) λ_ _ x=>x)
  ·exact wpAny_pure (wpAny_bind (wpAny_mono (walk s vu t1 _ p2 hr ho T1 (Heap.SameBut.refl _ _) C4) (λ_ _ hq=>wpAny_pure hq) λ_ _ x=>x))
variable(w)
end Mine
namespace Mine
theorem DM{w:World}{A:Around}{E:Value->Shared->Prop}{hp:Heap}{g:Array GenState}{dr:Drawn}{tk:Nat}{os:OsState}{a b:Addr}{jR ni:Array (Int × Value)}{t1 t2:SetTable}{vu vt:Nat}{Q:Fin->Shared->Prop}
  (ha:hp.get? a=some (cH jR vu t1)) (hb:hp.get? b=some (cH ni vt t2)) (dY:a≠b) (p1:gI w jR) (p2:gI w ni) (T1:jf t1 2) (T2:jf t2 2)
  (hQ:∀t ep h',jf t 2->(∀c o,hp.get? c=some o->h'.get? c=some o)->h'.objs.size=hp.objs.size+1->h'.get? hp.objs.size=some (cH jR ep t)->Q (.done (.ret (.ref hp.objs.size))) ⟨h',g,dr,tk,os⟩):
  wpAny (model H.pw w) A (Builtin.«frozenset.__or__» ⟨[.ref a,.ref b],[]⟩) Q E ⟨hp,g,dr,tk,os⟩:=by
 have h1:=sub_set_self;have h2:=nJ;unfold Builtin.«frozenset.__or__»;wp_walk;refine wpAny_askSetting (wpAny_pure ?_);generalize (!Params.followText _ _)=led;simp only [if_true,newObj];refine wpAny_bind (wpAny_alloc (wpAny_pure ?_));have hN:(hp.push (cH #[] 0 (.fresh 0 0 led))).get? hp.objs.size=some (cH #[] 0 (.fresh 0 0 led)):=Heap.get?_push_size _ rfl;have Dg:(hp.push (cH #[] 0 (.fresh 0 0 led))).get? a=some (cH jR vu t1):=Heap.get?_push_of_some _ ha;have sH:(hp.push (cH #[] 0 (.fresh 0 0 led))).get? b=some (cH ni vt t2):=Heap.get?_push_of_some _ hb;have na:hp.objs.size≠a:=Nat.ne_of_gt (Heap.lt_size ha);have nb:hp.objs.size≠b:=Nat.ne_of_gt (Heap.lt_size hb);have hk:∀c o,hp.get? c=some o->(hp.push (cH #[] 0 (.fresh 0 0 led))).get? c=some o:=λc o e=>Heap.get?_push_of_some _ e;have hz:(hp.push (cH #[] 0 (.fresh 0 0 led))).objs.size=hp.objs.size+1:=Heap.size_push ..;show wpAny _ A (setMerge hp.objs.size a>>=λJ=>Pure.pure (Value.ref hp.objs.size)) _ _ ⟨hp.push (cH #[] 0 (.fresh 0 0 led)),g,dr,tk,os⟩;generalize hp.push (cH #[] 0 (.fresh 0 0 led))=Dh at hN Dg sH hk hz⊢;refine wpAny_bind (uh (s:=⟨Dh,g,dr,tk,os⟩) hN Dg na p1 T1 λt3 T3=>wpAny_pure ?_);have Ob:(Dh.update hp.objs.size (Obj.putSet jR t3)).get? hp.objs.size=some (cH jR 1 t3):=Heap.get?_update_self _ hN rfl;have sb:Heap.SameBut hp.objs.size Dh (Dh.update hp.objs.size (Obj.putSet jR t3)):=Heap.SameBut.update ..;dsimp only;generalize Dh.update hp.objs.size (Obj.putSet jR t3)=E1 at Ob sb⊢;have BZ:E1.get? b=some (cH ni vt t2):=(sb.2 b nb.symm).trans sH;have Iz:((Value.ref b) !=Value.ref a)=true:=by rw [bne_iff_ne];intro e;exact dY (Value.ref.inj e).symm
 simp only [Bool.false_eq_true,if_false];rw [if_pos Iz];refine wpAny_bind (m:=Frozenset.addrOf _) (wpAny_pure ?_);refine wpAny_bind (wpAny_holding ?_);unfold Builtin.Frozenset.updateFrom;have Rc:Shared.TypeIs ⟨E1,g,dr,tk,os⟩ (.ref b) "set":=⟨_,BZ,rfl⟩
 refine wpAny_bind (m:=Frozenset.isAnySet _) ?_;unfold Frozenset.isAnySet;wp_walk;have Df:(t2.place.size !=ni.size||decide (t2.fill>t2.mask))=false:=by rw [T2.size,p2.size];simp [SetTable.fill,T2.size,T2.wC,T2.mask]
 rw [Df];simp only [Bool.false_eq_true,if_false];refine wpAny_pure (wpAny_pure ?_);refine ug (s:=⟨E1,g,dr,tk,os⟩) Ob BZ nb p1 p2 T3 T2 (λs' Q' ho hq=> ?_) λh' t' p4 Nl JQ T'=> ?_
 ·unfold Frozenset.unchanged;refine wpAny_bind (wpAny_setEpoch_of ho rfl (by rw [p2.size];exact T2.fits) ?_);rw [if_neg (by simp)];exact wpAny_pure hq
 ·refine wpAny_pure (wpAny_pure (hQ t' p4 h' T' (λc o e=> ?_) (by rw [Nl.1,sb.1,hz]) JQ));have hc:c≠hp.objs.size:=Nat.ne_of_lt (Heap.lt_size e);exact(Nl.2 c hc).trans ((sb.2 c hc).trans (hk c o e))
theorem dh:PySem.Slot "set_iterator" "__next__" "set_iterator.__next__":=
 .of (owner:="set_iterator") (n:="__next__") (by rw [typeLookup_type,builtinLookup_eq_fast];kernel_rfl) (by decide+kernel) (by decide+kernel) (by decide+kernel)
  (by first|exact .inl (by decide+kernel)|exact .inr (by decide+kernel)) (by rw [isSubtype_type];kernel_rfl)
theorem fV:entryFor table "set_iterator.__next__"=some Builtin.«set_iterator.__next__»:=entryFor_of_tree (by kernel_rfl)
theorem gu(a:Value):argsOk "set_iterator.__next__" ⟨[a],[]⟩:=by unfold argsOk;kernel_rfl
theorem Tb:entryFor table "set.__iter__"=some Builtin.«frozenset.__iter__»:=entryFor_alias (id':="frozenset.__iter__") (by kernel_rfl) rfl (by decide+kernel) (by kernel_rfl)
theorem Ru:entryFor table "set.__or__"=some Builtin.«frozenset.__or__»:=entryFor_alias (id':="frozenset.__or__") (by kernel_rfl) rfl (by decide+kernel) (by kernel_rfl)
theorem hO{M:Model}{A:Around}{src:Source}{n:Nat}{Q:Nat->Shared->Prop}{E:Value->Shared->Prop}{s:Shared}(hn:n≠0)(h:∀i,i<n->Q i {s with drawn:=s.drawn.bump src}):wpAny M A (choose src n) Q E s:=λΓ p J=>⟨hn,h _ (Nat.mod_lt _ (Nat.pos_of_ne_zero hn))⟩
inductive ix(w:World)(h:Heap)(it s:Addr)(es:Array (Int × Value))(ep i:Nat):aV->Prop
 |text {slot:Nat} (hb:w.params.followText "set-order"=true) (hi:h.get? it=some {cls:= .type "set_iterator",data:= .fields #[rawInt slot,rawInt i,.ref s,rawInt 2,rawInt ep]}):ix w h it s es ep i ((pickOrder (w.params.setOrder s ep) es).map (·.2))
 |drawn {tup p q:Nat} {x y:Int × Value} (hi:h.get? it=some {cls:= .type "set_iterator",data:= .fields #[.ref tup,rawInt i,.ref s,rawInt 2,rawInt ep]}) (ht:h.get? tup=some {cls:= .type "tuple",data:= .seq #[rawInt p,rawInt q]}) (dY:tup≠it)
   (hx:es[p]? =some x) (hy:es[q]? =some y) (Ay:p≠q):ix w h it s es ep i #[x.2,y.2]
theorem xn{w:World}{A:Around}{E:Value->Shared->Prop}{hp:Heap}{g:Array GenState}{dr:Drawn}{tk:Nat}{os:OsState}{a:Addr}{es:Array (Int × Value)}{t:SetTable}{ep:Nat}{Q:Value->Shared->Prop}
  (ha:hp.get? a=some (cH es ep t)) (pa:gI w es) (T:jf t 2)
  (hQ:∀h' it Rm X,it<=hp.objs.size+1->hp.objs.size<=it->h'.objs.size=it+1->(∀c o,hp.get? c=some o->h'.get? c=some o)->ix w h' it a es ep 0 X->Q (.ref it) ⟨h',g,Rm,tk,os⟩):
  wpAny (model H.pw w) A (pyIter (.ref a)) Q E ⟨hp,g,dr,tk,os⟩:=by
 have hT:Shared.TypeIs ⟨hp,g,dr,tk,os⟩ (.ref a) "set":=⟨_,ha,rfl⟩
 refine wpAny_pyIter_slot hT PySem.F.slot_set_iter (wpAny_call_entry PySem.F.slot_set_iter hT Tb ?_ (PySem.F.args_set_iter_1 _));have fh:=pa.size;have Df:(t.place.size !=es.size||decide (t.fill>t.mask))=false:=by rw [T.size,fh];simp [SetTable.fill,T.size,T.wC,T.mask]
 unfold Builtin.«frozenset.__iter__»;refine wpAny_bind (m:=Frozenset.slot0 _ _) (wpAny_of_eq (a:=a) (by rfl) ?_);refine wpAny_bind (m:=Frozenset.sizeOf _) ?_;unfold Frozenset.sizeOf;refine wpAny_bind (wpAny_setEntries_of ha rfl (by rw [fh];exact T.fits) (wpAny_pure ?_));rw [fh];refine wpAny_bind ?_;unfold setDrawn setsByText;refine wpAny_bind (wpAny_setState_of ha rfl (by rw [fh];exact T.fits) ?_);dsimp only;refine wpAny_bind (wpAny_bind (wpAny_askSetting (wpAny_pure ?_)));refine wpAny_pure ?_;have P4:∀b:Bool,(!b&&(!t.plain&&decide (es.size>1)))= !b:=λb=>by rw [T.plain (by decide),fh];simp
 change wpAny _ _ (if(!(w.params.followText "set-order")&&(!t.plain&&decide (es.size>1)))=true then _ else _) _ _ _;rw [P4];have hk:∀o':Obj,∀c o,hp.get? c=some o->(hp.push o').get? c=some o:=λo' c o e=>Heap.get?_push_of_some _ e;have C5:typeLookup (.type "set_iterator") "__next__"=Pure.pure (some (.builtin "set_iterator.__next__")):=dh.lookup;cases hb:w.params.followText "set-order" with
 |true=>simp only [Bool.not_true,Bool.false_eq_true,if_false];refine wpAny_bind (wpAny_pure ?_);refine wpAny_bind (wpAny_setEpoch_of ha rfl (by rw [fh];exact T.fits) ?_);refine wpAny_bind (wpAny_newObj_type (wpAny_pure ⟨_,rfl,"set_iterator",_,⟨_,Heap.get?_push_size _ rfl,rfl⟩,C5,?_⟩));exact hQ _ _ dr _ (Nat.le_succ _) nr (Heap.size_push ..) (hk _) (.text (slot:=0) hb (Heap.get?_push_size _ rfl))
 |false=>
  simp only [Bool.not_false,if_true];have fin:∀(p q:Nat) (x y:Int × Value) (Rm:Drawn),es[p]? =some x->es[q]? =some y->p≠q->wpAny (model H.pw w) A.in1 (do
    let first<-newTuple (List.map (λi:Nat=>rawInt i) [p,q])
    let e<-setEpoch a
    let l<-newFields "set_iterator" [first,rawInt 0,.ref a,rawInt (2:Nat),rawInt e]
    ret l) (λfin s'=>∃v,fin= .done (.ret v)/\∃T' r,s'.TypeIs v T'/\typeLookup (.type T') "__next__"=Pure.pure (some r)/\Q v s') E ⟨hp,g,Rm,tk,os⟩:=λp q x y Rm hx hy Ay=>by
   refine wpAny_bind (wpAny_newTuple ?_);have Dg:(hp.push {cls:= .type "tuple",data:= .seq #[rawInt p,rawInt q]}).get? a=some (cH es ep t):=Heap.get?_push_of_some _ ha;refine wpAny_bind (wpAny_setEpoch_of (s:=⟨hp.push {cls:= .type "tuple",data:= .seq #[rawInt p,rawInt q]},g,Rm,tk,os⟩) Dg rfl (by rw [fh];exact T.fits) ?_);refine wpAny_bind (wpAny_newObj_type (wpAny_pure ⟨_,rfl,"set_iterator",_,⟨_,Heap.get?_push_size _ rfl,rfl⟩,C5,?_⟩));have hz:(hp.push {cls:= .type "tuple",data:= .seq #[rawInt p,rawInt q]}).objs.size=hp.objs.size+1:=Heap.size_push ..;refine hQ _ _ Rm _ (by rw [hz];exact Nat.le_refl _) (by rw [hz];exact Nat.le_succ _) (Heap.size_push ..) (λc o e=>Heap.get?_push_of_some _ (hk _ c o e)) (.drawn (tup:=hp.objs.size) (Heap.get?_push_size _ rfl) (Heap.get?_push_of_some _ (Heap.get?_push_size _ rfl)) (by rw [hz];exact Nat.ne_of_lt (Nat.lt_succ_self _)) hx hy Ay)
  obtain⟨x,hx⟩:∃x,es[0]? =some x:=⟨es[0]'(by lia),Array.getElem?_eq_getElem _⟩
  obtain⟨y,hy⟩:∃y,es[1]? =some y:=⟨es[1]'(by lia),Array.getElem?_eq_getElem _⟩
  rw [show List.range 2=[0,1]from rfl];refine wpAny_bind ?_;unfold drawOrder;refine wpAny_bind (hO (by decide) λi hi=> ?_)
  match i,hi with
  |0,_=>
   show wpAny _ _ (drawOrder 1 [1]>>=λl=>Pure.pure (0::l)) _ _ _;unfold drawOrder;refine wpAny_bind (wpAny_bind (hO (by decide) λj hj=> ?_));obtain rfl:j=0:=by have:j<1:=hj;lia
   show wpAny _ _ (drawOrder 0 []>>=λl=>Pure.pure (1::l)) _ _ _;unfold drawOrder;exact wpAny_bind (wpAny_pure (wpAny_pure (wpAny_pure (fin 0 1 x y _ hx hy (by decide)))))
  |1,_=>
   show wpAny _ _ (drawOrder 1 [0]>>=λl=>Pure.pure (1::l)) _ _ _;unfold drawOrder;refine wpAny_bind (wpAny_bind (hO (by decide) λj hj=> ?_));obtain rfl:j=0:=by have:j<1:=hj;lia
   show wpAny _ _ (drawOrder 0 []>>=λl=>Pure.pure (0::l)) _ _ _;unfold drawOrder;exact wpAny_bind (wpAny_pure (wpAny_pure (wpAny_pure (fin 1 0 y x _ hy hx (by decide)))))
section
variable{w:World}{A:Around}{E:Value->Shared->Prop}{hp:Heap}{g:Array GenState}{dr:Drawn}{tk:Nat}{os:OsState}{a it:Addr}{es:Array (Int × Value)}{t:SetTable}{ep i:Nat}{X:aV}{Q:Option Value->Shared->Prop}
theorem ix.typeIs{h:Heap}(x:ix w h it a es ep i X):Shared.TypeIs ⟨h,g,dr,tk,os⟩ (.ref it) "set_iterator":=by
 cases x with
 |text hb hi=>exact⟨_,hi,rfl⟩
 |drawn hi ht dY hx hy Ay=>exact⟨_,hi,rfl⟩
theorem v8(ha:hp.get? a=some (cH es ep t))(pa:gI w es)(T:jf t 2)(hit:ix w hp it a es ep i X)(hi:i<2)(EZ:a≠it)
  (hQ:∀h' v,X[i]? =some v->ix w h' it a es ep (i+1) X->h'.objs.size=hp.objs.size->(∀c o,c≠it->hp.get? c=some o->h'.get? c=some o)->Q (some v) ⟨h',g,dr,tk,os⟩):
  wpAny (model H.pw w) A (pyNext (.ref it)) Q E ⟨hp,g,dr,tk,os⟩:=by
 have hT:Shared.TypeIs ⟨hp,g,dr,tk,os⟩ (.ref it) "set_iterator":=hit.typeIs;have fh:=pa.size;have dW:t.fits es.size=true:=by rw [fh];exact T.fits
 unfold pyNext;refine wpAny_bind (wpAny_attempt (wpAny_callSpecial?_slot (name:=Str.ofString "__next__") hT dh
  (wpAny_call_entry dh hT fV ?_ (gu _))))
 unfold Builtin.«set_iterator.__next__»;refine wpAny_bind (m:=slotArgs _ _ _) (wpAny_of_eq (a:=(.ref it,[])) (by rfl) ?_);dsimp only;cases hit with
 | @text slot hb zq=>
  refine wpAny_bind (wpAny_fieldsOf zq rfl ?_);dsimp only [rawInt];refine wpAny_bind (wpAny_setEntries_of ha rfl dW ?_);rw [fh];rw [if_neg (by decide)];simp only [Int.toNat_natCast];have hP:=gS pa (w.params.setOrder a ep);have Oa:=hP.size;have Gz:∀(e:Int × Value),(pickOrder (w.params.setOrder a ep) es)[i]? =some e->wpAny (model H.pw w) A.in1 (do
    setField (.ref it) 0 (.int slot 0)
    setField (.ref it) 1 (.int (i+1) 0)
    ret e.2) (λfin s'=>∃v,fin= .done (.ret v)/\wpAny (model H.pw w) A (Pure.pure (some v)) Q E s') (λe s'=>wpAny (model H.pw w) A (do
     let b<-isInstance e (.type "StopIteration")
     if b=true then Pure.pure none else throw e) Q E s') ⟨hp,g,dr,tk,os⟩:=λe he=>by
   refine wpAny_bind (wpAny_setField_rec zq (by simp) λh1 AB vO=> ?_);refine wpAny_bind (wpAny_setField_rec AB (by simp) λh2 FU DN=> ?_);have sb:=vO.trans DN;refine wpAny_pure ⟨_,rfl,wpAny_pure (hQ h2 _ (by rw [Array.getElem?_map,he];rfl) (.text (slot:=slot) hb (by simpa [rawInt]using FU)) sb.1 λc o hc e=>(sb.2 c hc).trans e)⟩
  obtain⟨e,he⟩:∃e,(pickOrder (w.params.setOrder a ep) es)[i]? =some e:=⟨_,Array.getElem?_eq_getElem (by lia)⟩
  refine wpAny_bind (m:=setNext _ _ _ _) ?_;unfold setNext setsByText;refine wpAny_bind (wpAny_setState_of ha rfl dW ?_);dsimp only;refine wpAny_bind (wpAny_bind (wpAny_askSetting (wpAny_pure ?_)));have sH:({program:=(model H.pw w).prog,params:=(model H.pw w).w.params}:Setting).params.followText "set-order"=true:=hb;rw [if_pos sH,if_neg (by simp)];refine wpAny_bind (m:=setWalk a) ?_;unfold setWalk setsByText;refine wpAny_bind (wpAny_setState_of ha rfl dW ?_);dsimp only;refine wpAny_bind (wpAny_bind (wpAny_askSetting (wpAny_pure ?_)));rw [if_pos sH];refine wpAny_bind (wpAny_askSetting (wpAny_pure (wpAny_pure ?_)));have wg:(pickOrder (({program:=(model H.pw w).prog,params:=(model H.pw w).w.params}:Setting).params.setOrder a ep) es)[i]? =some e:=he;rw [wg];exact Gz e he
 | @drawn tup p q x y zq ht dY hx hy Ay=>
  refine wpAny_bind (wpAny_fieldsOf zq rfl ?_);dsimp only [rawInt];refine wpAny_bind (wpAny_setEntries_of ha rfl dW ?_);rw [fh];rw [if_neg (by decide)];refine wpAny_bind (wpAny_seqItems ht rfl ?_);simp only [Int.toNat_natCast];have step:∀(k:Nat) (e:Int × Value),es[k]? =some e->(#[x.2,y.2]:aV)[i]? =some e.2->wpAny (model H.pw w) A.in1 (do
    let v<-setNextDrawn a k ep
    setField (.ref it) 1 (.int (i+1) 0)
    ret v) (λfin s'=>∃v,fin= .done (.ret v)/\wpAny (model H.pw w) A (Pure.pure (some v)) Q E s') (λe s'=>wpAny (model H.pw w) A (do
     let b<-isInstance e (.type "StopIteration")
     if b=true then Pure.pure none else throw e) Q E s') ⟨hp,g,dr,tk,os⟩:=λk e hk hX=>by
   refine wpAny_bind (m:=setNextDrawn _ _ _) ?_;unfold setNextDrawn;refine wpAny_bind (wpAny_setState_of ha rfl dW ?_);dsimp only;rw [if_neg (by simp),hk];refine wpAny_pure ?_;refine wpAny_bind (wpAny_setField_rec zq (by simp) λh1 AB vO=> ?_);refine wpAny_pure ⟨_,rfl,wpAny_pure (hQ h1 _ hX (.drawn (tup:=tup) (p:=p) (q:=q) (by simpa [rawInt]using AB) ((vO.2 tup dY).trans ht) dY hx hy Ay) vO.1 λc o hc e=>(vO.2 c hc).trans e)⟩
  rcases i with _|_|i
  ·exact step p x hx rfl
  ·exact step q y hy rfl
  ·exact absurd hi (by lia)
theorem yM(hh:A.handled=none)(ha:hp.get? a=some (cH es ep t))(pa:gI w es)(T:jf t 2)(hit:ix w hp it a es ep 2 X)(EZ:a≠it)
  (hQ:∀h',hp.objs.size<=h'.objs.size->(∀c o,c≠it->hp.get? c=some o->h'.get? c=some o)->Q none ⟨h',g,dr,tk,os⟩):
  wpAny (model H.pw w) A (pyNext (.ref it)) Q E ⟨hp,g,dr,tk,os⟩:=by
 have hT:Shared.TypeIs ⟨hp,g,dr,tk,os⟩ (.ref it) "set_iterator":=hit.typeIs;have fh:=pa.size;have dW:t.fits es.size=true:=by rw [fh];exact T.fits
 have stop:∀h1,Heap.SameBut it hp h1->wpAny (model H.pw w) A.in1 (do
   let e<-newExc (.type "StopIteration") []
   raiseNew e) (λ(fin:PySem.Fin) s'=>∃v,fin= .done (.ret v)/\wpAny (model H.pw w) A (Pure.pure (some v)) Q E s') (λe s'=>wpAny (model H.pw w) A (do
    let b<-isInstance e (.type "StopIteration")
    if b=true then Pure.pure none else throw e) Q E s') ⟨h1,g,dr,tk,os⟩:=λh1 sb=>by
  refine wpAny_bind ?_;simp only [newExc,newTuple];refine wpAny_bind (wpAny_newObj_type ?_ (by size_fits));refine wpAny_bind (m:=firstArgMember _ _) (wpAny_of_eq (a:=Value.none) (by first|rfl|(simp only [firstArgMember];rfl)) ?_);refine wpAny_newObj_type ?_ (by size_fits);simp only [raiseNew];refine wpAny_bind (wpAny_handled ?_);rw [show A.in1.handled=none from hh];refine wpAny_bind (wpAny_pure (wpAny_throw ?_));refine wpAny_bind (wpAny_isInstance (T:="StopIteration") (b:=true) ⟨_,Heap.get?_push_size _ rfl,rfl⟩ isSubtype_stop ?_);refine wpAny_pure (hQ _ ?_ λc o hc e=> ?_)
  ·rw [Heap.size_push,Heap.size_push,sb.1];lia
  ·exact Heap.get?_push_of_some _ (Heap.get?_push_of_some _ ((sb.2 c hc).trans e))
 unfold pyNext;refine wpAny_bind (wpAny_attempt (wpAny_callSpecial?_slot (name:=Str.ofString "__next__") hT dh
  (wpAny_call_entry dh hT fV ?_ (gu _))))
 unfold Builtin.«set_iterator.__next__»;refine wpAny_bind (m:=slotArgs _ _ _) (wpAny_of_eq (a:=(.ref it,[])) (by rfl) ?_);dsimp only;cases hit with
 | @text slot hb zq=>
  refine wpAny_bind (wpAny_fieldsOf zq rfl ?_);dsimp only [rawInt];refine wpAny_bind (wpAny_setEntries_of ha rfl dW ?_);rw [fh];rw [if_neg (by decide)];simp only [Int.toNat_natCast];have hP:=gS pa (w.params.setOrder a ep);have Oa:=hP.size;refine wpAny_bind (m:=setNext _ _ _ _) ?_;unfold setNext setsByText;refine wpAny_bind (wpAny_setState_of ha rfl dW ?_);dsimp only;refine wpAny_bind (wpAny_bind (wpAny_askSetting (wpAny_pure ?_)));have sH:({program:=(model H.pw w).prog,params:=(model H.pw w).w.params}:Setting).params.followText "set-order"=true:=hb;rw [if_pos sH,if_neg (by simp)];refine wpAny_bind (m:=setWalk a) ?_;unfold setWalk setsByText;refine wpAny_bind (wpAny_setState_of ha rfl dW ?_);dsimp only;refine wpAny_bind (wpAny_bind (wpAny_askSetting (wpAny_pure ?_)));rw [if_pos sH];refine wpAny_bind (wpAny_askSetting (wpAny_pure (wpAny_pure ?_)));have wg:(pickOrder (({program:=(model H.pw w).prog,params:=(model H.pw w).w.params}:Setting).params.setOrder a ep) es)[((2:Nat):Int).toNat]? =none:=Array.getElem?_eq_none (by have:(pickOrder (({program:=(model H.pw w).prog,params:=(model H.pw w).w.params}:Setting).params.setOrder a ep) es).size=2:=Oa;rw [this];decide)
  first|rw [wg]|(simp only [Int.toNat_natCast]at wg;rw [wg])
  refine wpAny_bind (wpAny_setField_rec zq (by simp) λh1 AB vO=> ?_);exact stop h1 vO
 | @drawn tup p q x y zq ht dY hx hy Ay=>refine wpAny_bind (wpAny_fieldsOf zq rfl ?_);dsimp only [rawInt];refine wpAny_bind (wpAny_setEntries_of ha rfl dW ?_);rw [fh];rw [if_neg (by decide)];refine wpAny_bind (wpAny_seqItems ht rfl ?_);refine wpAny_bind (wpAny_setField_rec zq (by simp) λh1 AB vO=> ?_);refine wpAny_bind (wpAny_setField_rec AB (by simp) λh2 FU DN=> ?_);exact stop h2 (vO.trans DN)
end
section
variable{w:World}{A:Around}{hp:Heap}{g:Array GenState}{dr:Drawn}{tk:Nat}{os:OsState}{a it S:Addr}{es:Array (Int × Value)}{t:SetTable}{ep i:Nat}{X:aV}
theorem ix.size{h:Heap}(pa:gI w es)(x:ix w h it a es ep i X):X.size=2:=by
 cases x with
 |text hb hi=>rw [Array.size_map];exact(gS pa _).size
 |drawn hi ht dY hx hy Ay=>rfl
theorem ix.keep{h h':Heap}{xs:aV}{c:Nat}(x:ix w h it a es ep i X)(hS:h.get? S=some (aw xs c))(dY:it≠S)(hk:∀b o,b≠S->h.get? b=some o->h'.get? b=some o):ix w h' it a es ep i X:=by
 cases x with
 |text hb hi=>exact .text hb (hk _ _ dY hi)
 |drawn hi ht hn hx hy Ay=>refine .drawn (hk _ _ dY hi) (hk _ _ ?_ ht) hn hx hy Ay;rintro rfl;rw [hS]at ht;exact absurd (congrArg Obj.cls (Option.some.inj ht)) (show¬(Value.type "list"=Value.type "tuple")by decide)
theorem D0{h:Heap}{xs:aV}{c:Nat}{v:Value}(hS:h.get? S=some (aw xs c)):∃c',(h.update S (Obj.mapSeq (·.push v))).get? S=some (aw (xs.push v) c'):=⟨_,Heap.get?_update_self (Obj.mapSeq (·.push v)) hS rfl⟩
theorem xm{R:Result->Shared->Prop}{res:Value}{c:Nat}(hh:A.handled=none)(ha:hp.get? a=some (cH es ep t))(pa:gI w es)(T:jf t 2)(hit:ix w hp it a es ep 0 X)(EZ:a≠it)(Qe:a≠S)(LR:it≠S)(hS:hp.get? S=some (aw #[] c))
  (hR:∀h' c',hp.objs.size<=h'.objs.size->(∀b o,b≠S->b≠it->hp.get? b=some o->h'.get? b=some o)->h'.get? S=some (aw X c')->R (.ok (.ret res)) ⟨h',g,dr,tk,os⟩):
  codeAny (model H.pw w) A (.builtin "list.extend.loop" ⟨[.ref S,.ref it,res],[]⟩) R ⟨hp,g,dr,tk,os⟩:=by
 have h2:=hit.size pa;have lG:∀(i:Nat) (h:Heap) (xs:aV) (c:Nat),i<2->xs.size<=2->h.get? a=some (cH es ep t)->ix w h it a es ep i X->h.get? S=some (aw xs c)->h.objs.size=hp.objs.size->
   (∀h' v c',X[i]? =some v->h'.get? a=some (cH es ep t)->ix w h' it a es ep (i+1) X->h'.get? S=some (aw (xs.push v) c')->h'.objs.size=hp.objs.size->(∀b o,b≠S->b≠it->h.get? b=some o->h'.get? b=some o)->
    codeAny (model H.pw w) A (.builtin "list.extend.loop" ⟨[.ref S,.ref it,res],[]⟩) R ⟨h',g,dr,tk,os⟩)->
   codeAny (model H.pw w) A (.builtin "list.extend.loop" ⟨[.ref S,.ref it,res],[]⟩) R ⟨h,g,dr,tk,os⟩:=λi h xs c hi hx ha hit hS hz hq=>by
  refine codeAny_builtin PySem.F.entry_extend_loop ?_;rw [Around.under_plainId PySem.F.plain_extend_loop _];show wpAny _ A.in1 (pyNext (.ref it)>>=_) _ _ _;refine wpAny_bind (v8 ha pa T hit hi EZ λh' v hv LN wR hk=> ?_);have E0:=hk S _ LR.symm hS;show wpAny _ A.in1 (updateSeq S (·.push v)>>=_) _ _ _;refine wpAny_bind (wpAny_updateSeq E0 rfl ?_ (by rw [sizeLine_eq];lia) (by rw [Array.size_push,sizeLine_eq];lia));obtain⟨c',wX⟩:=D0 (v:=v) E0;have sb:Heap.SameBut S h' (h'.update S (Obj.mapSeq (·.push v))):=Heap.SameBut.update ..;refine wpAny_pure ⟨plainId_quiet PySem.F.plain_extend_loop _,hq _ v c' hv ((sb.2 a Qe).trans (hk a _ EZ ha)) (LN.keep E0 LR λb o hb e=>(sb.2 b hb).trans e) wX (by rw [sb.1,wR,hz]) λb o h1 h2 e=>(sb.2 b h1).trans (hk b o h2 e)⟩
 refine lG 0 hp #[] c (by decide) (by simp) ha hit hS rfl λh1 v0 c1 e0 qX LM Qg wQ k1=> ?_;refine lG 1 h1 _ c1 (by decide) (by simp) qX LM Qg wQ λE1 v1 c2 e1 zw LK N9 zg k2=> ?_;have hX:(#[].push v0).push v1=X:=by
  refine Array.ext (by simp [h2]) λj Q9 JN=> ?_;rw [h2]at JN;have g0:X[0]'(by lia)=v0:=by have:=Array.getElem?_eq_getElem (xs:=X) (i:=0) (by lia);rw [this]at e0;exact Option.some.inj e0
  have g1:X[1]'(by lia)=v1:=by have:=Array.getElem?_eq_getElem (xs:=X) (i:=1) (by lia);rw [this]at e1;exact Option.some.inj e1
  rcases(by lia:j=0\/j=1)with rfl|rfl
  ·exact g0.symm
  ·exact g1.symm
 rw [hX]at N9;refine codeAny_builtin PySem.F.entry_extend_loop ?_;rw [Around.under_plainId PySem.F.plain_extend_loop _];show wpAny _ A.in1 (pyNext (.ref it)>>=_) _ _ _;refine wpAny_bind (yM hh zw pa T LK EZ λh3 Q5 k3=> ?_);exact wpAny_pure (hR h3 c2 (by lia) (λb o h1 h2 e=>k3 b o h2 (k2 b o h1 h2 (k1 b o h1 h2 e))) (k3 S _ LR.symm N9))
theorem By:typeLookup (.type "set") "__len__"=pure (some (.builtin "set.__len__")):=by rw [typeLookup_type,builtinLookup_eq_fast];kernel_rfl
theorem xq{E:Value->Shared->Prop}{s:Shared}{r:Addr}(hT:s.TypeIs (.ref r) "set"){Q:Bool->Shared->Prop}(h:Q false s):wpAny (model H.pw w) A (Builtin.List.listLengthHint (.ref r)) Q E s:=by unfold Builtin.List.listLengthHint;refine wpAny_bind (wpAny_specialOf hT By ?_);generalize NY:("set.__len__":String)=Po;wp_delta;rw [show splitId Po=some ("set","__len__")from by subst NY;decide+kernel];subst NY;refine wpAny_bind (wpAny_isInstance (T:="set") (b:=true) hT sub_set_self ?_);refine wpAny_ite_split (λMf=>absurd Mf (by decide)) (λJ=> ?_);refine wpAny_ite_split (λJ=> ?_) (λMf=>absurd (by decide+kernel) Mf);refine wpAny_bind (wpAny_typeOf hT ?_);exact wpAny_pure h
def Ov(X:aV):Prop:=∃ta tb,X= #[.bytes H.nA ta,.bytes H.nB tb]\/X= #[.bytes H.nB tb,.bytes H.nA ta]
theorem ix.two{h:Heap}(pa:gI w es)(x:ix w h it a es ep i X):Ov X:=by
 cases x with
 |text hb hi=>
  obtain⟨ta,tb,e|e⟩:=gS pa (w.params.setOrder a ep)
  ·exact⟨ta,tb,.inl (by rw [e];simp)⟩
  ·exact⟨ta,tb,.inr (by rw [e];simp)⟩
 | @drawn tup p q x y hi ht dY hx hy Ay=>
  obtain⟨ta,tb,rfl|rfl⟩:=pa
  all_goals
   have hp:p<2:=by have:=(Array.getElem?_eq_some_iff.mp hx).1;simpa using this
   have hq:q<2:=by have:=(Array.getElem?_eq_some_iff.mp hy).1;simpa using this
   rcases(by lia:p=0/\q=1\/p=1/\q=0)with⟨rfl,rfl⟩|⟨rfl,rfl⟩
   ·cases hx;cases hy
    first|exact⟨ta,tb,.inl rfl⟩|exact⟨ta,tb,.inr rfl⟩
   ·cases hx;cases hy
    first|exact⟨ta,tb,.inr rfl⟩|exact⟨ta,tb,.inl rfl⟩
theorem rV{R:Result->Shared->Prop}(hh:A.handled=none)(ha:hp.get? a=some (cH es ep t))(pa:gI w es)(T:jf t 2)
  (hR:∀h' c X Rm,Ov X->(∀b o,hp.get? b=some o->h'.get? b=some o)->h'.get? hp.objs.size=some (aw X c)->R (.ok (.ret (.ref hp.objs.size))) ⟨h',g,Rm,tk,os⟩):
  codeAny (model H.pw w) A (.builtin "proto.collect" ⟨[.ref a],[]⟩) R ⟨hp,g,dr,tk,os⟩:=by
 have hN:(hp.push dp).get? hp.objs.size=some dp:=Heap.get?_push_size _ rfl;have Dg:(hp.push dp).get? a=some (cH es ep t):=Heap.get?_push_of_some _ ha;have dY:hp.objs.size≠a:=Nat.ne_of_gt (Heap.lt_size ha);have hz:(hp.push dp).objs.size=hp.objs.size+1:=Heap.size_push ..;have hT:Shared.TypeIs ⟨hp.push dp,g,dr,tk,os⟩ (.ref a) "set":=⟨_,Dg,rfl⟩
 refine H.fK (s:=⟨hp,g,dr,tk,os⟩) ?_;show wpAny _ A.in1 (Builtin.List.listExtendWith (.ref hp.objs.size) (.ref a) (.ref hp.objs.size)) _ _ ⟨hp.push dp,g,dr,tk,os⟩;have key:∀(h:Heap) (it c:Nat) (Rm:Drawn) (X:aV),ix w h it a es ep 0 X->hp.objs.size<it->h.get? a=some (cH es ep t)->h.get? hp.objs.size=some (aw #[] c)->(∀b o,hp.get? b=some o->h.get? b=some o)->
   codeAny (model H.pw w) A (.builtin "list.extend.loop" ⟨[.ref hp.objs.size,.ref it,.ref hp.objs.size],[]⟩) R ⟨h,g,Rm,tk,os⟩:=λh it c Rm X hit h1 h3 h4 h5=>by
  have EZ:a≠it:=Nat.ne_of_lt (Nat.lt_trans (Heap.lt_size ha) h1);refine xm hh h3 pa T hit EZ dY.symm (Nat.ne_of_gt h1) h4 λh' c' wR hk hS=>hR h' c' X Rm (hit.two pa) (λb o e=>hk b o (Nat.ne_of_lt (Heap.lt_size e)) (Nat.ne_of_lt (Nat.lt_trans (Heap.lt_size e) h1)) (h5 b o e)) hS
 unfold Builtin.List.listExtendWith;refine wpAny_bind (wpAny_typeOf (T:="set") hT ?_);have h1:Builtin.List.listSameRef (.ref hp.objs.size) (.ref a)=false:=by simp [Builtin.List.listSameRef,dY]
 have h2:(Value.type "set"==Value.type "list")=false:=by decide
 have h3:(Value.type "set"==Value.type "tuple")=false:=by decide
 simp only [h1,h2,h3,Bool.or_false,Bool.false_eq_true,if_false];refine wpAny_bind (xn Dg pa T λh1 it Rm X PR C9 wQ BR hit=> ?_);have JU:=BR _ _ hN;have qX:=BR _ _ Dg;have EP:hp.objs.size<it:=by lia
 refine wpAny_bind (wpAny_holding (xq ⟨_,qX,rfl⟩ ?_));refine wpAny_ite_split (λJ=> ?_) (λJ=>wpAny_pure ⟨plainId_quiet PySem.F.plain_extend_loop _,key h1 it 0 Rm X hit EP qX JU λb o e=>BR b o (Heap.get?_push_of_some _ e)⟩);refine wpAny_bind (wpAny_rule ?_);refine wpAny_bind ?_;show wpAny _ _ (updateSeq hp.objs.size (·.push .none)>>=λJ=>updateSeq hp.objs.size (·.pop)) _ _ _;refine wpAny_bind (wpAny_updateSeq JU rfl ?_ (by rw [sizeLine_eq];decide) (by rw [sizeLine_eq];decide));have IF:=Heap.get?_update_self (Obj.mapSeq (·.push Value.none)) JU rfl;refine wpAny_updateSeq IF rfl ?_ (by rw [sizeLine_eq];decide) (by rw [sizeLine_eq];decide);have Mg:=Heap.get?_update_self (Obj.mapSeq (·.pop)) IF rfl;have sb:Heap.SameBut hp.objs.size h1 ((h1.update hp.objs.size (Obj.mapSeq (·.push Value.none))).update hp.objs.size (Obj.mapSeq (·.pop))):=(Heap.SameBut.update ..).trans (Heap.SameBut.update ..);refine wpAny_pure ⟨plainId_quiet PySem.F.plain_extend_loop _,key _ it _ Rm X (hit.keep JU (Nat.ne_of_gt EP) λb o hb e=>(sb.2 b hb).trans e) EP ((sb.2 a dY.symm).trans qX) Mg λb o e=>(sb.2 b (Nat.ne_of_lt (Heap.lt_size e))).trans (BR b o (Heap.get?_push_of_some _ e))⟩
end
noncomputable abbrev jV(o:Obj):Obj:={cls:= .type "set",data:=o.data}
def Tg(o:Obj):Prop:=LV λes ep t=>o.data= .set es ep t/\gI w es/\jf t 2
theorem uF:entryFor table "set.__init__"=some Builtin.«set.__init__»:=entryFor_of_tree (by kernel_rfl)
def d9(i j:Nat)(s d:Addr)(led:Bool)(v1 v2:Value)(ts:nN)(ep:Nat):az:=⟨1,λJ=> .builtin "set.__init__" ⟨[.ref s,.ref d],[]⟩,
 λst=>[(.p (bP st.L i),.p (some (s,cH #[] 0 (.fresh 0 0 led)))),(.p (bP st.L j),.p (some (d,bN w.params [(H.nA,v1),(H.nB,v2)] ts ep)))],λJ J=> .ok (.ret .none),λa st=>⟨bg st.L i (jV (a.o 0)),st.G,st.N,st.t⟩,λF a=>a.F=F/\Tg w (a.o 0)⟩
theorem d9.ok{w:World}{R:aA}{F:aj}{i j:Nat}{s d:Addr}{led:Bool}{v1 v2:Value}{ts:nN}{ep:Nat}(SH:i≠j):(d9 w i j s d led v1 v2 ts ep).OK w R F:=λc st hc he=>by
 rw [hc];have e1:=aY.cons.mp he;have hi:=cp.p.inj e1.1;have hj:=cp.p.inj (aY.cons.mp e1.2).1;intro h g dr os Rl A hA;have hn:(st.L.map (·.1)).Nodup:=by have:=Rl.nd;rw [List.map_append]at this;exact(List.nodup_append.mp this).1
 have dY:d≠s:=λe=>uR hn hi hj SH e.symm;refine codeAny_builtin uF ?_;rw [Around.under_plainId (by decide+kernel)];refine xp (ta:=ts 0) (tb:=ts 1) (v1:=v1) (v2:=v2) (ep:=ep) (Rl.mem _ (List.mem_append_left _ (aJ hi))) (Rl.mem _ (List.mem_append_left _ (aJ hj))) (λJ=>n5 Rl (List.mem_append_left _ (aJ hj))) dY λes t h' p T sb hg=> ?_;exact⟨F,_,aj.le.refl F,Rl.mW hi sb hg,rfl,rfl,{bB F 0 0 0 with o:=λJ=>cH es 2 t},rfl,⟨rfl,es,2,t,rfl,p,T⟩,rfl,rfl⟩
def jv(i j:Nat)(a b:Addr)(x y:Obj)(w:World):az:=⟨1,λJ=> .builtin "set.__or__" ⟨[.ref a,.ref b],[]⟩,λst=>[(.p (bP st.L i),.p (some (a,jV x))),(.p (bP st.L j),.p (some (b,jV y)))],
 λJ st=> .ok (.ret (.ref st.N)),λa st=>⟨eO st.L st.N (jV (a.o 0)),st.G,st.N+1,st.t⟩,λF a=>a.F=F/\Tg w (a.o 0)⟩
theorem jv.ok{w:World}{R:aA}{F:aj}{i j:Nat}{a b:Addr}{x y:Obj}(SH:i≠j)(hx:Tg w x)(hy:Tg w y):(jv i j a b x y w).OK w R F:=λc st hc he=>by
 rw [hc];have e1:=aY.cons.mp he;have hi:=cp.p.inj e1.1;have hj:=cp.p.inj (aY.cons.mp e1.2).1;obtain⟨jR,vu,t1,q1,p1,T1⟩:=hx;obtain⟨ni,vt,t2,q2,p2,T2⟩:=hy;intro h g dr os Rl A hA;have hn:(st.L.map (·.1)).Nodup:=by have:=Rl.nd;rw [List.map_append]at this;exact(List.nodup_append.mp this).1
 have dY:a≠b:=λe=>uR hn hi hj SH e;have ma:=Rl.mem _ (List.mem_append_left _ (aJ hi));have mb:=Rl.mem _ (List.mem_append_left _ (aJ hj));rw [show jV x=cH jR vu t1 by rw [jV,q1]]at ma;rw [show jV y=cH ni vt t2 by rw [jV,q2]]at mb;refine codeAny_builtin Ru ?_;rw [Around.under_plainId (by decide+kernel)];refine DM ma mb dY p1 p2 T1 T2 λt ep h' T hk hz hg=> ?_;have hS:=Rl.size;have R1:=H.iT Rl hk (X:=[(h.objs.size,cH jR ep t)]) (λp hp=>by
  rw [List.mem_singleton]at hp;subst hp;exact hg) (by simp) (λp hp=>by
  rw [List.mem_singleton]at hp;subst hp;exact Nat.le_of_eq hS.symm) st.t
 rw [hz,hS]at R1;show bI w R os F _ (.ok (.ret (.ref h.objs.size))) _;rw [hS];exact⟨F,⟨st.L++[(st.N,cH jR ep t)],st.G,st.N+1,st.t⟩,aj.le.refl F,R1,rfl,rfl,{bB F 0 0 0 with o:=λJ=>cH jR ep t},rfl,⟨rfl,jR,ep,t,rfl,p1,T⟩,rfl,by rw [<-jm];rfl⟩
def mj(i:Nat)(s:Addr)(x:Obj)(up:Bool):az:=⟨4,λJ=> .builtin "proto.collect" ⟨[.ref s],[]⟩,λst=>[(.p (bP st.L i),.p (some (s,jV x)))],λJ st=> .ok (.ret (.ref st.N)),
 λa st=>⟨eO st.L st.N (aw (match up with|true=> #[.bytes H.nA (a.k 0),.bytes H.nB (a.k 1)]|false=> #[.bytes H.nB (a.k 1),.bytes H.nA (a.k 0)]) (a.k 2)),st.G,a.N,a.t⟩,same⟩
theorem mj.ok{w:World}{R:aA}{F:aj}{i:Nat}{s:Addr}{x:Obj}(hx:Tg w x):(mj i s x true).Dt w R F (mj i s x false):=λc st hc he=>by
 rw [hc];have hi:=cp.p.inj (aY.cons.mp he).1;obtain⟨es,ep,t,q,p,T⟩:=hx;intro h g dr os Rl A hA;have ma:=Rl.mem _ (List.mem_append_left _ (aJ hi));rw [show jV x=cH es ep t by rw [jV,q]]at ma;refine rV hA.hd ma p T λh' c X Rm hX hk hS=> ?_;have hz:=Rl.size;have R1:=H.iT Rl hk (X:=[(h.objs.size,aw X c)]) (λp hp=>by
  rw [List.mem_singleton]at hp;subst hp;exact hS) (by simp) (λp hp=>by
  rw [List.mem_singleton]at hp;subst hp;exact Nat.le_of_eq hz.symm) st.t
 rw [hz]at R1;show bI w R os F _ (.ok (.ret (.ref h.objs.size))) _;rw [hz];refine⟨F,⟨st.L++[(st.N,aw X c)],st.G,h'.objs.size,st.t⟩,aj.le.refl F,R1,rfl,rfl,?_⟩;obtain⟨ta,tb,e|e⟩:=hX
 ·exact .inl ⟨{bB F h'.objs.size st.t 0 with k:=lk c [ta,tb]},rfl,rfl,rfl,by rw [e,<-jm];rfl⟩
 ·exact .inr ⟨{bB F h'.objs.size st.t 0 with k:=lk c [ta,tb]},rfl,rfl,rfl,by rw [e,<-jm];rfl⟩
namespace H
noncomputable def iY(a b n:Nat):Obj:=aw #[.bytes nA a,.bytes nB b] n
def Kk(s:Addr)(x:Obj):bE:= .two (mj 0 s x true) (mj 0 s x false) [3,1,5,88,5,5,5,5,5,1,90,5,5,5,5] (λa=> .ret (.ok (.ret (.ref a.N))) (bJ ([(0,(s,jV x))]++[(2,(a.N,iY (a.k 0) (a.k 1) 2))]))) [3,1,5,88,5,5,5,5,5,1,90,5,5,5,5] (λa=> .ret (.ok (.ret (.ref a.N))) (bJ ([(0,(s,jV x))]++[(2,(a.N,iY (a.k 0) (a.k 1) 2))])))
theorem A0(gN:Nat)(s:Addr)(x:Obj)(N t:Nat):∀aa,aE (bX w gN 900 8 [89,0] (Kk s x) aa (.builtin "sorted" ⟨[.ref s],[]⟩) ⟨[(s,jV x)],[],N,t⟩):=by apply bh w
def qN(i:Nat)(s:Addr)(x:Obj):az:=eP 9 i (s,jV x) (λJ=> .builtin "sorted" ⟨[.ref s],[]⟩) (λa=> .ok (.ret (.ref (a.k 0)))) λF a=>F.le a.F/\a.F (a.k 0)=some (iY (a.k 1) (a.k 2) 2)
theorem qN.ok{w:World}{R:aA}{F:aj}{i:Nat}{s:Addr}{x:Obj}(hx:Tg w x):(qN i s x).OK w R F:=by
 refine eP.of cB λc R N t=>aD.d0 (d:=8) nr (λgN=>A0 w gN s x N t) ⟨mj.ok hx,λa J hf=> ?_,λa J hf=> ?_⟩
 all_goals
  rw [show a.F=F from hf];refine VC.gq (nd (by kernel_rfl)) λF' le hn N' t'=> ?_;exact⟨rfl,{bB _ N' t' 0 with k:=lk (a.k 1) [a.N,a.k 0]},rfl,rfl,rfl,⟨le,hn 0 rfl⟩,rfl⟩
end H
noncomputable def az.iI(h:az)(g:aL->aA):az:=⟨h.aX,h.code,h.led,h.res,λa st=>⟨(h.fH a st).L,(h.fH a st).G++g a,(h.fH a st).N,(h.fH a st).t⟩,λF a=>h.d5 F a/\∀p∈g a,a.F p.1=some p.2⟩
theorem bO.Aa{K:Nat->Option Obj}{F:aj}{R:aA}{h:Heap}{L G X:aA}{N t:Nat}(Rl:bO K F R h ⟨L,G,N,t⟩)(hX:∀p∈X,F p.1=some p.2):bO K F R h ⟨L,G++X,N,t⟩:=
 ⟨Rl.size,Rl.mem,Rl.nd,Rl.old,Rl.gO,Rl.fix,λp hp=>(List.mem_append.mp hp).elim (Rl.gs p) (hX p)⟩
theorem az.iI.ok{w:World}{R:aA}{F:aj}{h:az}{g:aL->aA}(ho:h.OK w R F)(hk:∀a,h.d5 F a->∃a':aL,a'.F=a.F/\(∀st,h.res a' st=h.res a st/\h.fH a' st=h.fH a st)/\h.d5 F a'/\∀p∈g a',a'.F p.1=some p.2):(h.iI g).OK w R F:=λc st hc hd hh ge dr os Rl=>by
 refine qj.aT (ho c st hc hd hh ge dr os Rl) λr s' hh=> ?_;obtain⟨F',ah,hl,cu,ht,UD,a,e1,e2,e3,e4⟩:=hh;obtain⟨a',k1,k2,k3,k4⟩:=hk a e2;subst e4;refine⟨F',_,hl,bO.Aa (X:=g a') cu (λp hp=>by rw [<-e1,<-k1];exact k4 p hp),ht,UD,a',k1.trans e1,⟨k3,k4⟩,?_,?_⟩
 ·exact e3.trans (k2 st).1.symm
 ·show _=(⟨(h.fH a' st).L,(h.fH a' st).G++g a',(h.fH a' st).N,(h.fH a' st).t⟩:aZ);rw [(k2 st).2]
namespace H
section
variable{w:World}{R:aA}{F:aj}
noncomputable def KG(a:aL):dm:=⟨a.k 1,a.k 2,a.k 3,a.k 4,a.k 5,a.k 6,a.k 7⟩
def bG(P:Params)(a:aL):aA:=[(a.k 0,cb 663 (KG a).dx),((KG a).dx,oL P (KG a))]
theorem qf{a:aL}{x:aU}(h:cm w a.F (a.k 0) x):∃a':aL,a'.F=a.F/\a'.k 0=a.k 0/\a'.N=a.N/\a'.t=a.t/\∀p∈bG w.params a',a'.F p.1=some p.2:=by obtain⟨q,h1,h2,h3⟩:=h;refine⟨{a with k:=lk q.k4 [a.k 0,q.dx,q.ch,q.t,q.k1,q.k2,q.k3]},rfl,rfl,rfl,rfl,?_⟩;exact aq h1 (aq h2 cB)
namespace IT
def LS(w:World)(s:jF)(D:Obj)(i:Nat)(x:aU)(u N tk:Nat)(aa:RB):ax:=aR w 300 13 (zJ [[3,2],mQ,[0]])
 (.hk (UE w 0 s D i x) λa=> .ret (.ok (.ret (.ref (a.k 0)))) λst=>[(.l (st.L.take 1),.l [(s.dt,D)])]) aa (.builtin "lifetime.subscript" ⟨[.ref s.so,.bytes (Ot i) u],[]⟩) ⟨[(s.dt,D)],[(s.so,cb 1315 s.dx)],N,tk⟩
theorem Jm(w:World)(s:jF)(D:Obj)(i:Nat)(x:aU)(u N tk:Nat)(aa:RB):aE (LS w s D i x u N tk aa):=aC (p:=λw=>aE (LS w s D i x u N tk aa)) (λb' w=>by cases b'<;>kernel_rfl) w
end IT
def nc(w:World)(j:Nat)(s:jF)(D:Obj)(i:Nat)(x:aU):az:=eP 14 j (s.dt,D) (λc=> .builtin "lifetime.subscript" ⟨[.ref s.so,.bytes (Ot i) (cA c 1)],[]⟩) (λa=> .ok (.ret (.ref (a.k 0)))) λF a=>F.le a.F/\cm w a.F (a.k 0) x
theorem nc.ok{j i:Nat}{s:jF}{x:aU}{cs:lU}{D:Obj}(hf:hJ w F s)(hd:fU w F cs D)(h8:cs.length<=8)(hi:cs[i]? =some x)(hx:x.size<300):(nc w j s D i x).OK w R F:=by refine eP.of (aq hf.o cB) λc R N t=>aD.run (d:=13) nr (IT.Jm w s D i x (cA c 1) N t) ⟨UE.ok hf hd h8 hi hx,λa le ha=> ?_⟩;exact VC.keep λN' t'=>⟨rfl,bB a.F N' t' (a.k 0),rfl,rfl,rfl,⟨le,ha.2⟩,rfl⟩
def fj(w:World)(j:Nat)(s:jF)(D:Obj)(i:Nat)(x:aU):az:=(nc w j s D i x).iI (bG w.params)
theorem fj.ok{j i:Nat}{s:jF}{x:aU}{cs:lU}{D:Obj}(hf:hJ w F s)(hd:fU w F cs D)(h8:cs.length<=8)(hi:cs[i]? =some x)(hx:x.size<300):(fj w j s D i x).OK w R F:=
 az.iI.ok (nc.ok hf hd h8 hi hx) λa ha=>by
  obtain⟨a',e1,e2,e3,e4,e5⟩:=qf ha.2;refine⟨a',e1,λst=>⟨?_,?_⟩,⟨?_,?_⟩,e5⟩
  ·show(Except.ok (.ret (.ref (a'.k 0))):Result)= .ok (.ret (.ref (a.k 0)));rw [e2]
  ·show(⟨_,_,a'.N,a'.t⟩:aZ)=⟨_,_,a.N,a.t⟩;rw [e3,e4]
  ·rw [e1];exact ha.1
  ·rw [e1,e2];exact ha.2
def lZ(w:World)(x:aU):az:=(BL.vl w x).iI (bG w.params)
theorem lZ.ok{x:aU}:(lZ w x).OK w R F:=
 az.iI.ok BL.vl.ok λa ha=>by
  obtain⟨a',e1,e2,e3,e4,e5⟩:=qf ha;refine⟨a',e1,λst=>⟨?_,?_⟩,?_,e5⟩
  ·show(Except.ok (.ret (.ref (a'.k 0))):Result)= .ok (.ret (.ref (a.k 0)));rw [e2]
  ·show(⟨_,_,a'.N,a'.t⟩:aZ)=⟨_,_,a.N,a.t⟩;rw [e3,e4]
  ·show cm w a'.F (a'.k 0) x;rw [e1,e2];exact ha
noncomputable def vm(a b c:Addr)(ps:lU)(cl:Bool):az:=(BO a b c ps cl).iI λe=>[(e.k 0,dU (.bytes (Bytes.joined #[] ps) (e.k 1)) (.bool cl))]
theorem vm.ok{a b c:Addr}{x y z:aU}{l1 l2 l3:Nat->aU}{ps:lU}{cl:Bool}(hx:cm w F a x)(hy:cm w F b y)(hz:cm w F c z)(h:Al x y z l1 l2 l3 ps cl):(vm a b c ps cl).OK w R F:=
 az.iI.ok (BO.ok hx hy hz h) λa ha=>⟨a,rfl,λJ=>⟨rfl,rfl⟩,ha,aq ha.2 cB⟩
noncomputable def Pn(z:MV)(x y:Ti):aA:=[(z.l,aw #[.ref z.e1,.ref z.e2] z.n),(z.e1,teO z.d1 #[.bytes nA z.t1,.int 33188 x.u,.bytes x.s x.v]),(z.d1,bA),(z.e2,teO z.d2 #[.bytes nB z.t2,.int 33188 y.u,.bytes y.s y.v]),(z.d2,bA)]
def kX(w:World)(i j:Nat)(q:dN)(x y:Ti)(ts:nN)(ep:Nat):az:=(m' w i j q x y ts ep).iI λa=>Pn (HZ a) x y
theorem kX.ok{i j:Nat}{q:dN}{x y:Ti}{ts:nN}{ep:Nat}(SH:i≠j)(hb:F q.tb=some (cb 884 q.td))(hx:F x.a=some (jS x.u x.s x.v))(hy:F y.a=some (jS y.u y.s y.v))(H5:1392<=q.te):(kX w i j q x y ts ep).OK w R F:=
 az.iI.ok (m'.ok SH hb hx hy H5) λa ha=>⟨a,rfl,λJ=>⟨rfl,rfl⟩,ha,aq ha.2.l (aq ha.2.e1 (aq ha.2.d1 (aq ha.2.e2 (aq ha.2.d2 cB))))⟩
def ic(w:World):az:=(dC w).iI λa=>[(a.k 0,cb 884 (a.k 1))]
theorem ic.ok:(ic w).OK w R F:=az.iI.ok dC.ok λa ha=>⟨a,rfl,λJ=>⟨rfl,rfl⟩,ha,aq ha.2.1 cB⟩
def m8(i:Nat)(s:Addr)(x:Obj):az:=(qN i s x).iI λa=>[(a.k 0,iY (a.k 1) (a.k 2) 2)]
theorem m8.ok{i:Nat}{s:Addr}{x:Obj}(hx:Tg w x):(m8 i s x).OK w R F:=az.iI.ok (qN.ok hx) λa ha=>⟨a,rfl,λJ=>⟨rfl,rfl⟩,ha,aq ha.2 cB⟩
def qV(x:aU):az:=⟨0,λc=> .builtin "bytes.__add__" ⟨[.bytes #[] (cA c 0),.bytes x (cA c 1)],[]⟩,λJ=>[],λa J=> .ok (.ret (.bytes x (a.k 0))),fz,same⟩
theorem qV.ok{x:aU}(h:(#[]:aU).size+x.size<=sizeLine):(qV x).OK w R F:=λc st hc hd=>
 (eJ.ok (w:=w) (R:=R) (F:=F) (x:= #[]) (y:=x) h c st hc hd).aT λr F' ah hh=>by obtain⟨a,e1,e2,e3,e4⟩:=hh;exact⟨a,e1,e2,by rw [e3];show(Except.ok (.ret (.bytes (#[]++x) (a.k 0))):Result)=_;rw [Array.empty_append];rfl,e4⟩
noncomputable def bT(cs:lU)(x:aU):lU:=if x∈cs then cs else cs++[x]
theorem Cn{cs dQ:lU}{x:aU}(h:dQ=cs\/dQ=cs++[x])(hm:x∈dQ)(hn:dQ.Nodup):dQ=bT cs x:=by
 unfold bT;rcases h with rfl|rfl
 ·rw [if_pos hm]
 ·rw [if_neg λhx=> ?_];rw [List.nodup_append]at hn;exact hn.2.2 x hx x (by simp) rfl
theorem n6{cs:lU}{x:aU}:x∈bT cs x:=by
 unfold bT;split
 ·assumption
 ·simp
theorem tm{cs:lU}{x:aU}(h:x∈cs):bT cs x=cs:=if_pos h
theorem ll{cs:lU}{x:aU}:(bT cs x).length<=cs.length+1:=by
 unfold bT;split
 ·lia
 ·simp
theorem fZ{cs:lU}{x c:aU}{i:Nat}(h:cs[i]? =some c):(bT cs x)[i]? =some c:=by
 unfold bT;split
 ·exact h
 ·rw [List.getElem?_append_left (List.getElem?_eq_some_iff.mp h).1];exact h
def fO(w:World)(i j:Nat)(s:jF)(b:Addr)(x:aU)(cs:lU)(D D2:Obj):az:={k8 w i j s b x cs D D2 with d5:=λF a=>F.le a.F/\dk w.params (bT cs x) (a.o 0)/\fU w a.F (bT cs x) (a.o 1)}
theorem fO.ok{i j:Nat}{s:jF}{b:Addr}{x:aU}{cs:lU}{D D2:Obj}(SH:i≠j)(hf:hJ w F s)(hb:cm w F b x)(hx:x.size<300)(hk:dk w.params cs D)(hd:fU w F cs D2)(h8:cs.length<8):(fO w i j s b x cs D D2).OK w R F:=λc st hc he=>
 (k8.ok (R:=R) SH hf hb hx hk hd h8 c st hc he).aT λr F' ah hh=>by obtain⟨a,e1,⟨e2,dQ,k1,k2,k3,k4⟩,e3,e4⟩:=hh;have e:=Cn k3 k4 k1.n;subst e;exact⟨a,e1,⟨e2,k1,k2⟩,e3,e4⟩
def qU(w:World)(j:Nat)(kn:Addr)(D:Obj)(N:Nat)(o:aU)(i:Nat):az:=⟨7,λcc=>FM.c N o (cA cc 0),λst=>[(.p (bP st.L j),.p (some (kn,D)))],λa J=> .ok (.ret (.bytes (Ot i) (a.k 0))),λa st=>⟨bg st.L j D,st.G,a.N,a.t⟩,same⟩
theorem qU.ok{j N t kn i:Nat}{D:Obj}{os:lU}{o:aU}(hF:∀p∈FM.G w.params N t kn,F p.1=some p.2)(hD:FM.Ga w.params os D)(hn:os.Nodup)(hi:os[i]? =some o):(qU w j kn D N o i).OK w R F:=λcc st hc he=>by
 rw [hc];have hj:=cp.p.inj (aY.cons.mp he).1;obtain⟨l,ts,ep,rfl,UD,hv⟩:=hD;have kL:(l.map (·.1)).Nodup:=by rw [UD];exact hn
 refine aD.qY (P:=λr F' D' N' t'=>F'=F/\D'=bN w.params l ts ep/\∃tv,r= .ok (.ret (.bytes (Ot i) tv))) hj hF (λR=> ?_) λr F' D' N' t' hh=> ?_
 ·have LB:∃p,l[i]? =some p/\p.1=o:=by
   rw [<-UD,List.getElem?_map]at hi;cases e:l[i]? with
   |none=>rw [e]at hi;cases hi
   |some p=>rw [e]at hi;exact⟨p,rfl,Option.some.inj hi⟩
  obtain⟨p,hp,rfl⟩:=LB;obtain⟨tv,Li⟩:=hv i p hp;have uw:=gM kL hp;rw [Li]at uw;refine(aD.run (d:=4) nr (FM.vd w N t kn p.1 (cA cc 0) l ts ep (Ot i) tv st.N st.t) (ai:=λr F' ah=>F'=F/\r= .ok (.ret (.bytes (Ot i) tv))/\ah.L=[(kn,bN w.params l ts ep)]) ⟨fy.ok kL (by rw [uw];rfl),λa J hf=> ?_⟩).le (show 5<=7 by decide)|>.aT λr F' ah hh=>by obtain⟨h1,h2,h3⟩:=hh;exact⟨_,h3,h1,rfl,tv,h2⟩
  rw [show a.F=F from hf];refine⟨ck.ok kL uw,λa' J hf=> ?_⟩;rw [show a'.F=F from hf];exact VC.keep λN' t'=>⟨rfl,rfl,rfl⟩
 ·obtain⟨h1,h2,tv,h3⟩:=hh;subst h1 h2;exact⟨bB F' N' t' tv,rfl,rfl,h3,rfl⟩
namespace GI
def SC(w:World)(s:jF)(b:Addr)(q:dm)(x:aU)(D:Obj)(i:Nat)(N tk:Nat)(aa:RB):ax:=aR w 900 11 (zJ [[2,0,0,3,3],RE,[8,0,0,0,8,0,0,0,8],vX,[8,10,3,2],mQ,[2],mQ,[2],mQ,[0,2,4,0,0,3,2],mQ,[2],mQ,[2],mQ,[0,2,4,0,0],SD,[0]])
 (.hk (BL.mc b x) λJ=> .hk (BL.SE b x) λJ=> .hk (eJ (BL.head x.size) x) λJ=> .hk (qU w 0 (s.N+2) D s.N (iV x) i) λa=> .ret (.ok (.ret (.bytes (Ot i) (a.k 0)))) λst=>[(.l (st.L.take 1),.l [(s.N+2,D)])])
 aa (.call (.ref 582) ⟨[.ref b,.ref (s.N+12)],[]⟩) ⟨[(s.N+2,D)],G w.params s b q x,N,tk⟩
theorem Ji(w:World)(s:jF)(b:Addr)(q:dm)(x:aU)(D:Obj)(i:Nat)(N tk:Nat)(aa:RB):aE (SC w s b q x D i N tk aa):=aC (p:=λw=>aE (SC w s b q x D i N tk aa)) (λb' w=>by cases b'<;>kernel_rfl) w
end GI
def gY(w:World)(j:Nat)(s:jF)(b:Addr)(D:Obj)(i:Nat):az:=eP 12 j (s.N+2,D) (λJ=> .call (.ref 582) ⟨[.ref b,.ref (s.N+12)],[]⟩) (λa=> .ok (.ret (.bytes (Ot i) (a.k 0)))) same
theorem gY.ok{j i:Nat}{s:jF}{b:Addr}{x:aU}{cs:lU}{D:Obj}(hf:mM w F s.N s.t)(hb:cm w F b x)(hx:x.size<300)(hk:dk w.params cs D)(hi:cs[i]? =some x):(gY w j s b D i).OK w R F:=by
 obtain⟨q,h1,h2,h3⟩:=id hb;have hg:∀p∈GI.G w.params s b q x,F p.1=some p.2:=λp hp=>by
  rcases List.mem_append.mp hp with hp|hp
  ·exact BL.hG h1 h2 h3 p hp
  ·exact aq hf.fm (aq hf.fd (aq hf.dg cB)) p hp
 have FU:∀p∈FM.G w.params s.N s.t (s.N+2),F p.1=some p.2:=aq hf.dg (aq hf.cd (aq hf.cl cB));refine eP.of hg λc R N t=>aD.run (d:=11) nr (GI.Ji w s b q x D i N t) ⟨BL.mc.ok hb hx,λa J hf=> ?_⟩;rw [show a.F=F from hf];refine VC.sm (BL.SE.ok hb (BL.fP hx)) λa=> ?_;have hh:=BL.pU (jr hx);refine VC.sm (eJ.ok (by lia)) λa=> ?_;refine VC.sm (qU.ok (t:=s.t) FU hk.o (nY hk.n hk.z) (by rw [List.getElem?_map,hi];rfl)) λa=> ?_;exact VC.keep λN' t'=>⟨rfl,bB F N' t' (a.k 0),rfl,rfl,rfl,rfl,rfl⟩
end
end H
def dA(st:aZ)(i j:Nat):Nat:=match bP st.L i with
 |some p=>match p.2.data with
  | .dict es _=>match bP es.toList j with
   |some e=>jO e.key
   |none=>0
  |_=>0
 |none=>0
def o9(st:aZ)(i j:Nat):Value:=match bP st.L i with
 |some p=>match p.2.data with
  | .dict es _=>match bP es.toList j with
   |some e=>e.val
   |none=> .none
  |_=> .none
 |none=> .none
namespace H
namespace MT
structure EI where
 a:Nat
 u:Nat
 v:Nat
 i:Nat
abbrev p6(e:EI):Obj:=jS e.u (Ot e.i) e.v
structure In where
 mg:Nat
 dx:Nat
 ci:Nat
 k1:Nat
 k2:Nat
 k3:Nat
 s:jF
 N:Nat
 pt:Nat
 cf:Nat
 me:Nat
 be:Nat
 oe:Nat
 te:Nat
 it:Nat
 nl:Nat
 n1:Nat
 n2:Nat
 lb:cK
 tb:Nat->Nat
 eb:Nat
 lo:cK
 to:Nat->Nat
 eo:Nat
 lt:cK
 tt:Nat->Nat
 et:Nat
 ba:EI
 oa:EI
 ta:EI
 bb:EI
 ob:EI
 tE:EI
structure Q where
 n:Nat
 T:Nat->Nat
 V:Nat->Value
 cv:aV
 cn:Nat
 ml:cK
 mt:Nat->Nat
 kF:Nat
 D:Obj
 D2:Obj
 lc:cK
 tc:Nat->Nat
 ec:Nat
 j:Nat
def fr(i:In)(n:Nat)(T:nN)(V:Nat->Value):Obj:=match n with
 |12=>{cls:= .type "frame",data:= .dict #[d P "self" (T 0) (.ref i.mg),d P "base_tree" (T 1) (V 1),d P "ours_tree" (T 2) (V 2),d P "theirs_tree" (T 3) (V 3),d P "prefix" (T 4) (.bytes #[] i.pt),d P "conflicts" (T 5) (.ref i.cf),d P "merged_entries" (T 6) (.ref i.me),d P "base_entries" (T 7) (.ref i.be),d P "entry" (T 8) (V 8),d P "ours_entries" (T 9) (.ref i.oe),d P "theirs_entries" (T 10) (.ref i.te),d P "all_names" (T 11) (V 11)] 12}
 |20=>{cls:= .type "frame",data:= .dict #[d P "self" (T 0) (.ref i.mg),d P "base_tree" (T 1) (V 1),d P "ours_tree" (T 2) (V 2),d P "theirs_tree" (T 3) (V 3),d P "prefix" (T 4) (.bytes #[] i.pt),d P "conflicts" (T 5) (.ref i.cf),d P "merged_entries" (T 6) (.ref i.me),d P "base_entries" (T 7) (.ref i.be),d P "entry" (T 8) (V 8),d P "ours_entries" (T 9) (.ref i.oe),d P "theirs_entries" (T 10) (.ref i.te),d P "all_names" (T 11) (V 11),d P "name" (T 12) (V 12),d P "path" (T 13) (V 13),d P "base_mode" (T 14) (V 14),d P "base_sha" (T 15) (V 15),d P "ours_mode" (T 16) (V 16),d P "ours_sha" (T 17) (V 17),d P "theirs_mode" (T 18) (V 18),d P "theirs_sha" (T 19) (V 19)] 20}
 |_=>{cls:= .type "frame",data:= .dict #[d P "self" (T 0) (.ref i.mg),d P "base_tree" (T 1) (V 1),d P "ours_tree" (T 2) (V 2),d P "theirs_tree" (T 3) (V 3),d P "prefix" (T 4) (.bytes #[] i.pt),d P "conflicts" (T 5) (.ref i.cf),d P "merged_entries" (T 6) (.ref i.me),d P "base_entries" (T 7) (.ref i.be),d P "entry" (T 8) (V 8),d P "ours_entries" (T 9) (.ref i.oe),d P "theirs_entries" (T 10) (.ref i.te),d P "all_names" (T 11) (V 11),d P "name" (T 12) (V 12),d P "path" (T 13) (V 13),d P "base_mode" (T 14) (V 14),d P "base_sha" (T 15) (V 15),d P "ours_mode" (T 16) (V 16),d P "ours_sha" (T 17) (V 17),d P "theirs_mode" (T 18) (V 18),d P "theirs_sha" (T 19) (V 19),d P "base_blob" (T 20) (V 20),d P "base_obj" (T 21) (V 21),d P "ours_obj" (T 22) (V 22),d P "ours_blob" (T 23) (V 23),d P "theirs_obj" (T 24) (V 24),d P "theirs_blob" (T 25) (V 25),d P "merged_content" (T 26) (V 26),d P "had_conflict" (T 27) (V 27),d P "merged_blob" (T 28) (V 28)] 29}
def lL(i:In)(q:Q):aA:=[(i.N,fr P i q.n q.T q.V),(i.cf,aw q.cv q.cn),(i.me,bN P q.ml q.mt q.kF),(i.be,bN P i.lb i.tb i.eb),(i.oe,bN P i.lo i.to i.eo),(i.te,bN P i.lt i.tt i.et),(i.it,pK i.nl q.j),(i.s.N+2,q.D),(i.s.dt,q.D2),(i.ci,bN P q.lc q.tc q.ec),(i.ba.a,p6 i.ba),(i.oa.a,p6 i.oa),(i.ta.a,p6 i.ta),(i.bb.a,p6 i.bb),(i.ob.a,p6 i.ob),(i.tE.a,p6 i.tE)]
def G0(i:In):aA:=[(i.mg,cb 1259 i.dx),(i.dx,tF P i.s.so i.ci i.k1 i.k2 i.k3),(i.s.so,cb 1315 i.s.dx),(i.s.dx,FD P i.s),(i.nl,iY i.n1 i.n2 2)]
def fst:Stmt:=aB (mu (H.KP P 1256)) 9
def lc(i:In):Code:= .forLoop (eB (fst w.params)) (.ref i.it) (iq (fst w.params)) [] (sO w.params 1256 i.N)
def nx(q:Q)(n:Nat)(cv:aV)(cn:Nat)(ml:cK)(mt:nN)(kF:Nat)(D D2:Obj)(lc:cK)(tc:nN)(ec:Nat)(st:aZ):Q:=⟨n,dA st 0,o9 st 0,cv,cn,ml,mt,kF,D,D2,lc,tc,ec,q.j+1⟩
def fD(i:In)(q':aZ->Q)(X:aZ->List (Nat × (Addr × Obj))):bE:= .again 19 (lc w i) λst=>(.l (st.L.take 16),.l (lL w.params i (q' st)))::bJ (X st) st
def zd(k:nN)(nm:aU)(pt a b c:Nat):Obj:={cls:= .type "dict",data:= .dict #[d P "path" (k 0) (.bytes nm pt),d P "ancestor" (k 1) (.ref a),d P "ours" (k 2) (.ref b),d P "theirs" (k 3) (.ref c)] 4}
def uq(m:Nat)(nm:aU)(pt:Nat)(b o t:EI)(st:aZ):List (Nat × (Addr × Obj)):=[(47,(m+8,cb 1174 (m+7))),(46,(m+7,zd P (dA st 46) nm pt (m+3) (m+4) (m+5))),(42,(m+3,p6 b)),(43,(m+4,p6 o)),(44,(m+5,p6 t))]
def uV(i:In)(q:Q)(n':Nat)(nm:aU)(e:EI)(M:Nat):bE:= .hk (bw w 2 i.me q.ml q.mt q.kF nm (.ref (M+12))) λb=>fD w i (nx q n' q.cv q.cn (put q.ml nm (.ref (M+12))) (λj=>b.k (j+1)) (b.k 0) q.D q.D2 q.lc q.tc q.ec) λJ=>[(28,(M+12,p6 e))]
def tN(i:In)(q:Q)(nm:aU)(e:EI)(ps:lU)(cs:lU)(im:Nat)(cv:aV)(cn:Nat)(lc:cK)(tc:nN)(ec k:Nat)(X:aZ->List (Nat × (Addr × Obj))):bE:=
 .hk (lZ w (Bytes.joined #[] ps)) λnb=> .hk (fO w 7 8 i.s (nb.k 0) (Bytes.joined #[] ps) cs q.D q.D2) λao=> .hk (gY w 7 i.s (nb.k 0) (ao.o 0) im) λgi=>
 .hk (bw w 2 i.me q.ml q.mt q.kF nm (.ref gi.N)) λb=>fD w i (nx q 29 cv cn (put q.ml nm (.ref gi.N)) (λj=>b.k (j+1)) (b.k 0) (ao.o 0) (ao.o 1) lc tc ec) λst=>(k,(gi.N,jS e.u (Ot im) (gi.k 0)))::X st
def KZ(i:In)(q:Q)(nm:aU)(b o t:EI)(xb xo xt:aU)(ps:lU)(cs:lU)(im:Nat)(cl:Bool)(p:aL):bE:=
 .hk (ig (Ot b.i) 40) λJ=> .hk (fj w 8 i.s q.D2 b.i xb) λb1=> .hk (fw (b1.k 0)) λJ=> .hk (fj w 8 i.s q.D2 o.i xo) λb2=> .hk (fw (b2.k 0)) λJ=> .hk (fj w 8 i.s q.D2 t.i xt) λb3=> .hk (fw (b3.k 0)) λJ=>
 .hk (vm (b1.k 0) (b2.k 0) (b3.k 0) ps cl) λm=>match cl with
  |false=>tN w i q nm o ps cs im q.cv q.cn q.lc q.tc q.ec 43 λJ=>[]
  |true=> .hk (br 1 i.cf q.cv q.cn (.bytes nm (p.k 0))) λc=> .hk (bw w 9 i.ci q.lc q.tc q.ec nm (.ref (m.N+8))) λci=>
   tN w i q nm o ps cs im (q.cv.push (.bytes nm (p.k 0))) (c.k 0) (put q.lc nm (.ref (m.N+8))) (λj=>ci.k (j+1)) (ci.k 0) 50 (uq w.params m.N nm (p.k 0) b o t)
def pT(i:In)(q:Q)(n':Nat)(nm:aU)(nt:Nat)(b o t:EI)(M:Nat)(sm:List Nat)(k:aL->bE):bE:=
 .hk (cO 6 i.it i.nl q.j (.bytes nm nt) []) λJ=> .hk (qV nm) λp=> .hk (rT w 3 i.be i.lb i.tb i.eb nm [.ref M] (.ref b.a)) λJ=> .hk (rT w 4 i.oe i.lo i.to i.eo nm [.ref (M+4)] (.ref o.a)) λJ=> .hk (rT w 5 i.te i.lt i.tt i.et nm [.ref (M+8)] (.ref t.a)) λJ=>
 .two (cP (Ot o.i) (Ot t.i) true) (cP (Ot o.i) (Ot t.i) false) (zJ [t9,RX]) (λJ=>uV w i q n' nm o M) [1,1,1,0,8] λJ=>
 .two (cP (Ot b.i) (Ot o.i) true) (cP (Ot b.i) (Ot o.i) false) (zJ [t9,RX]) (λJ=>uV w i q n' nm t M) [1,1,1,0,8] λJ=>
 .two (cP (Ot b.i) (Ot t.i) true) (cP (Ot b.i) (Ot t.i) false) (zJ [t9,RX]) (λJ=>uV w i q n' nm o M) sm λJ=>k p
noncomputable def OY:List Nat:=(zJ [[1,1],RH,kA,[57,57,1,1],mQ,mQ,mQ,[0,57],kA,[59,59,59,59,1,1,59,1,62,0,1,41],RH,kA,[61,61,1,1],mQ,mQ,mQ,[0,61],kA,[63,63,63,63,1,1,63,1,62,0,1,41],mQ,mQ,mQ,RH,kA,[65,65,65,65,1,1,65],mQ,mQ,mQ,[65],kA,[67,67,67,67,1,1,67,1,62,65],vX,[5],mQ,vU,[41],mQ,mQ,mQ,RH,kA,[69,69,69,69,1,1,69],mQ,mQ,mQ,[69],kA,[71,71,71,71,1,1,71,1,62,69],vX,[5],mQ,vU,[41],mQ,mQ,mQ,RH,kA,[73,73,73,73,1,1,73],mQ,mQ,mQ,[73],kA,[75,75,75,75,1,1,75,1,62,73],vX,[5],mQ,vU,[41,1,1,1,0,1],oW,[4,1,6],mQ,[14,1,1],kA,t9,oW,[4,1,6],mQ,[14,1,1],kA,t9,oW,[4,1,6],mQ,[14,1,1],kA,Sz,[2],vX,[2,4],t9,kA,Sv,oW,[4,0,0,24,24,24,1,24,10],yy,yy,yy,[79,83],t9,[1,0],aO,vX,[1,0,78,0,1,85,0,1,85],Hl,oW,[4],Sa,vX,[6,8,1,0],RH,[1,26],mQ,[26],mQ,[26],mQ,[0,26,28,1],oW,[4],Sq,[0,0,1],RX])
noncomputable def OZ:List Nat:=(zJ [[1,1],RH,kA,[57,57,1,1],mQ,mQ,mQ,[0,57],kA,[59,59,59,59,1,1,59,1,62,0,1,41],RH,kA,[61,61,1,1],mQ,mQ,mQ,[0,61],kA,[63,63,63,63,1,1,63,1,62,0,1,41],mQ,mQ,mQ,RH,kA,[65,65,65,65,1,1,65],mQ,mQ,mQ,[65],kA,[67,67,67,67,1,1,67,1,62,65],vX,[5],mQ,vU,[41],mQ,mQ,mQ,RH,kA,[69,69,69,69,1,1,69],mQ,mQ,mQ,[69],kA,[71,71,71,71,1,1,71,1,62,69],vX,[5],mQ,vU,[41],mQ,mQ,mQ,RH,kA,[73,73,73,73,1,1,73],mQ,mQ,mQ,[73],kA,[75,75,75,75,1,1,75,1,62,73],vX,[5],mQ,vU,[41,1,1,1,0,1],oW,[4,1,6],mQ,[14,1,1],kA,t9,oW,[4,1,6],mQ,[14,1,1],kA,t9,oW,[4,1,6],mQ,[14,1,1],kA,Sz,[2],vX,[2,4],t9,kA,Sv,oW,[4,0,0,24,24,24,1,24,10],yy,yy,yy,[79,83],FG,[3,3,3,3,1,1,3,0,5,1,2,0,0],RC,[0,2],vX,[2,4],FG,[1],kA,[91,91,91,91,91,91,91,91,91,91,1,1,0,91,91,91,91,0],kA,[1,0,13],vU,mQ,[0,0,27],mQ,mQ,[0,0,0,95,0,95],vX,[1,0,0,97,97,97,97,97,97,97,97,97,97,1,1,97,97,95],vU,A',[97,97,95],vU,A',[97,97,95],vU,A',[97,97,95],vU,A',[91],oW,[4,91,19,19,1,19,0,26,0],aO,vX,[1,0,78,0,1,99,0,1,99],Hl,oW,[4],Sa,vX,[6,8,1,0],RH,[1,26],mQ,[26],mQ,[26],mQ,[0,26,28,1],oW,[4],Sq,[0,0,1],RX])
def tS(gN:Nat)(i:In)(q:Q)(n':Nat)(nm:aU)(nt:Nat)(b o t:EI)(xb xo xt:aU)(ps cs:lU)(im:Nat)(cl:Bool)(M tk:Nat)(aa:RB):ax:=
 bX w gN 6000 18 (match q.j with|0=>(zJ [[1],Sx,[21,21,21,1,21,10,35,35,1,35,4,35,35,21],RN,[4,35,35,21],RN,[4,35,35,21,35,35,39],t9,[1,9,9,9,9,1,1,9,0,52,23,23,23,1,23,10,43,43,1,43,4,43,43,23],vS,[4,43,43,23],vS,[4,43,43,23,43,43,47],t9,[1,11,11,11,11,1,1,11,0,52,25,25,25,1,25,10],jX,[25,51],jX,[25,51],jX,[25,51,51,55],FG,[1,1,1,73,1,1,1,0,8]])|_=>(zJ [[1],Sx,[27,27,27,1,27,10,35,35,1,35,4,35,35,27],RN,[4,35,35,27],RN,[4,35,35,27,35,35,39],t9,[1,9,9,9,9,1,1,9,0,52,29,29,29,1,29,10,43,43,1,43,4,43,43,29],vS,[4,43,43,29],vS,[4,43,43,29,43,43,47],t9,[1,11,11,11,11,1,1,11,0,52,31,31,31,1,31,10],jX,[31,51],jX,[31,51],jX,[31,51,51,55],FG,[1,1,1,73,1,1,1,0,8]])) (pT w i q n' nm nt b o t M (match cl with|false=>OY|true=>OZ) (KZ w i q nm b o t xb xo xt ps cs im cl)) aa (lc w i) ⟨lL w.params i q,G0 w.params i,M,tk⟩
theorem qw(gN:Nat)(i:In)(T:nN)(V:Nat->Value)(cv:aV)(cn:Nat)(ml:cK)(mt:nN)(kF:Nat)(D D2:Obj)(oX:cK)(tc:nN)(ec:Nat)(nm:aU)(nt:Nat)(xb xo xt:aU)(ps cs:lU)(im M tk:Nat)(aa:RB):aE (tS w gN i ⟨12,T,V,cv,cn,ml,mt,kF,D,D2,oX,tc,ec,0⟩ 20 nm nt i.ba i.oa i.ta xb xo xt ps cs im false M tk aa):=aC (p:=λw=>aE (tS w gN i ⟨12,T,V,cv,cn,ml,mt,kF,D,D2,oX,tc,ec,0⟩ 20 nm nt i.ba i.oa i.ta xb xo xt ps cs im false M tk aa)) (λb' w=>by cases b'<;>kernel_rfl) w
theorem rK(gN:Nat)(i:In)(T:nN)(V:Nat->Value)(cv:aV)(cn:Nat)(ml:cK)(mt:nN)(kF:Nat)(D D2:Obj)(oX:cK)(tc:nN)(ec:Nat)(nm:aU)(nt:Nat)(xb xo xt:aU)(ps cs:lU)(im M tk:Nat)(aa:RB):aE (tS w gN i ⟨12,T,V,cv,cn,ml,mt,kF,D,D2,oX,tc,ec,0⟩ 20 nm nt i.ba i.oa i.ta xb xo xt ps cs im true M tk aa):=aC (p:=λw=>aE (tS w gN i ⟨12,T,V,cv,cn,ml,mt,kF,D,D2,oX,tc,ec,0⟩ 20 nm nt i.ba i.oa i.ta xb xo xt ps cs im true M tk aa)) (λb' w=>by cases b'<;>kernel_rfl) w
theorem qu(gN:Nat)(i:In)(T:nN)(V:Nat->Value)(cv:aV)(cn:Nat)(ml:cK)(mt:nN)(kF:Nat)(D D2:Obj)(oX:cK)(tc:nN)(ec:Nat)(nm:aU)(nt:Nat)(xb xo xt:aU)(ps cs:lU)(im M tk:Nat)(aa:RB):aE (tS w gN i ⟨20,T,V,cv,cn,ml,mt,kF,D,D2,oX,tc,ec,1⟩ 20 nm nt i.bb i.ob i.tE xb xo xt ps cs im false M tk aa):=aC (p:=λw=>aE (tS w gN i ⟨20,T,V,cv,cn,ml,mt,kF,D,D2,oX,tc,ec,1⟩ 20 nm nt i.bb i.ob i.tE xb xo xt ps cs im false M tk aa)) (λb' w=>by cases b'<;>kernel_rfl) w
theorem rJ(gN:Nat)(i:In)(T:nN)(V:Nat->Value)(cv:aV)(cn:Nat)(ml:cK)(mt:nN)(kF:Nat)(D D2:Obj)(oX:cK)(tc:nN)(ec:Nat)(nm:aU)(nt:Nat)(xb xo xt:aU)(ps cs:lU)(im M tk:Nat)(aa:RB):aE (tS w gN i ⟨20,T,V,cv,cn,ml,mt,kF,D,D2,oX,tc,ec,1⟩ 20 nm nt i.bb i.ob i.tE xb xo xt ps cs im true M tk aa):=aC (p:=λw=>aE (tS w gN i ⟨20,T,V,cv,cn,ml,mt,kF,D,D2,oX,tc,ec,1⟩ 20 nm nt i.bb i.ob i.tE xb xo xt ps cs im true M tk aa)) (λb' w=>by cases b'<;>kernel_rfl) w
theorem qt(gN:Nat)(i:In)(T:nN)(V:Nat->Value)(cv:aV)(cn:Nat)(ml:cK)(mt:nN)(kF:Nat)(D D2:Obj)(oX:cK)(tc:nN)(ec:Nat)(nm:aU)(nt:Nat)(xb xo xt:aU)(ps cs:lU)(im M tk:Nat)(aa:RB):aE (tS w gN i ⟨29,T,V,cv,cn,ml,mt,kF,D,D2,oX,tc,ec,1⟩ 29 nm nt i.bb i.ob i.tE xb xo xt ps cs im false M tk aa):=aC (p:=λw=>aE (tS w gN i ⟨29,T,V,cv,cn,ml,mt,kF,D,D2,oX,tc,ec,1⟩ 29 nm nt i.bb i.ob i.tE xb xo xt ps cs im false M tk aa)) (λb' w=>by cases b'<;>kernel_rfl) w
theorem rI(gN:Nat)(i:In)(T:nN)(V:Nat->Value)(cv:aV)(cn:Nat)(ml:cK)(mt:nN)(kF:Nat)(D D2:Obj)(oX:cK)(tc:nN)(ec:Nat)(nm:aU)(nt:Nat)(xb xo xt:aU)(ps cs:lU)(im M tk:Nat)(aa:RB):aE (tS w gN i ⟨29,T,V,cv,cn,ml,mt,kF,D,D2,oX,tc,ec,1⟩ 29 nm nt i.bb i.ob i.tE xb xo xt ps cs im true M tk aa):=aC (p:=λw=>aE (tS w gN i ⟨29,T,V,cv,cn,ml,mt,kF,D,D2,oX,tc,ec,1⟩ 29 nm nt i.bb i.ob i.tE xb xo xt ps cs im true M tk aa)) (λb' w=>by cases b'<;>kernel_rfl) w
def jh(F:aj)(ad:Nat)(nm:aU)(b o t:EI):Prop:=TQ λdx k pt x y z=>F ad=some (cb 1174 dx)/\F dx=some (zd w.params k nm pt x y z)/\F x=some (p6 b)/\F y=some (p6 o)/\F z=some (p6 t)
theorem jh.le{w:World}{F F':aj}(l:F.le F'){ad:Nat}{nm:aU}{b o t:EI}(h:jh w F ad nm b o t):jh w F' ad nm b o t:=by obtain⟨dx,k,pt,x,y,z,h1,h2,h3,h4,h5⟩:=h;exact⟨dx,k,pt,x,y,z,l _ _ h1,l _ _ h2,l _ _ h3,l _ _ h4,l _ _ h5⟩
inductive lp(xb xo xt:aU):aU->Bool->Prop
 |eq:xo=xt->lp xb xo xt xo false
 |bo:xo≠xt->xb=xo->lp xb xo xt xt false
 |bt:xo≠xt->xb≠xo->xb=xt->lp xb xo xt xo false
 |mg {l1 l2 l3:Nat->aU} {ps:lU} {cl:Bool}:Al xb xo xt l1 l2 l3 ps cl->(Bytes.joined #[] ps).size<300->lp xb xo xt (Bytes.joined #[] ps) cl
structure TF(w:World)(F:aj)(i:In)(q:Q)(nm:aU)(nt:Nat)(b o t:EI)(xb xo xt:aU)(cs:lU):Prop where
 mg:F i.mg=some (cb 1259 i.dx)
 dx:F i.dx=some (tF w.params i.s.so i.ci i.k1 i.k2 i.k3)
 st:hJ w F i.s
 nl:F i.nl=some (iY i.n1 i.n2 2)
 nx:(#[Value.bytes nA i.n1,.bytes nB i.n2]:aV)[q.j]? =some (.bytes nm nt)
 zn:nm.size<=100
 nb:(i.lb.map (·.1)).Nodup
 no:(i.lo.map (·.1)).Nodup
 O':(i.lt.map (·.1)).Nodup
 gb:SO i.lb nm=some (.ref b.a)
 go:SO i.lo nm=some (.ref o.a)
 gt:SO i.lt nm=some (.ref t.a)
 ml:(q.ml.map (·.1)).Nodup
 mz:q.ml.length<=10
 lc:(q.lc.map (·.1)).Nodup
 lz:q.lc.length<=10
 cz:q.cv.size<=10
 kn:dk w.params cs q.D
 da:fU w F cs q.D2
 h8:cs.length<8
 ib:cs[b.i]? =some xb
 io:cs[o.i]? =some xo
 it:cs[t.i]? =some xt
theorem fN{P:Params}{cs:lU}{D:Obj}(h:dk P cs D)(h8:cs.length<8){i j:Nat}{x y:aU}(hi:cs[i]? =some x)(hj:cs[j]? =some y):decide (Ot i=Ot j)=decide (x=y):=by
 have li:=(List.getElem?_eq_some_iff.mp hi).1;have lj:=(List.getElem?_eq_some_iff.mp hj).1;refine decide_eq_decide.mpr ⟨λe=> ?_,λe=> ?_⟩
 ·have:=kz i j (by lia) (by lia) e;subst this;exact Option.some.inj (hi.symm.trans hj)
 ·subst e;rw [(List.getElem?_inj li h.n).mp (hi.trans hj.symm)]
section
variable{w:World}{R:aA}{F:aj}{ai:Result->aj->aZ->Prop}{i:In}
theorem dF{q':aZ->Q}{X:aZ->List (Nat × (Addr × Obj))}(hi:∀st,((X st).map (·.1)).Nodup)(h4:∀st,∀q∈X st,16<=q.1)
  (h:∀st,(((X st).map (·.2)).map (·.1)).Nodup->F.le (cX F ((X st).map (·.2)))->∀R M' t',aD w R (cX F ((X st).map (·.2))) ⟨lL w.params i (q' st),[],M',t'⟩ 19 (lc w i) ai):VC w R ai F (fD w i q' X):=λst he=>by
 have e1:=aY.cons.mp he;have hm:=fM e1.2;refine aD.ej (p:=(st.L.map (·.1)).Nodup) (λhh Rl=>by have:=Rl.nd;rw [List.map_append]at this;exact(List.nodup_append.mp this).1) λhn=> ?_
 have hd:=dK hn hm (hi st);refine aD.zO (n:=16) (X:=(X st).map (·.2)) (G1:=[]) (cp.l.inj e1.1) (λp hp=> ?_) hd (λle p hp=>by cases hp) (λle R=>h st hd le R _ _);obtain⟨q,hq,rfl⟩:=List.mem_map.mp hp;exact bQ (hm q hq) (h4 st q hq)
def jM(w:World)(i:In)(q:Q)(ai:Result->aj->aZ->Prop)(F:aj)(nm:aU)(b o t:EI)(cs:lU)(out:aU)(cl:Bool):Prop:=
 ∀F' n' T' V' I3 MA ad u v r KV Ep D' jN ph Kf Mt M' t',F.le F'->(n'=20\/n'=29)->F' ad=some (jS u (Ot r) v)->(bT cs out)[r]? =some out->dk w.params (bT cs out) D'->fU w F' (bT cs out) jN->
  (cl=false->I3=q.cv/\ph=q.lc)->(cl=true->∃pt info,I3=q.cv.push (.bytes nm pt)/\ph=put q.lc nm (.ref info)/\jh w F' info nm b o t)->
  ∀R,aD w R F' ⟨lL w.params i ⟨n',T',V',I3,MA,put q.ml nm (.ref ad),KV,Ep,D',jN,ph,Kf,Mt,q.j+1⟩,[],M',t'⟩ 19 (lc w i) ai
theorem qr{q:Q}{n':Nat}{nm:aU}{b o t e:EI}{M:Nat}{cs:lU}{out:aU}(hn:n'=20\/n'=29)(Ly:(q.ml.map (·.1)).Nodup)(hz:q.ml.length<=10)(hk:dk w.params cs q.D)(hd:fU w F cs q.D2)(hr:cs[e.i]? =some out)
  (hx:jM w i q ai F nm b o t cs out false):VC w R ai F (uV w i q n' nm e M):=by
 refine VC.sm (bw.ok Ly (by rw [sizeLine_eq];lia)) λa=> ?_;have ec:bT cs out=cs:=tm (List.mem_of_getElem? hr);refine dF (X:=λJ=>[(28,(M+12,p6 e))]) (λst=>by show [28].Nodup;decide) (λst q hq=>by simp at hq;subst hq;show 16<=28;decide) λst wh le R M' t'=> ?_;refine hx _ n' _ _ _ _ (M+12) e.u e.v e.i _ _ _ _ _ _ _ _ _ le hn (av (p:=(M+12,p6 e)) wh (by simp)) (by rw [ec];exact hr) (by rw [ec];exact hk) (by rw [ec];exact hd.le le) (λJ=>⟨rfl,rfl⟩) (λh=>by cases h) R
theorem rL{q:Q}{nm:aU}{b o t:EI}{cs:lU}{ps:lU}{im:Nat}{cv:aV}{cn:Nat}{K9:cK}{tc:nN}{ec k:Nat}{X:aZ->List (Nat × (Addr × Obj))}{cl:Bool}(wU:hJ w F i.s)(Ly:(q.ml.map (·.1)).Nodup)(hz:q.ml.length<=10)(hk:dk w.params cs q.D)(hd:fU w F cs q.D2)(h8:cs.length<8)
  (hp:(Bytes.joined #[] ps).size<300) (vp:(bT cs (Bytes.joined #[] ps))[im]? =some (Bytes.joined #[] ps)) (hi:∀st,(k::(X st).map (·.1)).Nodup) (h4:∀st,∀q∈X st,16<=q.1) (LJ:16<=k)
  (h1:cl=false->cv=q.cv/\K9=q.lc) (h2:cl=true->∃pt info,cv=q.cv.push (.bytes nm pt)/\K9=put q.lc nm (.ref info)/\∀st F',(∀p∈(X st).map (·.2),F' p.1=some p.2)->jh w F' info nm b o t)
  (hx:jM w i q ai F nm b o t cs (Bytes.joined #[] ps) cl):VC w R ai F (tN w i q nm o ps cs im cv cn K9 tc ec k X):=by
 refine⟨lZ.ok,λnb jH Lw=> ?_⟩;have hb:cm w nb.F (nb.k 0) (Bytes.joined #[] ps):=Lw.1;refine⟨fO.ok (by decide) (wU.le jH) hb hp hk (hd.le jH) h8,λao gU EY=> ?_⟩;refine⟨gY.ok ((wU.le jH).f.le gU) (hb.le gU) hp EY.2.1 vp,λgi J hf=> ?_⟩;rw [show gi.F=ao.F from hf];refine⟨bw.ok Ly (by rw [sizeLine_eq];lia),λa J hf=> ?_⟩;rw [show a.F=ao.F from hf];refine dF (X:=λst=>(k,(gi.N,jS o.u (Ot im) (gi.k 0)))::X st) hi (λst q hq=>by
  rcases List.mem_cons.mp hq with rfl|hq
  ·exact LJ
  ·exact h4 st q hq) λst wh le R M' t'=> ?_
 have hm:∀p∈(gi.N,jS o.u (Ot im) (gi.k 0))::(X st).map (·.2),cX ao.F ((gi.N,jS o.u (Ot im) (gi.k 0))::(X st).map (·.2)) p.1=some p.2:=λp hp=>av wh hp;refine hx _ 29 _ _ _ _ gi.N o.u (gi.k 0) im _ _ _ _ _ _ _ _ _ ((jH.trans gU).trans le) (.inr rfl) (hm _ (.head _)) vp EY.2.1 (EY.2.2.le le) h1 (λe=> ?_) R;obtain⟨pt,info,k1,k2,k3⟩:=h2 e;exact⟨pt,info,k1,k2,k3 st _ λp hp=>hm p (.tail _ hp)⟩
theorem HI{q:Q}{nm:aU}{nt:Nat}{b o t:EI}{xb xo xt:aU}{cs:lU}{l1 l2 l3:Nat->aU}{ps:lU}{cl:Bool}{im:Nat}{p:aL}(h:TF w F i q nm nt b o t xb xo xt cs)(hz:∀c∈cs,c.size<300)(dW:Al xb xo xt l1 l2 l3 ps cl)(hp:(Bytes.joined #[] ps).size<300)
  (vp:(bT cs (Bytes.joined #[] ps))[im]? =some (Bytes.joined #[] ps)) (hx:jM w i q ai F nm b o t cs (Bytes.joined #[] ps) cl):VC w R ai F (KZ w i q nm b o t xb xo xt ps cs im cl p):=by
 have lb:=(List.getElem?_eq_some_iff.mp h.ib).1;have h8:=h.h8;refine VC.sm (ig.ok (rU b.i (by lia)) (by rw [sizeLine_eq];decide)) λa=> ?_;refine⟨fj.ok h.st h.da (by lia) h.ib (hz _ (List.mem_of_getElem? h.ib)),λb1 jH FW=> ?_⟩;have FW:=FW.1.2;refine⟨fw.ok FW,λa J hf=> ?_⟩;rw [show a.F=b1.F from hf];refine⟨fj.ok (h.st.le jH) (h.da.le jH) (by lia) h.io (hz _ (List.mem_of_getElem? h.io)),λb2 gU BZ=> ?_⟩;have BZ:=BZ.1.2;refine⟨fw.ok BZ,λa J hf=> ?_⟩;rw [show a.F=b2.F from hf];refine⟨fj.ok ((h.st.le jH).le gU) ((h.da.le jH).le gU) (by lia) h.it (hz _ (List.mem_of_getElem? h.it)),λb3 uk FV=> ?_⟩;have FV:=FV.1.2;refine⟨fw.ok FV,λa J hf=> ?_⟩;rw [show a.F=b3.F from hf];refine⟨vm.ok ((FW.le gU).le uk) (BZ.le uk) FV dW,λm Aw hm=> ?_⟩;have wO:=jH.trans (gU.trans (uk.trans Aw));have JE:jM w i q ai m.F nm b o t cs (Bytes.joined #[] ps) cl:=λF' n' T' V' I3 MA ad u v r KV Ep D' jN ph Kf Mt M' t' l=>hx F' n' T' V' I3 MA ad u v r KV Ep D' jN ph Kf Mt M' t' (wO.trans l);cases cl with
 |false=>exact rL (cl:=false) (h.st.le wO) h.ml h.mz h.kn (h.da.le wO) h.h8 hp vp (λJ=>by show [43].Nodup;decide) (λJ q hq=>by cases hq) (by decide) (λJ=>⟨rfl,rfl⟩) (λh=>by cases h) JE
 |true=>
  have cz:=h.cz;have lz:=h.lz;refine⟨br.ok (by rw [sizeLine_eq];lia),λc J hf=> ?_⟩;rw [show c.F=m.F from hf];refine⟨bw.ok h.lc (by rw [sizeLine_eq];lia),λci J hf=> ?_⟩;rw [show ci.F=m.F from hf];refine rL (cl:=true) (h.st.le wO) h.ml h.mz h.kn (h.da.le wO) h.h8 hp vp (λJ=>by show [50,47,46,42,43,44].Nodup;decide) (λst q hq=>by simp only [uq,List.mem_cons,List.not_mem_nil,or_false]at hq;rcases hq with rfl|rfl|rfl|rfl|rfl<;>(dsimp only;decide)) (by decide) (λh=>by cases h) (λJ=>⟨p.k 0,m.N+8,rfl,rfl,λst F' hX=> ?_⟩) JE
  exact⟨m.N+7,dA st 46,p.k 0,m.N+3,m.N+4,m.N+5,hX (m.N+8,cb 1174 (m.N+7)) (by simp [uq]),hX (m.N+7,zd w.params (dA st 46) nm (p.k 0) (m.N+3) (m.N+4) (m.N+5)) (by simp [uq]),hX (m.N+3,p6 b) (by simp [uq]),hX (m.N+4,p6 o) (by simp [uq]),hX (m.N+5,p6 t) (by simp [uq])⟩
theorem jl{q:Q}{n':Nat}{nm:aU}{nt:Nat}{b o t:EI}{xb xo xt:aU}{cs:lU}{M:Nat}{sm:List Nat}{k:aL->bE}{out:aU}{cl:Bool}(hn:n'=20\/n'=29)(h:TF w F i q nm nt b o t xb xo xt cs)(ho:lp xb xo xt out cl)(hx:jM w i q ai F nm b o t cs out cl)
  (hm:xo≠xt->xb≠xo->xb≠xt->∀p,VC w R ai F (k p)):VC w R ai F (pT w i q n' nm nt b o t M sm k):=by
 refine VC.sm (cO.ok h.nl h.nx (by intro p hp;cases hp)) λa=> ?_;have zn:=h.zn;refine VC.sm (qV.ok (by rw [sizeLine_eq];simp;lia)) λp=> ?_;refine VC.sm (rT.ok h.nb (by rw [h.gb];rfl) (.inr ⟨_,rfl⟩)) λa=> ?_;refine VC.sm (rT.ok h.no (by rw [h.go];rfl) (.inr ⟨_,rfl⟩)) λa=> ?_;refine VC.sm (rT.ok h.O' (by rw [h.gt];rfl) (.inr ⟨_,rfl⟩)) λa=> ?_;refine⟨cP.ok,λa J hf=> ?_,λa J hf=> ?_⟩
 ·rw [show a.F=F from hf.1];have e:=hf.2;rw [fN h.kn h.h8 h.io h.it]at e;have e:=of_decide_eq_true e;cases ho with
  |eq _=>exact qr hn h.ml h.mz h.kn h.da h.io hx
  |bo h1 _=>exact absurd e h1
  |bt h1 _ _=>exact absurd e h1
  |mg hf _=>exact absurd e hf.M6
 rw [show a.F=F from hf.1];have e1:=hf.2;rw [fN h.kn h.h8 h.io h.it]at e1;have e1:=of_decide_eq_false e1;refine⟨cP.ok,λa J hf=> ?_,λa J hf=> ?_⟩
 ·rw [show a.F=F from hf.1];have e:=hf.2;rw [fN h.kn h.h8 h.ib h.io]at e;have e:=of_decide_eq_true e;cases ho with
  |eq h1=>exact absurd h1 e1
  |bo _ _=>exact qr hn h.ml h.mz h.kn h.da h.it hx
  |bt _ h1 _=>exact absurd e h1
  |mg hf _=>exact absurd e hf.Gf
 rw [show a.F=F from hf.1];have e2:=hf.2;rw [fN h.kn h.h8 h.ib h.io]at e2;have e2:=of_decide_eq_false e2;refine⟨cP.ok,λa J hf=> ?_,λa J hf=> ?_⟩
 ·rw [show a.F=F from hf.1];have e:=hf.2;rw [fN h.kn h.h8 h.ib h.it]at e;have e:=of_decide_eq_true e;cases ho with
  |eq h1=>exact absurd h1 e1
  |bo _ h1=>exact absurd h1 e2
  |bt _ _ _=>exact qr hn h.ml h.mz h.kn h.da h.io hx
  |mg hf _=>exact absurd e hf.Ge
 rw [show a.F=F from hf.1];have e3:=hf.2;rw [fN h.kn h.h8 h.ib h.it]at e3;exact hm e1 e2 (of_decide_eq_false e3) p
theorem lG{q:Q}{nm:aU}{nt:Nat}{b o t:EI}{xb xo xt:aU}{cs:lU}{M tk:Nat}{out:aU}{cl:Bool}(hq:(q.n=12/\q.j=0/\b=i.ba/\o=i.oa/\t=i.ta)\/((q.n=20\/q.n=29)/\q.j=1/\b=i.bb/\o=i.ob/\t=i.tE))(h:TF w F i q nm nt b o t xb xo xt cs)(hz:∀c∈cs,c.size<300)(ho:lp xb xo xt out cl)(hx:jM w i q ai F nm b o t cs out cl):
  aD w R F ⟨lL w.params i q,[],M,tk⟩ 19 (lc w i) ai:=by
 have hG:∀p∈G0 w.params i,F p.1=some p.2:=aq h.mg (aq h.dx (aq h.st.o (aq h.st.d (aq h.nl cB))));obtain⟨ps,im,key⟩:∃ps im,∀R p,xo≠xt->xb≠xo->xb≠xt->VC w R ai F (KZ w i q nm b o t xb xo xt ps cs im cl p):=by
  cases ho with
  |eq h1=>exact⟨[],0,λJ J h=>absurd h1 h⟩
  |bo _ h1=>exact⟨[],0,λJ J J h=>absurd h1 h⟩
  |bt _ _ h1=>exact⟨[],0,λJ J J J h=>absurd h1 h⟩
  | @mg l1 l2 l3 ps cl hf hp=>obtain⟨im,vp⟩:=List.getElem?_of_mem (n6 (cs:=cs) (x:=Bytes.joined #[] ps));exact⟨ps,im,λR p J J J=>HI h hz hf hp vp hx⟩
 refine aD.drop (n:=16) rfl hG λR'=> ?_;obtain⟨n,T,V,cv,cn,ml,mt,kF,D,D2,oX,tc,ec,j⟩:=q;rcases hq with⟨hq,hj,rfl,rfl,rfl⟩|⟨hq|hq,hj,rfl,rfl,rfl⟩<;>(have hq:n=_:=hq;have hj:j=_:=hj;subst hq hj)<;>cases cl
 ·exact aD.d0 (d:=18) nr (λgN=>qw w gN i T V cv cn ml mt kF D D2 oX tc ec nm nt xb xo xt ps cs im M tk) (jl (.inl rfl) h ho hx λe1 e2 e3 p=>key _ p e1 e2 e3)
 ·exact aD.d0 (d:=18) nr (λgN=>rK w gN i T V cv cn ml mt kF D D2 oX tc ec nm nt xb xo xt ps cs im M tk) (jl (.inl rfl) h ho hx λe1 e2 e3 p=>key _ p e1 e2 e3)
 ·exact aD.d0 (d:=18) nr (λgN=>qu w gN i T V cv cn ml mt kF D D2 oX tc ec nm nt xb xo xt ps cs im M tk) (jl (.inl rfl) h ho hx λe1 e2 e3 p=>key _ p e1 e2 e3)
 ·exact aD.d0 (d:=18) nr (λgN=>rJ w gN i T V cv cn ml mt kF D D2 oX tc ec nm nt xb xo xt ps cs im M tk) (jl (.inl rfl) h ho hx λe1 e2 e3 p=>key _ p e1 e2 e3)
 ·exact aD.d0 (d:=18) nr (λgN=>qt w gN i T V cv cn ml mt kF D D2 oX tc ec nm nt xb xo xt ps cs im M tk) (jl (.inr rfl) h ho hx λe1 e2 e3 p=>key _ p e1 e2 e3)
 ·exact aD.d0 (d:=18) nr (λgN=>rI w gN i T V cv cn ml mt kF D D2 oX tc ec nm nt xb xo xt ps cs im M tk) (jl (.inr rfl) h ho hx λe1 e2 e3 p=>key _ p e1 e2 e3)
end
end MT
end H
def SR:List (Nat × Obj)->aA->aA
 |[],L=>L
 |p::r,L=>SR r (bg L p.1 p.2)
theorem jQ:∀{L:aA} {i j:Nat} {o:Obj},i≠j->bP (bg L i o) j=bP L j
 |[],i,j,o,_=>rfl
 |a::l,0,0,o,h=>absurd rfl h
 |a::l,0,j+1,o,_=>rfl
 |a::l,i+1,0,o,_=>rfl
 |a::l,i+1,j+1,o,h=>jQ (L:=l) λe=>h (by rw [e])
theorem iQ:∀(ps:List (Nat × (Addr × Obj))) (L rest:aA),(ps.map (·.1)).Nodup->(∀q∈ps,bP L q.1=some q.2)->List.Perm L (ps.map (·.2)++rest)->∀os:List Obj,os.length=ps.length->
  List.Perm (SR ((ps.map (·.1)).zip os) L) ((ps.map (·.2.1)).zip os++rest)
 |[],L,rest,_,_,hp,os,_=>hp
 |(p,x)::r,L,rest,hi,h,hp,[],hl=>by cases hl
 |(p,x)::r,L,rest,hi,h,hp,o::os,hl=>by
  rw [List.map_cons,List.nodup_cons]at hi;obtain⟨l',h1,h2⟩:=d7 L p x (h (p,x) (.head _));have h3:List.Perm l' (r.map (·.2)++rest):=List.Perm.cons_inv (h1.symm.trans hp);have h4:List.Perm (bg L p o) (r.map (·.2)++((x.1,o)::rest)):=((h2 o).trans (h3.cons _)).trans List.perm_middle.symm;have:=iQ r (bg L p o) ((x.1,o)::rest) hi.2 (λq hq=>by rw [jQ (λe=>hi.1 (by show p∈_;rw [e];exact List.mem_map_of_mem hq))];exact h q (.tail _ hq)) h4 os (by simpa using hl)
  exact this.trans List.perm_middle
theorem aD.Aa{w:World}{R:aA}{F:aj}{st:aZ}{aX:Nat}{c:Code}{ai:Result->aj->aZ->Prop}(h:aD w R F st aX c λr F' ah=>∃X:aA,(∀p∈X,F' p.1=some p.2)/\ai r F' ⟨ah.L,ah.G++X,ah.N,ah.t⟩):aD w R F st aX c ai:=λhh g dr os Rl=>
 (h hh g dr os Rl).aT λr s' hh=>by obtain⟨F',ah,hl,cu,ht,ho,X,hX,hp⟩:=hh;exact⟨F',_,hl,bO.Aa cu hX,ht,ho,hp⟩
theorem aD.E3{w:World}{R:aA}{F:aj}{st:aZ}{aX:Nat}{c:Code}{ai:Result->aj->aZ->Prop}{ps:List (Nat × (Addr × Obj))}(hi:(ps.map (·.1)).Nodup)(e:aY (bJ ps st))
  (h:∀R,aD w R F ⟨ps.map (·.2),[],st.N,st.t⟩ aX c λr F' ah=>∃os:List Obj,os.length=ps.length/\ah.L=(ps.map (·.2.1)).zip os/\∃X:aA,(∀p∈X,F' p.1=some p.2)/\ai r F' ⟨SR ((ps.map (·.1)).zip os) st.L,st.G++X,ah.N,ah.t⟩):aD w R F st aX c ai:=by
 refine aD.Aa ?_;refine aD.ej (p:=(st.L.map (·.1)).Nodup) (λhh Rl=>by have:=Rl.nd;rw [List.map_append]at this;exact(List.nodup_append.mp this).1) λhn=> ?_
 have hm:=fM e;have hd:=dK hn hm hi;obtain⟨rest,hr⟩:=gQ (ps.map (·.2)) st.L hd λp hp=>by obtain⟨q,hq,rfl⟩:=List.mem_map.mp hp;exact aJ (hm q hq)
 refine aD.frame (G1:=[]) hr cB (h _) λr F' bU hh=> ?_;obtain⟨os,h1,h2,h3⟩:=hh;refine⟨_,?_,h3⟩;rw [h2];exact(iQ ps st.L rest hi hm hr os h1).symm
namespace H
namespace MT
noncomputable def names(c0 c1:Bool):lU:=(if c0=true then [nA]else [])++(if c1=true then [nB]else [])
def pF(F:aj)(b0 o0 t0 b1 o1 t1:EI)(c0 c1:Bool)(ci:Obj):Prop:=Uh λi0 i1 tc ec=>ci=bN w.params ((if c0=true then [(nA,.ref i0)]else [])++(if c1=true then [(nB,.ref i1)]else [])) tc ec/\(c0=true->jh w F i0 nA b0 o0 t0)/\(c1=true->jh w F i1 nB b1 o1 t1)
structure LF(w:World)(F:aj)(i:In)(D D2:Obj)(xb xo xt yb yo yt:aU)(cs:lU):Prop where
 mg:F i.mg=some (cb 1259 i.dx)
 dx:F i.dx=some (tF w.params i.s.so i.ci i.k1 i.k2 i.k3)
 st:hJ w F i.s
 nl:F i.nl=some (iY i.n1 i.n2 2)
 lb:i.lb=[(nA,.ref i.ba.a),(nB,.ref i.bb.a)]
 lo:i.lo=[(nA,.ref i.oa.a),(nB,.ref i.ob.a)]
 lt:i.lt=[(nA,.ref i.ta.a),(nB,.ref i.tE.a)]
 kn:dk w.params cs D
 da:fU w F cs D2
 h7:cs.length<7
 xb:cs[i.ba.i]? =some xb
 xo:cs[i.oa.i]? =some xo
 xt:cs[i.ta.i]? =some xt
 yb:cs[i.bb.i]? =some yb
 yo:cs[i.ob.i]? =some yo
 yt:cs[i.tE.i]? =some yt
noncomputable def kT(a:aL)(j:Nat):Nat:=a.k (4*j)
noncomputable def kM(a:aL)(j:Nat):Nat:=a.k (4*j+1)
noncomputable def kK(a:aL)(j:Nat):Nat:=a.k (4*j+2)
noncomputable def e0(a:aL):Obj:=jS (kK a 2) (Ot (kK a 3)) (kK a 4)
noncomputable def e1(a:aL):Obj:=jS (kK a 6) (Ot (kK a 7)) (kK a 8)
def lE(i:In)(n:Nat)(a:aL):List Obj:=[fr P i n (kT a) a.v,aw (a.l 0) (kK a 0),bN P [(nA,.ref (kK a 1)),(nB,.ref (kK a 5))] (kM a) (kK a 9),bN P i.lb i.tb i.eb,bN P i.lo i.to i.eo,bN P i.lt i.tt i.et,yY 2,a.o 0,a.o 1,a.o 2,p6 i.ba,p6 i.oa,p6 i.ta,p6 i.bb,p6 i.ob,p6 i.tE]
noncomputable abbrev q0(T:nN)(V:Nat->Value)(mt:nN)(D D2:Obj)(tc:nN):Q:=⟨12,T,V,#[],0,[],mt,0,D,D2,[],tc,0,0⟩
noncomputable def pos:List Nat:=[9,10,11,12,26,40,59,6,7,8,17,31,45,22,36,50]
def bL(i:In)(T:nN)(V:Nat->Value)(mt:nN)(D D2:Obj)(tc:nN)(cs:lU)(u0 u1:aU)(c0 c1:Bool)(n:Nat):az:=⟨19,λJ=>lc w i,bJ (pos.zip (lL w.params i (q0 T V mt D D2 tc))),λJ J=> .ok .next,
 λa st=>⟨SR (pos.zip (lE w.params i n a)) st.L,st.G++[(kK a 1,e0 a),(kK a 5,e1 a)],a.N,a.t⟩,
 λF a=>F.le a.F/\a.F (kK a 1)=some (e0 a)/\a.F (kK a 5)=some (e1 a)/\dk w.params (bT (bT cs u0) u1) (a.o 0)/\fU w a.F (bT (bT cs u0) u1) (a.o 1)/\(bT (bT cs u0) u1)[kK a 3]? =some u0/\(bT (bT cs u0) u1)[kK a 7]? =some u1/\
  ay (a.l 0).toList (names c0 c1)/\pF w a.F i.ba i.oa i.ta i.bb i.ob i.tE c0 c1 (a.o 2)⟩
def lF(i:In)(q:Q):aA:=[(i.N,fr P i q.n q.T q.V),(i.cf,aw q.cv q.cn),(i.me,bN P q.ml q.mt q.kF),(i.be,bN P i.lb i.tb i.eb),(i.oe,bN P i.lo i.to i.eo),(i.te,bN P i.lt i.tt i.et),(i.it,yY 2),(i.s.N+2,q.D),(i.s.dt,q.D2),(i.ci,bN P q.lc q.tc q.ec),(i.ba.a,p6 i.ba),(i.oa.a,p6 i.oa),(i.ta.a,p6 i.ta),(i.bb.a,p6 i.bb),(i.ob.a,p6 i.ob),(i.tE.a,p6 i.tE)]
def eS(gN:Nat)(i:In)(q:Q)(M tk:Nat)(aa:RB):ax:=bX w gN 400 18 [1,13,1,13,0,4,35,1] (.hk (eH 6 i.it i.nl 2) λJ=> .ret (.ok .next) λst=>[(.l (st.L.take 16),.l (lF w.params i q))]) aa (lc w i) ⟨lL w.params i q,[],M,tk⟩
theorem Cb(gN:Nat)(i:In)(T:nN)(V:Nat->Value)(cv:aV)(cn:Nat)(ml:cK)(mt:nN)(kF:Nat)(D D2:Obj)(oX:cK)(tc:nN)(ec M tk:Nat):∀aa,aE (eS w gN i ⟨20,T,V,cv,cn,ml,mt,kF,D,D2,oX,tc,ec,2⟩ M tk aa):=by apply bh w
theorem Ca(gN:Nat)(i:In)(T:nN)(V:Nat->Value)(cv:aV)(cn:Nat)(ml:cK)(mt:nN)(kF:Nat)(D D2:Obj)(oX:cK)(tc:nN)(ec M tk:Nat):∀aa,aE (eS w gN i ⟨29,T,V,cv,cn,ml,mt,kF,D,D2,oX,tc,ec,2⟩ M tk aa):=by apply bh w
noncomputable def JA(F:aj)(N t:Nat)(T mt K:nN)(V:Nat->Value)(cv:aV)(D D2 ci:Obj):aL:={bB F N t 0 with k:=λn=>if n%4=0 then T (n/4)else if n%4=1 then mt (n/4)else K (n/4),v:=V,l:=λJ=>cv,o:=lk ci [D,D2]}
theorem HG{N t:Nat}{T mt K:nN}{V:Nat->Value}{cv:aV}{D D2 ci:Obj}:kT (JA F N t T mt K V cv D D2 ci)=T:=funext λj=>by
 show(if(4*j)%4=0 then T (4*j/4)else _)=_;rw [if_pos (by lia)]
 congr 1;lia
theorem HH{N t:Nat}{T mt K:nN}{V:Nat->Value}{cv:aV}{D D2 ci:Obj}:kM (JA F N t T mt K V cv D D2 ci)=mt:=funext λj=>by
 show(if(4*j+1)%4=0 then _ else if(4*j+1)%4=1 then mt ((4*j+1)/4)else _)=_;rw [if_neg (by lia),if_pos (by lia)]
 congr 1;lia
theorem kD{N t:Nat}{T mt K:nN}{V:Nat->Value}{cv:aV}{D D2 ci:Obj}(j:Nat):kK (JA F N t T mt K V cv D D2 ci) j=K j:=by
 show(if(4*j+2)%4=0 then _ else if(4*j+2)%4=1 then _ else K ((4*j+2)/4))=_;rw [if_neg (by lia),if_neg (by lia)]
 congr 1;lia
theorem bL.ok{w:World}{R:aA}{F:aj}{i:In}{T:nN}{V:Nat->Value}{mt:nN}{D D2:Obj}{tc:nN}{cs:lU}{xb xo xt yb yo yt u0 u1:aU}{c0 c1:Bool}(h:LF w F i D D2 xb xo xt yb yo yt cs)(Ic:lp xb xo xt u0 c0)(Ib:lp yb yo yt u1 c1):
  (bL w i T V mt D D2 tc cs u0 u1 c0 c1 20).Dt w R F (bL w i T V mt D D2 tc cs u0 u1 c0 c1 29):=λcc st hc he=>by
 rw [hc];have hz:∀c∈cs,c.size<300:=h.kn.z;have h7:=h.h7;refine aD.E3 (ps:=pos.zip (lL w.params i (q0 T V mt D D2 tc))) (by show pos.Nodup;decide) he λR=> ?_;have two:∀x y:Value,(([(nA,x),(nB,y)]:cK).map (·.1)).Nodup:=λx y=>by show [nA,nB].Nodup;decide
 have gA:∀x y:Value,SO [(nA,x),(nB,y)] nA=some x:=λx y=>gM (two x y) (i:=0) rfl;have gB:∀x y:Value,SO [(nA,x),(nB,y)] nB=some y:=λx y=>gM (two x y) (i:=1) rfl;refine lG (q:=q0 T V mt D D2 tc) (nm:=nA) (nt:=i.n1) (b:=i.ba) (o:=i.oa) (t:=i.ta) (.inl ⟨rfl,rfl,rfl,rfl,rfl⟩) ⟨h.mg,h.dx,h.st,h.nl,rfl,by decide,by rw [h.lb];exact two _ _,by rw [h.lo];exact two _ _,by rw [h.lt];exact two _ _,by rw [h.lb];exact gA _ _,by rw [h.lo];exact gA _ _,by rw [h.lt];exact gA _ _,List.nodup_nil,by show 0<=10;decide,List.nodup_nil,by show 0<=10;decide,by show 0<=10;decide,h.kn,h.da,by lia,h.xb,h.xo,h.xt⟩ hz Ic ?_;intro F1 n1 T1 V1 E9 Oj a0 p0 v0 r0 NG HJ D1 MW CV Nc Og M1 t1 jH BM ID EJ BR Dc EU ET R;have LC:(bT cs u0).length<8:=Nat.lt_of_le_of_lt ll (by lia);have EN:(CV.map (·.1)).Nodup/\CV.length<=10/\E9.size<=10:=by
  cases c0 with
  |false=>obtain⟨rfl,rfl⟩:=EU rfl;exact⟨List.nodup_nil,by show 0<=10;decide,by show 0<=10;decide⟩
  |true=>obtain⟨pt,info,rfl,rfl,J⟩:=ET rfl;exact⟨by show [nA].Nodup;decide,by show 1<=10;decide,by show 1<=10;decide⟩
 refine lG (q:=⟨n1,T1,V1,E9,Oj,[(nA,.ref a0)],NG,HJ,D1,MW,CV,Nc,Og,1⟩) (nm:=nB) (nt:=i.n2) (b:=i.bb) (o:=i.ob) (t:=i.tE) (.inr ⟨BM,rfl,rfl,rfl,rfl⟩) ⟨jH _ _ h.mg,jH _ _ h.dx,h.st.le jH,jH _ _ h.nl,rfl,by decide,by rw [h.lb];exact two _ _,by rw [h.lo];exact two _ _,by rw [h.lt];exact two _ _,by rw [h.lb];exact gB _ _,by rw [h.lo];exact gB _ _,by rw [h.lt];exact gB _ _,by show [nA].Nodup;decide,by show 1<=10;decide,EN.1,EN.2.1,EN.2.2,BR,Dc,LC,fZ h.yb,fZ h.yo,fZ h.yt⟩ BR.z Ib ?_;intro F2 n2 T2 V2 Dq Fb a1 p1 v1 r1 Em ui jN Dv CU wI wY M2 t2 gU pR qX EH LH hd2 BX BW R;have sy:put [(nA,.ref a0)] nB (.ref a1)=[(nA,.ref a0),(nB,.ref a1)]:=jq (by show nB∉[nA];decide);rw [show(Q.mk n1 T1 V1 E9 Oj [(nA,.ref a0)] NG HJ D1 MW CV Nc Og 1).ml=[(nA,.ref a0)]from rfl,sy];have Dd:ay Dq.toList (names c0 c1):=by
  cases c0 with
  |false=>
   obtain⟨e,J⟩:=EU rfl;cases c1 with
   |false=>obtain⟨e2,J⟩:=BX rfl;rw [e2];show ay E9.toList _;rw [e];exact .nil
   |true=>obtain⟨pt,info,e2,J⟩:=BW rfl;rw [e2];show ay (E9.push _).toList _;rw [e];exact .cons _ _ .nil
  |true=>
   obtain⟨O4,vk,e,J⟩:=ET rfl;cases c1 with
   |false=>obtain⟨e2,J⟩:=BX rfl;rw [e2];show ay E9.toList _;rw [e];exact .cons _ _ .nil
   |true=>obtain⟨pt,info,e2,J⟩:=BW rfl;rw [e2];show ay (E9.push _).toList _;rw [e];exact .cons _ _ (.cons _ _ .nil)
 have zu:pF w F2 i.ba i.oa i.ta i.bb i.ob i.tE c0 c1 (bN w.params CU wI wY):=by
  cases c0 with
  |false=>
   obtain⟨J,e⟩:=EU rfl;cases c1 with
   |false=>obtain⟨J,e2⟩:=BX rfl;exact⟨0,0,wI,wY,by rw [e2];show bN w.params CV _ _=_;rw [e];rfl,(λh=>by cases h),(λh=>by cases h)⟩
   |true=>obtain⟨pt,info,J,e2,g⟩:=BW rfl;exact⟨0,info,wI,wY,by rw [e2];show bN w.params (put CV _ _) _ _=_;rw [e];rfl,(λh=>by cases h),λJ=>g⟩
  |true=>
   obtain⟨O4,vk,J,e,g0⟩:=ET rfl;cases c1 with
   |false=>obtain⟨J,e2⟩:=BX rfl;exact⟨vk,0,wI,wY,by rw [e2];show bN w.params CV _ _=_;rw [e];rfl,λJ=>g0.le gU,(λh=>by cases h)⟩
   |true=>obtain⟨pt,info,J,e2,g⟩:=BW rfl;refine⟨vk,info,wI,wY,?_,λJ=>g0.le gU,λJ=>g⟩;rw [e2];show bN w.params (put CV nB (.ref info)) _ _=_;rw [e];show bN w.params (put [(nA,.ref vk)] nB (.ref info)) _ _=_;rw [jq (by show nB∉[nA];decide)];rfl
 let K:Nat->Nat:=lk ui [Fb,a0,p0,r0,v0,a1,p1,r1,v1]
 have done:∀ah:aZ,∀n,ah.L=lF w.params i ⟨n,T2,V2,Dq,Fb,[(nA,.ref a0),(nB,.ref a1)],Em,ui,jN,Dv,CU,wI,wY,2⟩->
   ∃os:List Obj,os.length=(pos.zip (lL w.params i (q0 T V mt D D2 tc))).length/\ah.L=((pos.zip (lL w.params i (q0 T V mt D D2 tc))).map (·.2.1)).zip os/\∃X:aA,(∀p∈X,F2 p.1=some p.2)/\(bL w i T V mt D D2 tc cs u0 u1 c0 c1 n).post F st (.ok .next) F2 ⟨SR (((pos.zip (lL w.params i (q0 T V mt D D2 tc))).map (·.1)).zip os) st.L,st.G++X,ah.N,ah.t⟩:=λah n hL=>by
  let A:=JA F2 ah.N ah.t T2 Em K V2 Dq jN Dv (bN w.params CU wI wY)
  have hA:lE w.params i n A=[fr w.params i n T2 V2,aw Dq Fb,bN w.params [(nA,.ref a0),(nB,.ref a1)] Em ui,bN w.params i.lb i.tb i.eb,bN w.params i.lo i.to i.eo,bN w.params i.lt i.tt i.et,yY 2,jN,Dv,bN w.params CU wI wY,p6 i.ba,p6 i.oa,p6 i.ta,p6 i.bb,p6 i.ob,p6 i.tE]:=by unfold lE;simp only [A,HG,HH,kD];rfl
  have x0:e0 A=jS p0 (Ot r0) v0:=by unfold e0;simp only [A,kD];rfl
  have x1:e1 A=jS p1 (Ot r1) v1:=by unfold e1;simp only [A,kD];rfl
  refine⟨lE w.params i n A,rfl,by rw [hA,hL];rfl,[(a0,jS p0 (Ot r0) v0),(a1,jS p1 (Ot r1) v1)],aq (gU _ _ ID) (aq qX cB),A,rfl,⟨jH.trans gU,?_,?_,LH,hd2,?_,?_,Dd,zu⟩,rfl,?_⟩
  ·show F2 (kK A 1)=_;rw [x0,show kK A 1=a0 from kD 1];exact gU _ _ ID
  ·show F2 (kK A 5)=_;rw [x1,show kK A 5=a1 from kD 5];exact qX
  ·rw [show kK A 3=r0 from kD 3];exact fZ EJ
  ·rw [show kK A 7=r1 from kD 7];exact EH
  ·show(⟨_,_,_,_⟩:aZ)=⟨SR (pos.zip (lE w.params i n A)) st.L,st.G++[(kK A 1,e0 A),(kK A 5,e1 A)],ah.N,ah.t⟩;rw [x0,x1,show kK A 1=a0 from kD 1,show kK A 5=a1 from kD 5];rfl
 rcases pR with rfl|rfl
 ·refine(aD.d0 (d:=18) nr (λgN=>Cb w gN i T2 V2 Dq Fb [(nA,.ref a0),(nB,.ref a1)] Em ui jN Dv CU wI wY M2 t2) (ai:=λr F' ah=>F'=F2/\r= .ok .next/\ah.L=lF w.params i ⟨20,T2,V2,Dq,Fb,[(nA,.ref a0),(nB,.ref a1)],Em,ui,jN,Dv,CU,wI,wY,2⟩) ⟨eH.ok (gU _ _ (jH _ _ h.nl)) rfl,λa J hf=> ?_⟩).aT λr F' ah hh=> ?_
  ·rw [show a.F=F2 from hf];exact VC.keep λN' t'=>⟨rfl,rfl,rfl⟩
  ·obtain⟨y1,y2,y3⟩:=hh;subst y1 y2;obtain⟨os,k1,k2,X,k3,k4⟩:=done ah 20 y3;exact⟨os,k1,k2,X,k3,.inl k4⟩
 ·refine(aD.d0 (d:=18) nr (λgN=>Ca w gN i T2 V2 Dq Fb [(nA,.ref a0),(nB,.ref a1)] Em ui jN Dv CU wI wY M2 t2) (ai:=λr F' ah=>F'=F2/\r= .ok .next/\ah.L=lF w.params i ⟨29,T2,V2,Dq,Fb,[(nA,.ref a0),(nB,.ref a1)],Em,ui,jN,Dv,CU,wI,wY,2⟩) ⟨eH.ok (gU _ _ (jH _ _ h.nl)) rfl,λa J hf=> ?_⟩).aT λr F' ah hh=> ?_
  ·rw [show a.F=F2 from hf];exact VC.keep λN' t'=>⟨rfl,rfl,rfl⟩
  ·obtain⟨y1,y2,y3⟩:=hh;subst y1 y2;obtain⟨os,k1,k2,X,k3,k4⟩:=done ah 29 y3;exact⟨os,k1,k2,X,k3,.inr k4⟩
end MT
noncomputable abbrev BD(d:Addr):Obj:={cls:= .type "dict_items",data:= .fields #[.ref d]}
namespace SI
def S(gN:Nat)(r d:Addr)(v1 v2:Value)(ts:nN)(ep N t:Nat)(aa:RB):ax:=bX w gN 900 8 [89,0,5,1,11,88,11,11,11,11,11,7,7,9,9,9,7,1,12,1,90,11,11,11,11]
 (.C7 (j4 w 0 1 r d nA nB v1 v2 ts ep) λa=> .ret (.ok (.ret (.ref a.N))) (bJ ([(0,(r,BD d)),(1,(d,bN w.params [(nA,v1),(nB,v2)] ts ep))]++[(5,(a.N,aw #[.ref (a.k 1),.ref (a.k 2)] 2)),(3,(a.k 1,dU (.bytes nA (a.k 4)) v1)),(4,(a.k 2,dU (.bytes nB (a.k 5)) v2))])))
 aa (.builtin "sorted" ⟨[.ref r],[]⟩) ⟨[(r,BD d),(d,bN w.params [(nA,v1),(nB,v2)] ts ep)],[],N,t⟩
theorem iw w gN r d v1 v2 ts ep N t:∀aa,aE (S w gN r d v1 v2 ts ep N t aa):=by apply bh w
end SI
def m9(i j:Nat)(r d:Addr)(v1 v2:Value)(ts:nN)(ep:Nat):az:=⟨9,λJ=> .builtin "sorted" ⟨[.ref r],[]⟩,λst=>[(.p (bP st.L i),.p (some (r,BD d))),(.p (bP st.L j),.p (some (d,bN w.params [(nA,v1),(nB,v2)] ts ep)))],
 λa J=> .ok (.ret (.ref (a.k 0))),qm,λF a=>F.le a.F/\a.F (a.k 0)=some (aw #[.ref (a.k 1),.ref (a.k 2)] 2)/\a.F (a.k 1)=some (dU (.bytes nA (a.k 3)) v1)/\a.F (a.k 2)=some (dU (.bytes nB (a.k 4)) v2)⟩
theorem m9.ok{w:World}{R:aA}{F:aj}{i j:Nat}{r d:Addr}{v1 v2:Value}{ts:nN}{ep:Nat}(SH:i≠j):(m9 w i j r d v1 v2 ts ep).OK w R F:=λcc st hc he=>by
 rw [hc];have e1:=aY.cons.mp he;have hi:=cp.p.inj e1.1;have hj:=cp.p.inj (aY.cons.mp e1.2).1;refine aD.ja (G1:=[]) (P:=λrr F' o o' X N' t'=>o=BD d/\o'=bN w.params [(nA,v1),(nB,v2)] ts ep/\X=[]/\F.le F'/\TY λl x y kx ky=>F' l=some (aw #[.ref x,.ref y] 2)/\F' x=some (dU (.bytes nA kx) v1)/\F' y=some (dU (.bytes nB ky) v2)/\rr= .ok (.ret (.ref l))) hi hj SH cB (λR=> ?_)
  λrr F' o o' X N' t' hh=> ?_
 ·refine aD.d0 (d:=8) nr (λgN=>SI.iw w gN r d v1 v2 ts ep st.N st.t) ⟨j4.ok (by decide),λa J hf=> ?_⟩;rw [show a.F=F from hf];refine VC.gq (nd (by kernel_rfl)) λF' le hn N' t'=> ?_;exact⟨_,_,[],rfl,rfl,rfl,rfl,le,a.N,a.k 1,a.k 2,a.k 4,a.k 5,hn 0 rfl,hn 1 rfl,hn 2 rfl,rfl⟩
 ·obtain⟨y1,y2,y3,y4,l,x,y,kx,ky,y5,y6,y7,y8⟩:=hh;subst y1 y2 y3;refine⟨{bB F' N' t' 0 with k:=lk ky [l,x,y,kx]},rfl,⟨y4,y5,y6,y7⟩,y8,?_⟩;rw [cT hi];have s2:bg st.L j (bN w.params [(nA,v1),(nB,v2)] ts ep)=st.L:=cT hj;rw [s2,List.append_nil];rfl
def kP(i j:Nat)(r d:Addr)(v1 v2:Value)(ts:nN)(ep:Nat):az:=(m9 w i j r d v1 v2 ts ep).iI λa=>[(a.k 0,aw #[.ref (a.k 1),.ref (a.k 2)] 2),(a.k 1,dU (.bytes nA (a.k 3)) v1),(a.k 2,dU (.bytes nB (a.k 4)) v2)]
theorem kP.ok{w:World}{R:aA}{F:aj}{i j:Nat}{r d:Addr}{v1 v2:Value}{ts:nN}{ep:Nat}(SH:i≠j):(kP w i j r d v1 v2 ts ep).OK w R F:=az.iI.ok (m9.ok SH) λa ha=>⟨a,rfl,λJ=>⟨rfl,rfl⟩,ha,aq ha.2.1 (aq ha.2.2.1 (aq ha.2.2.2 cB))⟩
namespace MM
open MT
noncomputable def Et:Bool:= !(w.params.followText "set-order")
structure In where
 mg:Nat
 dx:Nat
 ci:Nat
 k1:Nat
 k2:Nat
 k3:Nat
 s:jF
 q1:dN
 q2:dN
 q3:dN
 x1:EI
 y1:EI
 x2:EI
 y2:EI
 x3:EI
 y3:EI
 s1:Nat->Nat
 s2:Nat->Nat
 s3:Nat->Nat
 p1:Nat
 p2:Nat
 p3:Nat
 N:Nat
 t:Nat
 pt:Nat
abbrev eT(e:EI):Ti:=⟨e.a,e.u,Ot e.i,e.v⟩
noncomputable abbrev two(x y:Nat):cK:=[(nA,.ref x),(nB,.ref y)]
def L0(i:In)(D D2:Obj):aA:=[(i.q1.td,er P i.q1),(i.q1.te,bN P (two i.x1.a i.y1.a) i.s1 i.p1),(i.q2.td,er P i.q2),(i.q2.te,bN P (two i.x2.a i.y2.a) i.s2 i.p2),(i.q3.td,er P i.q3),(i.q3.te,bN P (two i.x3.a i.y3.a) i.s3 i.p3),(i.s.N+2,D),(i.s.dt,D2),(i.ci,bA)]
def G(i:In):aA:=[(i.mg,cb 1259 i.dx),(i.dx,tF P i.s.so i.ci i.k1 i.k2 i.k3),(i.q1.tb,cb 884 i.q1.td),(i.q2.tb,cb 884 i.q2.td),(i.q3.tb,cb 884 i.q3.td),(i.x1.a,p6 i.x1),(i.y1.a,p6 i.y1),(i.x2.a,p6 i.x2),(i.y2.a,p6 i.y2),(i.x3.a,p6 i.x3),(i.y3.a,p6 i.y3),(i.s.so,cb 1315 i.s.dx),(i.s.dx,FD P i.s)]
noncomputable def c(i:In):Code:= .call (.ref 1256) ⟨[.ref i.mg,.ref i.q1.tb,.ref i.q2.tb,.ref i.q3.tb,.bytes #[] i.pt],[]⟩
def vy(i j ji jd:Nat)(q:dN)(x y:EI)(ts:nN)(ep:Nat)(d:Nat)(k:aL->aL->bE):bE:=
 .hk (kX w i j q (eT x) (eT y) ts ep) λz=> .hk (cO ji z.N (z.k 0) 0 (.ref (z.k 2)) []) λJ=> .hk (bw w jd d [] (λJ=>0) 0 nA (.ref (z.N+4))) λb=> .hk (cO ji z.N (z.k 0) 1 (.ref (z.k 4)) []) λJ=>
 .hk (bw w jd d [(nA,.ref (z.N+4))] (λn=>b.k (n+1)) (b.k 0) nB (.ref (z.N+9))) λb2=> .hk (eH ji z.N (z.k 0) 2) λJ=>k z b2
noncomputable def lT(t a b c d:Nat)(j:Nat):Nat:=match j with
 |0=>t
 |1=>t+1
 |2=>t+2
 |3=>t+3
 |4=>t+4
 |5=>t+5
 |6=>t+6
 |7=>t+7
 |8=>a
 |9=>b
 |10=>c
 |_=>d
noncomputable def lV(i:In)(e s:Nat)(j:Nat):Value:=match j with
 |1=> .ref i.q1.tb
 |2=> .ref i.q2.tb
 |3=> .ref i.q3.tb
 |8=> .ref e
 |_=> .ref s
noncomputable def FY(a:Nat)(e:EI):EI:=⟨a,e.u,e.v,e.i⟩
noncomputable def li(i:In)(z1 b1 z2 b2 z3 b3 n:aL):MT.In:=⟨i.mg,i.dx,i.ci,i.k1,i.k2,i.k3,i.s,i.N,i.pt,i.N+1,i.N+2,i.N+3,z1.N+13,z2.N+13,n.N,n.k 0,n.k 1,n.k 2,two (z1.N+4) (z1.N+9),λj=>b1.k (j+1),b1.k 0,two (z2.N+4) (z2.N+9),λj=>b2.k (j+1),b2.k 0,two (z3.N+4) (z3.N+9),λj=>b3.k (j+1),b3.k 0,FY (z1.N+4) i.x1,FY (z2.N+4) i.x2,FY (z3.N+4) i.x3,FY (z1.N+9) i.y1,FY (z2.N+9) i.y2,FY (z3.N+9) i.y3⟩
def xP(i:In)(a:aL):bE:=
 .hk (ic w) λr=> .hk (kP w 62 11 r.N (i.N+2) (.ref (kK a 1)) (.ref (kK a 5)) (kM a) (kK a 9)) λso=> .hk (cO 63 so.N (so.k 0) 0 (.ref (so.k 1)) []) λJ=>
 .hk (d8 w 60 61 (jG r) nA (Ot (kK a 3)) [] (λJ=>0) 0) λa1=> .hk (cO 63 so.N (so.k 0) 1 (.ref (so.k 2)) []) λJ=>
 .hk (d8 w 60 61 (jG r) nB (Ot (kK a 7)) [(nA,.ref (a1.k 0))] (λn=>a1.k (n+4)) (a1.k 3)) λa2=> .hk (eH 63 so.N (so.k 0) 2) λJ=>
 .ret (.ok (.ret (.ref (a2.N+2)))) (bJ ([(0,(i.q1.td,er w.params i.q1)),(1,(i.q1.te,bN w.params (two i.x1.a i.y1.a) i.s1 i.p1)),(2,(i.q2.td,er w.params i.q2)),(3,(i.q2.te,bN w.params (two i.x2.a i.y2.a) i.s2 i.p2)),(4,(i.q3.td,er w.params i.q3)),(5,(i.q3.te,bN w.params (two i.x3.a i.y3.a) i.s3 i.p3)),(6,(i.s.N+2,a.o 0)),(7,(i.s.dt,a.o 1)),(8,(i.ci,a.o 2)),
  (60,((jG r).td,er w.params (jG r))),(61,((jG r).te,bN w.params (two (a1.k 0) (a2.k 0)) (λn=>a2.k (n+4)) (a2.k 3)))]++[(10,(i.N+1,aw (a.l 0) (kK a 0))),(78,(a2.N+2,dU (.ref (r.k 0)) (.ref (i.N+1))))]))
noncomputable def rx:List Nat:=(zJ [vX,[19,19,0,0,19,23,23,23,23,1,23,92,23,1,0,85,66,66,1,66,20,127,1,127,1,127,0,4,127,68,68,68,1,68,10],Sp,Sp,Sp,[129,133,19,19,60,60,60,1,60,10],So,So,So,[135,139],Sh,[64],mQ,[64],mQ,[64],vX,[64,121,19,19,19,0,0,1,127,1,127,0,4,127,70,70,70,1,70,10],Sn,Sn,Sn,[141,145,19,19,62,62,62,1,62,10],Sm,Sm,Sm,[147,151],Sh,[64],mQ,[64],mQ,[64],vX,[64,121,19,19,19,0,0,1,127,1,127,0,4,155,1,19,19]])
def mP(i:In)(D D2:Obj)(cs:lU)(u0 u1:aU)(c0 c1:Bool):bE:=
 vy w 0 1 13 12 i.q1 i.x1 i.y1 i.s1 i.p1 (i.N+3) λz1 b1=>vy w 2 3 27 26 i.q2 i.x2 i.y2 i.s2 i.p2 (z1.N+13) λz2 b2=>vy w 4 5 41 40 i.q3 i.x3 i.y3 i.s3 i.p3 (z2.N+13) λz3 b3=>
 .hk (d9 w 54 12 (z3.N+13) (i.N+3) (Et w) (.ref (z1.N+4)) (.ref (z1.N+9)) (λn=>b1.k (n+1)) (b1.k 0)) λa1=> .hk (d9 w 55 26 (z3.N+14) (z1.N+13) (Et w) (.ref (z2.N+4)) (.ref (z2.N+9)) (λn=>b2.k (n+1)) (b2.k 0)) λa2=>
 .hk (jv 54 55 (z3.N+13) (z3.N+14) (a1.o 0) (a2.o 0) w) λa3=> .hk (d9 w 57 40 (z3.N+16) (z2.N+13) (Et w) (.ref (z3.N+4)) (.ref (z3.N+9)) (λn=>b3.k (n+1)) (b3.k 0)) λa4=>
 .hk (jv 56 57 (z3.N+15) (z3.N+16) (a3.o 0) (a4.o 0) w) λa5=> .hk (m8 58 (z3.N+17) (a5.o 0)) λn=>
 .two (bL w (li i z1 b1 z2 b2 z3 b3 n) (lT i.t z1.t b1.t b2.t b3.t) (lV i (z3.k 4) (z3.N+17)) (λJ=>0) D D2 (λJ=>0) cs u0 u1 c0 c1 20) (bL w (li i z1 b1 z2 b2 z3 b3 n) (lT i.t z1.t b1.t b2.t b3.t) (lV i (z3.k 4) (z3.N+17)) (λJ=>0) D D2 (λJ=>0) cs u0 u1 c0 c1 29) rx (xP w i) rx (xP w i)
def mS(gN:Nat)(i:In)(D D2:Obj)(cs:lU)(u0 u1:aU)(c0 c1:Bool)(aa:RB):ax:=bX w gN 30000 31 (zJ [[1,0,0],Sh,[19,19,19,1,1],Sh,[19,6],mQ,[6],mQ,[6],vX,[6,1,0,0,28,28,1,28,20,27,1,27,1,27],RR,[30],mQ,[0,1,30,0,45,30],mQ,mQ,kA,[0,29,29,29,29,29,29,1,1,29],vX,[29,1,13,30],kB,[29,29],vX,[5],mQ,vU,[30,0,21,30,19,30],mQ,[0,1,30,0,45,30],mQ,mQ,kA,[0,31,31,31,31,31,31,1,1,31],vX,[31,1,13,30],kB,[31,31],vX,[5],mQ,vU,[30,0,21,30,19,30],mQ,[0,1,30,0,45,30],mQ,mQ,kA,[0,33,33,33,33,33,33,1,1,33],vX,[33,1,13,30],kB,[33,33],vX,[5],mQ,vU,[30,0,21,30,19,19,30],mQ,[0,1,30,0,45,30],mQ,mQ,kA,[0,37,37,37,37,37,37,1,1,37],vX,[37,1,13,30],kB,[37,37],vX,[5],mQ,vU,[30,0,21,30,25,25,1,25,0,26,1,27,1,27],RR,[34],mQ,[0,1,34,0,45,34],mQ,mQ,kA,[0,39,39,39,39,39,39,1,1,39],vX,[39,1,13,34],kB,[39,39],vX,[5],mQ,vU,[34,0,21,34,19,34],mQ,[0,1,34,0,45,34],mQ,mQ,kA,[0,41,41,41,41,41,41,1,1,41],vX,[41,1,13,34],kB,[41,41],vX,[5],mQ,vU,[34,0,21,34,19,34],mQ,[0,1,34,0,45,34],mQ,mQ,kA,[0,43,43,43,43,43,43,1,1,43],vX,[43,1,13,34],kB,[43,43],vX,[5],mQ,vU,[34,0,21,34,19,19,34],mQ,[0,1,34,0,45,34],mQ,mQ,kA,[0,47,47,47,47,47,47,1,1,47],vX,[47,1,13,34],kB,[47,47],vX,[5],mQ,vU,[34,0,21,34,25,25,1,25,0,26,1,27,1,27,0,4,51,1,19,19,19,8],mQ,[8],mQ,[8],vX,[8,5,0,0,38,38,1,38,20,55,1,55,1,55],RR,[40],mQ,[0,1,40,0,45,40],mQ,mQ,kA,[0,57,57,57,57,57,57,1,1,57],vX,[57,1,13,40],kB,[57,57],vX,[5],mQ,vU,[40,0,21,40,19,40],mQ,[0,1,40,0,45,40],mQ,mQ,kA,[0,59,59,59,59,59,59,1,1,59],vX,[59,1,13,40],kB,[59,59],vX,[5],mQ,vU,[40,0,21,40,19,40],mQ,[0,1,40,0,45,40],mQ,mQ,kA,[0,61,61,61,61,61,61,1,1,61],vX,[61,1,13,40],kB,[61,61],vX,[5],mQ,vU,[40,0,21,40,19,19,40],mQ,[0,1,40,0,45,40],mQ,mQ,kA,[0,65,65,65,65,65,65,1,1,65],vX,[65,1,13,40],kB,[65,65],vX,[5],mQ,vU,[40,0,21,40],RJ,[0,26,1,55,1,55],RR,[44],mQ,[0,1,44,0,45,44],mQ,mQ,kA,[0,67,67,67,67,67,67,1,1,67],vX,[67,1,13,44],kB,[67,67],vX,[5],mQ,vU,[44,0,21,44,19,44],mQ,[0,1,44,0,45,44],mQ,mQ,kA,[0,69,69,69,69,69,69,1,1,69],vX,[69,1,13,44],kB,[69,69],vX,[5],mQ,vU,[44,0,21,44,19,44],mQ,[0,1,44,0,45,44],mQ,mQ,kA,[0,71,71,71,71,71,71,1,1,71],vX,[71,1,13,44],kB,[71,71],vX,[5],mQ,vU,[44,0,21,44,19,19,44],mQ,[0,1,44,0,45,44],mQ,mQ,kA,[0,75,75,75,75,75,75,1,1,75],vX,[75,1,13,44],kB,[75,75],vX,[5],mQ,vU,[44,0,21,44],RJ,[0,26,1,55,1,55,0,4,79,1,19,19,19,10],mQ,[10],mQ,[10],vX,[10,9,0,0,48,48,1,48,20,83,1,83,1,83],RR,[50],mQ,[0,1,50,0,45,50],mQ,mQ,kA,[0,85,85,85,85,85,85,1,1,85],vX,[85,1,13,50],kB,[85,85],vX,[5],mQ,vU,[50,0,21,50,19,50],mQ,[0,1,50,0,45,50],mQ,mQ,kA,[0,87,87,87,87,87,87,1,1,87],vX,[87,1,13,50],kB,[87,87],vX,[5],mQ,vU,[50,0,21,50,19,50],mQ,[0,1,50,0,45,50],mQ,mQ,kA,[0,89,89,89,89,89,89,1,1,89],vX,[89,1,13,50],kB,[89,89],vX,[5],mQ,vU,[50,0,21,50,19,19,50],mQ,[0,1,50,0,45,50],mQ,mQ,kA,[0,93,93,93,93,93,93,1,1,93],vX,[93,1,13,50],kB,[93,93],vX,[5],mQ,vU,[50,0,21,50,81,81,1,81,0,26,1,83,1,83],RR,[54],mQ,[0,1,54,0,45,54],mQ,mQ,kA,[0,95,95,95,95,95,95,1,1,95],vX,[95,1,13,54],kB,[95,95],vX,[5],mQ,vU,[54,0,21,54,19,54],mQ,[0,1,54,0,45,54],mQ,mQ,kA,[0,97,97,97,97,97,97,1,1,97],vX,[97,1,13,54],kB,[97,97],vX,[5],mQ,vU,[54,0,21,54,19,54],mQ,[0,1,54,0,45,54],mQ,mQ,kA,[0,99,99,99,99,99,99,1,1,99],vX,[99,1,13,54],kB,[99,99],vX,[5],mQ,vU,[54,0,21,54,19,19,54],mQ,[0,1,54,0,45,54],mQ,mQ,kA,[0,103,103,103,103,103,103,1,1,103],vX,[103,1,13,54],kB,[103,103],vX,[5],mQ,vU,[54,0,21,54,81,81,1,81,0,26,1,83,1,83,0,4,107,1,0,0,19,1,13,1,98,109,109,1,109,109,0,93,0,0,19,1,13,1,98,111,111,1,111,111,0,93,109,111,109,1,109,0,101,0,0,19,1,13,1,98,115,115,1,115,115,0,93,113,115,113,1,113,0,101,19,19,0,0,19,1,0,85,58,58,1,58,20,119,0]]) (mP w i D D2 cs u0 u1 c0 c1) aa (c i) ⟨L0 w.params i D D2,G w.params i,i.N,i.t⟩
theorem sh w gN i D D2 cs u0 u1 c0 c1:∀aa,aE (mS w gN i D D2 cs u0 u1 c0 c1 aa):=by apply bh w
end MM
end H
theorem aD.B1{w:World}{R:aA}{F:aj}{st:aZ}{aX:Nat}{c:Code}{ai:Result->aj->aZ->Prop}{ps:List (Nat × (Addr × Obj))}{G1:aA}(hi:(ps.map (·.1)).Nodup)(e:aY (bJ ps st))(hg:∀p∈G1,F p.1=some p.2)
  (h:∀R,aD w R F ⟨ps.map (·.2),G1,st.N,st.t⟩ aX c λr F' ah=>∃(os:List Obj) (Y:aA),os.length=ps.length/\ah.L=(ps.map (·.2.1)).zip os++Y/\∃X:aA,(∀p∈X,F' p.1=some p.2)/\ai r F' ⟨SR ((ps.map (·.1)).zip os) st.L++Y,st.G++X,ah.N,ah.t⟩):aD w R F st aX c ai:=by
 refine aD.Aa ?_;refine aD.ej (p:=(st.L.map (·.1)).Nodup) (λhh Rl=>by have:=Rl.nd;rw [List.map_append]at this;exact(List.nodup_append.mp this).1) λhn=> ?_
 have hm:=fM e;have hd:=dK hn hm hi;obtain⟨rest,hr⟩:=gQ (ps.map (·.2)) st.L hd λp hp=>by obtain⟨q,hq,rfl⟩:=List.mem_map.mp hp;exact aJ (hm q hq)
 refine aD.frame (G1:=G1) hr hg (h _) λr F' bU hh=> ?_;obtain⟨os,Y,h1,h2,h3⟩:=hh;refine⟨_,?_,h3⟩;rw [h2,List.append_assoc];refine List.Perm.trans (List.Perm.append_left _ List.perm_append_comm) ?_;rw [<-List.append_assoc];exact(iQ ps st.L rest hi hm hr os h1).symm.append_right Y
namespace H
namespace MM
open MT
structure MF(w:World)(F:aj)(i:In)(D D2:Obj)(xb xo xt yb yo yt:aU)(cs:lU):Prop where
 mg:F i.mg=some (cb 1259 i.dx)
 dx:F i.dx=some (tF w.params i.s.so i.ci i.k1 i.k2 i.k3)
 st:hJ w F i.s
 q1:F i.q1.tb=some (cb 884 i.q1.td)
 q2:F i.q2.tb=some (cb 884 i.q2.td)
 q3:F i.q3.tb=some (cb 884 i.q3.td)
 z1:1392<=i.q1.te
 z2:1392<=i.q2.te
 z3:1392<=i.q3.te
 x1:F i.x1.a=some (p6 i.x1)
 y1:F i.y1.a=some (p6 i.y1)
 x2:F i.x2.a=some (p6 i.x2)
 y2:F i.y2.a=some (p6 i.y2)
 x3:F i.x3.a=some (p6 i.x3)
 y3:F i.y3.a=some (p6 i.y3)
 kn:dk w.params cs D
 da:fU w F cs D2
 h7:cs.length<7
 xb:cs[i.x1.i]? =some xb
 xo:cs[i.x2.i]? =some xo
 xt:cs[i.x3.i]? =some xt
 yb:cs[i.y1.i]? =some yb
 yo:cs[i.y2.i]? =some yo
 yt:cs[i.y3.i]? =some yt
section
variable{w:World}{R:aA}{F:aj}{ai:Result->aj->aZ->Prop}
theorem rj{i j ji jd:Nat}{q:dN}{x y:EI}{ts:nN}{ep d:Nat}{k:aL->aL->bE}(SH:i≠j)(hb:F q.tb=some (cb 884 q.td))(hx:F x.a=some (p6 x))(hy:F y.a=some (p6 y))(H5:1392<=q.te)
  (h:∀z b:aL,F.le z.F->VC w R ai z.F (k z b)):VC w R ai F (vy w i j ji jd q x y ts ep d k):=by
 refine⟨kX.ok SH hb hx hy H5,λz le hz=> ?_⟩;have hl:=hz.1.2.l;refine⟨cO.ok hl rfl (by intro p hp;cases hp),λa J hf=> ?_⟩;rw [show a.F=z.F from hf];refine⟨bw.ok List.nodup_nil (by rw [sizeLine_eq];decide),λb J hf=> ?_⟩;rw [show b.F=z.F from hf];refine⟨cO.ok hl rfl (by intro p hp;cases hp),λa J hf=> ?_⟩;rw [show a.F=z.F from hf];refine⟨bw.ok (by show [nA].Nodup;decide) (by rw [sizeLine_eq];show 1<=_;decide),λb2 J hf=> ?_⟩;rw [show b2.F=z.F from hf];refine⟨eH.ok hl rfl,λa J hf=> ?_⟩;rw [show a.F=z.F from hf];exact h z b2 le
structure OD(w:World)(F:aj)(x1 x2 x3 y1 y2 y3:EI)(cs:lU)(u0 u1:aU)(c0 c1:Bool)(r:Addr)(q:dN)(cf:Addr)(cv:aV)(cn:Nat)(a0 p0 r0 v0 a1 p1 r1 v1:Nat)(D D2 ci:Obj):Prop where
 hr:F r=some (dU (.ref q.tb) (.ref cf))
 hq:F q.tb=some (cb 884 q.td)
 z:1392<=q.te
 Df:F cf=some (aw cv cn)
 e0:F a0=some (jS p0 (Ot r0) v0)
 e1:F a1=some (jS p1 (Ot r1) v1)
 kn:dk w.params (bT (bT cs u0) u1) D
 da:fU w F (bT (bT cs u0) u1) D2
 i0:(bT (bT cs u0) u1)[r0]? =some u0
 i1:(bT (bT cs u0) u1)[r1]? =some u1
 Dd:ay cv.toList (names c0 c1)
 zu:pF w F x1 x2 x3 y1 y2 y3 c0 c1 ci
def LE(P:Params)(i:In)(D D2 ci:Obj)(q:dN)(a0 a1:Nat)(ts:nN)(ep:Nat):aA:=[(i.q1.td,er P i.q1),(i.q1.te,bN P (two i.x1.a i.y1.a) i.s1 i.p1),(i.q2.td,er P i.q2),(i.q2.te,bN P (two i.x2.a i.y2.a) i.s2 i.p2),(i.q3.td,er P i.q3),(i.q3.te,bN P (two i.x3.a i.y3.a) i.s3 i.p3),(i.s.N+2,D),(i.s.dt,D2),(i.ci,ci),(q.td,er P q),(q.te,bN P (two a0 a1) ts ep)]
def Du(w:World)(F:aj)(i:In)(cs:lU)(u0 u1:aU)(c0 c1:Bool)(rr:Result)(F':aj)(ah:aZ):Prop:=
 F.le F'/\Ui λr q cf cv cn a0 p0 r0 v0 a1 p1 r1 v1 D D2 ci ts ep=>rr= .ok (.ret (.ref r))/\OD w F' i.x1 i.x2 i.x3 i.y1 i.y2 i.y3 cs u0 u1 c0 c1 r q cf cv cn a0 p0 r0 v0 a1 p1 r1 v1 D D2 ci/\ah.L=LE w.params i D D2 ci q a0 a1 ts ep
theorem u7{i:In}{cs:lU}{u0 u1:aU}{c0 c1:Bool}{a:aL}{F0:aj}(l0:F0.le a.F)(hk:dk w.params (bT (bT cs u0) u1) (a.o 0))(hd:fU w a.F (bT (bT cs u0) u1) (a.o 1))(h0:(bT (bT cs u0) u1)[kK a 3]? =some u0)(h1:(bT (bT cs u0) u1)[kK a 7]? =some u1)
  (Dd:ay (a.l 0).toList (names c0 c1)) (zu:pF w a.F i.x1 i.x2 i.x3 i.y1 i.y2 i.y3 c0 c1 (a.o 2)):VC w R (Du w F0 i cs u0 u1 c0 c1) a.F (xP w i a):=by
 refine⟨ic.ok,λr jH hr=> ?_⟩;have hr:=hr.1;refine⟨kP.ok (by decide),λso gU C3=> ?_⟩;have hl:=C3.1.2.1;refine⟨cO.ok hl rfl (by intro p hp;cases hp),λb J hf=> ?_⟩;rw [show b.F=so.F from hf];refine⟨d8.ok (by decide) (gU _ _ hr.2.1) List.nodup_nil (by rw [sizeLine_eq];decide),λa1 uk qX=> ?_⟩;refine⟨cO.ok (uk _ _ hl) rfl (by intro p hp;cases hp),λb J hf=> ?_⟩;rw [show b.F=a1.F from hf];refine⟨d8.ok (by decide) (uk _ _ (gU _ _ hr.2.1)) (by show [nA].Nodup;decide) (by rw [sizeLine_eq];show 1<=_;decide),λa2 Aw zw=> ?_⟩;refine⟨eH.ok (Aw _ _ (uk _ _ hl)) rfl,λb J hf=> ?_⟩;rw [show b.F=a2.F from hf];refine VC.gq (nd (by kernel_rfl)) λF' le hn N' t'=> ?_;have wO:=jH.trans (gU.trans (uk.trans (Aw.trans le)));refine⟨l0.trans wO,a2.N+2,jG r,i.N+1,a.l 0,kK a 0,a1.k 0,a1.k 1,kK a 3,a1.k 2,a2.k 0,a2.k 1,kK a 7,a2.k 2,a.o 0,a.o 1,a.o 2,_,_,rfl,⟨?_,?_,hr.2.2,?_,?_,?_,hk,hd.le wO,h0,h1,Dd,?_⟩,rfl⟩
 ·exact hn 1 rfl
 ·exact le _ _ (Aw _ _ (uk _ _ (gU _ _ hr.2.1)))
 ·exact hn 0 rfl
 ·exact le _ _ (Aw _ _ qX.2)
 ·exact le _ _ zw.2
 ·obtain⟨j0,j1,tc,ec,e,g0,g1⟩:=zu;exact⟨j0,j1,tc,ec,e,λh=>(g0 h).le wO,λh=>(g1 h).le wO⟩
theorem go{i:In}{D D2:Obj}{xb xo xt yb yo yt u0 u1:aU}{cs:lU}{c0 c1:Bool}(h:MF w F i D D2 xb xo xt yb yo yt cs)(Ic:lp xb xo xt u0 c0)(Ib:lp yb yo yt u1 c1):
  aD w R F ⟨L0 w.params i D D2,G w.params i,i.N,i.t⟩ 32 (c i) (Du w F i cs u0 u1 c0 c1):=by
 refine aD.d0 (d:=31) nr (λgN=>sh w gN i D D2 cs u0 u1 c0 c1) ?_;refine rj (by decide) h.q1 h.x1 h.y1 h.z1 λz1 b1 jH=> ?_;refine rj (by decide) (jH _ _ h.q2) (jH _ _ h.x2) (jH _ _ h.y2) h.z2 λz2 b2 gU=> ?_;refine rj (by decide) (gU _ _ (jH _ _ h.q3)) (gU _ _ (jH _ _ h.x3)) (gU _ _ (jH _ _ h.y3)) h.z3 λz3 b3 uk=> ?_;have wO:=jH.trans (gU.trans uk);refine⟨d9.ok (by decide),λa1 J h1=> ?_⟩;rw [show a1.F=z3.F from h1.1];refine⟨d9.ok (by decide),λa2 J h2=> ?_⟩;rw [show a2.F=z3.F from h2.1];refine⟨jv.ok (by decide) h1.2 h2.2,λa3 J h3=> ?_⟩;rw [show a3.F=z3.F from h3.1];refine⟨d9.ok (by decide),λa4 J h4=> ?_⟩;rw [show a4.F=z3.F from h4.1];refine⟨jv.ok (by decide) h3.2 h4.2,λa5 J h5=> ?_⟩;rw [show a5.F=z3.F from h5.1];refine⟨m8.ok h5.2,λn Aw hn=> ?_⟩;have l4:=wO.trans Aw;have QM:LF w n.F (li i z1 b1 z2 b2 z3 b3 n) D D2 xb xo xt yb yo yt cs:=⟨l4 _ _ h.mg,l4 _ _ h.dx,h.st.le l4,hn.1.2,rfl,rfl,rfl,h.kn,h.da.le l4,h.h7,h.xb,h.xo,h.xt,h.yb,h.yo,h.yt⟩
 refine⟨bL.ok QM Ic Ib,λa FJ ha=> ?_,λa FJ ha=> ?_⟩
 ·exact u7 (l4.trans FJ) ha.2.2.2.1 ha.2.2.2.2.1 ha.2.2.2.2.2.1 ha.2.2.2.2.2.2.1 ha.2.2.2.2.2.2.2.1 ha.2.2.2.2.2.2.2.2
 ·exact u7 (l4.trans FJ) ha.2.2.2.1 ha.2.2.2.2.1 ha.2.2.2.2.2.1 ha.2.2.2.2.2.2.1 ha.2.2.2.2.2.2.2.1 ha.2.2.2.2.2.2.2.2
end
noncomputable def kq(a:aL):dN:=⟨a.k 1,a.k 2,a.k 3,a.k 4,a.k 5,a.k 6,a.k 7,a.k 8⟩
def objs(i:In)(a:aL):List Obj:=[er P i.q1,bN P (two i.x1.a i.y1.a) i.s1 i.p1,er P i.q2,bN P (two i.x2.a i.y2.a) i.s2 i.p2,er P i.q3,bN P (two i.x3.a i.y3.a) i.s3 i.p3,a.o 0,a.o 1,a.o 2]
noncomputable def kG(a:aL):aA:=[(a.k 0,dU (.ref (a.k 1)) (.ref (a.k 9))),(a.k 1,cb 884 (a.k 2)),(a.k 9,aw (a.l 0) (a.k 10)),(a.k 11,jS (a.k 12) (Ot (a.k 13)) (a.k 14)),(a.k 15,jS (a.k 16) (Ot (a.k 17)) (a.k 18))]
def BN(js:List Nat)(i:In)(D D2:Obj)(cs:lU)(u0 u1:aU)(c0 c1:Bool):az:=⟨32,λcc=> .call (.ref 1256) ⟨[.ref i.mg,.ref i.q1.tb,.ref i.q2.tb,.ref i.q3.tb,.bytes #[] (cA cc 4)],[]⟩,bJ (js.zip (L0 w.params i D D2)),λa J=> .ok (.ret (.ref (a.k 0))),
 λa st=>⟨SR (js.zip (objs w.params i a)) st.L++[((kq a).td,er w.params (kq a)),((kq a).te,bN w.params (two (a.k 11) (a.k 15)) (λn=>a.k (n+20)) (a.k 19))],st.G++kG a,a.N,a.t⟩,
 λF a=>F.le a.F/\OD w a.F i.x1 i.x2 i.x3 i.y1 i.y2 i.y3 cs u0 u1 c0 c1 (a.k 0) (kq a) (a.k 9) (a.l 0) (a.k 10) (a.k 11) (a.k 12) (a.k 13) (a.k 14) (a.k 15) (a.k 16) (a.k 17) (a.k 18) (a.o 0) (a.o 1) (a.o 2)⟩
theorem BN.ok{w:World}{R:aA}{F:aj}{js:List Nat}{i:In}{D D2:Obj}{xb xo xt yb yo yt u0 u1:aU}{cs:lU}{c0 c1:Bool}(hj:js.Nodup)(hl:js.length=9)(h:MF w F i D D2 xb xo xt yb yo yt cs)(Ic:lp xb xo xt u0 c0)(Ib:lp yb yo yt u1 c1):
  (BN w js i D D2 cs u0 u1 c0 c1).OK w R F:=λcc st hc he=>by
 rw [hc];have NV:(js.zip (L0 w.params i D D2)).map (·.1)=js:=List.map_fst_zip (by rw [hl];exact Nat.le_refl _);have NU:(js.zip (L0 w.params i D D2)).map (·.2)=L0 w.params i D D2:=List.map_snd_zip (by rw [hl];exact Nat.le_refl _);have hG:∀p∈G w.params i,F p.1=some p.2:=aq h.mg (aq h.dx (aq h.q1 (aq h.q2 (aq h.q3 (aq h.x1 (aq h.y1 (aq h.x2 (aq h.y2 (aq h.x3 (aq h.y3 (aq h.st.o (aq h.st.d cB))))))))))));refine aD.B1 (ps:=js.zip (L0 w.params i D D2)) (G1:=G w.params i) (by rw [NV];exact hj) he hG λR=> ?_
 let i':In:={i with N:=st.N,t:=st.t,pt:=cA cc 4}
 have h':MF w F i' D D2 xb xo xt yb yo yt cs:=⟨h.mg,h.dx,h.st,h.q1,h.q2,h.q3,h.z1,h.z2,h.z3,h.x1,h.y1,h.x2,h.y2,h.x3,h.y3,h.kn,h.da,h.h7,h.xb,h.xo,h.xt,h.yb,h.yo,h.yt⟩
 rw [NU];refine(go (R:=R) h' Ic Ib).aT λrr F' ah hh=> ?_;obtain⟨le,r,q,cf,cv,cn,a0,p0,r0,v0,a1,p1,r1,v1,D',jN,ci,ts,ep,e1,hr,e2⟩:=hh
 let A:aL:={bB F' ah.N ah.t 0 with k:=λn=>match n with|0=>r|1=>q.tb|2=>q.td|3=>q.te|4=>q.k1|5=>q.k2|6=>q.k3|7=>q.k4|8=>q.k5|9=>cf|10=>cn|11=>a0|12=>p0|13=>r0|14=>v0|15=>a1|16=>p1|17=>r1|18=>v1|19=>ep|n+20=>ts n,l:=λJ=>cv,o:=lk ci [D',jN]}
 refine⟨objs w.params i A,[(q.td,er w.params q),(q.te,bN w.params (two a0 a1) ts ep)],by rw [List.length_zip,hl];rfl,?_,kG A,aq hr.hr (aq hr.hq (aq hr.Df (aq hr.e0 (aq hr.e1 cB)))),A,rfl,⟨le,hr⟩,e1,?_⟩
 ·rw [e2,show(λp:Nat × (Addr × Obj)=>p.2.1)=(λp:Addr × Obj=>p.1)∘(λp:Nat × (Addr × Obj)=>p.2)from rfl,<-List.map_map,NU];rfl
 ·rw [NV];rfl
end MM
end H
section
variable{w:World}{R:aA}{F:aj}
noncomputable def DJ(n:Int)(t:Tok):Obj:={cls:= .type "slice",data:= .fields #[.none,.int n t,.none]}
theorem ri:entryFor table "list.__getitem__"=some Builtin.«list.__getitem__»:=entryFor_of_tree (by kernel_rfl)
theorem B6:entryFor table "list.__mul__"=some Builtin.«list.__mul__»:=entryFor_of_tree (by kernel_rfl)
def ju(j:Nat)(l:Addr)(vs:aV)(sl:Addr)(k:Nat)(t:Tok):az:=⟨0,λJ=> .builtin "list.__getitem__" ⟨[.ref l,.ref sl],[]⟩,λst=>[(.p (bP st.L j),.p (some (sl,DJ k t)))],λJ st=> .ok (.ret (.ref st.N)),λJ st=>⟨eO st.L st.N (aw (vs.toList.take k).toArray 0),st.G,st.N+1,st.t⟩,same⟩
theorem ju.ok{j:Nat}{l sl:Addr}{vs:aV}{n k:Nat}{t:Tok}(hl:F l=some (aw vs n))(hz:vs.size<=sizeLine):(ju j l vs sl k t).OK w R F:=λc st hc he=>by
 rw [hc];have hj:bP st.L j=some (sl,DJ k t):=cp.p.inj (aY.cons.mp he).1;intro h g dr os Rl A hA;refine codeAny_builtin ri ?_;rw [Around.under_plainId (by decide+kernel)];have UD:h.get? sl=some (DJ k t):=Rl.mem _ (List.mem_append_left _ (aJ hj));have ho:h.get? l=some (aw vs n):=Rl.fix _ _ hl;have N7:Shared.TypeIs ⟨h,g,dr,st.t,os⟩ (.ref sl) "slice":=⟨_,UD,rfl⟩
 have e:h.objs.size=st.N:=Rl.size;show wpAny _ _ (Builtin.List.listSubscript? (.ref sl)>>=_) _ _ _;refine wpAny_bind ?_;unfold Builtin.List.listSubscript?;refine wpAny_bind (wpAny_specialOf N7 slice_no_index ?_);simp only [Option.isNone_none,if_true];refine wpAny_pure ?_;show wpAny _ _ (typeOf (.ref sl)>>=_) _ _ _;refine wpAny_bind (wpAny_typeOf N7 ?_);rw [if_neg (by decide)];rw [listSliceParts_eq];refine wpAny_bind (wpAny_bind (wpAny_field UD rfl (x:= .none) rfl (wpAny_bind (wpAny_listPart .none ?_))));rw [if_neg (show¬((rawPart none==rawInt 0)=true)from Bool.false_ne_true)];refine wpAny_bind (wpAny_field UD rfl (x:= .none) rfl (wpAny_bind (wpAny_listPart .none ?_)));refine wpAny_bind (wpAny_field UD rfl (x:= .int k t) rfl (wpAny_bind (wpAny_listPart (.int (k:Int) t) (wpAny_pure ?_))));refine wpAny_bind (m:=Builtin.List.listItems (.ref l)) ?_;unfold Builtin.List.listItems;refine wpAny_bind (wpAny_seqItems ho rfl (wpAny_pure ?_));refine wpAny_bind (wpAny_of_eq (sliceIndices_raw none (some (k:Int)) none vs.size (by simp)) ?_);refine wpAny_bind (wpAny_newObj_type (wpAny_pure ?_) (Nat.le_trans (slicePick_size_le vs none (some (k:Int)) none) hz));have e2:=slicePick_upto' vs k;unfold slicePick at e2;rw [e2];show bI w R os F _ (.ok (.ret (.ref h.objs.size))) _;rw [e];exact⟨F,_,aj.le.refl F,Rl.alloc rfl,rfl,rfl,bB F 0 0 0,rfl,rfl,rfl,rfl⟩
def l9(j:Nat)(l:Addr)(vs:aV)(n:Nat):az:=⟨1,λJ=> .builtin "len" ⟨[.ref l],[]⟩,λst=>[(.p (bP st.L j),.p (some (l,aw vs n)))],λa J=> .ok (.ret (.int vs.size (a.k 0))),fz,same⟩
theorem l9.ok{j:Nat}{l:Addr}{vs:aV}{n:Nat}(hz:vs.size<=sizeLine):(l9 j l vs n).OK w R F:=λc st hc he=>by
 have hj:bP st.L j=some (l,aw vs n):=cp.p.inj (aY.cons.mp he).1;rw [hc];intro h g dr os Rl A hA;have ho:h.get? l=some (aw vs n):=Rl.mem _ (List.mem_append_left _ (aJ hj));refine codeAny_builtin entry_len ?_;rw [Around.under_plainId (by decide+kernel)];have wR:(vs.size:Int)<2^63:=by rw [sizeLine_eq]at hz;lia
 refine wpAny_mono (wpAny_len_body_list (s:=⟨h,g,dr,st.t,os⟩) (l:=l) (items:=vs) (Q:=λr s'=>bI w R os F (λr F' ah=>(l9 j l vs n).post F st r F' ah) (.ok (.ret r)) s') ⟨_,ho,rfl,n,rfl⟩ (wR) ?_) (λfin s' h'=>by obtain⟨r,rfl,hq⟩:=h';exact hq) λJ J x=>x;exact bI.pure Rl _ (az.de (h:=l9 j l vs n) (λJ=>rfl) _ _ rfl rfl)
def qP(j:Nat)(l:Addr)(v:Value)(n:Nat)(x:Int):az:=⟨0,λc=> .builtin "list.__mul__" ⟨[.ref l,.int x (cA c 1)],[]⟩,λst=>[(.p (bP st.L j),.p (some (l,aw #[v] n)))],λJ st=> .ok (.ret (.ref st.N)),λJ st=>⟨eO st.L st.N (aw (List.replicate x.toNat v).toArray 0),st.G,st.N+1,st.t⟩,same⟩
theorem xQ(v:Value)(k:Nat):List.foldl (λx1 x2=>x1++x2) #[] (List.replicate k #[v])=(List.replicate k v).toArray:=by
 have:∀(k:Nat) (a:aV),List.foldl (λx1 x2=>x1++x2) a (List.replicate k #[v])=a++(List.replicate k v).toArray:=by
  intro k;induction k with
  |zero=>intro a;simp
  |succ k ih=>intro a;rw [List.replicate_succ,List.foldl_cons,ih,List.replicate_succ];apply Array.toList_inj.mp;simp
 rw [this k #[]];simp
theorem qP.ok{j:Nat}{l:Addr}{v:Value}{n:Nat}{x:Int}(h0:0<=x)(h1:x<=1000):(qP j l v n x).OK w R F:=λc st hc he=>by
 have hj:bP st.L j=some (l,aw #[v] n):=cp.p.inj (aY.cons.mp he).1;rw [hc];refine aD.meets (by decide+kernel) B6 (AutoListH.list___mul___list_int_3 l #[v] n x _ ?_ ?_ ?_) λhh g dr os Rl A=>⟨Rl.mem _ (List.mem_append_left _ (aJ hj)),?_⟩
 ·unfold Builtin.List.listFitsIndex;simp;lia
 ·simp;lia
 ·unfold Builtin.List.listTooLong;rw [sizeLine_eq];simp;lia
 ·have e:hh.objs.size=st.N:=Rl.size;show bI w R os F _ (.ok (.ret (.ref hh.objs.size))) _;rw [e];have e2:List.foldl (λx1 x2=>x1++x2) #[] (List.replicate (if(#[v]:aV).isEmpty=true then 0 else x.toNat) #[v])=(List.replicate x.toNat v).toArray:=by rw [if_neg (by simp),xQ]
  rw [e2];exact⟨F,_,aj.le.refl F,Rl.alloc rfl,rfl,rfl,bB F 0 0 0,rfl,rfl,rfl,rfl⟩
end
section
variable{w:World}{R:aA}{F:aj}
def cM(j:Nat)(l:Addr)(f:(Nat->Nat)->aV)(x:Int)(val:Nat->Value):az:=⟨0,λc=> .builtin "list.__getitem__" ⟨[.ref l,.int x (cA c 1)],[]⟩,λst=>[(.p (bP st.L j),.p (some (l,aw (f (cF st j)) 0)))],λa J=> .ok (.ret (val (a.k 0))),fz,same⟩
theorem cM.ok{j:Nat}{l:Addr}{f:(Nat->Nat)->aV}{x:Int}{val:Nat->Value}(h0:0<=x)(h2:x<1000)(h1:∀tk,∃u,(f tk)[x.toNat]? =some (val u)):(cM j l f x val).OK w R F:=λc st hc he=>by
 rw [hc];have hj:bP st.L j=some (l,aw (f (cF st j)) 0):=cp.p.inj (aY.cons.mp he).1;intro h g dr os Rl A hA;refine codeAny_builtin ri ?_;rw [Around.under_plainId (by decide+kernel)];have ho:h.get? l=some (aw (f (cF st j)) 0):=Rl.mem _ (List.mem_append_left _ (aJ hj));show wpAny _ _ (Builtin.List.listSubscript? (.int x (cA c 1))>>=_) _ _ ⟨h,g,dr,st.t,os⟩;refine wpAny_bind (wpAny_listSubscript_int (fitsIndex_of h0 (by lia)) ?_);obtain⟨i,rfl⟩:=Int.eq_ofNat_of_zero_le h0;obtain⟨y,hx⟩:∃u,(f (cF st j))[i]? =some (val u):=by have:=h1 (cF st j);simpa using this
 show wpAny _ _ ((seqItemAt l i>>=λr=>pure (r.map (i,·)))>>=_) _ _ _;refine wpAny_bind (wpAny_bind (wpAny_seqItemAt ho rfl (wpAny_pure ?_)));rw [hx];have fin:bI w R os F (λr F' ah=>(cM j l f (i:Int) val).post F st r F' ah) (.ok (.ret (val y))) ⟨h,g,dr,st.t,os⟩:=
  ⟨F,st,aj.le.refl F,Rl,rfl,rfl,bB F 0 st.t y,rfl,rfl,rfl,rfl⟩
 first
  |exact wpAny_bind (wpAny_pure (wpAny_pure fin))
  |exact wpAny_pure fin
end
namespace H
namespace LW
noncomputable abbrev aK(v:Option Value):Obj:={cls:= .type "cell",data:= .cell v}
noncomputable def fc(N:Nat)(fr:Obj)(n f te eo ww co au att AY du na:Option Value):aA:=[(N,fr),(N+1,aK n),(N+2,aK f),(N+3,aK te),(N+4,aK eo),(N+5,aK ww),(N+6,aK co),(N+7,aK au),(N+8,aK att),(N+9,aK AY),(N+10,aK du),(N+11,aK na)]
def ev(N:Nat):PySem.Env:={sO P 1391 N with cells:=[("name",N+11),("due",N+10),("stored",N+9),("attributes",N+8),("autos",N+7),("cores",N+6),("w",N+5),("eols",N+4),("texts",N+3),("f",N+2),("n",N+1)]}
def bd:List Stmt:=mu (H.KP P 1391)
def Rq(t l:Nat):Obj:={cls:= .type "frame",data:= .dict #[d P "script" t (.ref l)] 1}
noncomputable def c(l:Addr):Code:= .call (.ref 1391) ⟨[.ref l],[]⟩
def Mo(N:Nat):Code:= .func (bd P) (ev P N)
noncomputable def mF(m:Nat->Int)(t:nN):aV:= #[.int (m 0) (t 0),.int (m 1) (t 1),.int (m 2) (t 2),.int (m 3) (t 3),.int (m 4) (t 4),.int (m 5) (t 5),.int (m 6) (t 6),.int (m 7) (t 7),.int (m 8) (t 8),.int (m 9) (t 9),.int (m 10) (t 10),.int (m 11) (t 11)]
noncomputable def nH(vs:aV):aV:=(vs.toList.take 12).toArray
noncomputable def hW(vs:aV)(t:Nat):aV:=nH vs++(List.replicate ((12:Int)-((nH vs).size:Nat)).toNat (Value.int 0 t)).toArray
theorem DU(l N t M tk e:Nat)(vs:aV):∀aa,aE (aF w 600 40 (zJ [[1],Bd,[0,0,1],Bd,[1,0,20,1,63,29,1,77,29,29,1,29,0,104,27,35,27,1,27,0,89,3,3]])
 (.hk (ju 12 l vs M 12 tk) λJ=> .hk (ju 15 l vs (M+3) 12 (tk+3)) λJ=> .hk (l9 16 (M+4) (nH vs) 0) λa=> .hk (qP 14 (M+2) (.int 0 (tk+1)) 0 ((12:Int)-((nH vs).size:Nat))) λb=> .hk (i7 13 17 (M+1) (nH vs) 0 (M+5) (List.replicate ((12:Int)-((nH vs).size:Nat)).toNat (Value.int 0 (tk+1))).toArray 0) λJ=>
 .ret (.ok .next) (bJ ([(0,(N,Rq w.params t l)),(1,(N+1,aK (some (.ref (M+6))))),(2,(N+2,aK none)),(3,(N+3,aK none)),(4,(N+4,aK none)),(5,(N+5,aK none)),(6,(N+6,aK none)),(7,(N+7,aK none)),(8,(N+8,aK none)),(9,(N+9,aK none)),(10,(N+10,aK none)),(11,(N+11,aK none))]++[(18,(M+6,aw (hW vs (tk+1)) 0))])))
 aa (LP.bD [aB (bd w.params) 0] (ev w.params N)) id ⟨fc N (Rq w.params t l) none none none none none none none none none none none,[(l,aw vs e)],M,tk⟩):=by apply bh w
noncomputable def Kc(tk:nN):aV:= #[.none,.bool true,.bool false,.bytes #[97,117,116,111] (tk 3),.bytes #[105,110,112,117,116] (tk 4)]
noncomputable def Ms(tk:nN):aV:= #[.none,.bytes #[108,102] (tk 1),.bytes #[99,114,108,102] (tk 2)]
noncomputable def J3(tk:nN):aV:= #[.str "native" (tk 0),.str "lf" (tk 1),.str "crlf" (tk 2)]
noncomputable def J7(tk:nN):aV:= #[.bytes #[102,97,108,115,101] (tk 0),.bytes #[116,114,117,101] (tk 1),.bytes #[105,110,112,117,116] (tk 2)]
def AF(t l k1 k2 r1 r2:Nat):Obj:={cls:= .type "frame",data:= .dict #[d P "script" t (.ref l),d P "rules" k1 (.ref r1),d P "filters" k2 (.ref r2)] 3}
noncomputable def xT(m:Nat->Int)(f:Nat):Int:=(m f).fmod 5
noncomputable def xE(m:Nat->Int)(f:Nat):Int:=((m f).fdiv 5).fmod 3
noncomputable def xC(m:Nat->Int)(k:Nat):Int:=(m (2+k)).fmod 3
noncomputable def xA(m:Nat->Int)(k:Nat):Int:=((m (2+k)).fdiv 3).fmod 3
noncomputable def OI(i:Nat):aU:=match i with
 |3=> #[97,117,116,111]
 |_=> #[105,110,112,117,116]
noncomputable def Qo(i:Nat):aU:=match i with
 |1=> #[108,102]
 |_=> #[99,114,108,102]
noncomputable def Qz(i:Nat):Str:=match i with
 |0=>"native"
 |1=>"lf"
 |_=>"crlf"
noncomputable def QH(i:Nat):aU:=match i with
 |0=> #[102,97,108,115,101]
 |1=> #[116,114,117,101]
 |_=> #[105,110,112,117,116]
noncomputable def tV(k i t:Nat):Value:=match k with
 |0=> .none
 |1=> .bool (Nat.beq i 1)
 |_=> .bytes (OI i) t
noncomputable def eV(k i t:Nat):Value:=match k with
 |0=> .none
 |_=> .bytes (Qo i) t
def cV(i t:Nat):Value:= .str (Qz i) t
def SG(i t:Nat):Value:= .bytes (QH i) t
def Ar(l N t nl M tk:Nat)(m:Nat->Int)(tt:nN)(k0 i0 k1 i1:Nat)(aa:RB):ax:=aF w 3000 40 (match w.params.followText f5 with|true=>(zJ [[0],nT,[1],FF,va,RV,Bi,FF,va,[1,23],RN,Bi,Hk,[7,7]])|false=>(zJ [[0],nT,[1,27,27,1,27,65,27],FF,va,RV,Bi,FF,va,[1,23],RN,Bi,Hk,[7,7]]))
 (.hk (cM 16 (M+4) Kc (xT m 0) (tV k0 i0)) λt0=> .hk (cM 17 (M+5) Kc (xT m 1) (tV k1 i1)) λt1=>
 .ret (.ok .next) (bJ ([(0,(N,Rq w.params t l)),(1,(N+1,aK (some (.ref nl)))),(2,(N+2,aK none)),(3,(N+3,aK (some (.ref (M+2))))),(4,(N+4,aK none)),(5,(N+5,aK none)),(6,(N+6,aK none)),(7,(N+7,aK none)),(8,(N+8,aK none)),(9,(N+9,aK none)),(10,(N+10,aK none)),(11,(N+11,aK none))]++[(14,(M+2,aw #[tV k0 i0 (t0.k 0),tV k1 i1 (t1.k 0)] 2))])))
 aa (LP.bD [aB (bd w.params) 1] (ev w.params N)) id ⟨fc N (Rq w.params t l) (some (.ref nl)) none none none none none none none none none none,[(nl,aw (mF m tt) 0)],M,tk⟩
theorem xN w l N t nl M tk m tt i0 i1:∀aa,aE (Ar w l N t nl M tk m tt 0 i0 0 i1 aa):=by apply kj w
theorem xM w l N t nl M tk m tt i0 i1:∀aa,aE (Ar w l N t nl M tk m tt 0 i0 1 i1 aa):=by apply kj w
theorem xK w l N t nl M tk m tt i0 i1:∀aa,aE (Ar w l N t nl M tk m tt 0 i0 2 i1 aa):=by apply kj w
theorem xJ w l N t nl M tk m tt i0 i1:∀aa,aE (Ar w l N t nl M tk m tt 1 i0 0 i1 aa):=by apply kj w
theorem xI w l N t nl M tk m tt i0 i1:∀aa,aE (Ar w l N t nl M tk m tt 1 i0 1 i1 aa):=by apply kj w
theorem xH w l N t nl M tk m tt i0 i1:∀aa,aE (Ar w l N t nl M tk m tt 1 i0 2 i1 aa):=by apply kj w
theorem xG w l N t nl M tk m tt i0 i1:∀aa,aE (Ar w l N t nl M tk m tt 2 i0 0 i1 aa):=by apply kj w
theorem xF w l N t nl M tk m tt i0 i1:∀aa,aE (Ar w l N t nl M tk m tt 2 i0 1 i1 aa):=by apply kj w
theorem xD w l N t nl M tk m tt i0 i1:∀aa,aE (Ar w l N t nl M tk m tt 2 i0 2 i1 aa):=by apply kj w
def GV(l N t nl M tk tx:Nat)(m:Nat->Int)(tt:nN)(k0 i0 k1 i1:Nat)(aa:RB):ax:=aF w 3000 40 (match w.params.followText f5 with|true=>(zJ [[0],nT,[1],FF,va,[1,52],RV,Bi,FF,va,[1,52,1,23],RN,Bi,Hk,[9,9]])|false=>(zJ [[0],nT,[1,27,27,1,27,65,27],FF,va,[1,52],RV,Bi,FF,va,[1,52,1,23],RN,Bi,Hk,[9,9]]))
 (.hk (cM 16 (M+4) Ms (xE m 0) (eV k0 i0)) λt0=> .hk (cM 17 (M+5) Ms (xE m 1) (eV k1 i1)) λt1=>
 .ret (.ok .next) (bJ ([(0,(N,Rq w.params t l)),(1,(N+1,aK (some (.ref nl)))),(2,(N+2,aK none)),(3,(N+3,aK (some (.ref tx)))),(4,(N+4,aK (some (.ref (M+2))))),(5,(N+5,aK none)),(6,(N+6,aK none)),(7,(N+7,aK none)),(8,(N+8,aK none)),(9,(N+9,aK none)),(10,(N+10,aK none)),(11,(N+11,aK none))]++[(14,(M+2,aw #[eV k0 i0 (t0.k 0),eV k1 i1 (t1.k 0)] 2))])))
 aa (LP.bD [aB (bd w.params) 2] (ev w.params N)) id ⟨fc N (Rq w.params t l) (some (.ref nl)) none (some (.ref tx)) none none none none none none none none,[(nl,aw (mF m tt) 0)],M,tk⟩
theorem xB w l N t nl M tk tx m tt i0 i1:∀aa,aE (GV w l N t nl M tk tx m tt 0 i0 0 i1 aa):=by apply kj w
theorem xy w l N t nl M tk tx m tt i0 i1:∀aa,aE (GV w l N t nl M tk tx m tt 0 i0 1 i1 aa):=by apply kj w
theorem xx w l N t nl M tk tx m tt i0 i1:∀aa,aE (GV w l N t nl M tk tx m tt 1 i0 0 i1 aa):=by apply kj w
theorem xw w l N t nl M tk tx m tt i0 i1:∀aa,aE (GV w l N t nl M tk tx m tt 1 i0 1 i1 aa):=by apply kj w
theorem DQ(l N t nl M tk tx eo:Nat)(m:Nat->Int)(tt:nN)(c0 c1 c2 a0 a1 a2:Nat):∀aa,aE (aF w 6000 40 (match w.params.followText f5 with|true=>(zJ [[0],nT,[1],FF,[1,26],va,RV,Bi,FF,[1,26],va,[1,23],RN,Bi,FF,[1,26],va,[1,23,37,37,37,1,37],Bi,Su,[1],vS,[22],vS,[42,43,43,43,45,1],vV,va,[1,52,1,23,51,51,51,1,51],Ba,vV,va,[1,52,1,23,53],RJ,Ba,vV,va,[1,52,1,23,55,55,55,1,55],Ba,[1,45,1,45,19,45,45,45,59,49,49,49,15,15],t9])|false=>(zJ [[0],nT,[1,27,27,1,27,65,27],FF,[1,26],va,RV,Bi,FF,[1,26],va,[1,23],RN,Bi,FF,[1,26],va,[1,23,37,37,37,1,37],Bi,Su,[1],vS,[22],vS,[42,43,43,43,45,1,45,45,1,45,65,45],vV,va,[1,52,1,23,51,51,51,1,51],Ba,vV,va,[1,52,1,23,53],RJ,Ba,vV,va,[1,52,1,23,55,55,55,1,55],Ba,[1,45,1,45,19,45,45,45,59,49,49,49,15,15],t9]))
 (.hk (cM 16 (M+4) J3 (xC m 0) (cV c0)) λb0=> .hk (cM 17 (M+5) J3 (xC m 1) (cV c1)) λb1=> .hk (cM 18 (M+6) J3 (xC m 2) (cV c2)) λb2=> .hk (cM 25 (M+13) J7 (xA m 0) (SG a0)) λb3=> .hk (cM 26 (M+14) J7 (xA m 1) (SG a1)) λb4=> .hk (cM 27 (M+15) J7 (xA m 2) (SG a2)) λb5=>
 .ret (.ok .next) λst=>bJ ([(0,(N,AF w.params t l (dA st 0 1) (dA st 0 2) (M+18) (M+19))),(1,(N+1,aK (some (.ref nl)))),(2,(N+2,aK none)),(3,(N+3,aK (some (.ref tx)))),(4,(N+4,aK (some (.ref eo)))),(5,(N+5,aK none)),(6,(N+6,aK (some (.ref (M+2))))),(7,(N+7,aK (some (.ref (M+11))))),(8,(N+8,aK none)),(9,(N+9,aK none)),(10,(N+10,aK none)),(11,(N+11,aK none)),(30,(M+18,aw #[] 0)),(31,(M+19,aw #[] 0))]++
  [(14,(M+2,aw #[cV c0 (b0.k 0),cV c1 (b1.k 0),cV c2 (b2.k 0)] 3)),(23,(M+11,aw #[SG a0 (b3.k 0),SG a1 (b4.k 0),SG a2 (b5.k 0)] 3))]) st)
 aa (LP.bD [aB (bd w.params) 3,aB (bd w.params) 4,aB (bd w.params) 5,aB (bd w.params) 6] (ev w.params N)) id ⟨fc N (Rq w.params t l) (some (.ref nl)) none (some (.ref tx)) (some (.ref eo)) none none none none none none none,[(nl,aw (mF m tt) 0)],M,tk⟩):=by apply kj w
end LW
end H
section
variable{w:World}{R:aA}{F:aj}
theorem aD.NK{st:aZ}{aX:Nat}{c:Code}{ai mL:Result->aj->aZ->Prop}(h:aD w R F st aX c ai)(hp:∀r F' ah,F.le F'->ai r F' ah->mL r F' ah):aD w R F st aX c mL:=λhh g dr os Rl=>
 (h hh g dr os Rl).aT λr s' hh=>by obtain⟨F',ah,hl,cu,ht,ho,kJ⟩:=hh;exact⟨F',ah,hl,cu,ht,ho,hp _ _ _ hl kJ⟩
def aP(l:Addr)(x:Int)(v:Value):az:=⟨0,λc=> .builtin "list.__getitem__" ⟨[.ref l,.int x (cA c 1)],[]⟩,λJ=>[],λJ J=> .ok (.ret v),λJ st=>st,same⟩
theorem aP.ok{l:Addr}{x:Int}{v:Value}{vs:aV}{n:Nat}(hl:F l=some (aw vs n))(h0:0<=x)(h2:x<1000)(h1:vs[x.toNat]? =some v):(aP l x v).OK w R F:=λc st hc he=>by
 rw [hc];intro h g dr os Rl A hA;refine codeAny_builtin ri ?_;rw [Around.under_plainId (by decide+kernel)];have ho:h.get? l=some (aw vs n):=Rl.fix _ _ hl;show wpAny _ _ (Builtin.List.listSubscript? (.int x (cA c 1))>>=_) _ _ ⟨h,g,dr,st.t,os⟩;refine wpAny_bind (wpAny_listSubscript_int (fitsIndex_of h0 (by lia)) ?_);obtain⟨i,rfl⟩:=Int.eq_ofNat_of_zero_le h0;have hx:vs[i]? =some v:=by simpa using h1
 show wpAny _ _ ((seqItemAt l i>>=λr=>pure (r.map (i,·)))>>=_) _ _ _;refine wpAny_bind (wpAny_bind (wpAny_seqItemAt ho rfl (wpAny_pure ?_)));rw [hx];have fin:bI w R os F (λr F' ah=>(aP l (i:Int) v).post F st r F' ah) (.ok (.ret v)) ⟨h,g,dr,st.t,os⟩:=⟨F,st,aj.le.refl F,Rl,rfl,rfl,bB F 0 0 0,rfl,rfl,rfl,rfl⟩
 first
  |exact wpAny_bind (wpAny_pure (wpAny_pure fin))
  |exact wpAny_pure fin
end
namespace H
namespace LW
noncomputable def Ac(a:Nat):Str:=match a with
 |0=>"binary"
 |1=>"text-input"
 |2=>"text-crlf"
 |3=>"auto-input"
 |_=>"auto-crlf"
noncomputable def Ab(a:Nat):Nat:=match a with
 |0=>470
 |1=>474
 |2=>476
 |3=>480
 |_=>482
theorem vD(a:Nat):cL a= .str (Ac a) (Ab a):=by
 match a with
 |0=>rfl
 |1=>rfl
 |2=>rfl
 |3=>rfl
 |n+4=>rfl
theorem sX:∀k t,k<3->bc k t=cV k t:=λk t h=>Tn k h rfl rfl rfl
theorem tj:∀k t,k<3->GG k t=SG k t:=λk t h=>Tn k h rfl rfl rfl
noncomputable def kT(i:Nat):Nat:=match i with
 |0=>0
 |1=>1
 |2=>1
 |_=>2
noncomputable def kE(j:Nat):Nat:=match j with
 |0=>0
 |_=>1
theorem CY(i:Nat):kT i<3:=by rcases i with _|_|_|i<;>exact Nat.le_of_ble_eq_true rfl
theorem CZ(i:Nat):kE i<2:=by rcases i with _|i<;>exact Nat.le_of_ble_eq_true rfl
theorem textV_eq:∀i t,i<5->textV i t=tV (kT i) i t:=λi t h=>Uo i h rfl rfl rfl rfl rfl
theorem B3:∀i t,i<3->dH i t=eV (kE i) i t:=λi t h=>Tn i h rfl rfl rfl
def mJ(w:World)(n:Nat)(a:Addr)(D:Obj)(k ct l t dR:Nat):az:=eP 6 n (a,D) (λJ=> .call (.ref 244) ⟨[.ref a,cV k ct,SG l t],[]⟩) (λJ=> .ok (.ret (.str (Ac dR) (Ab dR)))) same
theorem mJ.ok{w:World}{R:aA}{F:aj}{n:Nat}{a:Addr}{i j l k tt te:Nat}{ts:nN}{ep ct t:Nat}{D:Obj}(hD:D=bN w.params (attrs i j tt te) ts ep)(hi:i<5)(hj:j<3)(hl:l<3)(hk:k<3):(mJ w n a D k ct l t (dR i j l k)).OK w R F:=λc st hc he=>by
 subst hD;refine(lY.ok (R:=R) (F:=F) (n:=n) (a:=a) (ts:=ts) (ep:=ep) (tt:=tt) (te:=te) hi hj hl hk c st ?_ he).aT λr F' ah hh=>by obtain⟨b,e1,e2,e3,e4⟩:=hh;exact⟨b,e1,e2,by rw [e3];show(Except.ok (.ret (cL _)):Result)=_;rw [vD];rfl,e4⟩
 rw [hc];show Code.call (.ref 244) ⟨[.ref a,cV k ct,SG l t],[]⟩= .call (.ref 244) ⟨[.ref a,bc k ct,GG l t],[]⟩;rw [sX k ct hk,tj l t hl]
noncomputable def qT(a:Nat):az:=aW 7 (λJ=> .call (.ref 252) ⟨[.str (Ac a) (Ab a)],[]⟩) (λJ=> .ok (.ret .none)) λF b=>b.F=F/\a=0
noncomputable def qS(a:Nat):az:=aW 7 (λJ=> .call (.ref 252) ⟨[.str (Ac a) (Ab a)],[]⟩) (λb=> .ok (.ret (.ref (b.k 0)))) λF b=>F.le b.F/\a≠0/\bW w b.F (b.k 0) (a==2||a==4) (a==3||a==4)
theorem zp.ok{w:World}{R:aA}{F:aj}{a:Nat}(h5:a<5):(qT a).Dt w R F (qS w a):=λc st hc he=>by
 by_cases h0:a=0
 ·subst h0;refine((mf.ok (R:=R) (F:=F) c st hc he).le (show 6<=7 by decide)).aT λr F' ah hh=>by obtain⟨b,e1,e2,e3,e4⟩:=hh;exact .inl ⟨b,e1,⟨e2,rfl⟩,e3,e4⟩
 ·refine aD.NK (k7.ok (R:=R) (F:=F) h0 h5 c st (by rw [hc];show Code.call (.ref 252) ⟨[.str (Ac a) (Ab a)],[]⟩= .call (.ref 252) ⟨[cL a],[]⟩;rw [vD]) he) λr F' ah le hh=>by obtain⟨b,e1,e2,e3,e4⟩:=hh;exact .inr ⟨b,e1,⟨by rw [e1];exact le,h0,e2⟩,e3,e4⟩
noncomputable def sE(kt it ut ke ie ue k ct l t:Nat)(b0 b1 b2:Bool):az:=aW 6 (λJ=> .call (.ref 1348) ⟨[tV kt it ut,eV ke ie ue,cV k ct,SG l t],[]⟩) (λb=> .ok (.ret (.ref (b.k 0)))) λF b=>F.le b.F/\b.F (b.k 0)=some (gP b0 b1 b2)
theorem sE.ok{w:World}{R:aA}{F:aj}{i ut j ue k ct l t:Nat}(hi:i<5)(hj:j<3)(hl:l<3)(hk:k<3):(sE (kT i) i ut (kE j) j ue k ct l t (conv i j l k) (bq i j l k) (Oq i j l k)).OK w R F:=λc st hc he=>by
 refine aD.NK (uv.ok (R:=R) (F:=F) (i:=i) (j:=j) (l:=l) (k:=k) hi hj hl hk c st ?_ he) λr F' ah le hh=>by obtain⟨b,e1,e2,e3,e4⟩:=hh;exact⟨b,e1,⟨by rw [e1];exact le,e2⟩,e3,e4⟩
 rw [hc];have h1:textV i (jO (tV (kT i) i ut))=tV (kT i) i ut:=by exact Uo i hi rfl rfl rfl rfl rfl
 have h2:dH j (jO (eV (kE j) j ue))=eV (kE j) j ue:=by exact Tn j hj rfl rfl rfl
 show Code.call (.ref 1348) ⟨[tV (kT i) i ut,eV (kE j) j ue,cV k ct,SG l t],[]⟩= .call (.ref 1348) ⟨[textV i (jO (tV (kT i) i ut)),dH j (jO (eV (kE j) j ue)),bc k ct,GG l t],[]⟩;rw [h1,h2,sX k ct hk,tj l t hl]
noncomputable def dz:Nat->aA->List (Nat × (Addr × Obj))
 |_,[]=>[]
 |n,p::l=>(n,p)::dz (n+1) l
structure FI where
 l:Nat
 N:Nat
 t:Nat
 k1:Nat
 k2:Nat
 nl:Nat
 tx:Nat
 eo:Nat
 co:Nat
 au:Nat
 ru:Nat
 fi:Nat
 f:Int
 ft:Nat
def Qm(i:FI)(att:Option Value):aA:=fc i.N (AF P i.t i.l i.k1 i.k2 i.ru i.fi) (some (.ref i.nl)) (some (.int i.f i.ft)) (some (.ref i.tx)) (some (.ref i.eo)) none (some (.ref i.co)) (some (.ref i.au)) att none none none
def lF(i:FI)(att:Option Value)(rv:aV)(rn:Nat)(fv:aV)(fn:Nat)(X:aA):aA:=Qm P i att++([(i.ru,aw rv rn),(i.fi,aw fv fn)]++X)
def fb(k:Nat):List Stmt:=[aB (iq (aB (bd P) 7)) k]
theorem DF(i:FI)(att:Option Value)(rv:aV)(rn:Nat)(fv:aV)(fn M tk:Nat):∀aa,aE (aF w 200 38 [17,17] (.ret (.ok .next) (bH (lF w.params i (some (.ref M)) rv rn fv fn [(M,bA)]) [] (M+1) tk)) aa (LP.bD (fb w.params 0) (ev w.params i.N)) id ⟨lF w.params i att rv rn fv fn [],[],M,tk⟩):=by apply bh w
def Ki(i:FI)(k it u:Nat)(xv:aV)(rv:aV)(rn:Nat)(fv:aV)(fn ad M tk:Nat)(aa:RB):ax:=aF w 400 38 (match k with|0=>(zJ [[7,5],Bd])|_=>(zJ [[7,5],Bd,[7,5],Bd,[17,29,29,1,29,0,26]]))
 (.hk (aP i.tx i.f (tV k it u)) λJ=>match k with
  |0=> .ret (.ok .next) λst=>[(.l st.L,.l (lF w.params i (some (.ref ad)) rv rn fv fn [(ad,bA)]))]
  |_=> .hk (aP i.tx i.f (tV k it u)) λJ=> .hk (bw w 14 ad [] (λJ=>0) 0 Q4 (tV k it u)) λb=> .ret (.ok .next) λst=>[(.l st.L,.l (lF w.params i (some (.ref ad)) rv rn fv fn [(ad,bN w.params [(Q4,tV k it u)] (λn=>b.k (n+1)) (b.k 0))]))])
 aa (LP.bD (fb w.params 1) (ev w.params i.N)) id ⟨lF w.params i (some (.ref ad)) rv rn fv fn [(ad,bA)],[(i.tx,aw xv 2)],M,tk⟩
theorem AU w i it u xv rv rn fv fn ad M tk:∀aa,aE (Ki w i 0 it u xv rv rn fv fn ad M tk aa):=by apply bh w
theorem uY w i it u xv rv rn fv fn ad M tk:∀aa,aE (Ki w i 1 it u xv rv rn fv fn ad M tk aa):=by apply bh w
theorem uX w i it u xv rv rn fv fn ad M tk:∀aa,aE (Ki w i 2 it u xv rv rn fv fn ad M tk aa):=by apply bh w
def Nd(i:FI)(k it u:Nat)(xv:aV)(rv:aV)(rn:Nat)(fv:aV)(fn ad M tk:Nat)(la:cK)(ts:nN)(ep:Nat)(aa:RB):ax:=aF w 400 38 (match k with|0=>(zJ [[9,5],Bd])|_=>(zJ [[9,5],Bd,[9,5],Bd,[17,29,29,1,29,0,26]]))
 (.hk (aP i.eo i.f (eV k it u)) λJ=>match k with
  |0=> .ret (.ok .next) λst=>[(.l st.L,.l (lF w.params i (some (.ref ad)) rv rn fv fn [(ad,bN w.params la ts ep)]))]
  |_=> .hk (aP i.eo i.f (eV k it u)) λJ=> .hk (bw w 14 ad la ts ep i5 (eV k it u)) λb=> .ret (.ok .next) λst=>[(.l st.L,.l (lF w.params i (some (.ref ad)) rv rn fv fn [(ad,bN w.params (put la i5 (eV k it u)) (λn=>b.k (n+1)) (b.k 0))]))])
 aa (LP.bD (fb w.params 2) (ev w.params i.N)) id ⟨lF w.params i (some (.ref ad)) rv rn fv fn [(ad,bN w.params la ts ep)],[(i.eo,aw xv 2)],M,tk⟩
theorem AS w i it u xv rv rn fv fn ad M tk la ts ep:∀aa,aE (Nd w i 0 it u xv rv rn fv fn ad M tk la ts ep aa):=by apply bh w
theorem AR w i it u xv rv rn fv fn ad M tk la ts ep:∀aa,aE (Nd w i 1 it u xv rv rn fv fn ad M tk la ts ep aa):=by apply bh w
structure CA where
 c0:Nat
 c1:Nat
 c2:Nat
 a0:Nat
 a1:Nat
 a2:Nat
 u0:Nat
 u1:Nat
 u2:Nat
 v0:Nat
 v1:Nat
 v2:Nat
noncomputable def zS(q:CA):Obj:=aw #[cV q.c0 q.u0,cV q.c1 q.u1,cV q.c2 q.u2] 3
noncomputable def z9(q:CA):Obj:=aw #[SG q.a0 q.v0,SG q.a1 q.v1,SG q.a2 q.v2] 3
def DE(i:FI)(q:CA)(k it u k' ie u':Nat)(b:Nat->Nat->Bool)(xv yv rv:aV)(rn:Nat)(fv:aV)(fn ad M tk:Nat)(D:Obj)(aa:RB):ax:=aF w 3000 38 (match w.params.followText f5 with|true=>(zJ [[1,25,25,25,25,0],Ho,[1,1,33,1],jo,[1,33,1],jo,[1,33,1],jo,Sr,[1,25,0,5]])|false=>(zJ [[1,25,25,25,25,0],Ho,[1,33,33,1,33,65,33,1,33,1],jo,[1,33,1],jo,[1,33,1],jo,Sr,[1,25,0,5]]))
 (.hk (aP i.tx i.f (tV k it u)) λJ=> .hk (aP i.eo i.f (eV k' ie u')) λJ=> .hk (sE k it u k' ie u' q.c0 q.u0 q.a0 q.v0 (b 0 0) (b 0 1) (b 0 2)) λr0=>
 .hk (aP i.tx i.f (tV k it u)) λJ=> .hk (aP i.eo i.f (eV k' ie u')) λJ=> .hk (sE k it u k' ie u' q.c1 q.u1 q.a1 q.v1 (b 1 0) (b 1 1) (b 1 2)) λr1=>
 .hk (aP i.tx i.f (tV k it u)) λJ=> .hk (aP i.eo i.f (eV k' ie u')) λJ=> .hk (sE k it u k' ie u' q.c2 q.u2 q.a2 q.v2 (b 2 0) (b 2 1) (b 2 2)) λr2=>
 .hk (br 12 i.ru rv rn (.ref (M+2))) λa=> .ret (.ok .next) (bJ (dz 0 (lF w.params i (some (.ref ad)) (rv.push (.ref (M+2))) (a.k 0) fv fn [(ad,D)])++[(17,(M+2,aw #[.ref (r0.k 0),.ref (r1.k 0),.ref (r2.k 0)] 3))])))
 aa (LP.bD (fb w.params 3) (ev w.params i.N)) id ⟨lF w.params i (some (.ref ad)) rv rn fv fn [(ad,D)],[(i.tx,aw xv 2),(i.eo,aw yv 2),(i.co,zS q),(i.au,z9 q)],M,tk⟩
theorem xf w i q it u ie u' b xv yv rv rn fv fn ad M tk D:∀aa,aE (DE w i q 0 it u 0 ie u' b xv yv rv rn fv fn ad M tk D aa):=by apply kj w
theorem xe w i q it u ie u' b xv yv rv rn fv fn ad M tk D:∀aa,aE (DE w i q 0 it u 1 ie u' b xv yv rv rn fv fn ad M tk D aa):=by apply kj w
theorem xd w i q it u ie u' b xv yv rv rn fv fn ad M tk D:∀aa,aE (DE w i q 1 it u 0 ie u' b xv yv rv rn fv fn ad M tk D aa):=by apply kj w
theorem xc w i q it u ie u' b xv yv rv rn fv fn ad M tk D:∀aa,aE (DE w i q 1 it u 1 ie u' b xv yv rv rn fv fn ad M tk D aa):=by apply kj w
theorem xa w i q it u ie u' b xv yv rv rn fv fn ad M tk D:∀aa,aE (DE w i q 2 it u 0 ie u' b xv yv rv rn fv fn ad M tk D aa):=by apply kj w
theorem w9 w i q it u ie u' b xv yv rv rn fv fn ad M tk D:∀aa,aE (DE w i q 2 it u 1 ie u' b xv yv rv rn fv fn ad M tk D aa):=by apply kj w
def IM(i:FI)(rv:aV)(rn:Nat)(fv:aV)(fn ad M:Nat)(D:Obj)(x y z:Value):bE:= .hk (br 13 i.fi fv fn (.ref (M+2))) λa=> .ret (.ok .next) (bJ (dz 0 (lF w.params i (some (.ref ad)) rv rn (fv.push (.ref (M+2))) (a.k 0) [(ad,D)])++[(17,(M+2,aw #[x,y,z] 3))]))
noncomputable def IU:List Nat:=(zJ [[1,35,9,35,35,35,1],Hn,va,[15,37],RG,[7,4],vX])
noncomputable def IS:List Nat:=(zJ [[1,35,9,35,35,35,1],Hn,va,[15,37],RG,[7,4],vX])
noncomputable def IQ:List Nat:=(zJ [[1,35,9,35,35,35],Sr,[1,27,0,5]])
noncomputable def Mr(a:Nat)(k:Value->bE):bE:= .two (qT a) (qS w a) IQ (λJ=>k .none) IQ λb=>k (.ref (b.k 0))
def Kg(i:FI)(q:CA)(ac:nN)(rv:aV)(rn:Nat)(fv:aV)(fn ad M:Nat)(D:Obj)(x y:Value):bE:= .hk (mJ w 14 ad D q.c2 q.u2 q.a2 q.v2 (ac 2)) λJ=>Mr w (ac 2) λz=>IM w i rv rn fv fn ad M D x y z
def Kh(i:FI)(q:CA)(ac:nN)(rv:aV)(rn:Nat)(fv:aV)(fn ad M:Nat)(D:Obj)(x:Value):bE:= .hk (mJ w 14 ad D q.c1 q.u1 q.a1 q.v1 (ac 1)) λJ=> .two (qT (ac 1)) (qS w (ac 1)) IS (λJ=>Kg w i q ac rv rn fv fn ad M D x .none) IS λb=>Kg w i q ac rv rn fv fn ad M D x (.ref (b.k 0))
theorem DD(i:FI)(q:CA)(ac:nN)(rv:aV)(rn:Nat)(fv:aV)(fn ad M tk:Nat)(D:Obj):∀aa,aE (aF w 3000 38 (match w.params.followText f5 with|true=>(zJ [[1,27,27,27,27,0],Ho,[1,1],Hn,va,[15,37],RG,[7,4],vX])|false=>(zJ [[1,27,27,27,27,0],Ho,[1,33,33,1,33,65,33,1],Hn,va,[15,37],RG,[7,4],vX]))
 (.hk (mJ w 14 ad D q.c0 q.u0 q.a0 q.v0 (ac 0)) λJ=> .two (qT (ac 0)) (qS w (ac 0)) IU (λJ=>Kh w i q ac rv rn fv fn ad M D .none) IU λb=>Kh w i q ac rv rn fv fn ad M D (.ref (b.k 0)))
 aa (LP.bD (fb w.params 4) (ev w.params i.N)) id ⟨lF w.params i (some (.ref ad)) rv rn fv fn [(ad,D)],[(i.co,zS q),(i.au,z9 q)],M,tk⟩):=by apply kj w
end LW
end H
section
variable{w:World}{R:aA}{F:aj}{st:aZ}{aX:Nat}{α:Type}
theorem ab.frame{t:Sem α}{P P1:α->aj->aZ->Prop}{L1 L2 G1:aA}(hp:st.L.Perm (L1++L2))(hg:∀p∈G1,F p.1=some p.2)(h:ab w (L2++R) F ⟨L1,G1,st.N,st.t⟩ aX t P1)
  (back:∀a F' bU,F.le F'->P1 a F' bU->∃L',(bU.L++L2).Perm L'/\P a F' ⟨L',st.G,bU.N,bU.t⟩):ab w R F st aX t P:= .mk λA hA hh g dr os Rl=>by
 have BK:(st.L++R).Perm (L1++(L2++R)):=by rw [<-List.append_assoc];exact hp.append_right R
 have R1:=Rl.r9 BK;refine wpAny_mono (h.wM A hA hh g dr os ⟨R1.size,R1.mem,R1.nd,R1.old,R1.gO,R1.fix,hg⟩) (λa s'=> ?_) λJ J x=>x;rintro⟨F',bU,hl,cu,ht,ho,kJ⟩;obtain⟨L',hL,hP⟩:=back a F' bU hl kJ;have Mi:(bU.L++(L2++R)).Perm (L'++R):=by rw [<-List.append_assoc];exact hL.append_right R
 have R2:=cu.r9 Mi;exact⟨F',⟨L',st.G,bU.N,bU.t⟩,hl,⟨R2.size,R2.mem,R2.nd,R2.old,R2.gO,R2.fix,λp hp=>hl _ _ (Rl.gs p hp)⟩,ht,ho,hP⟩
theorem ab.cj{t:Sem α}{P:α->aj->aZ->Prop}{G1 L:aA}(e:st.L=L)(hg:∀p∈G1,F p.1=some p.2)(h:ab w R F ⟨L,G1,st.N,st.t⟩ aX t P):ab w R F st aX t P:= .mk λA hA hh g dr os Rl=>
 (e▸h:ab w R F ⟨st.L,G1,st.N,st.t⟩ aX t P).wM A hA hh g dr os ⟨Rl.size,Rl.mem,Rl.nd,Rl.old,Rl.gO,Rl.fix,hg⟩
end
theorem VC.all{w:World}{R:aA}{F:aj}{L':aA}{ai:Result->aj->aZ->Prop}{r:Result}(h:∀N' t',ai r F ⟨L',[],N',t'⟩):
  VC w R ai F (.ret r λst=>[(.l st.L,.l L')]):=λhh st Rl e=>by
 have:=cp.l.inj (aY.cons.mp e).1;refine⟨F,⟨L',[],st.N,st.t⟩,aj.le.refl F,?_,rfl,h _ _⟩;rw [<-this];exact⟨Rl.size,Rl.mem,Rl.nd,Rl.old,Rl.gO,Rl.fix,λp hp=>by cases hp⟩
namespace H
namespace LW
theorem cw:∀(l:aA) (n:Nat),(dz n l).map (·.2)=l
 |[],_=>rfl
 |p::l,n=>by show p::(dz (n+1) l).map (·.2)=_;rw [cw l (n+1)]
def my(F:aj)(a:Nat)(x:Value):Prop:=(a=0/\x= .none)\/(a≠0/\∃p,x= .ref p/\bW w F p (a==2||a==4) (a==3||a==4))
theorem bW.up{w:World}{F F':aj}(l:F.le F'){p:Addr}{a b:Bool}(h:bW w F p a b):bW w F' p a b:=by obtain⟨x,y,h1,h2⟩:=h;exact⟨x,y,l _ _ h1,l _ _ h2⟩
theorem my.le{w:World}{F F':aj}(l:F.le F'){a:Nat}{x:Value}(h:my w F a x):my w F' a x:=h.elim .inl λhh=>by obtain⟨h0,p,e,g⟩:=hh;exact .inr ⟨h0,p,e,bW.up l g⟩
def iJ(F:aj)(ti ei:Nat)(q:CA)(r:Addr):Prop:=LV λr0 r1 r2=>F r=some (aw #[.ref r0,.ref r1,.ref r2] 3)/\F r0=some (gP (conv ti ei q.a0 q.c0) (bq ti ei q.a0 q.c0) (Oq ti ei q.a0 q.c0))/\F r1=some (gP (conv ti ei q.a1 q.c1) (bq ti ei q.a1 q.c1) (Oq ti ei q.a1 q.c1))/\F r2=some (gP (conv ti ei q.a2 q.c2) (bq ti ei q.a2 q.c2) (Oq ti ei q.a2 q.c2))
theorem iJ.le{F F':aj}(l:F.le F'){ti ei:Nat}{q:CA}{r:Addr}(h:iJ F ti ei q r):iJ F' ti ei q r:=by obtain⟨a,b,c,h1,h2,h3,h4⟩:=h;exact⟨a,b,c,l _ _ h1,l _ _ h2,l _ _ h3,l _ _ h4⟩
def hK(F:aj)(ti ei:Nat)(q:CA)(r:Addr):Prop:=LV λx y z=>F r=some (aw #[x,y,z] 3)/\my w F (dR ti ei q.a0 q.c0) x/\my w F (dR ti ei q.a1 q.c1) y/\my w F (dR ti ei q.a2 q.c2) z
theorem hK.le{w:World}{F F':aj}(l:F.le F'){ti ei:Nat}{q:CA}{r:Addr}(h:hK w F ti ei q r):hK w F' ti ei q r:=by obtain⟨a,b,c,h1,h2,h3,h4⟩:=h;exact⟨a,b,c,l _ _ h1,h2.le l,h3.le l,h4.le l⟩
structure CA.Ok(q:CA):Prop where
 c0:q.c0<3
 c1:q.c1<3
 c2:q.c2<3
 a0:q.a0<3
 a1:q.a1<3
 a2:q.a2<3
section
variable{w:World}{R:aA}{F:aj}{i:FI}{q:CA}{ti ei u u':Nat}{xv yv rv fv:aV}{rn fn M tk:Nat}
abbrev T7(F:aj)(w:World)(i:FI)(rv:aV)(rn:Nat)(fv:aV)(fn ti ei u u':Nat):Flow->aj->aZ->Prop:=λfl F' ah=>fl= .next/\F'=F/\LV λad ts ep=>ah.L=lF w.params i (some (.ref ad)) rv rn fv fn [(ad,bN w.params (attrs ti ei u u') ts ep)]
theorem UK{u u':Nat}(ti:Nat):(if ti=0 then []else [(Q4,textV ti u)])=attrs ti 0 u u':=by cases ti<;>rfl
theorem attrsN{u u':Nat}(ti ei:Nat)(h:ei≠0):(if ti=0 then []else [(Q4,textV ti u)])++[(i5,dH ei u')]=attrs ti ei u u':=by
 cases ei with
 |zero=>exact absurd rfl h
 |succ e=>cases ti<;>rfl
theorem Je(att:Option Value)(oY:0<=i.f)(mU:i.f<1000)(sx:ti<5)(sG:ei<3)(hx:F i.tx=some (aw xv 2))(hy:F i.eo=some (aw yv 2))(gx:xv[i.f.toNat]? =some (tV (kT ti) ti u))(gy:yv[i.f.toNat]? =some (eV (kE ei) ei u')):
  ab w R F ⟨lF w.params i att rv rn fv fn [],[],M,tk⟩ 38 (PySem.execs (fb w.params 0++(fb w.params 1++fb w.params 2)) (ev w.params i.N)) (T7 F w i rv rn fv fn ti ei u u'):=by
 refine ab.seq ((ab.eq (LP.aH _ _) (ab.exact (d:=38) nr (DF w i att rv rn fv fn M tk))).aT λfl F0 Aq J hh=> ?_);obtain⟨e1,e2,e3⟩:=hh;refine⟨e1,?_⟩;rw [e2,e3];refine ab.cj rfl (aq hx cB) ?_;have AB:∃la:cK,la=(if ti=0 then []else [(Q4,textV ti u)])/\ab w R F ⟨lF w.params i (some (.ref M)) rv rn fv fn [(M,bA)],[(i.tx,aw xv 2)],M+1,tk⟩ 38 (PySem.execs (fb w.params 1) (ev w.params i.N)) λfl F' ah=>fl= .next/\F'=F/\∃ts ep,ah.L=lF w.params i (some (.ref M)) rv rn fv fn [(M,bN w.params la ts ep)]:=by
  refine⟨_,rfl,ab.eq (LP.aH _ _) ?_⟩;have e:textV ti u=tV (kT ti) ti u:=textV_eq ti u sx;revert gx e;refine Uo ti sx ?_ ?_ ?_ ?_ ?_<;>intro gx e
  ·exact ab.rN (d:=38) (AU w i 0 u xv rv rn fv fn M (M+1) tk) ⟨aP.ok hx oY mU gx,λa J hf=>by rw [show a.F=F from hf];exact VC.all λN' t'=>⟨rfl,rfl,λJ=>0,0,rfl⟩⟩
  ·exact ab.rN (d:=38) (uY w i 1 u xv rv rn fv fn M (M+1) tk) ⟨aP.ok hx oY mU gx,λa J hf=>by rw [show a.F=F from hf];exact⟨aP.ok hx oY mU gx,λa J hf=>by rw [show a.F=F from hf];exact⟨bw.ok List.nodup_nil (by rw [sizeLine_eq];decide),λa J hf=>by rw [show a.F=F from hf];exact VC.all λN' t'=>⟨rfl,rfl,_,_,rfl⟩⟩⟩⟩
  ·exact ab.rN (d:=38) (uY w i 2 u xv rv rn fv fn M (M+1) tk) ⟨aP.ok hx oY mU gx,λa J hf=>by rw [show a.F=F from hf];exact⟨aP.ok hx oY mU gx,λa J hf=>by rw [show a.F=F from hf];exact⟨bw.ok List.nodup_nil (by rw [sizeLine_eq];decide),λa J hf=>by rw [show a.F=F from hf];exact VC.all λN' t'=>⟨rfl,rfl,_,_,rfl⟩⟩⟩⟩
  ·exact ab.rN (d:=38) (uX w i 3 u xv rv rn fv fn M (M+1) tk) ⟨aP.ok hx oY mU gx,λa J hf=>by rw [show a.F=F from hf];exact⟨aP.ok hx oY mU gx,λa J hf=>by rw [show a.F=F from hf];exact⟨bw.ok List.nodup_nil (by rw [sizeLine_eq];decide),λa J hf=>by rw [show a.F=F from hf];exact VC.all λN' t'=>⟨rfl,rfl,_,_,rfl⟩⟩⟩⟩
  ·exact ab.rN (d:=38) (uX w i 4 u xv rv rn fv fn M (M+1) tk) ⟨aP.ok hx oY mU gx,λa J hf=>by rw [show a.F=F from hf];exact⟨aP.ok hx oY mU gx,λa J hf=>by rw [show a.F=F from hf];exact⟨bw.ok List.nodup_nil (by rw [sizeLine_eq];decide),λa J hf=>by rw [show a.F=F from hf];exact VC.all λN' t'=>⟨rfl,rfl,_,_,rfl⟩⟩⟩⟩
 obtain⟨la,Ij,BY⟩:=AB;refine ab.seq (BY.aT λfl F1 bU J hh=> ?_);obtain⟨e1,e2,ts,ep,e3⟩:=hh;refine⟨e1,?_⟩;rw [e2];refine ab.cj e3 (aq hy cB) ?_;have hn:(la.map (·.1)).Nodup:=by
  rw [Ij];split
  ·exact List.nodup_nil
  ·exact List.nodup_cons.mpr ⟨by simp,List.nodup_nil⟩
 have hz:la.length<=sizeLine:=by rw [Ij,sizeLine_eq];split<;>simp
 have sy:∀v:Value,put la i5 v=la++[(i5,v)]:=λv=>jq (by
  rw [Ij];split
  ·simp
  ·show i5∉[Q4];decide)
 refine ab.eq (LP.aH _ _) ?_;have e:dH ei u'=eV (kE ei) ei u':=B3 ei u' sG;have fin:∀v:Value,v=dH ei u'->ei≠0->la++[(i5,v)]=attrs ti ei u u':=λv hv he=>by rw [Ij,hv];exact attrsN ti ei he
 clear hx gx sx;cases ei with
 |zero=>have e0:la=attrs ti 0 u u':=Ij.trans (UK ti);exact ab.rN (d:=38) (AS w i 0 u' yv rv rn fv fn M bU.N bU.t la ts ep) ⟨aP.ok hy oY mU gy,λa J hf=>by rw [show a.F=F from hf];exact VC.all λN' t'=>⟨rfl,rfl,M,ts,ep,by rw [e0]⟩⟩
 |succ e'=>
  refine ab.rN (d:=38) (AR w i (e'+1) u' yv rv rn fv fn M bU.N bU.t la ts ep) ⟨aP.ok hy oY mU gy,λa J hf=> ?_⟩;rw [show a.F=F from hf];refine VC.sm (aP.ok hy oY mU gy) λa=> ?_;refine VC.sm (bw.ok hn hz) λa=> ?_;exact VC.all λN' t'=>⟨rfl,rfl,M,λn=>a.k (n+1),a.k 0,by rw [sy];show lF w.params i (some (.ref M)) rv rn fv fn [(M,bN w.params (la++[(i5,eV (kE (e'+1)) (e'+1) u')]) _ _)]=_;rw [fin _ e.symm (by simp)]⟩
abbrev TG(F:aj)(ti ei:Nat)(q:CA)(w:World)(i:FI)(ad:Nat)(rv fv:aV)(fn:Nat)(D:Obj):Flow->aj->aZ->Prop:=λfl F' ah=>fl= .next/\F.le F'/\∃r1 ry,iJ F' ti ei q r1/\ah.L=lF w.params i (some (.ref ad)) (rv.push (.ref r1)) ry fv fn [(ad,D)]
theorem DV{ad:Nat}{D:Obj}(hq:q.Ok)(oY:0<=i.f)(mU:i.f<1000)(sx:ti<5)(sG:ei<3)(hx:F i.tx=some (aw xv 2))(hy:F i.eo=some (aw yv 2))(hc:F i.co=some (zS q))(ha:F i.au=some (z9 q))(gx:xv[i.f.toNat]? =some (tV (kT ti) ti u))(gy:yv[i.f.toNat]? =some (eV (kE ei) ei u'))(hr:rv.size<=10):
  ab w R F ⟨lF w.params i (some (.ref ad)) rv rn fv fn [(ad,D)],[],M,tk⟩ 38 (PySem.execs (fb w.params 3) (ev w.params i.N)) (TG F ti ei q w i ad rv fv fn D):=by
 refine ab.cj rfl (aq hx (aq hy (aq hc (aq ha cB)))) ?_;refine ab.eq (LP.aH _ _) ?_
 let b:Nat->Nat->Bool:=λk j=>match k,j with
  |0,0=>conv ti ei q.a0 q.c0
  |0,1=>bq ti ei q.a0 q.c0
  |0,_=>Oq ti ei q.a0 q.c0
  |1,0=>conv ti ei q.a1 q.c1
  |1,1=>bq ti ei q.a1 q.c1
  |1,_=>Oq ti ei q.a1 q.c1
  |_,0=>conv ti ei q.a2 q.c2
  |_,1=>bq ti ei q.a2 q.c2
  |_,_=>Oq ti ei q.a2 q.c2
 have key:∀k k',k=kT ti->k'=kE ei->(∀aa,aE (DE w i q k ti u k' ei u' b xv yv rv rn fv fn ad M tk D aa))->ab w R F ⟨lF w.params i (some (.ref ad)) rv rn fv fn [(ad,D)],[(i.tx,aw xv 2),(i.eo,aw yv 2),(i.co,zS q),(i.au,z9 q)],M,tk⟩ 38 (LP.bD (fb w.params 3) (ev w.params i.N)) λfl F' ah=>fl= .next/\F.le F'/\∃r1 ry,iJ F' ti ei q r1/\ah.L=lF w.params i (some (.ref ad)) (rv.push (.ref r1)) ry fv fn [(ad,D)]:=by rintro _ _ rfl rfl e;refine ab.rN (d:=38) e ?_;refine VC.sm (aP.ok hx oY mU gx) λa=> ?_;refine VC.sm (aP.ok hy oY mU gy) λa=> ?_;refine⟨sE.ok sx sG hq.a0 hq.c0,λr0 HV h0=> ?_⟩;refine⟨aP.ok (HV _ _ hx) oY mU gx,λa J hf=> ?_⟩;rw [show a.F=r0.F from hf];refine⟨aP.ok (HV _ _ hy) oY mU gy,λa J hf=> ?_⟩;rw [show a.F=r0.F from hf];refine⟨sE.ok sx sG hq.a1 hq.c1,λr1 jH h1=> ?_⟩;refine⟨aP.ok (jH _ _ (HV _ _ hx)) oY mU gx,λa J hf=> ?_⟩;rw [show a.F=r1.F from hf];refine⟨aP.ok (jH _ _ (HV _ _ hy)) oY mU gy,λa J hf=> ?_⟩;rw [show a.F=r1.F from hf];refine⟨sE.ok sx sG hq.a2 hq.c2,λr2 gU h2=> ?_⟩;refine⟨br.ok (by rw [sizeLine_eq];omega),λa J hf=> ?_⟩;rw [show a.F=r2.F from hf];refine VC.gq (nd (by kernel_rfl)) λF' le hn N' t'=> ?_;refine⟨rfl,HV.trans (jH.trans (gU.trans le)),M+2,a.k 0,⟨r0.k 0,r1.k 0,r2.k 0,hn 0 rfl,le _ _ (gU _ _ (jH _ _ h0.2)),le _ _ (gU _ _ h1.2),le _ _ h2.2⟩,?_⟩;exact cw _ 0
 obtain⟨n0,e0⟩:∃n,n=kT ti:=⟨_,rfl⟩
 obtain⟨n1,e1⟩:∃n,n=kE ei:=⟨_,rfl⟩
 have h0:n0<3:=by rw [e0];exact CY ti
 have h1:n1<2:=by rw [e1];exact CZ ei
 revert e0 e1;refine Tn n0 h0 ?_ ?_ ?_<;>refine To n1 h1 ?_ ?_<;>intro e0 e1
 ·exact key 0 0 e0 e1 λaa=>xf w i q ti u ei u' b xv yv rv rn fv fn ad M tk D aa
 ·exact key 0 1 e0 e1 λaa=>xe w i q ti u ei u' b xv yv rv rn fv fn ad M tk D aa
 ·exact key 1 0 e0 e1 λaa=>xd w i q ti u ei u' b xv yv rv rn fv fn ad M tk D aa
 ·exact key 1 1 e0 e1 λaa=>xc w i q ti u ei u' b xv yv rv rn fv fn ad M tk D aa
 ·exact key 2 0 e0 e1 λaa=>xa w i q ti u ei u' b xv yv rv rn fv fn ad M tk D aa
 ·exact key 2 1 e0 e1 λaa=>w9 w i q ti u ei u' b xv yv rv rn fv fn ad M tk D aa
abbrev Ug(F:aj)(w:World)(ti ei:Nat)(q:CA)(i:FI)(ad:Nat)(rv:aV)(rn:Nat)(fv:aV)(tt te:Nat)(ts:nN)(ep:Nat):Flow->aj->aZ->Prop:=λfl F' ah=>fl= .next/\F.le F'/\∃r1 px,hK w F' ti ei q r1/\ah.L=lF w.params i (some (.ref ad)) rv rn (fv.push (.ref r1)) px [(ad,bN w.params (attrs ti ei tt te) ts ep)]
theorem Mq{ad tt te ep:Nat}{ts:nN}(hq:q.Ok)(sx:ti<5)(sG:ei<3)(hc:F i.co=some (zS q))(ha:F i.au=some (z9 q))(hr:fv.size<=10):
  ab w R F ⟨lF w.params i (some (.ref ad)) rv rn fv fn [(ad,bN w.params (attrs ti ei tt te) ts ep)],[],M,tk⟩ 38 (PySem.execs (fb w.params 4) (ev w.params i.N)) (Ug F w ti ei q i ad rv rn fv tt te ts ep):=by
 refine ab.cj rfl (aq hc (aq ha cB)) ?_;refine ab.eq (LP.aH _ _) ?_
 let ac:Nat->Nat:=lk (dR ti ei q.a2 q.c2) [dR ti ei q.a0 q.c0,dR ti ei q.a1 q.c1]
 let D:=bN w.params (attrs ti ei tt te) ts ep
 refine ab.rN (d:=38) (DD w i q ac rv rn fv fn ad M tk D) ?_;have l5:∀l k,l<3->k<3->dR ti ei l k<5:=λl k hl hk=>(SS ti ei l k sx sG hl hk).1;have fin:∀(F1:aj) (x y z:Value),F.le F1->my w F1 (ac 0) x->my w F1 (ac 1) y->my w F1 (ac 2) z->VC w R (λr F' ah=>r= .ok .next/\F.le F'/\∃r1 px,hK w F' ti ei q r1/\ah.L=lF w.params i (some (.ref ad)) rv rn (fv.push (.ref r1)) px [(ad,D)]) F1 (IM w i rv rn fv fn ad M D x y z):=λF1 x y z l hx hy hz=>by refine VC.sm (br.ok (by rw [sizeLine_eq];omega)) λa=> ?_;refine VC.gq (nd (by kernel_rfl)) λF' le hn N' t'=> ?_;exact⟨rfl,l.trans le,M+2,a.k 0,⟨x,y,z,hn 0 rfl,hx.le le,hy.le le,hz.le le⟩,cw _ 0⟩
 have EX:∀(F1:aj) (x y:Value),F.le F1->my w F1 (ac 0) x->my w F1 (ac 1) y->VC w R (λr F' ah=>r= .ok .next/\F.le F'/\∃r1 px,hK w F' ti ei q r1/\ah.L=lF w.params i (some (.ref ad)) rv rn (fv.push (.ref r1)) px [(ad,D)]) F1 (Kg w i q ac rv rn fv fn ad M D x y):=λF1 x y l hx hy=>by
  refine VC.sm (mJ.ok rfl sx sG hq.a2 hq.c2) λa=> ?_;refine⟨zp.ok (l5 _ _ hq.a2 hq.c2),λa le ha=> ?_,λa le ha=> ?_⟩
  ·rw [show a.F=F1 from ha.1];exact fin F1 x y .none l hx hy (.inl ⟨ha.2,rfl⟩)
  ·exact fin a.F x y _ (l.trans le) (hx.le le) (hy.le le) (.inr ⟨ha.2.1,_,rfl,ha.2.2⟩)
 have BY:∀(F1:aj) (x:Value),F.le F1->my w F1 (ac 0) x->VC w R (λr F' ah=>r= .ok .next/\F.le F'/\∃r1 px,hK w F' ti ei q r1/\ah.L=lF w.params i (some (.ref ad)) rv rn (fv.push (.ref r1)) px [(ad,D)]) F1 (Kh w i q ac rv rn fv fn ad M D x):=λF1 x l hx=>by
  refine VC.sm (mJ.ok rfl sx sG hq.a1 hq.c1) λa=> ?_;refine⟨zp.ok (l5 _ _ hq.a1 hq.c1),λa le ha=> ?_,λa le ha=> ?_⟩
  ·rw [show a.F=F1 from ha.1];exact EX F1 x .none l hx (.inl ⟨ha.2,rfl⟩)
  ·exact EX a.F x _ (l.trans le) (hx.le le) (.inr ⟨ha.2.1,_,rfl,ha.2.2⟩)
 refine VC.sm (mJ.ok rfl sx sG hq.a0 hq.c0) λa=> ?_;refine⟨zp.ok (l5 _ _ hq.a0 hq.c0),λa le ha=> ?_,λa le ha=> ?_⟩
 ·rw [show a.F=F from ha.1];exact BY F .none (aj.le.refl F) (.inl ⟨ha.2,rfl⟩)
 ·exact BY a.F _ le (.inr ⟨ha.2.1,_,rfl,ha.2.2⟩)
abbrev T6(F:aj)(ti ei:Nat)(q:CA)(w:World)(i:FI)(rv fv:aV):Flow->aj->aZ->Prop:=λfl F' ah=>fl= .next/\F.le F'/\TQ λad D r1 ry p1 px=>iJ F' ti ei q r1/\hK w F' ti ei q p1/\ah.L=lF w.params i (some (.ref ad)) (rv.push (.ref r1)) ry (fv.push (.ref p1)) px [(ad,D)]
theorem I8(att:Option Value)(hq:q.Ok)(oY:0<=i.f)(mU:i.f<1000)(sx:ti<5)(sG:ei<3)(hx:F i.tx=some (aw xv 2))(hy:F i.eo=some (aw yv 2))(hc:F i.co=some (zS q))(ha:F i.au=some (z9 q))(gx:xv[i.f.toNat]? =some (tV (kT ti) ti u))(gy:yv[i.f.toNat]? =some (eV (kE ei) ei u'))(hr:rv.size<=10)(Ax:fv.size<=10):
  ab w R F ⟨lF w.params i att rv rn fv fn [],[],M,tk⟩ 38 (PySem.execs ((fb w.params 0++(fb w.params 1++fb w.params 2))++(fb w.params 3++fb w.params 4)) (ev w.params i.N)) (T6 F ti ei q w i rv fv):=by
 refine ab.seq ((Je att oY mU sx sG hx hy gx gy).aT λfl F1 bU J hh=> ?_);obtain⟨e1,e2,ad,ts,ep,e3⟩:=hh;refine⟨e1,?_⟩;rw [e2];refine ab.seq ?_;have h3:=DV (w:=w) (R:=R) (rn:=rn) (fv:=fv) (fn:=fn) (ad:=ad) (M:=bU.N) (tk:=bU.t) (q:=q) (D:=bN w.params (attrs ti ei u u') ts ep) (ti:=ti) (ei:=ei) (u:=u) (u':=u') hq oY mU sx sG hx hy hc ha gx gy hr;rw [<-e3]at h3;refine(ab.cj rfl cB h3).aT λfl F2 fI gU hh=> ?_;obtain⟨e4,l2,r1,ry,BJ,e5⟩:=hh;refine⟨e4,?_⟩;have h4:=Mq (w:=w) (R:=R) (F:=F2) (i:=i) (rv:=rv.push (.ref r1)) (rn:=ry) (fn:=fn) (fv:=fv) (ad:=ad) (tt:=u) (te:=u') (ts:=ts) (ep:=ep) (M:=fI.N) (tk:=fI.t) (q:=q) (ti:=ti) (ei:=ei) hq sx sG (l2 _ _ hc) (l2 _ _ ha) Ax;rw [<-e5]at h4;exact(ab.cj rfl cB h4).aT λfl F3 fB J hh=>by obtain⟨e6,l3,p1,px,BS,e7⟩:=hh;exact⟨e6,l2.trans l3,ad,_,r1,ry,p1,px,BJ.le l3,BS,e7⟩
end
structure RI where
 rg:Nat
 it:Nat
 x:Nat
 y:Nat
 z:Nat
noncomputable def nO(r:RI)(n:Nat):Obj:={cls:= .type "range",data:= .fields #[.int 0 r.x,.int n r.y,.int 1 r.z]}
abbrev tX:=LG.tX
def B7(i:FI)(r:RI)(fo att:Option Value)(rv:aV)(rn:Nat)(fv:aV)(fn k m:Nat):aA:=fc i.N (AF P i.t i.l i.k1 i.k2 i.ru i.fi) (some (.ref i.nl)) fo (some (.ref i.tx)) (some (.ref i.eo)) none (some (.ref i.co)) (some (.ref i.au)) att none none none++[(i.ru,aw rv rn),(i.fi,aw fv fn),(r.rg,nO r 2),(r.it,tX k m)]
def s7:Stmt:=aB (bd P) 7
def K'(i:FI)(r:RI):Code:= .forLoop (eB (s7 w.params)) (.ref r.it) ((fb w.params 0++(fb w.params 1++fb w.params 2))++(fb w.params 3++fb w.params 4)) [] (ev w.params i.N)
theorem K7(it v:Value):letOwnedTupleGo (eB (s7 P)) it v=Pure.pure ():=by kernel_rfl
def KU(i:FI)(r:RI)(fo att:Option Value)(rv:aV)(rn:Nat)(fv:aV)(fn k m M tk:Nat)(aa:RB):ax:=aF w 300 38 [31,1,31,19,31,31,31,31,31,31,31] (.ret (.ok (.ret (.int k tk))) (bH (B7 w.params i r fo att rv rn fv fn (k+1) m) [] M (tk+1))) aa (Fast.tw9404975358583537561 (.ref r.it)) CR.jL ⟨B7 w.params i r fo att rv rn fv fn k (m+1),[],M,tk⟩
theorem Bt w i r fo att rv rn fv fn M tk:∀aa,aE (KU w i r fo att rv rn fv fn 0 1 M tk aa):=by apply bh w
theorem Bs w i r fo att rv rn fv fn M tk:∀aa,aE (KU w i r fo att rv rn fv fn 1 0 M tk aa):=by apply bh w
theorem E8(i:FI)(r:RI)(fo att:Option Value)(rv:aV)(rn:Nat)(fv:aV)(fn M tk:Nat):∀aa,aE (aF w 300 38 [31,1,31,19,31,31,31,35] (.ret (.ok .next) λst=>[(.l (st.L.take 16),.l (B7 w.params i r fo att rv rn fv fn 2 0))]) aa (Fast.tw9404975358583537561 (.ref r.it)) CR.jL ⟨B7 w.params i r fo att rv rn fv fn 2 0,[],M,tk⟩):=by apply bh w
theorem Fn(i:FI)(r:RI)(fo att:Option Value)(rv:aV)(rn:Nat)(fv:aV)(fn k m v M tk:Nat):∀aa,aE (aF w 100 38 [5,5] (.ret (.ok .next) (bH (B7 w.params i r (some (.int k v)) att rv rn fv fn (k+1) m) [] M tk)) aa (LP.jE (eB (s7 w.params)) (ev w.params i.N) (.int k v)) (λJ=> .next) ⟨B7 w.params i r fo att rv rn fv fn (k+1) m,[],M,tk⟩):=by apply bh w
section
variable{w:World}{R:aA}{F:aj}{i:FI}{r:RI}{q:CA}{ai:Result->aj->aZ->Prop}
structure SF(F:aj)(i:FI)(q:CA)(t0 t1 e0 e1:Nat)(u0 u1 v0 v1:Nat):Prop where
 hq:q.Ok
 EE:t0<5
 BH:t1<5
 N2:e0<3
 N1:e1<3
 tx:F i.tx=some (aw #[tV (kT t0) t0 u0,tV (kT t1) t1 u1] 2)
 eo:F i.eo=some (aw #[eV (kE e0) e0 v0,eV (kE e1) e1 v1] 2)
 co:F i.co=some (zS q)
 au:F i.au=some (z9 q)
theorem SF.le{F F':aj}(l:F.le F'){t0 t1 e0 e1 u0 u1 v0 v1:Nat}(h:SF F i q t0 t1 e0 e1 u0 u1 v0 v1):SF F' i q t0 t1 e0 e1 u0 u1 v0 v1:=⟨h.hq,h.EE,h.BH,h.N2,h.N1,l _ _ h.tx,l _ _ h.eo,l _ _ h.co,l _ _ h.au⟩
theorem CB{fo att:Option Value}{rv fv:aV}{rn fn k m M tk ti ei u u':Nat}{xv yv:aV}(hk:k<2)(hn:∀M tk aa,aE (KU w i r fo att rv rn fv fn k m M tk aa))(hq:q.Ok)(sx:ti<5)(sG:ei<3)(hx:F i.tx=some (aw xv 2))(hy:F i.eo=some (aw yv 2))(hc:F i.co=some (zS q))(ha:F i.au=some (z9 q))
  (gx:xv[k]? =some (tV (kT ti) ti u)) (gy:yv[k]? =some (eV (kE ei) ei u')) (hr:rv.size<=10) (Ax:fv.size<=10)
  (h:∀F' ft ad r1 ry p1 px M' t',F.le F'->iJ F' ti ei q r1->hK w F' ti ei q p1->∀R,aD w R F' ⟨B7 w.params i r (some (.int k ft)) (some (.ref ad)) (rv.push (.ref r1)) ry (fv.push (.ref p1)) px (k+1) m,[],M',t'⟩ 39 (K' w i r) ai):
  aD w R F ⟨B7 w.params i r fo att rv rn fv fn k (m+1),[],M,tk⟩ 39 (K' w i r) ai:=by
 refine aD.jA (aX:=38) (P1:=λv F' ah=>v= .int k tk/\F'=F/\ah=⟨B7 w.params i r fo att rv rn fv fn (k+1) m,[],M,tk+1⟩) (P2:=λF' ah=>F'=F/\ah=⟨B7 w.params i r fo att rv rn fv fn (k+1) m,[],M,tk+1⟩)
  (P3:=λF' ah=>F.le F'/\TQ λad D r1 ry p1 px=>iJ F' ti ei q r1/\hK w F' ti ei q p1/\ah.L=B7 w.params i r (some (.int k tk)) (some (.ref ad)) (rv.push (.ref r1)) ry (fv.push (.ref p1)) px (k+1) m++[(ad,D)]) ?_ ?_ ?_
 ·exact ab.eq (CR.dq _) ((ab.exact (d:=38) nr (hn M tk)).aT λr F' ah J hh=>by obtain⟨a,b,c⟩:=hh;exact⟨_,LP.jb a,rfl,b,c⟩)
 ·rintro v F' ah _ ⟨rfl,rfl,rfl⟩;rw [K7];refine ab.pure ⟨⟨rfl,rfl⟩,?_⟩;refine ab.bind (P:=λJ F' ah=>F'=_/\ah=⟨B7 w.params i r (some (.int k tk)) att rv rn fv fn (k+1) m,[],M,tk+1⟩) (ab.eq (LP.fY _ _ _) ((ab.exact (d:=38) nr (Fn w i r fo att rv rn fv fn k m tk M (tk+1))).aT λa F2 fI J hh=>by obtain⟨J,b,c⟩:=hh;exact⟨b,c⟩)) λJ F2 fI J hh=> ?_;obtain⟨e2,e3⟩:=hh;subst e2 e3
  let i':FI:={i with f:=k,ft:=tk}
  refine ab.frame (L1:=lF w.params i' att rv rn fv fn []) (L2:=[(r.rg,nO r 2),(r.it,tX (k+1) m)]) (G1:=[]) (List.Perm.refl _) cB (I8 (i:=i') (q:=q) (ti:=ti) (ei:=ei) (u:=u) (u':=u') (xv:=xv) (yv:=yv) att hq (Int.natCast_nonneg k) (by show(k:Int)<1000;lia) sx sG hx hy hc ha (show xv[((k:Nat):Int).toNat]? =_ by rw [Int.toNat_natCast];exact gx) (show yv[((k:Nat):Int).toNat]? =_ by rw [Int.toNat_natCast];exact gy) hr Ax) ?_;rintro fl F3 fB _ ⟨e1,l3,ad,D,r1,ry,p1,px,BJ,BS,e4⟩;refine⟨B7 w.params i r (some (.int k tk)) (some (.ref ad)) (rv.push (.ref r1)) ry (fv.push (.ref p1)) px (k+1) m++[(ad,D)],?_,e1,l3,ad,D,r1,ry,p1,px,BJ,BS,rfl⟩;rw [e4];show List.Perm (lF w.params i' (some (.ref ad)) (rv.push (.ref r1)) ry (fv.push (.ref p1)) px []++([(ad,D)]++[(r.rg,nO r 2),(r.it,tX (k+1) m)])) (lF w.params i' (some (.ref ad)) (rv.push (.ref r1)) ry (fv.push (.ref p1)) px []++([(r.rg,nO r 2),(r.it,tX (k+1) m)]++[(ad,D)]));exact List.Perm.append_left _ List.perm_append_comm
 ·rintro F' ah _ ⟨le,ad,D,r1,ry,p1,px,BJ,BS,e4⟩;exact aD.drop (n:=16) (by rw [e4];rfl) cB λR'=>h _ _ _ _ _ _ _ _ _ le BJ BS R'
def JM(w:World)(i:FI)(r:RI)(q:CA)(t0 t1 e0 e1:Nat):az:=⟨39,λJ=>K' w i r,λst=>[(.l st.L,.l (B7 w.params i r none none #[] 0 #[] 0 0 2))],λJ J=> .ok .next,
 λa st=>⟨B7 w.params i r (some (.int 1 (a.k 0))) (some (.ref (a.k 1))) #[.ref (a.k 2),.ref (a.k 3)] (a.k 4) #[.ref (a.k 5),.ref (a.k 6)] (a.k 7) 2 0,st.G,a.N,a.t⟩,
 λF a=>F.le a.F/\iJ a.F t0 e0 q (a.k 2)/\iJ a.F t1 e1 q (a.k 3)/\hK w a.F t0 e0 q (a.k 5)/\hK w a.F t1 e1 q (a.k 6)⟩
theorem JM.ok{t0 t1 e0 e1 u0 u1 v0 v1:Nat}(hs:SF F i q t0 t1 e0 e1 u0 u1 v0 v1):(JM w i r q t0 t1 e0 e1).OK w R F:=λcc st hc he=>by
 have hL:st.L=B7 w.params i r none none #[] 0 #[] 0 0 2:=cp.l.inj (aY.cons.mp he).1;rw [hc];refine aD.frame (L1:=B7 w.params i r none none #[] 0 #[] 0 0 2) (L2:=[]) (G1:=[]) (jT:=λrr F' ah=>rr= .ok .next/\F.le F'/\Up λft ad r0 r1 rn p0 p1 fn=>iJ F' t0 e0 q r0/\iJ F' t1 e1 q r1/\hK w F' t0 e0 q p0/\hK w F' t1 e1 q p1/\ah.L=B7 w.params i r (some (.int 1 ft)) (some (.ref ad)) #[.ref r0,.ref r1] rn #[.ref p0,.ref p1] fn 2 0)
  (by rw [List.append_nil,hL]) cB ?_ λrr F' bU hh=> ?_
 ·refine CB (k:=0) (m:=1) (ti:=t0) (ei:=e0) (u:=u0) (u':=v0) (by decide) (λM tk aa=>Bt w i r none none #[] 0 #[] 0 M tk aa) hs.hq hs.EE hs.N2 hs.tx hs.eo hs.co hs.au rfl rfl (by decide) (by decide) λF1 ft ad r0 rn p0 fn M1 Js l1 g0 f0 R=> ?_;have JH:=hs.le l1;refine CB (k:=1) (m:=0) (ti:=t1) (ei:=e1) (u:=u1) (u':=v1) (by decide) (λM tk aa=>Bs w i r _ _ _ _ _ _ M tk aa) hs.hq hs.BH hs.N1 JH.tx JH.eo JH.co JH.au rfl rfl (by show 1<=10;decide) (by show 1<=10;decide) λF2 E2 MN r1 Nn p1 Oe M2 QU l2 g1 f1 R=> ?_;refine aD.oy (aX:=38) (ab.eq (CR.dq _) (ab.run (enc:=CR.jL) (d:=38) (ai:=λrr F' ah=>rr= .ok .next/\F'=F2/\ah.L=B7 w.params i r (some (.int 1 E2)) (some (.ref MN)) #[.ref r0,.ref r1] Nn #[.ref p0,.ref p1] Oe 2 0) nr (E8 w i r _ _ _ _ _ _ _ _) (VC.keep λN' t'=>⟨rfl,rfl,rfl⟩) (λa F' ah hq=> ?_) λJ J J h=>by cases h.1));obtain⟨h1,h2,h3⟩:=hq;subst h2;refine⟨?_,rfl,l1.trans l2,E2,MN,r0,r1,Nn,p0,p1,Oe,g0.le l2,g1,f0.le l2,f1,h3⟩;cases a with
  |none=>rfl
  |some v=>exact absurd (Except.ok.inj h1) (by intro h;cases h)
 ·obtain⟨y1,y2,ft,ad,r0,r1,rn,p0,p1,fn,y3,y4,y5,y6,y7⟩:=hh;exact⟨_,by rw [List.append_nil],{bB F' bU.N bU.t 0 with k:=lk fn [ft,ad,r0,r1,rn,p0,p1]},rfl,⟨y2,y3,y4,y5,y6⟩,y1,by rw [y7];rfl⟩
end
def f7(i:FI)(fo att:Option Value):aA:=fc i.N (AF P i.t i.l i.k1 i.k2 i.ru i.fi) (some (.ref i.nl)) fo (some (.ref i.tx)) (some (.ref i.eo)) none (some (.ref i.co)) (some (.ref i.au)) att none none none
theorem DP(i:FI)(q:CA)(t0 t1 e0 e1 M tk:Nat):∀aa,aE (aF w 600 40 [0,0,1,13,1,43,29,29,1,29,22,29,29,29,1,29,42,29,29,29,31,0]
 (.hk (JM w i ⟨M,M+1,tk+1,tk,tk+2⟩ q t0 t1 e0 e1) λa=> .ret (.ok .next) (bJ (dz 0 (f7 w.params i (some (.int 1 (a.k 0))) (some (.ref (a.k 1))))++[(12,(i.ru,aw #[.ref (a.k 2),.ref (a.k 3)] (a.k 4))),(13,(i.fi,aw #[.ref (a.k 5),.ref (a.k 6)] (a.k 7)))])))
 aa (LP.bD [aB (bd w.params) 7] (ev w.params i.N)) id ⟨f7 w.params i none none++[(i.ru,aw #[] 0),(i.fi,aw #[] 0)],[],M,tk⟩):=by apply bh w
theorem fm(x n:Int)(h:0<n):0<=x.fmod n/\x.fmod n<n:=⟨Int.fmod_nonneg_of_pos x h,Int.fmod_lt_of_pos x h⟩
theorem kr{x:Int}(h:0<=x/\x<5):x.toNat<5/\∀tk,∃u,(Kc tk)[x.toNat]? =some (tV (kT x.toNat) x.toNat u):=by
 obtain⟨n,rfl⟩:=Int.eq_ofNat_of_zero_le h.1;have:n<5:=by lia
 rw [Int.toNat_natCast];refine⟨this,λtk=> ?_⟩;exact Uo n this ⟨0,rfl⟩ ⟨0,rfl⟩ ⟨0,rfl⟩ ⟨tk 3,rfl⟩ ⟨tk 4,rfl⟩
theorem k9{x:Int}(h:0<=x/\x<3):x.toNat<3/\∀tk,∃u,(Ms tk)[x.toNat]? =some (eV (kE x.toNat) x.toNat u):=by
 obtain⟨n,rfl⟩:=Int.eq_ofNat_of_zero_le h.1;have:n<3:=by lia
 rw [Int.toNat_natCast];refine⟨this,λtk=> ?_⟩;exact Tn n this ⟨0,rfl⟩ ⟨tk 1,rfl⟩ ⟨tk 2,rfl⟩
theorem jC{x:Int}(h:0<=x/\x<3):x.toNat<3/\∀tk,∃u,(J3 tk)[x.toNat]? =some (cV x.toNat u):=by
 obtain⟨n,rfl⟩:=Int.eq_ofNat_of_zero_le h.1;have:n<3:=by lia
 rw [Int.toNat_natCast];refine⟨this,λtk=> ?_⟩;exact Tn n this ⟨tk 0,rfl⟩ ⟨tk 1,rfl⟩ ⟨tk 2,rfl⟩
theorem jD{x:Int}(h:0<=x/\x<3):x.toNat<3/\∀tk,∃u,(J7 tk)[x.toNat]? =some (SG x.toNat u):=by
 obtain⟨n,rfl⟩:=Int.eq_ofNat_of_zero_le h.1;have:n<3:=by lia
 rw [Int.toNat_natCast];refine⟨this,λtk=> ?_⟩;exact Tn n this ⟨tk 0,rfl⟩ ⟨tk 1,rfl⟩ ⟨tk 2,rfl⟩
noncomputable def iO:Option Value->Int
 |some (.int i _)=>i
 |_=>0
noncomputable def tO:Option Value->Nat
 |some (.int _ t)=>t
 |_=>0
theorem TX{m:Nat->Int}{t:nN}:∀(k:Nat) (h:k<(mF m t).size),(mF m t)[k]= .int (m k) (t k):=by
 have:∀k:Nat,k<12->∀h:k<(mF m t).size,(mF m t)[k]= .int (m k) (t k):=λk h=>Tv k h (λJ=>rfl) (λk h=>Tv k h (λJ=>rfl) (λk h=>Tv k h (λJ=>rfl) (λk h=>Tv k h (λJ=>rfl) (λk h=>Tv k h (λJ=>rfl) (λk h=>Tv k h (λJ=>rfl) (λk h=>Tv k h (λJ=>rfl) (λk h=>Tv k h (λJ=>rfl) (λk h=>Tv k h (λJ=>rfl) (λk h=>Tv k h (λJ=>rfl) (λk h=>Tv k h (λJ=>rfl) (λk h=>Tv k h (λJ=>rfl) (λk h=>absurd h (Nat.not_lt_zero k)))))))))))))
 exactλk h=>this k h h
theorem twelve{vs:aV}{u:Nat}(h:∀v∈vs.toList,∃i t,v= .int i t)(hz:vs.size<=63):∃m t,hW vs u=mF m t:=by
 have hs:(nH vs).size<=12:=by unfold nH;simp;lia
 have fh:(hW vs u).size=12:=by unfold hW;rw [Array.size_append];simp;lia
 have hi:∀v∈(hW vs u).toList,∃i t,v=Value.int i t:=λv hv=>by
  unfold hW at hv;rw [Array.toList_append]at hv;rcases List.mem_append.mp hv with hv|hv
  ·unfold nH at hv;exact h v (List.mem_of_mem_take (by simpa using hv))
  ·have:=List.eq_of_mem_replicate (by simpa using hv);exact⟨0,u,this⟩
 have key:∀k (hk:k<12),∃i t,(hW vs u)[k]? =some (Value.int i t):=λk hk=>by have e:(hW vs u)[k]? =some ((hW vs u)[k]'(by lia)):=Array.getElem?_eq_getElem (by lia);obtain⟨i,t,ht⟩:=hi ((hW vs u)[k]'(by lia)) (Array.getElem_mem_toList (by lia));exact⟨i,t,by rw [e,ht]⟩
 refine⟨λk=>iO (hW vs u)[k]?,λk=>tO (hW vs u)[k]?,?_⟩;refine Array.ext (by rw [fh];rfl) λk h1 h2=> ?_;have hk:k<12:=by lia
 obtain⟨i,t,e⟩:=key k hk;have e':(hW vs u)[k]=Value.int i t:=by have:=Array.getElem?_eq_getElem h1;rw [e]at this;exact(Option.some.inj this).symm
 rw [e'];rw [TX];show _=Value.int (iO (hW vs u)[k]?) (tO (hW vs u)[k]?);rw [e];rfl
theorem A2(l N t nl M tk:Nat)(m:Nat->Int)(tt:nN)(k0 i0 k1 i1:Nat)(h0:k0<3)(h1:k1<3)(aa:RB):aE (Ar w l N t nl M tk m tt k0 i0 k1 i1 aa):=by exact UL (p:=λk0 k1=>aE (Ar w l N t nl M tk m tt k0 i0 k1 i1 aa)) h0 h1 (xN ..) (xM ..) (xK ..) (xJ ..) (xI ..) (xH ..) (xG ..) (xF ..) (xD ..)
theorem A1(l N t nl M tk tx:Nat)(m:Nat->Int)(tt:nN)(k0 i0 k1 i1:Nat)(h0:k0<2)(h1:k1<2)(aa:RB):aE (GV w l N t nl M tk tx m tt k0 i0 k1 i1 aa):=by
 refine To k0 h0 ?_ ?_<;>refine To k1 h1 ?_ ?_
 ·exact xB ..
 ·exact xy ..
 ·exact xx ..
 ·exact xw ..
noncomputable def tI(m:Nat->Int)(f:Nat):Nat:=(xT m f).toNat
noncomputable def eI(m:Nat->Int)(f:Nat):Nat:=(xE m f).toNat
noncomputable def cI(m:Nat->Int)(k:Nat):Nat:=(xC m k).toNat
noncomputable def aI(m:Nat->Int)(k:Nat):Nat:=(xA m k).toNat
structure WQ(w:World)(F':aj)(N nl tx eo:Nat)(m:Nat->Int)(ah:aZ)(i:FI)(q:CA):Prop where
 x1:i.N=N
 x2:i.nl=nl
 x3:i.tx=tx
 x4:i.eo=eo
 x5:q.c0=cI m 0
 x6:q.c1=cI m 1
 x7:q.c2=cI m 2
 x8:q.a0=aI m 0
 x9:q.a1=aI m 1
 Uz:q.a2=aI m 2
 Uy:F' i.co=some (zS q)
 Ux:F' i.au=some (z9 q)
 cZ:ah.L=f7 w.params i none none++[(i.ru,aw #[] 0),(i.fi,aw #[] 0)]
structure P7(w:World)(F:aj)(i:FI)(q:CA)(m:Nat->Int)(tt:nN)(r0 r1 p0 p1:Nat):Prop where
 nl:F i.nl=some (aw (mF m tt) 0)
 c0:q.c0=cI m 0
 c1:q.c1=cI m 1
 c2:q.c2=cI m 2
 a0:q.a0=aI m 0
 a1:q.a1=aI m 1
 a2:q.a2=aI m 2
 ru:∃n,F i.ru=some (aw #[.ref r0,.ref r1] n)
 fi:∃n,F i.fi=some (aw #[.ref p0,.ref p1] n)
 EJ:iJ F (tI m 0) (eI m 0) q r0
 EH:iJ F (tI m 1) (eI m 1) q r1
 Az:hK w F (tI m 0) (eI m 0) q p0
 pQ:hK w F (tI m 1) (eI m 1) q p1
 hq:q.Ok
theorem Ht{w:World}{R:aA}{F:aj}{ai:Result->aj->aZ->Prop}{N M nl tx eo l t:Nat}{x y:Obj}
  (h:∀Aq:aZ,F.le (cX F [(M+2,x),(M+11,y)])->cX F [(M+2,x),(M+11,y)] (M+2)=some x->cX F [(M+2,x),(M+11,y)] (M+11)=some y->∀{N' t':Nat},ai (.ok .next) (cX F [(M+2,x),(M+11,y)]) ⟨fc N (AF w.params t l (dA Aq 0 1) (dA Aq 0 2) (M+18) (M+19)) (some (.ref nl)) none (some (.ref tx)) (some (.ref eo)) none (some (.ref (M+2))) (some (.ref (M+11))) none none none none++[(M+18,aw #[] 0),(M+19,aw #[] 0)],[],N',t'⟩):
  VC w R ai F (.ret (.ok .next) λst=>bJ ([(0,(N,AF w.params t l (dA st 0 1) (dA st 0 2) (M+18) (M+19))),(1,(N+1,aK (some (.ref nl)))),(2,(N+2,aK none)),(3,(N+3,aK (some (.ref tx)))),(4,(N+4,aK (some (.ref eo)))),(5,(N+5,aK none)),(6,(N+6,aK (some (.ref (M+2))))),(7,(N+7,aK (some (.ref (M+11))))),(8,(N+8,aK none)),(9,(N+9,aK none)),(10,(N+10,aK none)),(11,(N+11,aK none)),(30,(M+18,aw #[] 0)),(31,(M+19,aw #[] 0))]++[(14,(M+2,x)),(23,(M+11,y))]) st):=λhh st Rl e=>by
 have:=VC.ee (w:=w) (R:=R) (F:=F) (ai:=ai) (r:= .ok .next) (Y:=[(0,(N,AF w.params t l (dA st 0 1) (dA st 0 2) (M+18) (M+19))),(1,(N+1,aK (some (.ref nl)))),(2,(N+2,aK none)),(3,(N+3,aK (some (.ref tx)))),(4,(N+4,aK (some (.ref eo)))),(5,(N+5,aK none)),(6,(N+6,aK (some (.ref (M+2))))),(7,(N+7,aK (some (.ref (M+11))))),(8,(N+8,aK none)),(9,(N+9,aK none)),(10,(N+10,aK none)),(11,(N+11,aK none)),(30,(M+18,aw #[] 0)),(31,(M+19,aw #[] 0))]) (X:=[(14,(M+2,x)),(23,(M+11,y))]) (nd (by kernel_rfl)) (λhn le N' t'=>h st le (av (p:=(M+2,x)) hn (by simp)) (av (p:=(M+11,y)) hn (by simp)));exact this hh st Rl e
section
variable{w:World}{R:aA}{F:aj}{l N t M tk e:Nat}{vs:aV}
def GF(P:Params):List Stmt:=[aB (bd P) 0]++([aB (bd P) 1]++([aB (bd P) 2]++([aB (bd P) 3,aB (bd P) 4,aB (bd P) 5,aB (bd P) 6]++[aB (bd P) 7])))
abbrev TV(F:aj)(N:Nat)(w:World):Flow->aj->aZ->Prop:=λfl F' ah=>fl= .next/\F.le F'/\TP λi q m tt r0 r1 p0 p1 ft ad=>i.N=N/\P7 w F' i q m tt r0 r1 p0 p1/\ah.L=f7 w.params i (some (.int 1 ft)) (some (.ref ad))
theorem Hu(hl:F l=some (aw vs e))(hi:∀v∈vs.toList,∃i t,v= .int i t)(hz:vs.size<=63):
  ab w R F ⟨fc N (Rq w.params t l) none none none none none none none none none none none,[],M,tk⟩ 40 (PySem.execs (GF w.params) (ev w.params N)) (TV F N w):=by
 have sl:∀n:Nat,n<=1000->n<=sizeLine:=λn h=>Nat.le_trans h (by rw [sizeLine_eq];decide);refine ab.cj rfl (aq hl cB) ?_;have ht:(nH vs).size<=12:=by unfold nH;simp;lia
 have c0:ab w R F ⟨fc N (Rq w.params t l) none none none none none none none none none none none,[(l,aw vs e)],M,tk⟩ 40 (PySem.execs [aB (bd w.params) 0] (ev w.params N)) λfl F' ah=>fl= .next/\F.le F'/\∃nl,F' nl=some (aw (hW vs (tk+1)) 0)/\ah.L=fc N (Rq w.params t l) (some (.ref nl)) none none none none none none none none none none:=by refine ab.eq (LP.aH _ _) (ab.rN (d:=40) (DU w l N t M tk e vs) ?_);refine VC.sm (ju.ok hl (sl _ (by lia))) λa=> ?_;refine VC.sm (ju.ok hl (sl _ (by lia))) λa=> ?_;refine VC.sm (l9.ok (sl _ (by lia))) λa=> ?_;refine VC.sm (qP.ok (by lia) (by lia)) λa=> ?_;refine VC.sm (i7.ok (sl _ (by simp;lia))) λa=> ?_;refine VC.gq (nd (by kernel_rfl)) λF' le hn N' t'=> ?_;exact⟨rfl,le,M+6,hn 0 rfl,rfl⟩
 refine ab.seq (c0.aT ?_);rintro fl F1 bU _ ⟨g1,l1,nl,g2,g3⟩;refine⟨g1,?_⟩;obtain⟨m,tt,hm⟩:=twelve (u:=tk+1) hi hz;rw [hm]at g2;have fT:=λf=>fm (m f) 5 (by decide);have fE:=λf=>fm ((m f).fdiv 5) 3 (by decide);have fC:=λk=>fm (m (2+k)) 3 (by decide);have fA:=λk=>fm ((m (2+k)).fdiv 3) 3 (by decide);have sm:∀{x n:Int},0<=x/\x<n->n<=5->x<1000:=λh h'=>by lia
 refine ab.cj g3 (aq g2 cB) ?_;have c1:ab w R F1 ⟨fc N (Rq w.params t l) (some (.ref nl)) none none none none none none none none none none,[(nl,aw (mF m tt) 0)],bU.N,bU.t⟩ 40 (PySem.execs [aB (bd w.params) 1] (ev w.params N)) λfl F' ah=>fl= .next/\F1.le F'/\LV λtx u0 u1=>F' tx=some (aw #[tV (kT (tI m 0)) (tI m 0) u0,tV (kT (tI m 1)) (tI m 1) u1] 2)/\ah.L=fc N (Rq w.params t l) (some (.ref nl)) none (some (.ref tx)) none none none none none none none none:=by refine ab.eq (LP.aH _ _) (ab.rN (d:=40) (A2 w l N t nl bU.N bU.t m tt (kT (tI m 0)) (tI m 0) (kT (tI m 1)) (tI m 1) (CY _) (CY _)) ?_);refine VC.sm (cM.ok (fT 0).1 (sm (fT 0) (by decide)) (kr (fT 0)).2) λa=> ?_;refine VC.sm (cM.ok (fT 1).1 (sm (fT 1) (by decide)) (kr (fT 1)).2) λb=> ?_;refine VC.gq (nd (by kernel_rfl)) λF' le hn N' t'=> ?_;exact⟨rfl,le,bU.N+2,a.k 0,b.k 0,hn 0 rfl,rfl⟩
 refine ab.seq (c1.aT ?_);rintro fl F2 fI _ ⟨g4,l2,tx,u0,u1,g5,g6⟩;refine⟨g4,?_⟩;refine ab.cj g6 (aq (l2 _ _ g2) cB) ?_;have c2:ab w R F2 ⟨fc N (Rq w.params t l) (some (.ref nl)) none (some (.ref tx)) none none none none none none none none,[(nl,aw (mF m tt) 0)],fI.N,fI.t⟩ 40 (PySem.execs [aB (bd w.params) 2] (ev w.params N)) λfl F' ah=>fl= .next/\F2.le F'/\LV λeo v0 v1=>F' eo=some (aw #[eV (kE (eI m 0)) (eI m 0) v0,eV (kE (eI m 1)) (eI m 1) v1] 2)/\ah.L=fc N (Rq w.params t l) (some (.ref nl)) none (some (.ref tx)) (some (.ref eo)) none none none none none none none:=by refine ab.eq (LP.aH _ _) (ab.rN (d:=40) (A1 w l N t nl fI.N fI.t tx m tt (kE (eI m 0)) (eI m 0) (kE (eI m 1)) (eI m 1) (CZ _) (CZ _)) ?_);refine VC.sm (cM.ok (fE 0).1 (sm (fE 0) (by decide)) (k9 (fE 0)).2) λa=> ?_;refine VC.sm (cM.ok (fE 1).1 (sm (fE 1) (by decide)) (k9 (fE 1)).2) λb=> ?_;refine VC.gq (nd (by kernel_rfl)) λF' le hn N' t'=> ?_;exact⟨rfl,le,fI.N+2,a.k 0,b.k 0,hn 0 rfl,rfl⟩
 refine ab.seq (c2.aT ?_);rintro fl F3 fB _ ⟨g7,l3,eo,v0,v1,g8,g9⟩;refine⟨g7,?_⟩;refine ab.cj g9 (aq (l3 _ _ (l2 _ _ g2)) cB) ?_
 let Q3:aj->aZ->Prop:=λF' ah=>F3.le F'/\∃(i:FI) (q:CA),WQ w F' N nl tx eo m ah i q
 have c3:ab w R F3 ⟨fc N (Rq w.params t l) (some (.ref nl)) none (some (.ref tx)) (some (.ref eo)) none none none none none none none,[(nl,aw (mF m tt) 0)],fB.N,fB.t⟩ 40 (PySem.execs [aB (bd w.params) 3,aB (bd w.params) 4,aB (bd w.params) 5,aB (bd w.params) 6] (ev w.params N)) λfl F' ah=>fl= .next/\Q3 F' ah:=by refine ab.eq (LP.aH _ _) (ab.rN (d:=40) (DQ w l N t nl fB.N fB.t tx eo m tt (cI m 0) (cI m 1) (cI m 2) (aI m 0) (aI m 1) (aI m 2)) ?_);refine VC.sm (cM.ok (fC 0).1 (sm (fC 0) (by decide)) (jC (fC 0)).2) λb0=> ?_;refine VC.sm (cM.ok (fC 1).1 (sm (fC 1) (by decide)) (jC (fC 1)).2) λb1=> ?_;refine VC.sm (cM.ok (fC 2).1 (sm (fC 2) (by decide)) (jC (fC 2)).2) λb2=> ?_;refine VC.sm (cM.ok (fA 0).1 (sm (fA 0) (by decide)) (jD (fA 0)).2) λb3=> ?_;refine VC.sm (cM.ok (fA 1).1 (sm (fA 1) (by decide)) (jD (fA 1)).2) λb4=> ?_;refine VC.sm (cM.ok (fA 2).1 (sm (fA 2) (by decide)) (jD (fA 2)).2) λb5=> ?_;exact Ht λst h1 h2 h3=>⟨rfl,h1,⟨l,N,t,dA st 0 1,dA st 0 2,nl,tx,eo,fB.N+2,fB.N+11,fB.N+18,fB.N+19,0,0⟩,⟨cI m 0,cI m 1,cI m 2,aI m 0,aI m 1,aI m 2,b0.k 0,b1.k 0,b2.k 0,b3.k 0,b4.k 0,b5.k 0⟩,rfl,rfl,rfl,rfl,rfl,rfl,rfl,rfl,rfl,rfl,h2,h3,rfl⟩
 refine ab.seq (c3.aT ?_);rintro fl F4 xj _ ⟨FX,l4,i,q,hN,PB,Pp,PZ,N6,BY,EX,ID,qX,zw,zt,Qc,IH⟩;refine⟨FX,?_⟩;subst hN;have FP:q.Ok:=⟨by rw [N6];exact(jC (fC 0)).1,by rw [BY];exact(jC (fC 1)).1,by rw [EX];exact(jC (fC 2)).1,by rw [ID];exact(jD (fA 0)).1,by rw [qX];exact(jD (fA 1)).1,by rw [zw];exact(jD (fA 2)).1⟩
 have hs:SF F4 i q (tI m 0) (tI m 1) (eI m 0) (eI m 1) u0 u1 v0 v1:=⟨FP,(kr (fT 0)).1,(kr (fT 1)).1,(k9 (fE 0)).1,(k9 (fE 1)).1,by rw [Pp];exact l4 _ _ (l3 _ _ g5),by rw [PZ];exact l4 _ _ g8,zt,Qc⟩
 refine ab.cj IH cB ?_;refine ab.eq (LP.aH _ _) (ab.rN (d:=40) (DP w i q (tI m 0) (tI m 1) (eI m 0) (eI m 1) xj.N xj.t) ⟨JM.ok hs,λa FJ ha=> ?_⟩);refine VC.gq (nd (by kernel_rfl)) λF' le hn N' t'=> ?_;have La:=l1.trans (l2.trans (l3.trans (l4.trans (FJ.trans le))));refine⟨rfl,La,i,q,m,tt,a.k 2,a.k 3,a.k 5,a.k 6,a.k 0,a.k 1,rfl,⟨?_,N6,BY,EX,ID,qX,zw,⟨a.k 4,hn 0 rfl⟩,⟨a.k 7,hn 1 rfl⟩,ha.2.1.le le,ha.2.2.1.le le,ha.2.2.2.1.le le,ha.2.2.2.2.le le,FP⟩,cw _ 0⟩;rw [PB];exact le _ _ (FJ _ _ (l4 _ _ (l3 _ _ (l2 _ _ g2))))
end
noncomputable def IL:List String:=["script","rules","filters","store","trees","digits","rows","given","cleaned","blob","merger","merged","told","mode","info"]
def II(P:Params)(T:nN)(V:Nat->Value):Nat->List String->List DictEntry
 |_,[]=>[]
 |j,k::ks=>d P k (T j) (V j)::II P T V (j+1) ks
def gJ(n:Nat)(T:nN)(V:Nat->Value):Obj:={cls:= .type "frame",data:= .dict (II P T V 0 (IL.take n)).toArray n}
structure JI where
 i:FI
 so:Nat
 qo:Nat
 st:Nat
 b0:Nat
 b1:Nat
noncomputable def v5(j:JI)(k:Nat):Value:=match k with
 |0=> .ref j.i.l
 |1=> .ref j.i.ru
 |2=> .ref j.i.fi
 |3=> .ref j.so
 |_=> .ref j.qo
noncomputable def vA(j:JI)(fo wo att du na:Option Value):aA:=[(j.i.N+1,aK (some (.ref j.i.nl))),(j.i.N+2,aK fo),(j.i.N+3,aK (some (.ref j.i.tx))),(j.i.N+4,aK (some (.ref j.i.eo))),(j.i.N+5,aK wo),(j.i.N+6,aK (some (.ref j.i.co))),(j.i.N+7,aK (some (.ref j.i.au))),(j.i.N+8,aK att),(j.i.N+9,aK (some (.ref j.st))),(j.i.N+10,aK du),(j.i.N+11,aK na)]
theorem DO(i:FI)(fo att:Option Value)(M tk:Nat):∀aa,aE (aF w 600 40 (zJ [mQ,[0,0,1,1],mQ,mQ,[0,0,1,1,19,19]])
 (.hk (kZ w 12) λf=> .hk (mZ w (f.k 0+12)) λs=> .hk (dC w) λa=> .hk (dC w) λb=> .hk (dC w) λc=>
 .ret (.ok .next) λst=>bJ ([(0,(i.N,gJ w.params 5 (dA st 0) (v5 ⟨i,s.k 0,c.N,c.N+3,c.N+1,c.N+2⟩)))]++(dz 1 (vA ⟨i,s.k 0,c.N,c.N+3,c.N+1,c.N+2⟩ fo none att none none)++[(13,(f.k 0+2,bA)),(14,(s.k 2,bA)),(15,(a.k 1,er w.params (jG a))),(16,(a.k 2,bA)),(17,(b.k 1,er w.params (jG b))),(18,(b.k 2,bA)),(19,(c.k 1,er w.params (jG c))),(20,(c.k 2,bA)),(22,(c.N+1,aw #[] 0)),(23,(c.N+2,aw #[] 0))])++
  [(21,(c.N,aw #[.ref (a.k 0),.ref (b.k 0),.ref (c.k 0)] 0)),(24,(c.N+3,aw #[.ref (c.N+1),.ref (c.N+2)] 0)),(12,(1336,iz (f.k 0)))]) st)
 aa (LP.bD [aB (bd w.params) 8,aB (bd w.params) 9,aB (bd w.params) 10] (ev w.params i.N)) id ⟨f7 w.params i fo att++[(1336,FM.SQ)],[],M,tk⟩):=by apply bh w
structure KI where
 j:JI
 s:jF
 q1:dN
 q2:dN
 q3:dN
structure MS where
 D:Obj
 D2:Obj
 l1:cK
 l2:cK
 l3:cK
 s1:Nat->Nat
 s2:Nat->Nat
 s3:Nat->Nat
 p1:Nat
 p2:Nat
 p3:Nat
 v0:aV
 n0:Nat
 v1:aV
 n1:Nat
def AP(k:KI)(x:MS):aA:=[(k.s.N+2,x.D),(k.s.dt,x.D2),(k.q1.td,er P k.q1),(k.q1.te,bN P x.l1 x.s1 x.p1),(k.q2.td,er P k.q2),(k.q2.te,bN P x.l2 x.s2 x.p2),(k.q3.td,er P k.q3),(k.q3.te,bN P x.l3 x.s3 x.p3),(k.j.b0,aw x.v0 x.n0),(k.j.b1,aw x.v1 x.n1)]
def lM(k:KI)(x:MS)(n:Nat)(T:nN)(V:Nat->Value)(fo wo att du na:Option Value):aA:=(k.j.i.N,gJ P n T V)::(vA k.j fo wo att du na++AP P k x)
structure rB(w:World)(F:aj)(k:KI):Prop where
 st:hJ w F k.s
 so:k.s.so=k.j.so
 q1:F k.q1.tb=some (cb 884 k.q1.td)
 q2:F k.q2.tb=some (cb 884 k.q2.td)
 q3:F k.q3.tb=some (cb 884 k.q3.td)
 z1:1392<=k.q1.te
 z2:1392<=k.q2.te
 z3:1392<=k.q3.te
 qo:F k.j.qo=some (aw #[.ref k.q1.tb,.ref k.q2.tb,.ref k.q3.tb] 0)
 AY:F k.j.st=some (aw #[.ref k.j.b0,.ref k.j.b1] 0)
theorem rB.le{w:World}{F F':aj}(l:F.le F'){k:KI}(h:rB w F k):rB w F' k:=⟨h.st.le l,h.so,l _ _ h.q1,l _ _ h.q2,l _ _ h.q3,h.z1,h.z2,h.z3,l _ _ h.qo,l _ _ h.AY⟩
noncomputable def x0:MS:=⟨bA,bA,[],[],[],λJ=>0,λJ=>0,λJ=>0,0,0,0,#[],0,#[],0⟩
abbrev TO(F:aj)(i:FI)(w:World)(fo att:Option Value):Flow->aj->aZ->Prop:=λfl F' ah=>fl= .next/\F.le F'/\LV λk T n=>k.j.i=i/\rB w F' k/\F' 1336=some (iz n)/\ah.L=lM w.params k x0 5 T (v5 k.j) fo none att none none
theorem Eb{w:World}{R:aA}{F:aj}{i:FI}{fo att:Option Value}{M tk:Nat}:ab w R F ⟨f7 w.params i fo att++[(1336,FM.SQ)],[],M,tk⟩ 40 (PySem.execs [aB (bd w.params) 8,aB (bd w.params) 9,aB (bd w.params) 10] (ev w.params i.N)) (TO F i w fo att):=by
 refine ab.eq (LP.aH _ _) (ab.rN (d:=40) (DO w i fo att M tk) ?_);refine⟨kZ.ok,λf lf hf=>⟨mZ.ok,λs ls hs=>⟨dC.ok,λa la ha=>⟨dC.ok,λb lb hb=>⟨dC.ok,λc lc hc=> ?_⟩⟩⟩⟩⟩;intro hh st Rl e;have:=VC.ee (w:=w) (R:=R) (F:=c.F) (ai:=λr F' ah=>r= .ok .next/\F.le F'/\LV λk T n=>k.j.i=i/\rB w F' k/\F' 1336=some (iz n)/\ah.L=lM w.params k x0 5 T (v5 k.j) fo none att none none) (r:= .ok .next)
  (Y:=[(0,(i.N,gJ w.params 5 (dA st 0) (v5 ⟨i,s.k 0,c.N,c.N+3,c.N+1,c.N+2⟩)))]++(dz 1 (vA ⟨i,s.k 0,c.N,c.N+3,c.N+1,c.N+2⟩ fo none att none none)++[(13,(f.k 0+2,bA)),(14,(s.k 2,bA)),(15,(a.k 1,er w.params (jG a))),(16,(a.k 2,bA)),(17,(b.k 1,er w.params (jG b))),(18,(b.k 2,bA)),(19,(c.k 1,er w.params (jG c))),(20,(c.k 2,bA)),(22,(c.N+1,aw #[] 0)),(23,(c.N+2,aw #[] 0))]))
  (X:=[(21,(c.N,aw #[.ref (a.k 0),.ref (b.k 0),.ref (c.k 0)] 0)),(24,(c.N+3,aw #[.ref (c.N+1),.ref (c.N+2)] 0)),(12,(1336,iz (f.k 0)))]) (nd (by kernel_rfl)) (λhn le N' t'=> ?_)
 ·exact this hh st Rl e
 ·have l2:=la.trans (lb.trans (lc.trans le));refine⟨rfl,lf.trans (ls.trans l2),⟨⟨i,s.k 0,c.N,c.N+3,c.N+1,c.N+2⟩,⟨f.k 0,f.k 1,s.k 0,s.k 1,s.k 2,s.k 3,s.k 4⟩,jG a,jG b,jG c⟩,dA st 0,f.k 0,rfl,⟨⟨hf.2.le (ls.trans l2),l2 _ _ hs.2.1,l2 _ _ hs.2.2⟩,rfl,(lb.trans (lc.trans le)) _ _ ha.2.1,(lc.trans le) _ _ hb.2.1,le _ _ hc.2.1,ha.2.2,hb.2.2,hc.2.2,?_,?_⟩,av (p:=(1336,iz (f.k 0))) hn (by simp),rfl⟩
  ·exact av (p:=(c.N,aw #[.ref (a.k 0),.ref (b.k 0),.ref (c.k 0)] 0)) hn (by simp)
  ·exact av (p:=(c.N+3,aw #[.ref (c.N+1),.ref (c.N+2)] 0)) hn (by simp)
def kR(x p:Int):az:=⟨1,λc=> .builtin "int.__pow__" ⟨[.int 6 (cA c 0),.int x (cA c 1)],[]⟩,λJ=>[],λa J=> .ok (.ret (.int p (a.k 0))),fz,same⟩
def Jx(x p:Int)(u v N t:Nat)(aa:RB):ax:=aR w 60 0 [57] (.ret (.ok (.ret (.int p t))) (bH [] [] N (t+1))) aa (.builtin "int.__pow__" ⟨[.int 6 u,.int x v],[]⟩) ⟨[],[],N,t⟩
variable{w}
theorem Bl w u v N t:∀aa,aE (Jx w 0 1 u v N t aa):=by apply bh w
theorem Bk w u v N t:∀aa,aE (Jx w 1 6 u v N t aa):=by apply bh w
theorem Bj w u v N t:∀aa,aE (Jx w 2 36 u v N t aa):=by apply bh w
theorem kR.ok{w:World}{R:aA}{F:aj}{x p:Int}(h:(x=0/\p=1)\/(x=1/\p=6)\/(x=2/\p=36)):(kR x p).OK w R F:=λc st hc J=>by
 rw [hc];have key:∀(e:∀N t aa,aE (Jx w x p (cA c 0) (cA c 1) N t aa)),aD w R F st 1 (.builtin "int.__pow__" ⟨[.int 6 (cA c 0),.int x (cA c 1)],[]⟩) ((kR x p).post F st):=λe=>
  aD.qZ (G1:=[]) (P:=λr F' N' t'=>r= .ok (.ret (.int p st.t))/\F'=F/\N'=st.N/\t'=st.t+1) cB (λR=>aD.run (d:=0) nr (e st.N st.t) (VC.exact ⟨rfl,rfl,rfl,rfl,rfl⟩)) λr F' N' t' hh=>by obtain⟨h1,h2,h3,h4⟩:=hh;exact⟨bB F' st.N (st.t+1) st.t,rfl,h2,h1,by rw [h3,h4];rfl⟩
 rcases h with⟨rfl,rfl⟩|⟨rfl,rfl⟩|⟨rfl,rfl⟩
 ·exact key λN t aa=>Bl w _ _ N t aa
 ·exact key λN t aa=>Bk w _ _ N t aa
 ·exact key λN t aa=>Bj w _ _ N t aa
def il(x y:Int):az:=⟨0,λc=> .builtin "int.__floordiv__" ⟨[.int x (cA c 0),.int y (cA c 1)],[]⟩,λJ=>[],λa J=> .ok (.ret (.int (x.fdiv y) (a.k 0))),fz,same⟩
theorem B':entryFor table "int.__floordiv__"=some Builtin.«int.__floordiv__»:=entryFor_of_tree (by kernel_rfl)
theorem il.ok{x y:Int}(h0:y≠0)(h1:y.natAbs<1000):(il x y).OK w R F:=λc st hc J=>by
 rw [hc];refine aD.meets (by decide+kernel) B' (AutoIntG4.int___floordiv___int_int_1 x _ y _ (by simpa using h0) ?_).meets λhh g dr os Rl A=> ?_
 ·unfold Builtin.divisionGoesByPylong;have h3:(if(y==0)=true then 0 else y.natAbs.log2/30+1)<=300:=by
   have:y.natAbs.log2<=10:=by
    have h2:y.natAbs≠0:=by lia
    have:=(Nat.log2_lt h2).mpr (show y.natAbs<2^10 by lia);lia
   split<;>lia
  intro hh;rw [Bool.and_eq_true,decide_eq_true_eq]at hh;exact Nat.not_lt.mpr h3 hh.1
 ·exact bI.pure Rl _ (az.de (h:=il x y) (λJ=>rfl) _ _ rfl rfl)
def mT(x y:Int)(b:Bool):az:=⟨2,λc=> .call (.builtin "int.__gt__") ⟨[.int x (cA c 0),.int y (cA c 1)],[]⟩,λJ=>[],λJ J=> .ok (.ret (.bool b)),fz,λF a=>a.F=F/\decide (x>y)=b⟩
def Mk(w:World)(x y:Int)(u v N t:Nat)(aa:RB):ax:=aR w 60 1 [1,55] (vj N (.ok (.ret (.bool (decide (x>y)))))) aa (.call (.builtin "int.__gt__") ⟨[.int x u,.int y v],[]⟩) ⟨[],[],N,t⟩
theorem uy w x y u v N t:∀aa,aE (Mk w x y u v N t aa):=by apply bh w
theorem mT.ok{x y:Int}:(mT x y true).Dt w R F (mT x y false):=λc st hc J=>by
 rw [hc];refine aD.xg (d:=1) nr (uy w x y _ _ _ _) λt'=> ?_;by_cases h:x>y
 ·exact .inl ⟨bB F st.N t' 0,rfl,⟨rfl,decide_eq_true h⟩,by rw [decide_eq_true h];rfl,rfl⟩
 ·exact .inr ⟨bB F st.N t' 0,rfl,⟨rfl,decide_eq_false h⟩,by rw [decide_eq_false h];rfl,rfl⟩
variable(w)
noncomputable def vB(j:JI)(x5 x6 x7 x8 x9:Value)(k:Nat):Value:=match k with
 |0=> .ref j.i.l
 |1=> .ref j.i.ru
 |2=> .ref j.i.fi
 |3=> .ref j.so
 |4=> .ref j.qo
 |5=>x5
 |6=>x6
 |7=>x7
 |8=>x8
 |_=>x9
structure WI where
 f:Int
 ft:Nat
 w:Int
 wt:Nat
 p:Int
 att:Value
def lB(k:KI)(v:WI)(x:MS)(n:Nat)(T:nN)(V:Nat->Value):aA:=lM P k x n T V (some (.int v.f v.ft)) (some (.int v.w v.wt)) (some v.att) none none
def ib(k:Nat):Stmt:=aB (iq (aB (iq (aB (bd P) 11)) 0)) k
noncomputable def nk(y p:Int):Int:=(y.fdiv p).fmod 6
def aS(k:KI)(v:WI)(x:MS)(n n':Nat)(T:nN)(x5 x6 x7 x8 x9:Value)(m:Nat->Int)(tt:nN)(y:Nat->Int)(u:nN)(M tk:Nat)(aa:RB):ax:=aF w 3000 36 (match w.params.followText f5 with|true=>(zJ [[0],vT,[1,1],oV,[9],RP,oV,[9],RP,oV,[9],RP,Sd,[55,1,1,51,51,51]])|false=>(zJ [[0],vT,[1,47,47,1,47,65,47,1],oV,[9],RP,oV,[9],RP,oV,[9],RP,Sd,[55,1,1,51,51,51]]))
 (.hk (aP k.j.i.nl (5+3*v.f+0) (.int (y 0) (u 0))) λJ=> .hk (kR v.w v.p) λJ=> .hk (il (y 0) v.p) λJ=> .hk (aP k.j.i.nl (5+3*v.f+1) (.int (y 1) (u 1))) λJ=> .hk (kR v.w v.p) λJ=> .hk (il (y 1) v.p) λJ=> .hk (aP k.j.i.nl (5+3*v.f+2) (.int (y 2) (u 2))) λJ=> .hk (kR v.w v.p) λJ=> .hk (il (y 2) v.p) λJ=>
 .ret (.ok .next) λst=>bJ (dz 0 (lB w.params k v x n' (dA st 0) (vB k.j (.ref (M+2)) x6 x7 x8 x9))++[(24,(M+2,aw #[.int (nk (y 0) v.p) (cF st 24 0),.int (nk (y 1) v.p) (cF st 24 1),.int (nk (y 2) v.p) (cF st 24 2)] 3))]) st)
 aa (LP.bD [ib w.params 0] (ev w.params k.j.i.N)) id ⟨lB w.params k v x n T (vB k.j x5 x6 x7 x8 x9),[(k.j.i.nl,aw (mF m tt) 0)],M,tk⟩
theorem Fl w k v x T x5 x6 x7 x8 x9 m tt y u M tk:∀aa,aE (aS w k v x 5 6 T x5 x6 x7 x8 x9 m tt y u M tk aa):=by apply kj w
theorem Co w k v x T x5 x6 x7 x8 x9 m tt y u M tk:∀aa,aE (aS w k v x 10 10 T x5 x6 x7 x8 x9 m tt y u M tk aa):=by apply kj w
noncomputable def tU(i:Int):aU:=match i.toNat with
 |0=> #[112]
 |1=> #[]
 |_=> #[113,32,114]
noncomputable def Nm(tk:nN):aV:= #[.bytes #[112] (tk 0),.bytes #[] (tk 1),.bytes #[113,32,114] (tk 2)]
noncomputable def zI(b:Bool):aU:=match b with
 |true=> #[13,10]
 |false=> #[10]
def Fg(k:KI)(v:WI)(x:MS)(n':Nat)(x5 x7 x8 x9:Value)(g:Nat->Int)(M:Nat)(a0 a1 a2:aL)(c0 c1 c2:Bool):bE:= .ret (.ok .next) λst=>bJ (dz 0 (lB w.params k v x n' (dA st 0) (vB k.j x5 (.ref (M+1)) x7 x8 x9))++
 [(23,(M+1,aw #[.ref (M+5),.ref (M+8),.ref (M+11)] 3)),(27,(M+5,dU (.bytes (tU ((g 0).fmod 3)) (a0.k 0)) (.bytes (zI c0) (cF st 27 1)))),(30,(M+8,dU (.bytes (tU ((g 1).fmod 3)) (a1.k 0)) (.bytes (zI c1) (cF st 30 1)))),(33,(M+11,dU (.bytes (tU ((g 2).fmod 3)) (a2.k 0)) (.bytes (zI c2) (cF st 33 1))))]) st
noncomputable def Jd:List Nat:=(zJ [[1,47,9,47,47,47,1],Bg,[59,59,59,1,59,0,3,14,49,0]])
noncomputable def Jc:List Nat:=(zJ [[1,47,9,47,47,47,1],Bg,[65,65,65,1,65,0,3,14,49,0]])
noncomputable def Jb:List Nat:=[1,47,9,47,47,47,1,45,1,45,8,45,45,2,45,45,71,1,1,49,49,49]
def pk(g:Nat->Int)(j i M:Nat):az:=cM j M Nm ((g i).fmod 3) (λt=> .bytes (tU ((g i).fmod 3)) t)
def MI(k:KI)(v:WI)(x:MS)(n':Nat)(x5 x7 x8 x9:Value)(g:Nat->Int)(M:Nat)(a0 a1:aL)(c0 c1:Bool):bE:= .hk (pk g 32 2 (M+10)) λa2=> .two (mT (g 2) 2 true) (mT (g 2) 2 false) Jb (λJ=>Fg w k v x n' x5 x7 x8 x9 g M a0 a1 a2 c0 c1 true) Jb λJ=>Fg w k v x n' x5 x7 x8 x9 g M a0 a1 a2 c0 c1 false
def MJ(k:KI)(v:WI)(x:MS)(n':Nat)(x5 x7 x8 x9:Value)(g:Nat->Int)(M:Nat)(a0:aL)(c0:Bool):bE:= .hk (pk g 29 1 (M+7)) λa1=> .two (mT (g 1) 2 true) (mT (g 1) 2 false) Jc (λJ=>MI w k v x n' x5 x7 x8 x9 g M a0 a1 c0 true) Jc λJ=>MI w k v x n' x5 x7 x8 x9 g M a0 a1 c0 false
def bS(k:KI)(v:WI)(x:MS)(n n' dg:Nat)(T:nN)(x6 x7 x8 x9:Value)(g:Nat->Int)(u:nN)(M tk:Nat)(aa:RB):ax:=aF w 3000 36 (match w.params.followText f5 with|true=>(zJ [[1],RM,[45,1,1],Bg,[53],RJ,[0,3,14,49,0]])|false=>(zJ [[1],RM,[45,1,45,45,1,45,25,45,1],Bg,[53],RJ,[0,3,14,49,0]]))
 (.hk (pk g 26 0 (M+4)) λa0=> .two (mT (g 0) 2 true) (mT (g 0) 2 false) Jd (λJ=>MJ w k v x n' (.ref dg) x7 x8 x9 g M a0 true) Jd λJ=>MJ w k v x n' (.ref dg) x7 x8 x9 g M a0 false)
 aa (LP.bD [ib w.params 1] (ev w.params k.j.i.N)) id ⟨lB w.params k v x n T (vB k.j (.ref dg) x6 x7 x8 x9),[(dg,aw #[.int (g 0) (u 0),.int (g 1) (u 1),.int (g 2) (u 2)] 3)],M,tk⟩
theorem Ff w k v x dg T x6 x7 x8 x9 g u M tk:∀aa,aE (bS w k v x 6 7 dg T x6 x7 x8 x9 g u M tk aa):=by apply kj w
theorem Cj w k v x dg T x6 x7 x8 x9 g u M tk:∀aa,aE (bS w k v x 10 10 dg T x6 x7 x8 x9 g u M tk aa):=by apply kj w
end LW
end H
def mK(x y:aU):az:=⟨0,λc=> .builtin "bytes.__ne__" ⟨[.bytes x (cA c 0),.bytes y (cA c 1)],[]⟩,λJ=>[],λJ J=> .ok (.ret (.bool false)),fz,same⟩
theorem mK.ok{w:World}{R:aA}{F:aj}{x y:aU}(h:x=y):(mK x y).OK w R F:=λc st hc he=>by
 refine(Tt.ok (w:=w) (R:=R) (F:=F) (x:=x) (y:=y) c st hc he).aT λr F' ah hp=> ?_;rcases hp with⟨a,e1,e2,e3,e4⟩|⟨a,e1,e2,e3,e4⟩
 ·exact absurd e2.2 (by rw [h];simp)
 ·exact⟨a,e1,e2.1,e3,e4⟩
namespace H
namespace LW
noncomputable def sK(k:KI):jF:=⟨k.s.N,k.s.t,k.j.so,k.s.dx,k.s.dt,k.s.k1,k.s.k2⟩
structure TI where
 q:dN
 l:cK
 s:Nat->Nat
 p:Nat
 b:Nat
 v:aV
 n:Nat
structure RD where
 pf:Nat
 rf:Nat
 r:Nat
 nm:aU
 nt:Nat
 As:aV
 CJ:Nat
 AG:aV
 Dk:Nat
 Au:aV
 Av:aV
 Kd:aV
 Kj:aV
 ak:Bool
 aN:Bool
def lC(k:KI)(v:WI)(D D2:Obj)(y:TI)(n:Nat)(T:nN)(V:Nat->Value):aA:=(k.j.i.N,gJ P n T V)::(vA k.j (some (.int v.f v.ft)) (some (.int v.w v.wt)) (some v.att) none none++[(k.s.N+2,D),(k.s.dt,D2),(y.q.td,er P y.q),(y.q.te,bN P y.l y.s y.p),(y.b,aw y.v y.n)])
def gC(k:KI)(y:TI)(z:RD)(cv:Bool)(X:aA):aA:=[(k.j.i.ru,aw z.As z.CJ),(z.rf,aw z.Au 3),(z.r,gP cv z.ak z.aN),(k.j.i.fi,aw z.AG z.Dk),(z.pf,aw z.Av 3)]++(X++[(k.j.so,cb 1315 k.s.dx),(k.s.dx,FD P k.s),(k.j.qo,aw z.Kd 0),(y.q.tb,cb 884 y.q.td),(k.j.st,aw z.Kj 0)])
def ME(k:KI)(v:WI)(D D2:Obj)(y:TI)(x5:Value)(dG:Nat):bE:= .ret (.ok .next) λst=>bJ (dz 0 (lC w.params k v D D2 y 10 (dA st 0) (vB k.j x5 (.ref dG) (o9 st 0 7) (o9 st 0 8) (o9 st 0 9)))++[]) st
def s9(k:KI)(v:WI)(D D2:Obj)(y:TI)(z:RD)(x5:Value)(dG:Nat)(cx:aU)(cs:lU)(im:Nat):bE:=
 .hk (lZ w cx) λnb=> .hk (fO w 12 13 (sK k) (nb.k 0) cx cs D D2) λao=> .hk (aP k.j.qo v.w (.ref y.q.tb)) λJ=> .hk (aP 1320 v.f (.bytes z.nm z.nt)) λJ=> .hk (gY w 12 (sK k) (nb.k 0) (ao.o 0) im) λgi=>
 .hk (d8 w 14 15 y.q z.nm (Ot im) y.l y.s y.p) λta=> .hk (aP k.j.st v.f (.ref y.b)) λJ=> .hk (br 16 y.b y.v y.n (.ref dG)) λap=>ME w k v (ao.o 0) (ao.o 1) ⟨y.q,put y.l z.nm (.ref (ta.k 0)),λj=>ta.k (j+4),ta.k 3,y.b,y.v.push (.ref dG),ap.k 0⟩ x5 dG
def gF(k:KI)(v:WI)(z:RD)(x:Value)(p:bE):bE:= .hk (aP k.j.i.fi v.f (.ref z.pf)) λJ=> .hk (aP z.pf v.w x) λJ=>p
def gR(k:KI)(v:WI)(z:RD)(p:bE):bE:= .hk (aP k.j.i.ru v.f (.ref z.rf)) λJ=> .hk (aP z.rf v.w (.ref z.r)) λJ=>p
def cN(k:KI)(v:WI)(D D2:Obj)(y:TI)(z:RD)(x5:Value)(dG:Nat)(af:Rows)(cs:lU)(im:Nat):bE:=
 .hk (bu dG af) λJ=>gF k v z .none (gR k v z (gR k v z (gF k v z .none (.hk (bu dG af) λJ=> .hk (mK (Bytes.joined #[] (aM af)) (Bytes.joined #[] (aM af))) λJ=>s9 w k v D D2 y z x5 dG (Bytes.joined #[] (aM af)) cs im))))
def cS(k:KI)(v:WI)(D D2:Obj)(y:TI)(z:RD)(x5:Value)(dG f9:Nat)(af rows':Rows)(cs:lU)(im:Nat):bE:=
 .hk (bu dG af) λJ=>gF k v z (.ref f9) (gR k v z (gR k v z (gR k v z (gF k v z (.ref f9) (.hk (eW z.r f9 dG) λJ=> .hk (dE dG #[10] af) λld=>
 gF k v z (.ref f9) (gF k v z (.ref f9) (.hk (jy f9 (Bytes.joined #[] (aM af))) λJ=> .hk (bu (ld.k 0) rows') λJ=> .hk (mK (jU (Bytes.joined #[] (aM af))) (Bytes.joined #[] (aM rows'))) λJ=>
  s9 w k v D D2 y z x5 (ld.k 0) (jU (Bytes.joined #[] (aM af))) cs im)))))))
def AX:List Stmt:=[ib P 2,ib P 3,ib P 4,ib P 5,ib P 6,ib P 7,ib P 8,ib P 9,ib P 10]
def MD(k:KI)(v:WI)(D D2:Obj)(y:TI)(z:RD)(n dG:Nat)(T:nN)(x5 x7 x8 x9:Value)(af:Rows)(cs:lU)(im M tk:Nat)(aa:RB):ax:=aF w 4000 36 (zJ [kA,[1,1],yF,[1,5],UG,[1,73,1,5],UG,yF,t9,kA,[1,0,43,0],aO,vX,[1,0,78,0,1,35,0,1,35],Hl,[12,0,0,0,12,0,0,0,12],vX,[12,14,1,0,0,1,11,16,16,16,1,16,0,3,18],mQ,[18],mQ,[18],vX,[18,29,0,5,0,0],kA,[3,1,22],mQ,[22],mQ,[22],mQ,[0,22,24,1,12,0,0,0,5,12,0,0,0,12,12,0,14],vX,[19,5,20,20,20,1,20,0,3,33,33,33,33,1,1,33,0,5]])
 (cN w k v D D2 y z x5 dG af cs im) aa (LP.bD (AX w.params) (ev w.params k.j.i.N)) id ⟨lC w.params k v D D2 y n T (vB k.j x5 (.ref dG) x7 x8 x9),gC w.params k y z false [],M,tk⟩
def MC(k:KI)(v:WI)(D D2:Obj)(y:TI)(z:RD)(n dG f9 fd:Nat)(fq:iy)(T:nN)(x5 x7 x8 x9:Value)(af rows':Rows)(cs:lU)(im M tk:Nat)(aa:RB):ax:=aF w 4000 36 (zJ [kA,[1,1],yF,[1,5],UG,[1,73,1,5],UG,[0,1,5],Bd,[11],RG,[0,3,14],yF,[1,0,0],kA,[1,1],yF,yF,[12,0,0,0,12,0,0,0,12],vX,[12,14,1,0],Hl,kA,[1,0,43,0],aO,vX,[1,0,78,0,1,35,0,1,35],Hl,[16,0,0,0,16,0,0,0,16],vX,[16,18,1,0,0,1,11,20,20,20,1,20,0,3,22],mQ,[22],mQ,[22],vX,[22,29,0,5,0,0],kA,[3,1,26],mQ,[26],mQ,[26],mQ,[0,26,28,1,16,0,0,0,5,16,0,0,0,16,16,0,18],vX,[19,5,24,24,24,1,24,0,3,33,33,33,33,1,1,33,0,5]])
 (cS w k v D D2 y z x5 dG f9 af rows' cs im) aa (LP.bD (AX w.params) (ev w.params k.j.i.N)) id ⟨lC w.params k v D D2 y n T (vB k.j x5 (.ref dG) x7 x8 x9),gC w.params k y z true [(f9,sL fd),(fd,sM w.params fq z.ak z.aN)],M,tk⟩
theorem Cg w k v D D2 y z dG T x5 x7 x8 x9 af cs im M tk:∀aa,aE (MD w k v D D2 y z 7 dG T x5 x7 x8 x9 af cs im M tk aa):=by apply bh w
theorem Cf w k v D D2 y z dG f9 fd fq T x5 x7 x8 x9 af rows' cs im M tk:∀aa,aE (MC w k v D D2 y z 7 dG f9 fd fq T x5 x7 x8 x9 af rows' cs im M tk aa):=by apply bh w
theorem z4 w k v D D2 y z dG T x5 x7 x8 x9 af cs im M tk:∀aa,aE (MD w k v D D2 y z 10 dG T x5 x7 x8 x9 af cs im M tk aa):=by apply bh w
theorem zZ w k v D D2 y z dG f9 fd fq T x5 x7 x8 x9 af rows' cs im M tk:∀aa,aE (MC w k v D D2 y z 10 dG f9 fd fq T x5 x7 x8 x9 af rows' cs im M tk aa):=by apply bh w
end LW
end H
variable{w}
theorem VC.kC{Y X:aZ->List (Nat × (Addr × Obj))}{ai:Result->aj->aZ->Prop}{r:Result}(hi:∀st,((Y st++X st).map (·.1)).Nodup)
  (h:∀st,(((X st).map (·.2)).map (·.1)).Nodup->F.le (cX F ((X st).map (·.2)))->∀N' t',ai r (cX F ((X st).map (·.2))) ⟨(Y st).map (·.2),[],N',t'⟩):VC w R ai F (.ret r λst=>bJ (Y st++X st) st):=λhh st Rl e=>
 VC.ee (w:=w) (R:=R) (F:=F) (ai:=ai) (r:=r) (Y:=Y st) (X:=X st) (hi st) (h st) hh st Rl e
theorem VC.SV{Y X:aZ->List (Nat × (Addr × Obj))}{ai:Result->aj->aZ->Prop}{r:Result}(hi:∀st,((Y st++X st).map (·.1)).Nodup)
  (h:∀st F',F.le F'->(∀k {j a o},bP (X st) k=some (j,a,o)->F' a=some o)->∀N' t',ai r F' ⟨(Y st).map (·.2),[],N',t'⟩):VC w R ai F (.ret r λst=>bJ (Y st++X st) st):=λhh st Rl e=>
 VC.gq (w:=w) (R:=R) (F:=F) (ai:=ai) (r:=r) (Y:=Y st) (X:=X st) (hi st) (h st) hh st Rl e
variable(w)
namespace H
namespace LW
section
variable{w:World}{R:aA}{F:aj}{k:KI}{v:WI}{x:MS}{n M tk:Nat}{T:nN}{x5 x6 x7 x8 x9:Value}
abbrev Ul(F:aj)(y:Nat->Int)(v:WI)(w:World)(k:KI)(x:MS)(n:Nat)(x6 x7 x8 x9:Value):Flow->aj->aZ->Prop:=λfl F' ah=>fl= .next/\F.le F'/\∃dg T',∃t:Nat->Nat,F' dg=some (aw #[.int (nk (y 0) v.p) (t 0),.int (nk (y 1) v.p) (t 1),.int (nk (y 2) v.p) (t 2)] 3)/\ah.L=lB w.params k v x (if n=5 then 6 else 10) T' (vB k.j (.ref dg) x6 x7 x8 x9)
theorem Mx{m:Nat->Int}{tt:nN}{y:Nat->Int}{u:nN}(hn:n=5\/n=10)(hl:F k.j.i.nl=some (aw (mF m tt) 0))(f0:0<=v.f)(f1:v.f<=1)(hp:(v.w=0/\v.p=1)\/(v.w=1/\v.p=6)\/(v.w=2/\v.p=36))
  (y0:(mF m tt)[(5+3*v.f+0).toNat]? =some (.int (y 0) (u 0))) (y1:(mF m tt)[(5+3*v.f+1).toNat]? =some (.int (y 1) (u 1))) (y2:(mF m tt)[(5+3*v.f+2).toNat]? =some (.int (y 2) (u 2))):
  ab w R F ⟨lB w.params k v x n T (vB k.j x5 x6 x7 x8 x9),[],M,tk⟩ 36 (PySem.execs [ib w.params 0] (ev w.params k.j.i.N)) (Ul F y v w k x n x6 x7 x8 x9):=by
 refine ab.cj rfl (aq hl cB) ?_;have Az:v.p≠0/\v.p.natAbs<1000:=by rcases hp with⟨J,h⟩|⟨_,h⟩|⟨_,h⟩<;>rw [h]<;>decide
 have key:∀n',(n'=if n=5 then 6 else 10)->(∀aa,aE (aS w k v x n n' T x5 x6 x7 x8 x9 m tt y u M tk aa))->ab w R F ⟨lB w.params k v x n T (vB k.j x5 x6 x7 x8 x9),[(k.j.i.nl,aw (mF m tt) 0)],M,tk⟩ 36 (PySem.execs [ib w.params 0] (ev w.params k.j.i.N)) λfl F' ah=>fl= .next/\F.le F'/\∃dg T',∃t:Nat->Nat,F' dg=some (aw #[.int (nk (y 0) v.p) (t 0),.int (nk (y 1) v.p) (t 1),.int (nk (y 2) v.p) (t 2)] 3)/\ah.L=lB w.params k v x (if n=5 then 6 else 10) T' (vB k.j (.ref dg) x6 x7 x8 x9):=by
  intro n' kL e;rw [<-kL];refine ab.eq (LP.aH _ _) (ab.rN (d:=36) e ?_);refine VC.sm (aP.ok hl (by lia) (by lia) y0) λa=> ?_;refine VC.sm (kR.ok hp) λa=> ?_;refine VC.sm (il.ok Az.1 Az.2) λa=> ?_;refine VC.sm (aP.ok hl (by lia) (by lia) y1) λa=> ?_;refine VC.sm (kR.ok hp) λa=> ?_;refine VC.sm (il.ok Az.1 Az.2) λa=> ?_;refine VC.sm (aP.ok hl (by lia) (by lia) y2) λa=> ?_;refine VC.sm (kR.ok hp) λa=> ?_;refine VC.sm (il.ok Az.1 Az.2) λa=> ?_;refine VC.SV (Y:=λst=>dz 0 (lB w.params k v x n' (dA st 0) (vB k.j (.ref (M+2)) x6 x7 x8 x9))) (X:=λst=>[(24,(M+2,aw #[.int (nk (y 0) v.p) (cF st 24 0),.int (nk (y 1) v.p) (cF st 24 1),.int (nk (y 2) v.p) (cF st 24 2)] 3))]) (λst=> ?_) λst F' le pR N' t'=> ?_
  ·exact nd (by kernel_rfl)
  ·exact⟨rfl,le,M+2,dA st 0,cF st 24,pR 0 rfl,cw _ 0⟩
 rcases hn with rfl|rfl
 ·exact key 6 rfl λaa=>Fl w k v x T x5 x6 x7 x8 x9 m tt y u M tk aa
 ·exact key 10 rfl λaa=>Co w k v x T x5 x6 x7 x8 x9 m tt y u M tk aa
noncomputable def d6(g:Int):dP:=(tU (g.fmod 3),zI (decide (g>2)))
theorem A5(g:Int):∀tk,∃u,(Nm tk)[(g.fmod 3).toNat]? =some (.bytes (tU (g.fmod 3)) u):=by
 have h:=fm g 3 (by decide);generalize g.fmod 3=z at h;obtain⟨n,rfl⟩:=Int.eq_ofNat_of_zero_le h.1;have:n<3:=by lia
 intro tk;unfold tU;rw [Int.toNat_natCast];exact Tn n this ⟨tk 0,rfl⟩ ⟨tk 1,rfl⟩ ⟨tk 2,rfl⟩
theorem pk.ok{g:Nat->Int}{j i M:Nat}:(pk g j i M).OK w R F:=by have h:=fm (g i) 3 (by decide);exact cM.ok h.1 (by lia) (A5 (g i))
abbrev TU(F:aj)(g:Nat->Int)(w:World)(k:KI)(v:WI)(x:MS)(n dg:Nat)(x7 x8 x9:Value):Flow->aj->aZ->Prop:=λfl F' ah=>fl= .next/\F.le F'/\∃dG T',bM F' dG [d6 (g 0),d6 (g 1),d6 (g 2)]/\ah.L=lB w.params k v x (if n=6 then 7 else 10) T' (vB k.j (.ref dg) (.ref dG) x7 x8 x9)
theorem GW{dg:Nat}{g:Nat->Int}{u:nN}(hn:n=6\/n=10)(hd:F dg=some (aw #[.int (g 0) (u 0),.int (g 1) (u 1),.int (g 2) (u 2)] 3)):
  ab w R F ⟨lB w.params k v x n T (vB k.j (.ref dg) x6 x7 x8 x9),[],M,tk⟩ 36 (PySem.execs [ib w.params 1] (ev w.params k.j.i.N)) (TU F g w k v x n dg x7 x8 x9):=by
 refine ab.cj rfl (aq hd cB) ?_
 let Q:Nat->Result->aj->aZ->Prop:=λn' r F' ah=>r= .ok .next/\F.le F'/\∃dG T',bM F' dG [d6 (g 0),d6 (g 1),d6 (g 2)]/\ah.L=lB w.params k v x n' T' (vB k.j (.ref dg) (.ref dG) x7 x8 x9)
 have fin:∀n' (a0 a1 a2:aL) (c0 c1 c2:Bool),decide (g 0>2)=c0->decide (g 1>2)=c1->decide (g 2>2)=c2->VC w R (Q n') F (Fg w k v x n' (.ref dg) x7 x8 x9 g M a0 a1 a2 c0 c1 c2):=λn' a0 a1 a2 c0 c1 c2 e0 e1 e2=>by
  refine VC.SV (Y:=λst=>dz 0 (lB w.params k v x n' (dA st 0) (vB k.j (.ref dg) (.ref (M+1)) x7 x8 x9))) (X:=λst=>[(23,(M+1,aw #[.ref (M+5),.ref (M+8),.ref (M+11)] 3)),(27,(M+5,dU (.bytes (tU ((g 0).fmod 3)) (a0.k 0)) (.bytes (zI c0) (cF st 27 1)))),(30,(M+8,dU (.bytes (tU ((g 1).fmod 3)) (a1.k 0)) (.bytes (zI c1) (cF st 30 1)))),(33,(M+11,dU (.bytes (tU ((g 2).fmod 3)) (a2.k 0)) (.bytes (zI c2) (cF st 33 1))))]) (λst=> ?_) λst F' le pR N' t'=> ?_
  ·exact nd (by kernel_rfl)
  ·refine⟨rfl,le,M+1,dA st 0,⟨#[.ref (M+5),.ref (M+8),.ref (M+11)],3,?_,?_⟩,cw _ 0⟩
   ·exact pR 0 rfl
   ·unfold d6;rw [e0,e1,e2];exact .cons _ _ _ (a0.k 0) (cF st 27 1) (pR 1 rfl) (.cons _ _ _ (a1.k 0) (cF st 30 1) (pR 2 rfl) (.cons _ _ _ (a2.k 0) (cF st 33 1) (pR 3 rfl) .nil))
 have v3:∀n' (a0 a1:aL) (c0 c1:Bool),decide (g 0>2)=c0->decide (g 1>2)=c1->VC w R (Q n') F (MI w k v x n' (.ref dg) x7 x8 x9 g M a0 a1 c0 c1):=λn' a0 a1 c0 c1 e0 e1=>by
  refine VC.sm (pk.ok) λa2=> ?_;refine⟨mT.ok,λb J hf=> ?_,λb J hf=> ?_⟩
  ·rw [show b.F=F from hf.1];exact fin n' a0 a1 a2 c0 c1 true e0 e1 hf.2
  ·rw [show b.F=F from hf.1];exact fin n' a0 a1 a2 c0 c1 false e0 e1 hf.2
 have v2:∀n' (a0:aL) (c0:Bool),decide (g 0>2)=c0->VC w R (Q n') F (MJ w k v x n' (.ref dg) x7 x8 x9 g M a0 c0):=λn' a0 c0 e0=>by
  refine VC.sm (pk.ok) λa1=> ?_;refine⟨mT.ok,λb J hf=> ?_,λb J hf=> ?_⟩
  ·rw [show b.F=F from hf.1];exact v3 n' a0 a1 c0 true e0 hf.2
  ·rw [show b.F=F from hf.1];exact v3 n' a0 a1 c0 false e0 hf.2
 have key:∀n',(n'=if n=6 then 7 else 10)->(∀aa,aE (bS w k v x n n' dg T x6 x7 x8 x9 g u M tk aa))->ab w R F ⟨lB w.params k v x n T (vB k.j (.ref dg) x6 x7 x8 x9),[(dg,aw #[.int (g 0) (u 0),.int (g 1) (u 1),.int (g 2) (u 2)] 3)],M,tk⟩ 36 (PySem.execs [ib w.params 1] (ev w.params k.j.i.N)) λfl F' ah=>fl= .next/\F.le F'/\∃dG T',bM F' dG [d6 (g 0),d6 (g 1),d6 (g 2)]/\ah.L=lB w.params k v x (if n=6 then 7 else 10) T' (vB k.j (.ref dg) (.ref dG) x7 x8 x9):=by
  intro n' kL e;rw [<-kL];refine ab.eq (LP.aH _ _) (ab.run (enc:=id) (d:=36) (ai:=Q n') nr e ?_ (λf F' ah h=>⟨Except.ok.inj h.1,h.2⟩) λJ J J h=>by cases h.1);refine VC.sm (pk.ok) λa0=> ?_;refine⟨mT.ok,λb J hf=> ?_,λb J hf=> ?_⟩
  ·rw [show b.F=F from hf.1];exact v2 n' a0 true hf.2
  ·rw [show b.F=F from hf.1];exact v2 n' a0 false hf.2
 rcases hn with rfl|rfl
 ·exact key 7 rfl λaa=>Ff w k v x dg T x6 x7 x8 x9 g u M tk aa
 ·exact key 10 rfl λaa=>Cj w k v x dg T x6 x7 x8 x9 g u M tk aa
end
end LW
end H
end Mine
namespace Mine
namespace H
namespace LW
structure CF(w:World)(F:aj)(k:KI)(v:WI)(y:TI)(z:RD)(cv:Bool)(x:Value)(cs:lU)(D D2:Obj):Prop where
 f0:0<=v.f
 f1:v.f<1000
 w0:0<=v.w
 w1:v.w<1000
 ru:F k.j.i.ru=some (aw z.As z.CJ)
 Ju:z.As[v.f.toNat]? =some (.ref z.rf)
 rf:F z.rf=some (aw z.Au 3)
 Jw:z.Au[v.w.toNat]? =some (.ref z.r)
 hr:F z.r=some (gP cv z.ak z.aN)
 fi:F k.j.i.fi=some (aw z.AG z.Dk)
 JZ:z.AG[v.f.toNat]? =some (.ref z.pf)
 pf:F z.pf=some (aw z.Av 3)
 Jy:z.Av[v.w.toNat]? =some x
 qo:F k.j.qo=some (aw z.Kd 0)
 Na:z.Kd[v.w.toNat]? =some (.ref y.q.tb)
 q:F y.q.tb=some (cb 884 y.q.td)
 AY:F k.j.st=some (aw z.Kj 0)
 Nf:z.Kj[v.f.toNat]? =some (.ref y.b)
 NC:∃nv e,F 1320=some (aw nv e)/\nv[v.f.toNat]? =some (.bytes z.nm z.nt)
 Ec:rB w F k
 kn:dk w.params cs D
 da:fU w F cs D2
 h8:cs.length<8
 ln:(y.l.map (·.1)).Nodup
 lz:y.l.length<=10
 vz:y.v.size<=10
section
variable{w:World}{R:aA}{F:aj}{k:KI}{v:WI}{y:TI}{z:RD}{cv:Bool}{x:Value}{cs:lU}{D D2:Obj}{x5 x7 x8 x9:Value}{ai:Result->aj->aZ->Prop}
theorem xu(h:rB w F k):sK k=k.s:=by unfold sK;rw [<-h.so]
def qk(w:World)(F:aj)(k:KI)(v:WI)(y:TI)(z:RD)(cs:lU)(x5:Value)(af:Rows)(F':aj)(ah:aZ):Prop:=
 F.le F'/\Uk λdG T' x7 x8 x9 D' jN u vv r ts ep ad n'=>bM F' dG af/\dk w.params (bT cs (rb af)) D'/\fU w F' (bT cs (rb af)) jN/\F' ad=some (jS u (Ot r) vv)/\(bT cs (rb af))[r]? =some (rb af)/\
  ah.L=lC w.params k v D' jN ⟨y.q,put y.l z.nm (.ref ad),ts,ep,y.b,y.v.push (.ref dG),n'⟩ 10 T' (vB k.j x5 (.ref dG) x7 x8 x9)
theorem uW{dG im:Nat}{af:Rows}{F1:aj}(l1:F.le F1)(h:CF w F k v y z cv x cs D D2)(hz:(rb af).size<300)(ur:bM F1 dG af)(vp:(bT cs (rb af))[im]? =some (rb af)):
  VC w R (λr F' ah=>r= .ok .next/\qk w F k v y z cs x5 af F' ah) F1 (s9 w k v D D2 y z x5 dG (rb af) cs im):=by
 have ek:=xu h.Ec;unfold s9;rw [ek];refine⟨lZ.ok,λnb l2 Lw=> ?_⟩;have hb:cm w nb.F (nb.k 0) (rb af):=Lw.1;have og:=l1.trans l2;refine⟨fO.ok (by decide) (h.Ec.st.le og) hb hz h.kn (h.da.le og) h.h8,λao l3 EY=> ?_⟩;have CW:=og.trans l3;refine⟨aP.ok (CW _ _ h.qo) h.w0 h.w1 h.Na,λa J hf=> ?_⟩;rw [show a.F=ao.F from hf];obtain⟨nv,e,BM,pR⟩:=h.NC;refine⟨aP.ok (CW _ _ BM) h.f0 h.f1 pR,λa J hf=> ?_⟩;rw [show a.F=ao.F from hf];refine⟨gY.ok (h.Ec.st.le CW).f (hb.le l3) hz EY.2.1 vp,λgi J hf=> ?_⟩;rw [show gi.F=ao.F from hf];refine⟨d8.ok (by decide) (CW _ _ h.q) h.ln (by have:=h.lz;rw [sizeLine_eq];lia),λta l4 Pr=> ?_⟩;have NM:=CW.trans l4;refine⟨aP.ok (NM _ _ h.AY) h.f0 h.f1 h.Nf,λa J hf=> ?_⟩;rw [show a.F=ta.F from hf];refine⟨br.ok (by have:=h.vz;rw [sizeLine_eq];lia),λap J hf=> ?_⟩;rw [show ap.F=ta.F from hf];refine VC.SV (Y:=λst=>dz 0 (lC w.params k v (ao.o 0) (ao.o 1) ⟨y.q,put y.l z.nm (.ref (ta.k 0)),λj=>ta.k (j+4),ta.k 3,y.b,y.v.push (.ref dG),ap.k 0⟩ 10 (dA st 0) (vB k.j x5 (.ref dG) (o9 st 0 7) (o9 st 0 8) (o9 st 0 9)))) (X:=λJ=>[]) (λst=> ?_) λst F' le pR N' t'=> ?_
 ·exact nd (by kernel_rfl)
 ·have Pk:=NM.trans le;refine⟨rfl,Pk,dG,dA st 0,o9 st 0 7,o9 st 0 8,o9 st 0 9,ao.o 0,ao.o 1,ta.k 1,ta.k 2,im,λj=>ta.k (j+4),ta.k 3,ta.k 0,ap.k 0,ur.le ((l2.trans (l3.trans l4)).trans le),EY.2.1,EY.2.2.le (l4.trans le),le _ _ Pr.2,vp,cw _ 0⟩
theorem pY{F1:aj}{p:bE}(l1:F.le F1)(h:CF w F k v y z cv x cs D D2)(hp:VC w R ai F1 p):VC w R ai F1 (gF k v z x p):=by refine VC.sm (aP.ok (l1 _ _ h.fi) h.f0 h.f1 h.JZ) λa=> ?_;refine VC.sm (aP.ok (l1 _ _ h.pf) h.w0 h.w1 h.Jy) λa=> ?_;exact hp
theorem sI{F1:aj}{p:bE}(l1:F.le F1)(h:CF w F k v y z cv x cs D D2)(hp:VC w R ai F1 p):VC w R ai F1 (gR k v z p):=by refine VC.sm (aP.ok (l1 _ _ h.ru) h.f0 h.f1 h.Ju) λa=> ?_;refine VC.sm (aP.ok (l1 _ _ h.rf) h.w0 h.w1 h.Jw) λa=> ?_;exact hp
theorem gG{fd:List (Addr × Obj)}(h:CF w F k v y z cv x cs D D2)(hx:∀p∈fd,F p.1=some p.2):∀p∈gC w.params k y z cv fd,F p.1=some p.2:=λp hp=>by
 rcases List.mem_append.mp hp with hp|hp
 ·exact aq h.ru (aq h.rf (aq h.hr (aq h.fi (aq h.pf cB)))) p hp
 ·rcases List.mem_append.mp hp with hp|hp
  ·exact hx p hp
  ·exact aq (show F k.j.so=_ by rw [<-h.Ec.so];exact h.Ec.st.o) (aq h.Ec.st.d (aq h.qo (aq h.q (aq h.AY cB)))) p hp
theorem G2{n dG M tk:Nat}{T:nN}{af:Rows}(hn:n=7\/n=10)(h:CF w F k v y z false .none cs D D2)(hd:oT af)(hz:(rb af).size<300)(ur:bM F dG af):
  ab w R F ⟨lC w.params k v D D2 y n T (vB k.j x5 (.ref dG) x7 x8 x9),[],M,tk⟩ 36 (PySem.execs (AX w.params) (ev w.params k.j.i.N)) λfl F' ah=>fl= .next/\qk w F k v y z cs x5 af F' ah:=by
 obtain⟨im,vp⟩:=List.getElem?_of_mem (n6 (cs:=cs) (x:=rb af));refine ab.cj rfl (gG h cB) ?_;have key:(∀aa,aE (MD w k v D D2 y z n dG T x5 x7 x8 x9 af cs im M tk aa))->ab w R F ⟨lC w.params k v D D2 y n T (vB k.j x5 (.ref dG) x7 x8 x9),gC w.params k y z false [],M,tk⟩ 36 (PySem.execs (AX w.params) (ev w.params k.j.i.N)) λfl F' ah=>fl= .next/\qk w F k v y z cs x5 af F' ah:=λe=>by refine ab.eq (LP.aH _ _) (ab.rN (d:=36) e ?_);refine VC.sm (bu.wk ur hd) λa=> ?_;refine pY (aj.le.refl F) h (sI (aj.le.refl F) h (sI (aj.le.refl F) h (pY (aj.le.refl F) h ⟨bu.wk ur hd,λa J hf=> ?_⟩)));rw [show a.F=F from hf];refine VC.sm (mK.ok rfl) λa=> ?_;exact uW (aj.le.refl F) h hz ur vp
 rcases hn with rfl|rfl
 ·exact key λaa=>Cg w k v D D2 y z dG T x5 x7 x8 x9 af cs im M tk aa
 ·exact key λaa=>z4 w k v D D2 y z dG T x5 x7 x8 x9 af cs im M tk aa
theorem GZ{n dG f9 M tk:Nat}{T:nN}{af:Rows}(hn:n=7\/n=10)(h:CF w F k v y z true (.ref f9) cs D D2)(oq:bW w F f9 z.ak z.aN)(ht:wH z.ak z.aN af)(hd:oT (LL.laid af #[10]))(hz:(rb (LL.laid af #[10])).size<300)(he:jU (rb af)=rb (LL.laid af #[10]))(ur:bM F dG af):
  ab w R F ⟨lC w.params k v D D2 y n T (vB k.j x5 (.ref dG) x7 x8 x9),[],M,tk⟩ 36 (PySem.execs (AX w.params) (ev w.params k.j.i.N)) λfl F' ah=>fl= .next/\qk w F k v y z cs x5 (LL.laid af #[10]) F' ah:=by
 obtain⟨im,vp⟩:=List.getElem?_of_mem (n6 (cs:=cs) (x:=rb (LL.laid af #[10])));obtain⟨fd,fq,q1,q2⟩:=id oq;refine ab.cj rfl (gG h (aq q1 (aq q2 cB))) ?_;have key:(∀aa,aE (MC w k v D D2 y z n dG f9 fd fq T x5 x7 x8 x9 af (LL.laid af #[10]) cs im M tk aa))->ab w R F ⟨lC w.params k v D D2 y n T (vB k.j x5 (.ref dG) x7 x8 x9),gC w.params k y z true [(f9,sL fd),(fd,sM w.params fq z.ak z.aN)],M,tk⟩ 36 (PySem.execs (AX w.params) (ev w.params k.j.i.N)) λfl F' ah=>fl= .next/\qk w F k v y z cs x5 (LL.laid af #[10]) F' ah:=λe=>by refine ab.eq (LP.aH _ _) (ab.rN (d:=36) e ?_);have l0:=aj.le.refl F;refine VC.sm (bu.wk ur ht.d1) λa=> ?_;refine pY l0 h (sI l0 h (sI l0 h (sI l0 h (pY l0 h ⟨eW.ok h.hr oq ur ht,λa l1 J=>⟨dE.ok (ur.le l1) ht.d1.len ht.d1.ne,λld l2 NX=> ?_⟩⟩))));have og:=l1.trans l2;refine pY og h (pY og h ⟨jy.ok (bW.le og oq) ht.f1.size ht.f1.Hz ht.f1.NJ ht.f1.NI,λb J hf=> ?_⟩);rw [show b.F=ld.F from hf];refine⟨bu.wk NX hd,λb J hf=> ?_⟩;rw [show b.F=ld.F from hf];refine⟨mK.ok he,λb J hf=> ?_⟩;rw [show b.F=ld.F from hf];have:=uW (R:=R) (x5:=x5) (im:=im) og h hz NX vp;rw [<-he]at this;show VC _ _ _ _ (s9 w k v D D2 y z x5 (ld.k 0) (jU (rb af)) cs im);rw [he]at this⊢;exact this
 rcases hn with rfl|rfl
 ·exact key λaa=>Cf w k v D D2 y z dG f9 fd fq T x5 x7 x8 x9 af _ cs im M tk aa
 ·exact key λaa=>zZ w k v D D2 y z dG f9 fd fq T x5 x7 x8 x9 af _ cs im M tk aa
end
end LW
end H
theorem wZ{α:Type}(K TA Tw TB SA Sf SB:List α):List.Perm (K++(TA++(Tw++(TB++(SA++(Sf++SB)))))) ((K++(Tw++Sf))++(TA++(TB++(SA++SB)))):=by rw [List.append_assoc,List.append_assoc];refine List.Perm.append_left K ?_;refine(List.Perm.append_left TA (List.Perm.append_left Tw (List.Perm.append_left TB (List.perm_append_comm_assoc _ _ _)))).trans ?_;refine(List.Perm.append_left TA (List.Perm.append_left Tw (List.perm_append_comm_assoc _ _ _))).trans ?_;refine(List.perm_append_comm_assoc _ _ _).trans ?_;exact List.Perm.append_left Tw (List.perm_append_comm_assoc _ _ _)
namespace H
namespace LW
noncomputable def qW(k:KI)(w:Nat):dN:=match w with
 |0=>k.q1
 |1=>k.q2
 |_=>k.q3
noncomputable def lW(x:MS)(w:Nat):cK:=match w with
 |0=>x.l1
 |1=>x.l2
 |_=>x.l3
noncomputable def sW(x:MS)(w:Nat):Nat->Nat:=match w with
 |0=>x.s1
 |1=>x.s2
 |_=>x.s3
noncomputable def pW(x:MS)(w:Nat):Nat:=match w with
 |0=>x.p1
 |1=>x.p2
 |_=>x.p3
noncomputable def bF(k:KI)(f:Nat):Nat:=match f with
 |0=>k.j.b0
 |_=>k.j.b1
noncomputable def vF(x:MS)(f:Nat):aV:=match f with
 |0=>x.v0
 |_=>x.v1
noncomputable def nF(x:MS)(f:Nat):Nat:=match f with
 |0=>x.n0
 |_=>x.n1
noncomputable def vH(k:KI)(x:MS)(f w:Nat):TI:=⟨qW k w,lW x w,sW x w,pW x w,bF k f,vF x f,nF x f⟩
noncomputable def fH(x:MS)(f w:Nat)(D D2:Obj)(l:cK)(s:nN)(p:Nat)(v:aV)(n:Nat):MS:=match f,w with
 |0,0=>{x with D:=D,D2:=D2,l1:=l,s1:=s,p1:=p,v0:=v,n0:=n}
 |0,1=>{x with D:=D,D2:=D2,l2:=l,s2:=s,p2:=p,v0:=v,n0:=n}
 |0,_=>{x with D:=D,D2:=D2,l3:=l,s3:=s,p3:=p,v0:=v,n0:=n}
 |_,0=>{x with D:=D,D2:=D2,l1:=l,s1:=s,p1:=p,v1:=v,n1:=n}
 |_,1=>{x with D:=D,D2:=D2,l2:=l,s2:=s,p2:=p,v1:=v,n1:=n}
 |_,_=>{x with D:=D,D2:=D2,l3:=l,s3:=s,p3:=p,v1:=v,n1:=n}
theorem bz(k:KI)(v:WI)(x:MS)(f w:Nat):∃L2:aA,(∀n T V,List.Perm (lB P k v x n T V) (lC P k v x.D x.D2 (vH k x f w) n T V++L2))/\
  ∀D D2 l s p vv nn n T V,List.Perm (lB P k v (fH x f w D D2 l s p vv nn) n T V) (lC P k v D D2 ⟨qW k w,l,s,p,bF k f,vv,nn⟩ n T V++L2):=by
 let K:Obj->Obj->Nat->(Nat->Nat)->(Nat->Value)->aA:=λD D2 n T V=>(k.j.i.N,gJ P n T V)::(vA k.j (some (.int v.f v.ft)) (some (.int v.w v.wt)) (some v.att) none none++[(k.s.N+2,D),(k.s.dt,D2)])
 let t1:aA:=[(k.q1.td,er P k.q1),(k.q1.te,bN P x.l1 x.s1 x.p1)]
 let t2:aA:=[(k.q2.td,er P k.q2),(k.q2.te,bN P x.l2 x.s2 x.p2)]
 let t3:aA:=[(k.q3.td,er P k.q3),(k.q3.te,bN P x.l3 x.s3 x.p3)]
 let s0:aA:=[(k.j.b0,aw x.v0 x.n0)]
 let s1:aA:=[(k.j.b1,aw x.v1 x.n1)]
 match f,w with
 |0,0=>exact⟨[]++((t2++t3)++([]++s1)),λn T V=>wZ (K x.D x.D2 n T V) [] t1 (t2++t3) [] s0 s1,λD D2 l s p vv nn n T V=>wZ (K D D2 n T V) [] [(k.q1.td,er P k.q1),(k.q1.te,bN P l s p)] (t2++t3) [] [(k.j.b0,aw vv nn)] s1⟩
 |0,1=>exact⟨t1++(t3++([]++s1)),λn T V=>wZ (K x.D x.D2 n T V) t1 t2 t3 [] s0 s1,λD D2 l s p vv nn n T V=>wZ (K D D2 n T V) t1 [(k.q2.td,er P k.q2),(k.q2.te,bN P l s p)] t3 [] [(k.j.b0,aw vv nn)] s1⟩
 |0,w+2=>exact⟨(t1++t2)++([]++([]++s1)),λn T V=>wZ (K x.D x.D2 n T V) (t1++t2) t3 [] [] s0 s1,λD D2 l s p vv nn n T V=>wZ (K D D2 n T V) (t1++t2) [(k.q3.td,er P k.q3),(k.q3.te,bN P l s p)] [] [] [(k.j.b0,aw vv nn)] s1⟩
 |f+1,0=>exact⟨[]++((t2++t3)++(s0++[])),λn T V=>wZ (K x.D x.D2 n T V) [] t1 (t2++t3) s0 s1 [],λD D2 l s p vv nn n T V=>wZ (K D D2 n T V) [] [(k.q1.td,er P k.q1),(k.q1.te,bN P l s p)] (t2++t3) s0 [(k.j.b1,aw vv nn)] []⟩
 |f+1,1=>exact⟨t1++(t3++(s0++[])),λn T V=>wZ (K x.D x.D2 n T V) t1 t2 t3 s0 s1 [],λD D2 l s p vv nn n T V=>wZ (K D D2 n T V) t1 [(k.q2.td,er P k.q2),(k.q2.te,bN P l s p)] t3 s0 [(k.j.b1,aw vv nn)] []⟩
 |f+1,w+2=>exact⟨(t1++t2)++([]++(s0++[])),λn T V=>wZ (K x.D x.D2 n T V) (t1++t2) t3 [] s0 s1 [],λD D2 l s p vv nn n T V=>wZ (K D D2 n T V) (t1++t2) [(k.q3.td,er P k.q3),(k.q3.te,bN P l s p)] [] s0 [(k.j.b1,aw vv nn)] []⟩
theorem CF.le{w:World}{F F':aj}{k:KI}{v:WI}{y:TI}{z:RD}{cv:Bool}{x:Value}{cs:lU}{D D2:Obj}(l:F.le F')(h:CF w F k v y z cv x cs D D2):CF w F' k v y z cv x cs D D2:=
 ⟨h.f0,h.f1,h.w0,h.w1,l _ _ h.ru,h.Ju,l _ _ h.rf,h.Jw,l _ _ h.hr,l _ _ h.fi,h.JZ,l _ _ h.pf,h.Jy,l _ _ h.qo,h.Na,l _ _ h.q,l _ _ h.AY,h.Nf,(by obtain⟨nv,e,a,b⟩:=h.NC;exact⟨nv,e,l _ _ a,b⟩),h.Ec.le l,h.kn,h.da.le l,h.h8,h.ln,h.lz,h.vz⟩
structure DG(m:Nat->Int)(tt:nN)(v:WI)(y:Nat->Int)(u:nN):Prop where
 f0:0<=v.f
 f1:v.f<=1
 hp:(v.w=0/\v.p=1)\/(v.w=1/\v.p=6)\/(v.w=2/\v.p=36)
 y0:(mF m tt)[(5+3*v.f+0).toNat]? =some (.int (y 0) (u 0))
 y1:(mF m tt)[(5+3*v.f+1).toNat]? =some (.int (y 1) (u 1))
 y2:(mF m tt)[(5+3*v.f+2).toNat]? =some (.int (y 2) (u 2))
noncomputable def DW(v:WI)(y:Nat->Int):Rows:=[d6 (nk (y 0) v.p),d6 (nk (y 1) v.p),d6 (nk (y 2) v.p)]
def vG(F:aj)(k:KI)(v:WI)(x:MS)(f g:Nat)(nm:aU)(cs:lU)(af:Rows)(F':aj)(ah:aZ):Prop:=
 F.le F'/\Uj λdG T' x5 x6 x7 x8 x9 D' jN u vv r ts ep ad n'=>bM F' dG af/\dk w.params (bT cs (rb af)) D'/\fU w F' (bT cs (rb af)) jN/\F' ad=some (jS u (Ot r) vv)/\(bT cs (rb af))[r]? =some (rb af)/\
  ah.L=lB w.params k v (fH x f g D' jN (put (lW x g) nm (.ref ad)) ts ep ((vF x f).push (.ref dG)) n') 10 T' (vB k.j x5 x6 x7 x8 x9)
section
variable{w:World}{R:aA}{F:aj}{k:KI}{v:WI}{x:MS}{n M tk f g:Nat}{T:nN}{x5 x6 x7 x8 x9:Value}{z:RD}{cs:lU}{m:Nat->Int}{tt:nN}{y:Nat->Int}{u:nN}
theorem Cz{cv:Bool}{xv:Value}{rows':Rows}(hn:n=5\/n=10)(hl:F k.j.i.nl=some (aw (mF m tt) 0))(hg:DG m tt v y u)(h:CF w F k v (vH k x f g) z cv xv cs x.D x.D2)
  (i6:∀(F':aj) (n' dG M' Ke:Nat) (T':nN) (x5 x7 x8 x9:Value) (R':aA),F.le F'->(n'=7\/n'=10)->bM F' dG (DW v y)->CF w F' k v (vH k x f g) z cv xv cs x.D x.D2->
   ab w R' F' ⟨lC w.params k v x.D x.D2 (vH k x f g) n' T' (vB k.j x5 (.ref dG) x7 x8 x9),[],M',Ke⟩ 36 (PySem.execs (AX w.params) (ev w.params k.j.i.N)) λfl F2 fI=>fl= .next/\qk w F' k v (vH k x f g) z cs x5 rows' F2 fI):
  ab w R F ⟨lB w.params k v x n T (vB k.j x5 x6 x7 x8 x9),[],M,tk⟩ 36 (PySem.execs ([ib w.params 0]++([ib w.params 1]++AX w.params)) (ev w.params k.j.i.N)) λfl F' ah=>fl= .next/\vG w F k v x f g z.nm cs rows' F' ah:=by
 refine ab.seq ((Mx (y:=y) (u:=u) hn hl hg.f0 hg.f1 hg.hp hg.y0 hg.y1 hg.y2).aT ?_);rintro fl F1 bU _ ⟨e1,l1,dg,T1,t,hd,e2⟩;refine⟨e1,?_⟩;refine ab.cj e2 cB ?_;have BM:(if n=5 then 6 else 10)=6\/(if n=5 then 6 else 10)=10:=by split<;>simp
 refine ab.seq ((GW (g:=λj=>nk (y j) v.p) (u:=t) BM hd).aT ?_);rintro fl F2 fI _ ⟨e3,l2,dG,T2,hr,e4⟩;refine⟨e3,?_⟩;refine ab.cj e4 cB ?_;have pR:(if(if n=5 then 6 else 10)=6 then 7 else 10)=7\/(if(if n=5 then 6 else 10)=6 then 7 else 10)=10:=by split<;>simp
 obtain⟨L2,p1,p2⟩:=bz w.params k v x f g;refine ab.frame (L1:=lC w.params k v x.D x.D2 (vH k x f g) _ T2 (vB k.j (.ref dg) (.ref dG) x7 x8 x9)) (L2:=L2) (G1:=[]) (p1 _ _ _) cB (i6 F2 _ dG fI.N fI.t T2 (.ref dg) x7 x8 x9 _ (l1.trans l2) pR hr (h.le (l1.trans l2))) ?_;rintro fl F3 fB _ ⟨e5,l3,Gg,T3,a7,a8,a9,D',jN,uu,vv,r,ts,ep,ad,n',q1,q2,q3,q4,q5,q6⟩;refine⟨_,?_,e5,(l1.trans l2).trans l3,Gg,T3,.ref dg,.ref Gg,a7,a8,a9,D',jN,uu,vv,r,ts,ep,ad,n',q1,q2,q3,q4,q5,rfl⟩;rw [q6];exact(p2 D' jN _ ts ep _ n' 10 T3 _).symm
end
def lR(k:KI)(FR:Obj)(fo wo att:Option Value)(x:MS)(r:RI)(c i m:Nat):aA:=(k.j.i.N,FR)::(vA k.j fo wo att none none++(AP P k x++[(r.rg,nO r c),(r.it,tX i m)]))
def nR(k:KI)(FR:Obj)(fo wo att:Option Value)(x:MS)(r:RI)(c i m d M tk:Nat)(aa:RB):ax:=aF w 300 d (zJ [Sd,[47,47,47,47]]) (.ret (.ok (.ret (.int i tk))) (bH (lR w.params k FR fo wo att x r c (i+1) m) [] M (tk+1))) aa (Fast.tw9404975358583537561 (.ref r.it)) CR.jL ⟨lR w.params k FR fo wo att x r c i (m+1),[],M,tk⟩
theorem Ek w k FR fo wo att x r M tk:∀aa,aE (nR w k FR fo wo att x r 3 0 2 36 M tk aa):=by apply bh w
theorem Ej w k FR fo wo att x r M tk:∀aa,aE (nR w k FR fo wo att x r 3 1 1 36 M tk aa):=by apply bh w
theorem Ei w k FR fo wo att x r M tk:∀aa,aE (nR w k FR fo wo att x r 3 2 0 36 M tk aa):=by apply bh w
theorem Eh w k FR fo wo att x r M tk:∀aa,aE (nR w k FR fo wo att x r 2 0 1 38 M tk aa):=by apply bh w
theorem Eg w k FR fo wo att x r M tk:∀aa,aE (nR w k FR fo wo att x r 2 1 0 38 M tk aa):=by apply bh w
def eR(k:KI)(FR:Obj)(fo wo att:Option Value)(x:MS)(r:RI)(c d M tk:Nat)(aa:RB):ax:=aF w 300 d (zJ [Sd,[51]]) (.ret (.ok .next) λst=>[(.l (st.L.take 24),.l (lR w.params k FR fo wo att x r c c 0))]) aa (Fast.tw9404975358583537561 (.ref r.it)) CR.jL ⟨lR w.params k FR fo wo att x r c c 0,[],M,tk⟩
theorem Mv w k FR fo wo att x r M tk:∀aa,aE (eR w k FR fo wo att x r 3 36 M tk aa):=by apply bh w
theorem Mu w k FR fo wo att x r M tk:∀aa,aE (eR w k FR fo wo att x r 2 38 M tk aa):=by apply bh w
def DT:Stmt:=aB (bd P) 11
def H3:Stmt:=aB (iq (DT P)) 0
theorem Fj(k:KI)(FR:Obj)(fo wo att:Option Value)(x:MS)(r:RI)(c i m v M tk:Nat):∀aa,aE (aF w 100 36 [11,11] (.ret (.ok .next) (bH (lR w.params k FR fo (some (.int i v)) att x r c (i+1) m) [] M tk)) aa (LP.jE (eB (H3 w.params)) (ev w.params k.j.i.N) (.int i v)) (λJ=> .next) ⟨lR w.params k FR fo wo att x r c (i+1) m,[],M,tk⟩):=by apply bh w
theorem Fm(k:KI)(FR:Obj)(fo wo att:Option Value)(x:MS)(r:RI)(c i m v M tk:Nat):∀aa,aE (aF w 100 38 [5,5] (.ret (.ok .next) (bH (lR w.params k FR (some (.int i v)) wo att x r c (i+1) m) [] M tk)) aa (LP.jE (eB (DT w.params)) (ev w.params k.j.i.N) (.int i v)) (λJ=> .next) ⟨lR w.params k FR fo wo att x r c (i+1) m,[],M,tk⟩):=by apply bh w
def z5:List Stmt:=[ib P 0]++([ib P 1]++AX P)
def JB(k:KI)(r:RI):Code:= .forLoop (eB (H3 w.params)) (.ref r.it) (z5 w.params) [] (ev w.params k.j.i.N)
theorem K4(it v:Value):letOwnedTupleGo (eB (H3 P)) it v=Pure.pure ():=by kernel_rfl
theorem K6(it v:Value):letOwnedTupleGo (eB (DT P)) it v=Pure.pure ():=by kernel_rfl
section
variable{w:World}{R:aA}{F:aj}{k:KI}{x:MS}{ai:Result->aj->aZ->Prop}
theorem w5{f g n mm M tk ft:Nat}{wo:Option Value}{att:Value}{T:nN}{x5 x6 x7 x8 x9:Value}{r:RI}{p:Int}{nm:aU}{cs:lU}{rows':Rows}
  (Ie:∀FR M tk aa,aE (nR w k FR (some (.int f ft)) wo (some att) x r 3 g mm 36 M tk aa))
  (zv:∀(wt M tk:Nat) (R':aA),ab w R' F ⟨lB w.params k ⟨f,ft,g,wt,p,att⟩ x n T (vB k.j x5 x6 x7 x8 x9),[],M,tk⟩ 36 (PySem.execs (z5 w.params) (ev w.params k.j.i.N)) λfl F' ah=>fl= .next/\vG w F k ⟨f,ft,g,wt,p,att⟩ x f g nm cs rows' F' ah)
  (h:∀F' wt dG T' x5 x6 x7 x8 x9 D' jN u vv r' ts ep ad n' M' t',F.le F'->bM F' dG rows'->dk w.params (bT cs (rb rows')) D'->fU w F' (bT cs (rb rows')) jN->F' ad=some (jS u (Ot r') vv)->(bT cs (rb rows'))[r']? =some (rb rows')->∀R,
   aD w R F' ⟨lR w.params k (gJ w.params 10 T' (vB k.j x5 x6 x7 x8 x9)) (some (.int f ft)) (some (.int g wt)) (some att) (fH x f g D' jN (put (lW x g) nm (.ref ad)) ts ep ((vF x f).push (.ref dG)) n') r 3 (g+1) mm,[],M',t'⟩ 37 (JB w k r) ai):
  aD w R F ⟨lR w.params k (gJ w.params n T (vB k.j x5 x6 x7 x8 x9)) (some (.int f ft)) wo (some att) x r 3 g (mm+1),[],M,tk⟩ 37 (JB w k r) ai:=by
 let FR:=gJ w.params n T (vB k.j x5 x6 x7 x8 x9)
 let L2:aA:=[(r.rg,nO r 3),(r.it,tX (g+1) mm)]
 refine aD.jA (aX:=36) (P1:=λv F' ah=>v= .int g tk/\F'=F/\ah=⟨lR w.params k FR (some (.int f ft)) wo (some att) x r 3 (g+1) mm,[],M,tk+1⟩) (P2:=λF' ah=>F'=F/\ah=⟨lR w.params k FR (some (.int f ft)) wo (some att) x r 3 (g+1) mm,[],M,tk+1⟩)
  (P3:=λF' ah=>∃bU,ah.L=bU.L++L2/\vG w F k ⟨f,ft,g,tk,p,att⟩ x f g nm cs rows' F' bU) ?_ ?_ ?_
 ·exact ab.eq (CR.dq _) ((ab.exact (d:=36) nr (Ie FR M tk)).aT λr F' ah J hh=>by obtain⟨a,b,c⟩:=hh;exact⟨_,LP.jb a,rfl,b,c⟩)
 ·rintro v F' ah _ ⟨rfl,rfl,rfl⟩;rw [K4];refine ab.pure ⟨⟨rfl,rfl⟩,?_⟩;refine ab.bind (P:=λJ F' ah=>F'=_/\ah=⟨lR w.params k FR (some (.int f ft)) (some (.int g tk)) (some att) x r 3 (g+1) mm,[],M,tk+1⟩) (ab.eq (LP.fY _ _ _) ((ab.exact (d:=36) nr (Fj w k FR (some (.int f ft)) wo (some att) x r 3 g mm tk M (tk+1))).aT λa F2 fI J hh=>by obtain⟨J,b,c⟩:=hh;exact⟨b,c⟩)) λJ F2 fI J hh=> ?_;obtain⟨e2,e3⟩:=hh;subst e2 e3;refine ab.frame (L1:=lB w.params k ⟨f,ft,g,tk,p,att⟩ x n T (vB k.j x5 x6 x7 x8 x9)) (L2:=L2) (G1:=[]) (List.Perm.refl _) cB (zv tk M (tk+1) _) ?_;rintro fl F3 fB _ ⟨e1,hb⟩;exact⟨fB.L++L2,List.Perm.refl _,e1,fB,rfl,hb⟩
 ·rintro F' ah _ ⟨bU,e4,le,Gg,T',a5,a6,a7,a8,a9,D',jN,u,vv,r',ts,ep,ad,n',q1,q2,q3,q4,q5,q6⟩;exact aD.drop (n:=24) (by rw [e4,q6];rfl) cB λR'=>h F' tk Gg T' a5 a6 a7 a8 a9 D' jN u vv r' ts ep ad n' _ _ le q1 q2 q3 q4 q5 R'
end
noncomputable def cq(j:Nat):aU:=match j with
 |0=>nA
 |_=>nB
def Th(F:aj)(cs:lU)(l:cK)(c:Nat->aU)(n:Nat):Prop:=∃ad:Nat->Nat,l=(List.range n).map (λj=>(cq j,Value.ref (ad j)))/\∀j,j<n->LV λu v r=>F (ad j)=some (jS u (Ot r) v)/\cs[r]? =some (c j)
def Cp(F:aj)(v:aV)(C:Nat->Rows)(n:Nat):Prop:=∃dG:Nat->Nat,v.toList=(List.range n).map (λi=>Value.ref (dG i))/\∀i,i<n->bM F (dG i) (C i)
theorem Th.up{F F':aj}(l:F.le F'){cs:lU}{x:aU}{ls:cK}{c:Nat->aU}{n:Nat}(h:Th F cs ls c n):Th F' (bT cs x) ls c n:=by obtain⟨ad,h1,h2⟩:=h;exact⟨ad,h1,λj hj=>by obtain⟨u,v,r,a,b⟩:=h2 j hj;exact⟨u,v,r,l _ _ a,fZ b⟩⟩
theorem Cp.le{F F':aj}(l:F.le F'){v:aV}{C:Nat->Rows}{n:Nat}(h:Cp F v C n):Cp F' v C n:=by obtain⟨dG,h1,h2⟩:=h;exact⟨dG,h1,λi hi=>(h2 i hi).le l⟩
theorem Th.Ew{cs:lU}{l:cK}{c:Nat->aU}{n:Nat}(h:Th F cs l c n):l.map (·.1)=(List.range n).map cq:=by obtain⟨ad,rfl,J⟩:=h;rw [List.map_map];rfl
theorem Th.put{F F':aj}(l:F.le F'){cs:lU}{x:aU}{ls:cK}{c:Nat->aU}{n ad u v r:Nat}(hn:n<2)(h:Th F cs ls c n)(hc:c n=x)(ha:F' ad=some (jS u (Ot r) v))(hr:(bT cs x)[r]? =some x):Th F' (bT cs x) (put ls (cq n) (.ref ad)) c (n+1):=by
 have hk:=h.Ew;have PA:cq n∉ls.map (·.1):=by rw [hk];exact To n hn List.not_mem_nil (by show nB∉[nA];decide)
 obtain⟨a,h1,h2⟩:=h;refine⟨λj=>if j=n then ad else a j,?_,λj hj=> ?_⟩
 ·rw [jq PA,h1,List.range_succ,List.map_append,List.map_singleton];dsimp only;rw [if_pos rfl]
  congr 1
  refine List.map_congr_left λj hj=> ?_;rw [if_neg (Nat.ne_of_lt (List.mem_range.mp hj))]
 ·by_cases e:j=n
  ·subst e;dsimp only;rw [if_pos rfl,hc];exact⟨u,v,r,ha,hr⟩
  ·dsimp only;rw [if_neg e];obtain⟨u',v',r',g1,g2⟩:=h2 j (by lia);exact⟨u',v',r',l _ _ g1,fZ g2⟩
theorem Cp.push{F F':aj}(l:F.le F'){v:aV}{C:Nat->Rows}{n dG:Nat}(h:Cp F v C n)(hr:bM F' dG (C n)):Cp F' (v.push (.ref dG)) C (n+1):=by
 obtain⟨a,h1,h2⟩:=h;refine⟨λj=>if j=n then dG else a j,?_,λj hj=> ?_⟩
 ·rw [Array.toList_push,h1,List.range_succ,List.map_append,List.map_singleton];dsimp only;rw [if_pos rfl]
  congr 1
  refine List.map_congr_left λj hj=> ?_;rw [if_neg (Nat.ne_of_lt (List.mem_range.mp hj))]
 ·by_cases e:j=n
  ·subst e;dsimp only;rw [if_pos rfl];exact hr
  ·dsimp only;rw [if_neg e];exact(h2 j (by lia)).le l
structure ST(w:World)(F:aj)(x:MS)(cs:lU)(C:Nat->Nat->Rows)(f g:Nat):Prop where
 kn:dk w.params cs x.D
 da:fU w F cs x.D2
 len:cs.length<=3*f+g
 en:∀i,i<3->Th F cs (lW x i) (λj=>rb (C j i)) (if i<g then f+1 else f)
 sv:∀j,j<2->Cp F (vF x j) (C j) (if j<f then 3 else if j=f then g else 0)
theorem Gk{x:MS}{f g:Nat}{D D2:Obj}{l:cK}{s:nN}{p:Nat}{v:aV}{n:Nat}:∀i,i<3->g<3->f<2->lW (fH x f g D D2 l s p v n) i=if i=g then l else lW x i:=by intro i hi hg hf;refine To f hf ?_ ?_<;>refine Tn g hg ?_ ?_ ?_<;>exact Tn i hi rfl rfl rfl
theorem Gj{x:MS}{f g:Nat}{D D2:Obj}{l:cK}{s:nN}{p:Nat}{v:aV}{n:Nat}:∀j,j<2->g<3->f<2->vF (fH x f g D D2 l s p v n) j=if j=f then v else vF x j:=by intro j hj hg hf;refine To f hf ?_ ?_<;>refine Tn g hg ?_ ?_ ?_<;>exact To j hj rfl rfl
theorem Cw{x:MS}{f g:Nat}{D D2:Obj}{l:cK}{s:nN}{p:Nat}{v:aV}{n:Nat}:(fH x f g D D2 l s p v n).D=D/\(fH x f g D D2 l s p v n).D2=D2:=by rcases f with _|f<;>rcases g with _|_|g<;>exact⟨rfl,rfl⟩
theorem ST.step{w:World}{F F':aj}{x:MS}{cs:lU}{C:Nat->Nat->Rows}{f g:Nat}{D' jN:Obj}{dG u vv r ad p n':Nat}{ts:nN}(h:ST w F x cs C f g)(hf:f<2)(hg:g<3)(l:F.le F')(ur:bM F' dG (C f g))(hk:dk w.params (bT cs (rb (C f g))) D')(hd:fU w F' (bT cs (rb (C f g))) jN)(ha:F' ad=some (jS u (Ot r) vv))(hr:(bT cs (rb (C f g)))[r]? =some (rb (C f g))):
  ST w F' (fH x f g D' jN (put (lW x g) (cq f) (.ref ad)) ts p ((vF x f).push (.ref dG)) n') (bT cs (rb (C f g))) C f (g+1):=by
 refine⟨by rw [Cw.1];exact hk,by rw [Cw.2];exact hd,Nat.le_trans ll (by have:=h.len;lia),λi hi=> ?_,λj hj=> ?_⟩
 ·rw [Gk i hi hg hf];by_cases e:i=g
  ·subst e;rw [if_pos rfl,if_pos (Nat.lt_succ_self i)];have:=h.en i hi;rw [if_neg (Nat.lt_irrefl i)]at this;exact this.put l hf rfl ha hr
  ·rw [if_neg e];have:=(h.en i hi).up l (x:=rb (C f g));by_cases e2:i<g
   ·rw [if_pos (by lia)];rwa [if_pos e2]at this
   ·rw [if_neg (by lia)];rwa [if_neg e2]at this
 ·rw [Gj j hj hg hf];have:=h.sv j hj;by_cases e:j=f
  ·subst e;rw [if_pos rfl,if_neg (Nat.lt_irrefl j),if_pos rfl];rw [if_neg (Nat.lt_irrefl j),if_pos rfl]at this;exact this.push l ur
  ·rw [if_neg e,if_neg e];rw [if_neg e]at this;exact this.le l
variable{w}
noncomputable def cG(q:CA)(g:Nat):Nat:=match g with
 |0=>q.c0
 |1=>q.c1
 |_=>q.c2
noncomputable def aG(q:CA)(g:Nat):Nat:=match g with
 |0=>q.a0
 |1=>q.a1
 |_=>q.a2
def ly(F:aj):Prop:=LV λa b e=>F 1320=some (aw #[.bytes nA a,.bytes nB b] e)
theorem ly.le{F F':aj}(l:F.le F')(h:ly F):ly F':=by obtain⟨a,b,e,h1⟩:=h;exact⟨a,b,e,l _ _ h1⟩
theorem iJ.get{ti ei:Nat}{q:CA}{r:Addr}(h:iJ F ti ei q r):∃vs:aV,F r=some (aw vs 3)/\∀g,g<3->∃a,vs[g]? =some (.ref a)/\F a=some (gP (conv ti ei (aG q g) (cG q g)) (bq ti ei (aG q g) (cG q g)) (Oq ti ei (aG q g) (cG q g))):=by obtain⟨a,b,c,h0,h1,h2,h3⟩:=h;refine⟨_,h0,λg hg=> ?_⟩;exact Tn g hg ⟨a,rfl,h1⟩ ⟨b,rfl,h2⟩ ⟨c,rfl,h3⟩
theorem hK.get{ti ei:Nat}{q:CA}{r:Addr}(h:hK w F ti ei q r):∃vs:aV,F r=some (aw vs 3)/\∀g,g<3->∃x,vs[g]? =some x/\my w F (dR ti ei (aG q g) (cG q g)) x:=by obtain⟨a,b,c,h0,h1,h2,h3⟩:=h;refine⟨_,h0,λg hg=> ?_⟩;exact Tn g hg ⟨a,rfl,h1⟩ ⟨b,rfl,h2⟩ ⟨c,rfl,h3⟩
theorem CA.Ok.ag{q:CA}(h:q.Ok)(g:Nat):aG q g<3/\cG q g<3:=by
 match g with
 |0=>exact⟨h.a0,h.c0⟩
 |1=>exact⟨h.a1,h.c1⟩
 |n+2=>exact⟨h.a2,h.c2⟩
theorem CE(m:Nat->Int)(f:Nat):tI m f<5:=(kr (fm (m f) 5 (by decide))).1
theorem Dp(m:Nat->Int)(f:Nat):eI m f<3:=(k9 (fm ((m f).fdiv 5) 3 (by decide))).1
theorem KY{k:KI}{q:CA}{m:Nat->Int}{tt:nN}{r0 r1 p0 p1 f g:Nat}{v:WI}{x:MS}{cs:lU}{C:Nat->Nat->Rows}(h7:P7 w F k.j.i q m tt r0 r1 p0 p1)(eZ:rB w F k)(hn:ly F)(hs:ST w F x cs C f g)(hf:f<2)(hg:g<3)(ED:v.f=f)(EC:v.w=g):
  LV λz cv xv=>CF w F k v (vH k x f g) z cv xv cs x.D x.D2/\z.nm=cq f/\cv=conv (tI m f) (eI m f) (aG q g) (cG q g)/\z.ak=bq (tI m f) (eI m f) (aG q g) (cG q g)/\z.aN=Oq (tI m f) (eI m f) (aG q g) (cG q g)/\
   ((cv=false/\xv= .none)\/(cv=true/\∃f9,xv= .ref f9/\bW w F f9 z.ak z.aN)):=by
 obtain⟨KN,BJ⟩:=h7.ru;obtain⟨KO,BS⟩:=h7.fi;obtain⟨na,nb,ne,Ig⟩:=hn;have IC:=h7.hq.ag g;have hR:∃rf,(#[Value.ref r0,.ref r1]:aV)[f]? =some (.ref rf)/\iJ F (tI m f) (eI m f) q rf:=by exact To f hf ⟨r0,rfl,h7.EJ⟩ ⟨r1,rfl,h7.EH⟩
 have hP:∃pf,(#[Value.ref p0,.ref p1]:aV)[f]? =some (.ref pf)/\hK w F (tI m f) (eI m f) q pf:=by exact To f hf ⟨p0,rfl,h7.Az⟩ ⟨p1,rfl,h7.pQ⟩
 obtain⟨rf,e1,g1⟩:=hR;obtain⟨pf,e2,g2⟩:=hP;obtain⟨rv,e3,g3⟩:=g1.get;obtain⟨r,e4,g4⟩:=g3 g hg;obtain⟨pv,e5,g5⟩:=g2.get;obtain⟨xv,e6,g6⟩:=g5 g hg;have EG:=SS (tI m f) (eI m f) (aG q g) (cG q g) (CE m f) (Dp m f) IC.1 IC.2;have hN:∃nt,(#[Value.bytes nA na,.bytes nB nb]:aV)[f]? =some (.bytes (cq f) nt):=by exact To f hf ⟨na,rfl⟩ ⟨nb,rfl⟩
 obtain⟨nt,eN⟩:=hN
 let z:RD:=⟨pf,rf,r,cq f,nt,#[.ref r0,.ref r1],KN,#[.ref p0,.ref p1],KO,rv,pv,#[.ref k.q1.tb,.ref k.q2.tb,.ref k.q3.tb],#[.ref k.j.b0,.ref k.j.b1],bq (tI m f) (eI m f) (aG q g) (cG q g),Oq (tI m f) (eI m f) (aG q g) (cG q g)⟩
 have tf:v.f.toNat=f:=by rw [ED];exact Int.toNat_natCast f
 have tw:v.w.toNat=g:=by rw [EC];exact Int.toNat_natCast g
 have hq:F (qW k g).tb=some (cb 884 (qW k g).td):=by exact Tn g hg eZ.q1 eZ.q2 eZ.q3
 have L3:=hs.en g hg;rw [if_neg (Nat.lt_irrefl g)]at L3;have NS:=hs.sv f hf;rw [if_neg (Nat.lt_irrefl f),if_pos rfl]at NS;have hlen:=hs.len;refine⟨z,conv (tI m f) (eI m f) (aG q g) (cG q g),xv,⟨by rw [ED];lia,by rw [ED];lia,by rw [EC];lia,by rw [EC];lia,BJ,by rw [tf];exact e1,e3,by rw [tw];exact e4,g4,BS,by rw [tf];exact e2,e5,by rw [tw];exact e6,eZ.qo,?_,hq,eZ.AY,?_,⟨_,ne,Ig,?_⟩,eZ,hs.kn,hs.da,by lia,?_,?_,?_⟩,rfl,rfl,rfl,rfl,?_⟩
 ·rw [tw];exact Tn g hg rfl rfl rfl
 ·rw [tf];exact To f hf rfl rfl
 ·rw [tf];exact eN
 ·show((lW x g).map (·.1)).Nodup;rw [L3.Ew];exact To f hf List.nodup_nil (by show [nA].Nodup;decide)
 ·show(lW x g).length<=10;have:=congrArg List.length L3.Ew;rw [List.length_map,List.length_map,List.length_range]at this;lia
 ·show(vF x f).size<=10;obtain⟨J,e,J⟩:=NS;have:=congrArg List.length e;rw [Array.length_toList,List.length_map,List.length_range]at this;lia
 ·rcases g6 with⟨h0,rfl⟩|⟨h0,f9,rfl,oq⟩
  ·refine .inl ⟨?_,rfl⟩;rw [EG.2.1,h0];rfl
  ·have hc:conv (tI m f) (eI m f) (aG q g) (cG q g)=true:=by rw [EG.2.1];exact bne_iff_ne.mpr h0
   have:=EG.2.2 hc;refine .inr ⟨hc,f9,rfl,?_⟩;show bW w F f9 (bq (tI m f) (eI m f) (aG q g) (cG q g)) (Oq (tI m f) (eI m f) (aG q g) (cG q g));rw [<-this.1,<-this.2];exact oq
variable(w)
end LW
namespace LW
noncomputable def stored(cv:Bool)(af:Rows):Rows:=match cv with
 |true=>LL.laid af #[10]
 |false=>af
structure MR(cv ak aN:Bool)(af:Rows):Prop where
 d:oT (stored cv af)
 z:(rb (stored cv af)).size<300
 t:cv=true->wH ak aN af/\jU (rb af)=rb (LL.laid af #[10])
noncomputable def wL(g:Nat):Int:=match g with
 |0=>1
 |1=>6
 |_=>36
noncomputable def rY(m:Nat->Int)(f g:Nat):Rows:=[d6 (nk (m (5+3*f)) (wL g)),d6 (nk (m (5+3*f+1)) (wL g)),d6 (nk (m (5+3*f+2)) (wL g))]
noncomputable def CM(m:Nat->Int)(q:CA)(f g:Nat):Rows:=stored (conv (tI m f) (eI m f) (aG q g) (cG q g)) (rY m f g)
def jj(m:Nat->Int)(q:CA):Prop:=∀f g,f<2->g<3->MR (conv (tI m f) (eI m f) (aG q g) (cG q g)) (bq (tI m f) (eI m f) (aG q g) (cG q g)) (Oq (tI m f) (eI m f) (aG q g) (cG q g)) (rY m f g)
theorem KX(m:Nat->Int)(tt:nN){f g ft wt:Nat}{att:Value}(hf:f<2)(hg:g<3):DG m tt ⟨f,ft,g,wt,wL g,att⟩ (λk=>m (5+3*f+k)) (λk=>tt (5+3*f+k)):=by
 refine⟨by show(0:Int)<=f;lia,by show(f:Int)<=1;lia,?_,?_,?_,?_⟩
 ·exact Tn g hg (.inl ⟨rfl,rfl⟩) (.inr (.inl ⟨rfl,rfl⟩)) (.inr (.inr ⟨rfl,rfl⟩))
 all_goals
  exact To f hf rfl rfl
theorem z6{w:World}{R:aA}{F:aj}{k:KI}{q:CA}{m:Nat->Int}{tt:nN}{r0 r1 p0 p1 f g n M tk ft wt:Nat}{att:Value}{x:MS}{cs:lU}{T:nN}{x5 x6 x7 x8 x9:Value}(h7:P7 w F k.j.i q m tt r0 r1 p0 p1)(eZ:rB w F k)(hn:ly F)(hs:ST w F x cs (CM m q) f g)(hf:f<2)(hg:g<3)(dW:jj m q)(h5:n=5\/n=10):
  ab w R F ⟨lB w.params k ⟨f,ft,g,wt,wL g,att⟩ x n T (vB k.j x5 x6 x7 x8 x9),[],M,tk⟩ 36 (PySem.execs (z5 w.params) (ev w.params k.j.i.N)) λfl F' ah=>fl= .next/\vG w F k ⟨f,ft,g,wt,wL g,att⟩ x f g (cq f) cs (CM m q f g) F' ah:=by
 obtain⟨z,cv,xv,Df,Ig,Dd,Ma,PS,hx⟩:=KY (v:=⟨f,ft,g,wt,wL g,att⟩) h7 eZ hn hs hf hg rfl rfl;have hr:=dW f g hf hg;have N3:=KX m tt (ft:=ft) (wt:=wt) (att:=att) hf hg;rw [<-Ig];have hC:CM m q f g=stored cv (rY m f g):=by rw [Dd];rfl
 rw [hC];rw [<-Dd,<-Ma,<-PS]at hr;rcases hx with⟨e1,e2⟩|⟨e1,f9,e2,oq⟩
 ·subst e1 e2;exact Cz h5 h7.nl N3 Df λF' n' dG M' Ke T' x5 x7 x8 x9 R' l kL ur EV=>G2 kL EV hr.d hr.z ur
 ·subst e1 e2;exact Cz h5 h7.nl N3 Df λF' n' dG M' Ke T' x5 x7 x8 x9 R' l kL ur EV=>GZ kL EV (bW.le l oq) (hr.t rfl).1 hr.d hr.z (hr.t rfl).2 ur
theorem P7.le{w:World}{F F':aj}(l:F.le F'){i:FI}{q:CA}{m:Nat->Int}{tt:nN}{r0 r1 p0 p1:Nat}(h:P7 w F i q m tt r0 r1 p0 p1):P7 w F' i q m tt r0 r1 p0 p1:=
 ⟨l _ _ h.nl,h.c0,h.c1,h.c2,h.a0,h.a1,h.a2,(by obtain⟨n,e⟩:=h.ru;exact⟨n,l _ _ e⟩),(by obtain⟨n,e⟩:=h.fi;exact⟨n,l _ _ e⟩),h.EJ.le l,h.EH.le l,h.Az.le l,h.pQ.le l,h.hq⟩
def Ad(F:aj)(k:KI)(q:CA)(m:Nat->Int)(f ft:Nat)(att:Value)(r:RI)(rr:Result)(F':aj)(ah:aZ):Prop:=
 rr= .ok .next/\F.le F'/\Ut λx cs T x5 x6 x7 x8 x9 wt=>ST w F' x cs (CM m q) f 3/\ah.L=lR w.params k (gJ w.params 10 T (vB k.j x5 x6 x7 x8 x9)) (some (.int f ft)) (some (.int 2 wt)) (some att) x r 3 3 0
theorem HO{w:World}{R:aA}{F:aj}{k:KI}{q:CA}{m:Nat->Int}{tt:nN}{r0 r1 p0 p1 f n M tk ft:Nat}{wo:Option Value}{att:Value}{x:MS}{cs:lU}{T:nN}{x5 x6 x7 x8 x9:Value}{r:RI}(h7:P7 w F k.j.i q m tt r0 r1 p0 p1)(eZ:rB w F k)(hn:ly F)(hs:ST w F x cs (CM m q) f 0)(hf:f<2)(dW:jj m q)(h5:n=5\/n=10):
  aD w R F ⟨lR w.params k (gJ w.params n T (vB k.j x5 x6 x7 x8 x9)) (some (.int f ft)) wo (some att) x r 3 0 3,[],M,tk⟩ 37 (JB w k r) (Ad w F k q m f ft att r):=by
 refine w5 (g:=0) (mm:=2) (p:=wL 0) (nm:=cq f) (cs:=cs) (rows':=CM m q f 0) (λFR M tk aa=>Ek w k FR _ _ _ x r M tk aa) (λwt M tk R'=>z6 (g:=0) h7 eZ hn hs hf (by decide) dW h5) ?_;intro F1 OG QY T1 a5 a6 a7 a8 a9 D1 MW u1 QS Q1 OQ vu Rj n1 M1 t1 l1 g1 g2 g3 g4 g5 R;have s1:=hs.step (n':=n1) (p:=vu) (ts:=OQ) hf (by decide) l1 g1 g2 g3 g4 g5;refine w5 (g:=1) (mm:=1) (p:=wL 1) (nm:=cq f) (rows':=CM m q f 1) (λFR M tk aa=>Ej w k FR _ _ _ _ r M tk aa) (λwt M tk R'=>z6 (g:=1) (h7.le l1) (eZ.le l1) (hn.le l1) s1 hf (by decide) dW (.inr rfl)) ?_;intro F2 Kb QX T2 b5 b6 b7 b8 b9 D2 Dv u2 QR Q0 OP vt MN n2 M2 t2 l2 g6 g7 g8 g9 FX R;have s2:=s1.step (n':=n2) (p:=vt) (ts:=OP) hf (by decide) l2 g6 g7 g8 g9 FX;have og:=l1.trans l2;refine w5 (g:=2) (mm:=0) (p:=wL 2) (nm:=cq f) (rows':=CM m q f 2) (λFR M tk aa=>Ei w k FR _ _ _ _ r M tk aa) (λwt M tk R'=>z6 (g:=2) (h7.le og) (eZ.le og) (hn.le og) s2 hf (by decide) dW (.inr rfl)) ?_;intro F3 M7 QW T3 c5 c6 c7 c8 c9 D3 Rk u3 QQ QZ OO Qn Ri n3 M3 t3 l3 IH JX JW Mn Mm R;have s3:=s2.step (n':=n3) (p:=Qn) (ts:=OO) hf (by decide) l3 IH JX JW Mn Mm;refine aD.oy (aX:=36) (ab.eq (CR.dq _) (ab.run (enc:=CR.jL) (d:=36) (ai:=λrr F' ah=>rr= .ok .next/\F'=F3/\ah.L=lR w.params k (gJ w.params 10 T3 (vB k.j c5 c6 c7 c8 c9)) (some (.int f ft)) (some (.int 2 M7)) (some att) _ r 3 3 0) nr (Mv w k _ _ _ _ _ r _ _) (VC.keep λN' t'=>⟨rfl,rfl,rfl⟩) (λa F' ah hq=> ?_) λJ J J h=>by cases h.1));obtain⟨h1,h2,h3⟩:=hq;subst h2;refine⟨?_,rfl,og.trans l3,_,_,T3,c5,c6,c7,c8,c9,M7,s3,h3⟩;cases a with
 |none=>rfl
 |some v=>exact absurd (Except.ok.inj h1) (by intro h;cases h)
noncomputable def lO(k:KI)(o:Nat->Obj)(fo wo att:Option Value):aA:=(k.j.i.N,o 0)::(vA k.j fo wo att none none++[(k.s.N+2,o 1),(k.s.dt,o 2),(k.q1.td,o 3),(k.q1.te,o 4),(k.q2.td,o 5),(k.q2.te,o 6),(k.q3.td,o 7),(k.q3.te,o 8),(k.j.b0,o 9),(k.j.b1,o 10)])
def sd(k:KI)(FR:Obj)(x:MS)(n:Nat):Obj:=match n with
 |0=>FR
 |1=>x.D
 |2=>x.D2
 |3=>er P k.q1
 |4=>bN P x.l1 x.s1 x.p1
 |5=>er P k.q2
 |6=>bN P x.l2 x.s2 x.p2
 |7=>er P k.q3
 |8=>bN P x.l3 x.s3 x.p3
 |9=>aw x.v0 x.n0
 |_=>aw x.v1 x.n1
def JJ(k:KI)(q:CA)(m:Nat->Int)(f ft:Nat)(wo:Option Value)(att:Value)(x:MS)(FR:Obj)(r:RI):az:=⟨37,λJ=>JB w k r,λst=>[(.l st.L,.l (lR w.params k FR (some (.int f ft)) wo (some att) x r 3 0 3))],λJ J=> .ok .next,
 λa st=>⟨lO k a.o (some (.int f ft)) (some (.int 2 (a.k 0))) (some att),st.G,a.N,a.t⟩,λF a=>F.le a.F/\Up λx' cs T x5 x6 x7 x8 x9=>ST w a.F x' cs (CM m q) f 3/\a.o=sd w.params k (gJ w.params 10 T (vB k.j x5 x6 x7 x8 x9)) x'⟩
theorem JJ.ok{w:World}{R:aA}{F:aj}{k:KI}{q:CA}{m:Nat->Int}{tt:nN}{r0 r1 p0 p1 f n ft:Nat}{wo:Option Value}{att:Value}{x:MS}{cs:lU}{T:nN}{x5 x6 x7 x8 x9:Value}{r:RI}(h7:P7 w F k.j.i q m tt r0 r1 p0 p1)(eZ:rB w F k)(hn:ly F)(hs:ST w F x cs (CM m q) f 0)(hf:f<2)(dW:jj m q)(h5:n=5\/n=10):
  (JJ w k q m f ft wo att x (gJ w.params n T (vB k.j x5 x6 x7 x8 x9)) r).OK w R F:=λcc st hc he=>by
 have hL:st.L=lR w.params k (gJ w.params n T (vB k.j x5 x6 x7 x8 x9)) (some (.int f ft)) wo (some att) x r 3 0 3:=cp.l.inj (aY.cons.mp he).1;rw [hc];refine aD.gO (ai:=λrr F' ah=>∃bU,ah.L=bU.L/\ah.G=st.G/\Ad w F k q m f ft att r rr F' bU) ?_ λrr F' ah hh=> ?_
 ·refine aD.frame (L1:=lR w.params k (gJ w.params n T (vB k.j x5 x6 x7 x8 x9)) (some (.int f ft)) wo (some att) x r 3 0 3) (L2:=[]) (G1:=[]) (jT:=Ad w F k q m f ft att r) (by rw [List.append_nil,hL]) cB (HO h7 eZ hn hs hf dW h5) λrr F' bU h=>⟨bU.L,by rw [List.append_nil],bU,rfl,rfl,h⟩
 ·obtain⟨bU,e0,eG,y1,y2,x',dQ,T',a5,a6,a7,a8,a9,wt,y3,y4⟩:=hh;refine⟨lO k (sd w.params k (gJ w.params 10 T' (vB k.j a5 a6 a7 a8 a9)) x') (some (.int f ft)) (some (.int 2 wt)) (some att),?_,?_⟩
  ·rw [e0,y4];exact List.sublist_append_left (lO k (sd w.params k (gJ w.params 10 T' (vB k.j a5 a6 a7 a8 a9)) x') (some (.int f ft)) (some (.int 2 wt)) (some att)) [(r.rg,nO r 3),(r.it,tX 3 0)]
  ·refine⟨{bB F' ah.N ah.t wt with o:=sd w.params k (gJ w.params 10 T' (vB k.j a5 a6 a7 a8 a9)) x'},rfl,⟨y2,x',dQ,T',a5,a6,a7,a8,a9,y3,rfl⟩,y1,?_⟩;rw [eG];rfl
def iS(k:KI)(q:CA)(m:Nat->Int)(f ft:Nat)(wo:Option Value)(att:Value)(x:MS)(FR:Obj)(M tk:Nat)(aa:RB):ax:=aF w 600 38 (zJ [[0],vT,[0]])
 (.hk (JJ w k q m f ft wo att x FR ⟨M,M+1,tk+1,tk,tk+2⟩) λa=> .ret (.ok .next) λst=>[(.l st.L,.l (lO k a.o (some (.int f ft)) (some (.int 2 (a.k 0))) (some att)))])
 aa (LP.bD [H3 w.params] (ev w.params k.j.i.N)) id ⟨(k.j.i.N,FR)::(vA k.j (some (.int f ft)) wo (some att) none none++AP w.params k x),[],M,tk⟩
theorem H2 w k q m f ft wo att x FR M tk:∀aa,aE (iS w k q m f ft wo att x FR M tk aa):=by apply bh w
theorem ST.next{w:World}{F:aj}{x:MS}{cs:lU}{C:Nat->Nat->Rows}{f:Nat}(h:ST w F x cs C f 3):ST w F x cs C (f+1) 0:=by
 refine⟨h.kn,h.da,by have:=h.len;lia,λi hi=> ?_,λj hj=> ?_⟩
 ·have:=h.en i hi;rw [if_pos hi]at this;rw [if_neg (Nat.not_lt_zero i)];exact this
 ·have:=h.sv j hj;by_cases e:j<f
  ·rw [if_pos e]at this;rw [if_pos (by lia)];exact this
  ·rw [if_neg e]at this;by_cases e2:j=f
   ·rw [if_pos e2]at this;rw [if_pos (by lia)];exact this
   ·rw [if_neg e2]at this;rw [if_neg (by lia)];split
    ·exact this
    ·exact this
def JD(k:KI)(r:RI):Code:= .forLoop (eB (DT w.params)) (.ref r.it) [H3 w.params] [] (ev w.params k.j.i.N)
section
variable{w:World}{R:aA}{F:aj}{k:KI}{q:CA}{m:Nat->Int}{tt:nN}{r0 r1 p0 p1:Nat}{ai:Result->aj->aZ->Prop}
theorem Cy{f mm n M tk:Nat}{fo wo:Option Value}{att:Value}{x:MS}{cs:lU}{T:nN}{x5 x6 x7 x8 x9:Value}{r:RI}(Ie:∀FR M tk aa,aE (nR w k FR fo wo (some att) x r 2 f mm 38 M tk aa))
  (h7:P7 w F k.j.i q m tt r0 r1 p0 p1) (eZ:rB w F k) (hn:ly F) (hs:ST w F x cs (CM m q) f 0) (hf:f<2) (dW:jj m q) (h5:n=5\/n=10)
  (h:∀F' ft wt x' dQ T' x5 x6 x7 x8 x9 M' t',F.le F'->ST w F' x' dQ (CM m q) f 3->∀R,aD w R F' ⟨lR w.params k (gJ w.params 10 T' (vB k.j x5 x6 x7 x8 x9)) (some (.int f ft)) (some (.int 2 wt)) (some att) x' r 2 (f+1) mm,[],M',t'⟩ 39 (JD w k r) ai):
  aD w R F ⟨lR w.params k (gJ w.params n T (vB k.j x5 x6 x7 x8 x9)) fo wo (some att) x r 2 f (mm+1),[],M,tk⟩ 39 (JD w k r) ai:=by
 let FR:=gJ w.params n T (vB k.j x5 x6 x7 x8 x9)
 let L2:aA:=[(r.rg,nO r 2),(r.it,tX (f+1) mm)]
 let B:aj->aZ->Prop:=λF' bU=>F.le F'/\Ut λx' dQ T' a5 a6 a7 a8 a9 wt=>ST w F' x' dQ (CM m q) f 3/\bU.L=(k.j.i.N,gJ w.params 10 T' (vB k.j a5 a6 a7 a8 a9))::(vA k.j (some (.int f tk)) (some (.int 2 wt)) (some att) none none++AP w.params k x')
 refine aD.jA (aX:=38) (P1:=λv F' ah=>v= .int f tk/\F'=F/\ah=⟨lR w.params k FR fo wo (some att) x r 2 (f+1) mm,[],M,tk+1⟩) (P2:=λF' ah=>F'=F/\ah=⟨lR w.params k FR fo wo (some att) x r 2 (f+1) mm,[],M,tk+1⟩)
  (P3:=λF' ah=>∃bU:aZ,ah.L=bU.L++L2/\B F' bU) ?_ ?_ ?_
 ·exact ab.eq (CR.dq _) ((ab.exact (d:=38) nr (Ie FR M tk)).aT λr F' ah J hh=>by obtain⟨a,b,c⟩:=hh;exact⟨_,LP.jb a,rfl,b,c⟩)
 ·rintro v F' ah _ ⟨rfl,rfl,rfl⟩;rw [K6];refine ab.pure ⟨⟨rfl,rfl⟩,?_⟩;refine ab.bind (P:=λJ F' ah=>F'=_/\ah=⟨lR w.params k FR (some (.int f tk)) wo (some att) x r 2 (f+1) mm,[],M,tk+1⟩) (ab.eq (LP.fY _ _ _) ((ab.exact (d:=38) nr (Fm w k FR fo wo (some att) x r 2 f mm tk M (tk+1))).aT λa F2 fI J hh=>by obtain⟨J,b,c⟩:=hh;exact⟨b,c⟩)) λJ F2 fI J hh=> ?_;obtain⟨e2,e3⟩:=hh;subst e2 e3;refine ab.frame (L1:=(k.j.i.N,FR)::(vA k.j (some (.int f tk)) wo (some att) none none++AP w.params k x)) (L2:=L2) (G1:=[]) (P1:=λfl F' bU=>fl= .next/\B F' bU) (List.Perm.refl _) cB ?_ ?_
  ·refine ab.eq (LP.aH _ _) (ab.rN (d:=38) (H2 w k q m f tk wo att x FR M (tk+1)) ⟨JJ.ok h7 eZ hn hs hf dW h5,λa le ha=> ?_⟩);obtain⟨J,x',dQ,T',a5,a6,a7,a8,a9,g1,g2⟩:=ha;exact VC.all λN' t'=>⟨rfl,le,x',dQ,T',a5,a6,a7,a8,a9,a.k 0,g1,by rw [g2];rfl⟩
  ·rintro fl F3 fB _ ⟨e1,hb⟩;exact⟨fB.L++L2,List.Perm.refl _,e1,fB,rfl,hb⟩
 ·rintro F' ah _ ⟨bU,e4,le,x',dQ,T',a5,a6,a7,a8,a9,wt,g1,g2⟩;exact aD.drop (n:=24) (by rw [e4,g2];rfl) cB λR'=>h F' tk wt x' dQ T' a5 a6 a7 a8 a9 _ _ le g1 R'
end
theorem ST.zero{w:World}{F:aj}{C:Nat->Nat->Rows}:ST w F x0 [] C 0 0:=by
 refine⟨⟨⟨[],λJ=>0,0,rfl,rfl,λi p hp=>by cases hp⟩,List.nodup_nil,λc hc=>by cases hc⟩,⟨[],λJ=>0,0,rfl,rfl,λi c hc=>by cases hc⟩,Nat.le_refl _,λi hi=> ?_,λj hj=> ?_⟩
 ·exact Tn i hi ⟨λJ=>0,rfl,λj hj=>absurd hj (by simp)⟩ ⟨λJ=>0,rfl,λj hj=>absurd hj (by simp)⟩ ⟨λJ=>0,rfl,λj hj=>absurd hj (by simp)⟩
 ·exact To j hj ⟨λJ=>0,rfl,λj hj=>absurd hj (by simp)⟩ ⟨λJ=>0,rfl,λj hj=>absurd hj (by simp)⟩
def JL(k:KI)(q:CA)(m:Nat->Int)(fo wo:Option Value)(att:Value)(x:MS)(FR:Obj)(r:RI):az:=⟨39,λJ=>JD w k r,λst=>[(.l st.L,.l (lR w.params k FR fo wo (some att) x r 2 0 2))],λJ J=> .ok .next,
 λa st=>⟨lO k a.o (some (.int 1 (a.k 1))) (some (.int 2 (a.k 0))) (some att),st.G,a.N,a.t⟩,λF a=>F.le a.F/\Up λx' cs T x5 x6 x7 x8 x9=>ST w a.F x' cs (CM m q) 1 3/\a.o=sd w.params k (gJ w.params 10 T (vB k.j x5 x6 x7 x8 x9)) x'⟩
def Ap(F:aj)(k:KI)(q:CA)(m:Nat->Int)(att:Value)(r:RI)(rr:Result)(F':aj)(ah:aZ):Prop:=
 rr= .ok .next/\F.le F'/\TP λx cs T x5 x6 x7 x8 x9 ft wt=>ST w F' x cs (CM m q) 1 3/\ah.L=lR w.params k (gJ w.params 10 T (vB k.j x5 x6 x7 x8 x9)) (some (.int 1 ft)) (some (.int 2 wt)) (some att) x r 2 2 0
variable{w}
theorem HQ{k:KI}{q:CA}{m:Nat->Int}{tt:nN}{r0 r1 p0 p1 n M tk:Nat}{fo wo:Option Value}{att:Value}{x:MS}{cs:lU}{T:nN}{x5 x6 x7 x8 x9:Value}{r:RI}(h7:P7 w F k.j.i q m tt r0 r1 p0 p1)(eZ:rB w F k)(hn:ly F)(hs:ST w F x cs (CM m q) 0 0)(dW:jj m q)(h5:n=5\/n=10):
  aD w R F ⟨lR w.params k (gJ w.params n T (vB k.j x5 x6 x7 x8 x9)) fo wo (some att) x r 2 0 2,[],M,tk⟩ 39 (JD w k r) (Ap w F k q m att r):=by
 refine Cy (f:=0) (mm:=1) (λFR M tk aa=>Eh w k FR _ _ _ x r M tk aa) h7 eZ hn hs (by decide) dW h5 ?_;intro F1 Ql OG x1 Rh T1 a5 a6 a7 a8 a9 M1 t1 l1 s1 R;refine Cy (f:=1) (mm:=0) (λFR M tk aa=>Eg w k FR _ _ _ x1 r M tk aa) (h7.le l1) (eZ.le l1) (hn.le l1) s1.next (by decide) dW (.inr rfl) ?_;intro F2 E2 Kb x2 Qy T2 b5 b6 b7 b8 b9 M2 t2 l2 s2 R;refine aD.oy (aX:=38) (ab.eq (CR.dq _) (ab.run (enc:=CR.jL) (d:=38) (ai:=λrr F' ah=>rr= .ok .next/\F'=F2/\ah.L=lR w.params k (gJ w.params 10 T2 (vB k.j b5 b6 b7 b8 b9)) (some (.int 1 E2)) (some (.int 2 Kb)) (some att) x2 r 2 2 0) nr (Mu w k _ _ _ _ _ r _ _) (VC.keep λN' t'=>⟨rfl,rfl,rfl⟩) (λa F' ah hq=> ?_) λJ J J h=>by cases h.1));obtain⟨h1,h2,h3⟩:=hq;subst h2;refine⟨?_,rfl,l1.trans l2,x2,Qy,T2,b5,b6,b7,b8,b9,E2,Kb,s2,h3⟩;cases a with
 |none=>rfl
 |some v=>exact absurd (Except.ok.inj h1) (by intro h;cases h)
theorem JL.ok{k:KI}{q:CA}{m:Nat->Int}{tt:nN}{r0 r1 p0 p1 n:Nat}{fo wo:Option Value}{att:Value}{x:MS}{cs:lU}{T:nN}{x5 x6 x7 x8 x9:Value}{r:RI}(h7:P7 w F k.j.i q m tt r0 r1 p0 p1)(eZ:rB w F k)(hn:ly F)(hs:ST w F x cs (CM m q) 0 0)(dW:jj m q)(h5:n=5\/n=10):
  (JL w k q m fo wo att x (gJ w.params n T (vB k.j x5 x6 x7 x8 x9)) r).OK w R F:=λcc st hc he=>by
 have hL:st.L=lR w.params k (gJ w.params n T (vB k.j x5 x6 x7 x8 x9)) fo wo (some att) x r 2 0 2:=cp.l.inj (aY.cons.mp he).1;rw [hc];refine aD.gO (ai:=λrr F' ah=>∃bU,ah.L=bU.L/\ah.G=st.G/\Ap w F k q m att r rr F' bU) ?_ λrr F' ah hh=> ?_
 ·refine aD.frame (L1:=lR w.params k (gJ w.params n T (vB k.j x5 x6 x7 x8 x9)) fo wo (some att) x r 2 0 2) (L2:=[]) (G1:=[]) (jT:=Ap w F k q m att r) (by rw [List.append_nil,hL]) cB (HQ h7 eZ hn hs dW h5) λrr F' bU h=>⟨bU.L,by rw [List.append_nil],bU,rfl,rfl,h⟩
 ·obtain⟨bU,e0,eG,y1,y2,x',dQ,T',a5,a6,a7,a8,a9,ft,wt,y3,y4⟩:=hh;refine⟨lO k (sd w.params k (gJ w.params 10 T' (vB k.j a5 a6 a7 a8 a9)) x') (some (.int 1 ft)) (some (.int 2 wt)) (some att),?_,?_⟩
  ·rw [e0,y4];exact List.sublist_append_left (lO k (sd w.params k (gJ w.params 10 T' (vB k.j a5 a6 a7 a8 a9)) x') (some (.int 1 ft)) (some (.int 2 wt)) (some att)) [(r.rg,nO r 2),(r.it,tX 2 0)]
  ·refine⟨{bB F' ah.N ah.t wt with o:=sd w.params k (gJ w.params 10 T' (vB k.j a5 a6 a7 a8 a9)) x',k:=lk ft [wt]},rfl,⟨y2,x',dQ,T',a5,a6,a7,a8,a9,y3,rfl⟩,y1,?_⟩;rw [eG];rfl
def oS(w:World)(k:KI)(q:CA)(m:Nat->Int)(fo wo:Option Value)(att:Value)(x:MS)(FR:Obj)(M tk:Nat)(aa:RB):ax:=aF w 600 40 (zJ [[0],vT,[0]])
 (.hk (JL w k q m fo wo att x FR ⟨M,M+1,tk+1,tk,tk+2⟩) λa=> .ret (.ok .next) λst=>[(.l st.L,.l (lO k a.o (some (.int 1 (a.k 1))) (some (.int 2 (a.k 0))) (some att)))])
 aa (LP.bD [DT w.params] (ev w.params k.j.i.N)) id ⟨(k.j.i.N,FR)::(vA k.j fo wo (some att) none none++AP w.params k x),[],M,tk⟩
theorem Hx w k q m fo wo att x FR M tk:∀aa,aE (oS w k q m fo wo att x FR M tk aa):=by apply bh w
abbrev TN(F:aj)(w:World)(m:Nat->Int)(q:CA)(k:KI)(att:Value):Flow->aj->aZ->Prop:=λfl F' ah=>fl= .next/\F.le F'/\TP λx cs T' x5 x6 x7 x8 x9 ft wt=>ST w F' x cs (CM m q) 1 3/\ah.L=lM w.params k x 10 T' (vB k.j x5 x6 x7 x8 x9) (some (.int 1 ft)) (some (.int 2 wt)) (some att) none none
theorem Ea{k:KI}{q:CA}{m:Nat->Int}{tt:nN}{r0 r1 p0 p1 M tk:Nat}{fo:Option Value}{att:Value}{T:nN}(h7:P7 w F k.j.i q m tt r0 r1 p0 p1)(eZ:rB w F k)(hn:ly F)(dW:jj m q):
  ab w R F ⟨lM w.params k x0 5 T (v5 k.j) fo none (some att) none none,[],M,tk⟩ 40 (PySem.execs [DT w.params] (ev w.params k.j.i.N)) (TN F w m q k att):=by
 refine ab.eq (LP.aH _ _) (ab.rN (d:=40) (Hx w k q m fo none att x0 (gJ w.params 5 T (vB k.j .none .none .none .none .none)) M tk) ⟨JL.ok h7 eZ hn ST.zero dW (.inl rfl),λa le ha=> ?_⟩);obtain⟨J,x',dQ,T',a5,a6,a7,a8,a9,g1,g2⟩:=ha;exact VC.all λN' t'=>⟨rfl,le,x',dQ,T',a5,a6,a7,a8,a9,a.k 1,a.k 0,g1,by rw [g2];rfl⟩
variable(w)
end LW
def jx(so:Addr):az:=(kS w so).iI λa=>[(a.k 0,cb 1259 (a.k 1)),(a.k 1,tF w.params so (a.k 2) (a.k 3) (a.k 4) (a.k 5))]
theorem jx.ok{w:World}{R:aA}{F:aj}{so:Addr}:(jx w so).OK w R F:=az.iI.ok kS.ok λa ha=>⟨a,rfl,λJ=>⟨rfl,rfl⟩,ha,aq ha.2.1 (aq ha.2.2.1 cB)⟩
namespace LW
structure XI where
 x1:MT.EI
 y1:MT.EI
 x2:MT.EI
 y2:MT.EI
 x3:MT.EI
 y3:MT.EI
 r0:Nat->Nat
 r1:Nat->Nat
 D:Obj
 D2:Obj
 s1:Nat->Nat
 s2:Nat->Nat
 s3:Nat->Nat
 p1:Nat
 p2:Nat
 p3:Nat
 n0:Nat
 n1:Nat
noncomputable def XI.ms(z:XI):MS:=⟨z.D,z.D2,MM.two z.x1.a z.y1.a,MM.two z.x2.a z.y2.a,MM.two z.x3.a z.y3.a,z.s1,z.s2,z.s3,z.p1,z.p2,z.p3,#[.ref (z.r0 0),.ref (z.r0 1),.ref (z.r0 2)],z.n0,#[.ref (z.r1 0),.ref (z.r1 1),.ref (z.r1 2)],z.n1⟩
structure YI where
 mg:Nat
 dx:Nat
 ci:Nat
 k1:Nat
 k2:Nat
 k3:Nat
 q:dN
 cf:Nat
 cv:aV
 cn:Nat
 a0:Nat
 p0:Nat
 u0:Nat
 v0:Nat
 a1:Nat
 p1:Nat
 u1:Nat
 v1:Nat
 CI:Obj
 ts:Nat->Nat
 ep:Nat
noncomputable def yA(mg a:aL):YI:=⟨mg.k 0,mg.k 1,mg.k 2,mg.k 3,mg.k 4,mg.k 5,MM.kq a,a.k 9,a.l 0,a.k 10,a.k 11,a.k 12,a.k 13,a.k 14,a.k 15,a.k 16,a.k 17,a.k 18,a.o 2,λn=>a.k (n+20),a.k 19⟩
def Gs(y:YI):aA:=[(y.ci,y.CI),(y.q.td,er P y.q),(y.q.te,bN P (MM.two y.a0 y.a1) y.ts y.ep)]
def lP(k:KI)(z:XI)(y:YI)(n:Nat)(T:nN)(V:Nat->Value)(fo wo att du na:Option Value):aA:=(k.j.i.N,gJ P n T V)::(vA k.j fo wo att du na++(AP P k z.ms++Gs P y))
noncomputable def vP(j:JI)(x5 x6 x7 x8 x9:Value)(y:YI)(cZ dy:Value)(n:Nat):Value:=match n with
 |10=> .ref y.mg
 |11=> .ref y.q.tb
 |12=> .ref y.cf
 |13=>cZ
 |14=>dy
 |n=>vB j x5 x6 x7 x8 x9 n
noncomputable def Le(k:KI)(z:XI)(mg:aL):MM.In:=⟨mg.k 0,mg.k 1,mg.k 2,mg.k 3,mg.k 4,mg.k 5,sK k,k.q1,k.q2,k.q3,z.x1,z.y1,z.x2,z.y2,z.x3,z.y3,z.s1,z.s2,z.s3,z.p1,z.p2,z.p3,0,0,0⟩
noncomputable def js:List Nat:=[14,15,16,17,18,19,12,13,22]
theorem A4(k:KI)(z:XI)(T:nN)(x5 x6 x7 x8 x9:Value)(fo wo att:Option Value)(cs:lU)(u0 u1:aU)(c0 c1:Bool)(M tk:Nat):∀aa,aE (aF w 2000 40 (zJ [[0,1],vX,[1,1,1],Sa,vX,[6,8,1],RG,[7,4,1],RG,[7,4,1],RG,[7,4],RC,[47,47,47,47,47,47,47,47,1,47],Sa,vX,[6,8,47,47,47,0,0,10,10,10,1,10,10],RJ,[4,53,53,10,53],RJ,[4,53,53,10,53],RJ,[4,53,53,10,53,53,57],t9])
 (.hk (jx w k.j.so) λmg=> .hk (MM.BN w js (Le k z mg) z.D z.D2 cs u0 u1 c0 c1) λa=>
 .ret (.ok .next) λst=>bJ ((dz 0 (lM w.params k {z with D:=a.o 0,D2:=a.o 1}.ms 13 (dA st 0) (vP k.j x5 x6 x7 x8 x9 (yA mg a) .none .none) fo wo att none none)++[(22,(mg.k 2,a.o 2)),(24,((MM.kq a).td,er w.params (MM.kq a))),(25,((MM.kq a).te,bN w.params (MM.two (a.k 11) (a.k 15)) (λn=>a.k (n+20)) (a.k 19)))])++[]) st)
 aa (LP.bD [aB (bd w.params) 12,aB (bd w.params) 13] (ev w.params k.j.i.N)) id ⟨lM w.params k z.ms 10 T (vB k.j x5 x6 x7 x8 x9) fo wo att none none,[(k.j.so,cb 1315 k.s.dx),(k.j.qo,aw #[.ref k.q1.tb,.ref k.q2.tb,.ref k.q3.tb] 0)],M,tk⟩):=by apply bh w
theorem A3(k:KI)(z:XI)(y:YI)(T:nN)(V:Nat->Value)(fo wo att:Option Value)(b0 b1:Bool)(rows0 GX:Rows)(M tk:Nat):∀aa,aE (aF w 2000 40 (match w.params.followText f5 with
 |true=>(zJ [[0],r7,[1,1,53,1,53],Bf,[0,19,57],va,RW,[19,57],va,RW,[19,57],va,RW,[0,0],yE,Bf,[0,19,57],va,vS,[7,43,14,19,57],va,vS,[7,43,14,19,57],va,vS,[7,43,14,0,0],yE,[19,53],RY,[21,21]])
 |false=>(zJ [[0],r7,[1],RJ,[65,53,1,53,1,53],Bf,[0,19,57],va,RW,[19,57],va,RW,[19,57],va,RW,[0,0],yE,Bf,[0,19,57],va,vS,[7,43,14,19,57],va,vS,[7,43,14,19,57],va,vS,[7,43,14,0,0],yE,[19,53],RY,[21,21]]))
 (.hk (jw (z.r0 0) (z.r0 1) (z.r0 2) b0 rows0) λa=> .hk (jw (z.r1 0) (z.r1 1) (z.r1 2) b1 GX) λb=>
 .ret (.ok .next) λst=>bJ (dz 0 (lP w.params k z y 13 (dA st 0) V fo wo att (some (.ref (M+2))) none)++[(27,(M+2,aw #[.ref (a.k 0),.ref (b.k 0)] 2))]) st)
 aa (LP.bD [aB (bd w.params) 14] (ev w.params k.j.i.N)) id ⟨lP w.params k z y 13 T V fo wo att none none,[(k.j.st,aw #[.ref k.j.b0,.ref k.j.b1] 0)],M,tk⟩):=by apply kj w
end LW
end H
section
variable{w:World}{R:aA}{F:aj}{st:aZ}{aX:Nat}
theorem ab.oI{op:CmpOp}{l r:PySem.Expr}{q:Pos}{bx:PySem.Env}{x:Sem Value}{P1:Value->aj->aZ->Prop}{P:Bool->aj->aZ->Prop}(hm:behindInMarks op r=false)(Ls:∀a b,compareOp op a b=richCompare op a b)
  (hl:ab w R F st aX (PySem.eval l bx) P1) (hr:∀a F' ah,F.le F'->P1 a F' ah->ab w R F' ah aX (PySem.eval r bx) λb F2 fI=>ab w R F2 fI aX (richCompare op a b) λv F3 fB=>∃c,v= .bool c/\P c F3 fB):
  ab w R F st aX (isTrue (.Compare l [op] [r] q) bx x) P:=by
 show ab w R F st aX (PySem.eval l bx>>=λleft=>testChain q left [op] [markedBehindIn op r (PySem.eval r bx)]) P;refine ab.bind hl λv F' ah l1 h1=> ?_;have e:markedBehindIn op r (PySem.eval r bx)=PySem.eval r bx:=by unfold markedBehindIn;rw [hm]
 rw [e];show ab w R F' ah aX (PySem.holding [v] (PySem.eval r bx)>>=λrv=>PySem.standAt q>>=λJ=>operate [v,rv] (compareOp op v rv)>>=λc=>PySem.holding [c] (truthy c)) P;refine ab.bind (ab.holding (hr v F' ah l1 h1)) λu F1 DH J hc=> ?_;refine ab.bind (P:=λJ F2 ku=>F2=F1/\ku=DH) (ab.standAt ⟨rfl,rfl⟩) λJ F2 ku J hh=> ?_;obtain⟨e1,e2⟩:=hh;subst e1 e2;rw [Ls];show ab w R F2 ku aX ((PySem.holding [v,u] (richCompare op v u)>>=λr=>PySem.release [v,u] [r]>>=λJ=>Pure.pure r)>>=λc=>PySem.holding [c] (truthy c)) P;refine ab.bind (P:=λv F' ah=>∃c,v= .bool c/\P c F' ah) (ab.bind (ab.holding hc) λc F3 fB J wX=>ab.bind (P:=λJ F2 ku=>F2=F3/\ku=fB) (ab.release ⟨rfl,rfl⟩) λJ F4 xj J ⟨e1,e2⟩=> ?_) λc F3 fB J hh=> ?_
 ·subst e1 e2;exact ab.pure wX
 ·obtain⟨d,e1,hp⟩:=hh;subst e1;exact ab.pure hp
theorem ab.Bo{x y z:PySem.Expr}{q:Pos}{bx:PySem.Env}{u:Sem Value}{P:Bool->aj->aZ->Prop}
  (h:ab w R F st aX (isTrue x bx (PySem.eval x bx)) λb F' ah=>b=false/\ab w R F' ah aX (isTrue y bx (PySem.eval y bx)) λb F' ah=>b=false/\ab w R F' ah aX (isTrue z bx (PySem.eval z bx)) P):ab w R F st aX (isTrue (.BoolOp .Or [x,y,z] q) bx u) P:=by
 show ab w R F st aX (isTrue x bx (PySem.eval x bx)>>=λb=>match BoolOp.Or,b with
  | .And,false=>Pure.pure false
  | .Or,true=>Pure.pure true
  |_,_=>isTrue y bx (PySem.eval y bx)>>=λb=>match BoolOp.Or,b with
   | .And,false=>Pure.pure false
   | .Or,true=>Pure.pure true
   |_,_=>isTrue z bx (PySem.eval z bx)>>=λb=>match BoolOp.Or,b with
    | .And,false=>Pure.pure false
    | .Or,true=>Pure.pure true
    |_,_=>(Pure.pure false:Sem Bool)) P
 refine ab.bind h λb F' ah J hh=> ?_;obtain⟨e,hb⟩:=hh;subst e;refine ab.bind hb λb F' ah J hh=> ?_;obtain⟨e,hb⟩:=hh;subst e;refine ab.bind hb λb F1 bU J hb=> ?_;cases b with
 |true=>exact ab.pure hb
 |false=>exact ab.pure hb
theorem wz:entryFor table "list.__ne__"=some Builtin.«list.__ne__»:=entryFor_of_tree (by kernel_rfl)
theorem vi{a b:Addr}{vs ws:aV}{n m:Nat}(ha:∀hh,bO (H.KP w.params) F R hh st->hh.get? a=some (aw vs n))(hb:∀hh,bO (H.KP w.params) F R hh st->hh.get? b=some (aw ws m))(fh:vs.size=ws.size)
  (he:∀hh g dr os,bO (H.KP w.params) F R hh st->∀A,A.units<cLine->∀j (h1:j<vs.size) (h2:j<ws.size),SeqAt.EqAt A ⟨hh,g,dr,st.t,os⟩ vs[j] ws[j] true):
  ab w R F st (aX+1) (richCompare .NotEq (.ref a) (.ref b)) λv F' ah=>∃d,v= .bool d/\d=false/\F'=F/\ah=st:=by
 refine ab.DY (P:=λv F' ah=>∃d,v= .bool d/\d=false/\F'=F/\ah=st) (λhh Rl=>⟨_,ha hh Rl,rfl⟩) (λhh Rl=>⟨_,hb hh Rl,rfl⟩) PySem.F.slot_list_ne (PySem.F.args_list_ne_2 _ _) ?_;intro h g dr os Rl A hA;refine codeAny_builtin wz ?_;rw [Around.under_plainId (by decide+kernel)];refine SeqAt.list_neAt a b vs ws n m _ _ _ _ fh (λJ=>true) _ _ _ _ ⟨h,g,dr,st.t,os⟩ ⟨ha h Rl,hb h Rl,λj h1 h2=>he h g dr os Rl _ ?_ j h1 h2,?_⟩
 ·have:=hA.un;show A.units+1<9900;lia
 ·rw [show(!(List.range vs.size).all λJ=>true)=false by simp];exact⟨F,st,aj.le.refl F,Rl,rfl,rfl,_,rfl,_,rfl,rfl,rfl,rfl⟩
theorem UB{vs:List Value}{xs:lU}(h:ay vs xs):vs.length=xs.length/\∀(j:Nat) (v:Value),vs[j]? =some v->∃(x:aU) (t:Nat),xs[j]? =some x/\v=Value.bytes x t:=by
 induction h with
 |nil=>exact⟨rfl,λj v h=>by simp at h⟩
 |cons x t h ih=>
  refine⟨by simp [ih.1],λj v hj=> ?_⟩
  match j,hj with
  |0,hj=>exact⟨x,t,rfl,(Option.some.inj hj).symm⟩
  |j+1,hj=>exact ih.2 j v (by simpa using hj)
theorem vC{a b:Addr}{vs ws:aV}{xs:lU}{n m:Nat}(ha:∀hh,bO (H.KP w.params) F R hh st->hh.get? a=some (aw vs n))(hb:∀hh,bO (H.KP w.params) F R hh st->hh.get? b=some (aw ws m))(h1:ay vs.toList xs)(h2:ay ws.toList xs):
  ab w R F st (aX+1) (richCompare .NotEq (.ref a) (.ref b)) λv F' ah=>∃d,v= .bool d/\d=false/\F'=F/\ah=st:=by
 obtain⟨k1,g1⟩:=UB h1;obtain⟨k2,g2⟩:=UB h2;refine vi ha hb (by rw [<-Array.length_toList,<-Array.length_toList,k1,k2]) λhh g dr os Rl A J j j1 j2=> ?_;obtain⟨x,t,e1,e2⟩:=g1 j vs[j] (by simp [j1]);obtain⟨y,u,e3,e4⟩:=g2 j ws[j] (by simp [j2]);rw [e1]at e3;obtain rfl:=Option.some.inj e3;rw [e2,e4];have:=j' x x t u A ⟨hh,g,dr,st.t,os⟩;rwa [show decide (x=x)=true by simp]at this
theorem sN{A:Around}{s:Shared}{x y:Addr}{vs:aV}(hx:s.heap.get? x=some {cls:= .type "tuple",data:= .seq vs})(hy:s.heap.get? y=some {cls:= .type "tuple",data:= .seq vs})(hu:A.units<cLine):SeqAt.EqAt A s (.ref x) (.ref y) true:=by
 by_cases e:x=y
 ·subst e;exact .same _
 ·have:=SeqAt.EqAt.of_refs (A:=A) (s:=s) e (SeqAt.RcAt.tuples (e:=λJ=>true) (items:=vs) (items2:=vs) ⟨_,hx,rfl,_,rfl⟩ ⟨_,hy,rfl,_,rfl⟩ hu λj h1 h2=> .same _);have e2:((List.range (min vs.size vs.size)).all (λJ=>true)&&vs.size==vs.size)=true:=by simp
  rwa [e2]at this
end
noncomputable abbrev pL(d:Addr):Obj:={cls:= .type "dict_keys",data:= .fields #[.ref d]}
def qQ(j:Nat)(d:Addr)(l:cK)(ts:nN)(ep:Nat):az:=⟨0,λJ=> .builtin "dict.keys" ⟨[.ref d],[]⟩,λst=>[(.p (bP st.L j),.p (some (d,bN w.params l ts ep)))],
 λJ st=> .ok (.ret (.ref st.N)),λJ st=>⟨eO st.L st.N (pL d),st.G,st.N+1,st.t⟩,same⟩
theorem qQ.ok{w:World}{R:aA}{F:aj}{j:Nat}{d:Addr}{l:cK}{ts:nN}{ep:Nat}(hn:(l.map (·.1)).Nodup):(qQ w j d l ts ep).OK w R F:=λc st hc he=>by
 rw [hc];have hj:=cp.p.inj (aY.cons.mp he).1;refine aD.ej (p:=(d==sysModules)=false) (λhh Rl=>n5 Rl (List.mem_append_left _ (aJ hj))) λha=> ?_;refine aD.h9 (by decide+kernel) PySem.F.entry_dict_keys (kdl_meets_keys (knd w) d ha) λhh g dr os Rl A=>⟨⟨_,fW (Rl.mem _ (List.mem_append_left _ (aJ hj))) hn⟩,?_⟩
 have e:hh.objs.size=st.N:=Rl.size;show bI w R os F _ (.ok (.ret (.ref hh.objs.size))) _;rw [e];exact⟨F,_,aj.le.refl F,Rl.alloc rfl,rfl,rfl,bB F 0 0 0,rfl,rfl,rfl,rfl⟩
namespace H
noncomputable def i4(c0 c1:Bool)(t0 t1:Nat):aV:=match c0,c1 with
 |false,false=> #[]
 |true,false=> #[.bytes nA t0]
 |false,true=> #[.bytes nB t1]
 |true,true=> #[.bytes nA t0,.bytes nB t1]
noncomputable def lD(c0 c1:Bool)(i0 i1:Nat):cK:=match c0,c1 with
 |false,false=>[]
 |true,false=>[(nA,.ref i0)]
 |false,true=>[(nB,.ref i1)]
 |true,true=>[(nA,.ref i0),(nB,.ref i1)]
theorem fe(c0 c1:Bool)(i0 i1:Nat):((lD c0 c1 i0 i1).map (·.1)).Nodup:=by
 cases c0<;>cases c1
 ·exact List.nodup_nil
 ·show [nB].Nodup;decide
 ·show [nA].Nodup;decide
 ·show [nA,nB].Nodup;decide
theorem sq(c0 c1:Bool)(t0 t1:Nat):ay (i4 c0 c1 t0 t1).toList (MT.names c0 c1):=by
 cases c0<;>cases c1
 ·exact .nil
 ·exact .cons _ _ .nil
 ·exact .cons _ _ .nil
 ·exact .cons _ _ (.cons _ _ .nil)
def om(i j:Nat)(r d:Addr)(c0 c1:Bool)(i0 i1:Nat)(ts:nN)(ep:Nat):az:=⟨4,λJ=> .builtin "proto.collect" ⟨[.ref r],[]⟩,λst=>[(.p (bP st.L i),.p (some (r,pL d))),(.p (bP st.L j),.p (some (d,bN w.params (lD c0 c1 i0 i1) ts ep)))],
 λa J=> .ok (.ret (.ref (a.k 0))),λa st=>⟨st.L++[(a.k 0,aw (i4 c0 c1 (a.k 2) (a.k 3)) (a.k 1))],st.G,a.N,a.t⟩,same⟩
theorem om.ok{w:World}{R:aA}{F:aj}{i j:Nat}{r d:Addr}{c0 c1:Bool}{i0 i1:Nat}{ts:nN}{ep:Nat}:(om w i j r d c0 c1 i0 i1 ts ep).J' w R F:=λcc st hc he=>by
 rw [hc];have e1:=aY.cons.mp he;have hi:=cp.p.inj e1.1;have hj:=cp.p.inj (aY.cons.mp e1.2).1;intro h g dr os Rl A hA;have mr:=Rl.mem _ (List.mem_append_left _ (aJ hi));have md:=Rl.mem _ (List.mem_append_left _ (aJ hj));obtain⟨p4,hm⟩:=(fW (w:=w) md (fe c0 c1 i0 i1)).dictAt;have hS:=Rl.size;have Jv:r<h.objs.size:=Heap.lt_size mr;have Mw:d<h.objs.size:=Heap.lt_size md;have up:∀b o,h.get? b=some o->(h.push dp).get? b=some o:=λb o e=>Heap.get?_push_of_some _ e;have hlen:(jI (lD c0 c1 i0 i1)).length<=2:=by cases c0<;>cases c1<;>simp [jI,lD]
 refine fK ?_;refine kdl_extend (A:=A) (s:=⟨h.push dp,g,dr,st.t,os⟩) (kdl_keys (prog:=H.pw) (w:=w) (knd:=knd w) (r:=r) (d:=d) (kvs:=jI (lD c0 c1 i0 i1)) (ep:=p4))
  (R:=λq s'=>bI w R os F (λq F' ah=>(om w i j r d c0 c1 i0 i1 ts ep).post F st q F' ah) q s'/\s'.gens=g)
  hA.hd ⟨⟨_,up _ _ mr,rfl,rfl⟩,hm.push _⟩ h.objs.size (Nat.ne_of_gt Jv) (Nat.ne_of_gt Mw) (.ref h.objs.size) 0 (Heap.get?_push_size _ rfl) (λh' tk acc c hk E0 ux=> ?_) (by rw [sizeLine_eq];lia)
 have J8:∀(j:Nat) (k:aU) (x:Value),(lD c0 c1 i0 i1)[j]? =some (k,x)->∃t,acc[j]? =some (.bytes k t):=λj k x e=>by
  have hj:j<acc.size:=by rw [ux.1];have:=(List.getElem?_eq_some_iff.mp e).1;simpa [jI]using this
  obtain⟨k',x',e1,e2⟩:=ux.2 j acc[j] (by simp [hj]);have e3:(jI (lD c0 c1 i0 i1))[j]? =some (k.toList,x):=by simp [jI,e]
  rw [e3]at e1;obtain⟨rfl,rfl⟩:=Prod.mk.inj (Option.some.inj e1);obtain⟨t,ht⟩:=isBytes_shape e2;exact⟨t,by rw [Array.getElem?_eq_getElem hj,ht]⟩
 have Ir:∃t0 t1,acc=i4 c0 c1 t0 t1:=by
  have hs:=ux.1;cases c0<;>cases c1
  ·exact⟨0,0,Array.eq_empty_of_size_eq_zero (by simpa [jI,lD]using hs)⟩
  ·obtain⟨t,ht⟩:=J8 0 nB _ rfl;refine⟨0,t,Array.ext_getElem? λn=> ?_⟩
   match n with
   |0=>exact ht
   |n+1=>rw [Array.getElem?_eq_none (by rw [hs];simp [jI,lD]),Array.getElem?_eq_none (by simp [i4])]
  ·obtain⟨t,ht⟩:=J8 0 nA _ rfl;refine⟨t,0,Array.ext_getElem? λn=> ?_⟩
   match n with
   |0=>exact ht
   |n+1=>rw [Array.getElem?_eq_none (by rw [hs];simp [jI,lD]),Array.getElem?_eq_none (by simp [i4])]
  ·obtain⟨t,ht⟩:=J8 0 nA _ rfl;obtain⟨u,hu⟩:=J8 1 nB _ rfl;refine⟨t,u,Array.ext_getElem? λn=> ?_⟩
   match n with
   |0=>exact ht
   |1=>exact hu
   |n+2=>rw [Array.getElem?_eq_none (by rw [hs];simp [jI,lD]),Array.getElem?_eq_none (by simp [i4])]
 obtain⟨t0,t1,rfl⟩:=Ir;have hX:∀p∈[(h.objs.size,aw (i4 c0 c1 t0 t1) c)],h'.get? p.1=some p.2:=λp hp=>by rw [List.mem_singleton]at hp;subst hp;exact E0
 have R1:=iT Rl (λb o e=>hk b o (Nat.ne_of_lt (Heap.lt_size e)) (up b o e)) hX (by simp) (λp hp=>by rw [List.mem_singleton]at hp;subst hp;exact Nat.le_of_eq hS.symm) tk
 exact⟨⟨F,_,aj.le.refl F,R1,rfl,rfl,{bB F h'.objs.size tk 0 with k:=lk t1 [h.objs.size,c,t0]},rfl,rfl,rfl,rfl⟩,rfl⟩
namespace SK
noncomputable def nE(c0 c1:Bool):Nat:=match c0,c1 with
 |false,false=>0
 |_,_=>2
noncomputable def sc(c0 c1:Bool):List Nat:=match c0,c1 with
 |true,true=>[89,0,5,1,7,88,7,7,7,7,7,1,90,7,7,7,7]
 |_,_=>(zJ [[89,0,5,1,7,88],RK,[7,7,7]])
def S(gN:Nat)(r d:Addr)(c0 c1:Bool)(i0 i1:Nat)(ts:nN)(ep N t:Nat)(aa:RB):ax:=bX w gN 900 8 (sc c0 c1)
 (.C7 (om w 0 1 r d c0 c1 i0 i1 ts ep) λa=> .ret (.ok (.ret (.ref a.N))) (bJ ([(0,(r,pL d)),(1,(d,bN w.params (lD c0 c1 i0 i1) ts ep))]++[(3,(a.N,aw (i4 c0 c1 (a.k 2) (a.k 3)) (nE c0 c1)))])))
 aa (.builtin "sorted" ⟨[.ref r],[]⟩) ⟨[(r,pL d),(d,bN w.params (lD c0 c1 i0 i1) ts ep)],[],N,t⟩
theorem iw(gN:Nat)(r d:Addr)(c0 c1:Bool)(i0 i1:Nat)(ts:nN)(ep N t:Nat)(aa:RB):aE (S w gN r d c0 c1 i0 i1 ts ep N t aa):=by
 cases c0<;>cases c1
 ·apply bR w
 ·apply bR w
 ·apply bR w
 ·apply bR w
end SK
def kO(i j:Nat)(r d:Addr)(c0 c1:Bool)(i0 i1:Nat)(ts:nN)(ep:Nat):az:=⟨9,λJ=> .builtin "sorted" ⟨[.ref r],[]⟩,λst=>[(.p (bP st.L i),.p (some (r,pL d))),(.p (bP st.L j),.p (some (d,bN w.params (lD c0 c1 i0 i1) ts ep)))],
 λa J=> .ok (.ret (.ref (a.k 0))),qm,λF a=>F.le a.F/\a.F (a.k 0)=some (aw (i4 c0 c1 (a.k 1) (a.k 2)) (SK.nE c0 c1))⟩
theorem kO.ok{w:World}{R:aA}{F:aj}{i j:Nat}{r d:Addr}{c0 c1:Bool}{i0 i1:Nat}{ts:nN}{ep:Nat}(SH:i≠j):(kO w i j r d c0 c1 i0 i1 ts ep).OK w R F:=λcc st hc he=>by
 rw [hc];have e1:=aY.cons.mp he;have hi:=cp.p.inj e1.1;have hj:=cp.p.inj (aY.cons.mp e1.2).1;refine aD.ja (G1:=[]) (P:=λrr F' o o' X N' t'=>o=pL d/\o'=bN w.params (lD c0 c1 i0 i1) ts ep/\X=[]/\F.le F'/\LV λl t0 t1=>F' l=some (aw (i4 c0 c1 t0 t1) (SK.nE c0 c1))/\rr= .ok (.ret (.ref l))) hi hj SH cB (λR=> ?_)
  λrr F' o o' X N' t' hh=> ?_
 ·refine aD.d0 (d:=8) nr (λgN=>SK.iw w gN r d c0 c1 i0 i1 ts ep st.N st.t) ⟨om.ok,λa J hf=> ?_⟩;rw [show a.F=F from hf];refine VC.gq (nd (by kernel_rfl)) λF' le hn N' t'=> ?_;exact⟨_,_,[],rfl,rfl,rfl,rfl,le,a.N,a.k 2,a.k 3,hn 0 rfl,rfl⟩
 ·obtain⟨y1,y2,y3,y4,l,t0,t1,y5,y6⟩:=hh;subst y1 y2 y3;refine⟨{bB F' N' t' 0 with k:=lk t1 [l,t0]},rfl,⟨y4,y5⟩,y6,?_⟩;rw [cT hi];have s2:bg st.L j (bN w.params (lD c0 c1 i0 i1) ts ep)=st.L:=cT hj;rw [s2,List.append_nil];rfl
namespace LW
abbrev w6:=Fast.tw15418851999007992765
theorem rF(e:PySem.Expr)(bx:PySem.Env):isTrue e bx (PySem.eval e bx)=w6 e bx (LP.eK e bx):=by rw [Fast.te15418851999007992765,LP.cQ]
def wN:PySem.Expr:=cC (aB (bd P) 15)
noncomputable def QA(b0 b1:Bool):List Nat:=(zJ [[53,1,53],Bf,[21,57],va,yD,[14]])++((match b0 with|true=>(zJ [[0,57],vU,[0,7,0,1,55,9,55,55,55,1]])|false=>[1])++((zJ [[53,1,53],Bf,[21,57],va,[6,6,6,1,6,21,6,14]])++((match b1 with|true=>(zJ [[0,57],vU,[0,7,0,1,55,9,55,55,55,1]])|false=>[1])++(zJ [[53,1,53,19,53],RY]))))
noncomputable def Jz(b0 b1:Bool):Nat:=match b0,b1 with
 |false,false=>0
 |true,true=>2
 |_,_=>1
section
variable(w:World)(k:KI)(z:XI)(y:YI)(T:nN)(x5 x6 x7 x8 x9:Value)(fo wo att:Option Value)(du:Nat)(M tk:Nat)(aa:RB)
def Nb(j:Nat):ax:=aF w 100 40 [1] (.ret (.ok (.ret (.ref y.cf))) (bH (lP w.params k z y 13 T (vP k.j x5 x6 x7 x8 x9 y .none .none) fo wo att (some (.ref du)) none) [] M tk)) aa (LP.eK (match j with|0=>ki (lS (wN w.params) 0)|_=>UA (lS (wN w.params) 2)) (ev w.params k.j.i.N)) .ret ⟨lP w.params k z y 13 T (vP k.j x5 x6 x7 x8 x9 y .none .none) fo wo att (some (.ref du)) none,[],M,tk⟩
theorem AN:aE (Nb w k z y T x5 x6 x7 x8 x9 fo wo att du M tk aa 0):=by apply bR w
theorem AM:aE (Nb w k z y T x5 x6 x7 x8 x9 fo wo att du M tk aa 1):=by apply bR w
def I5(t0 t1 r0 r1:Nat)(b0 b1:Bool):ax:=aF w 2000 40 ((match w.params.followText f5 with
 |true=>(zJ [[0],r7,[1,1]])
 |false=>(zJ [[0],r7,[1],RJ,[65,53,1]]))++QA b0 b1)
 (.ret (.ok (.ret (.ref (M+2)))) (bJ (dz 0 (lP w.params k z y 13 T (vP k.j x5 x6 x7 x8 x9 y .none .none) fo wo att (some (.ref du)) none)++[(27,(M+2,aw (i4 b0 b1 2179 2180) (Jz b0 b1)))]))) aa (LP.eK (UA (lS (wN w.params) 0)) (ev w.params k.j.i.N)) .ret ⟨lP w.params k z y 13 T (vP k.j x5 x6 x7 x8 x9 y .none .none) fo wo att (some (.ref du)) none,[(du,aw #[.ref t0,.ref t1] 2),(t0,dU (.ref r0) (.bool b0)),(t1,dU (.ref r1) (.bool b1))],M,tk⟩
theorem zW(t0 t1 r0 r1:Nat):aE (I5 w k z y T x5 x6 x7 x8 x9 fo wo att du M tk aa t0 t1 r0 r1 false false):=by apply RA w
theorem zV(t0 t1 r0 r1:Nat):aE (I5 w k z y T x5 x6 x7 x8 x9 fo wo att du M tk aa t0 t1 r0 r1 false true):=by apply RA w
theorem zU(t0 t1 r0 r1:Nat):aE (I5 w k z y T x5 x6 x7 x8 x9 fo wo att du M tk aa t0 t1 r0 r1 true false):=by apply RA w
theorem zT(t0 t1 r0 r1:Nat):aE (I5 w k z y T x5 x6 x7 x8 x9 fo wo att du M tk aa t0 t1 r0 r1 true true):=by apply RA w
theorem E'(t0 t1 r0 r1:Nat)(b0 b1:Bool):aE (I5 w k z y T x5 x6 x7 x8 x9 fo wo att du M tk aa t0 t1 r0 r1 b0 b1):=by
 cases b0<;>cases b1
 ·exact zW w k z y T x5 x6 x7 x8 x9 fo wo att du M tk aa t0 t1 r0 r1
 ·exact zV w k z y T x5 x6 x7 x8 x9 fo wo att du M tk aa t0 t1 r0 r1
 ·exact zU w k z y T x5 x6 x7 x8 x9 fo wo att du M tk aa t0 t1 r0 r1
 ·exact zT w k z y T x5 x6 x7 x8 x9 fo wo att du M tk aa t0 t1 r0 r1
def K2:ax:=aF w 1000 40 (zJ [[0,0,1,1,24,2],mQ,[1,73]])
 (.hk (jt w 23 24 y.q (MM.two y.a0 y.a1) y.ts y.ep) λJ=> .ret (.ok (.ret (.bool false))) (bJ (dz 0 (lP w.params k z y 13 T (vP k.j x5 x6 x7 x8 x9 y .none .none) fo wo att (some (.ref du)) none)++[])))
 aa (w6 (lS (wN w.params) 1) (ev w.params k.j.i.N) (LP.eK (lS (wN w.params) 1) (ev w.params k.j.i.N))) (λb=> .ret (.bool b)) ⟨lP w.params k z y 13 T (vP k.j x5 x6 x7 x8 x9 y .none .none) fo wo att (some (.ref du)) none,[(y.q.tb,cb 884 y.q.td)],M,tk⟩
theorem uj:aE (K2 w k z y T x5 x6 x7 x8 x9 fo wo att du M tk aa):=by apply bR w
def OV(c0 c1:Bool)(i0 i1:Nat)(ts:nN)(ep:Nat):ax:=aF w 1000 40 (zJ [[0,0,1],oW,[4,45,45,45,45,1,45,0,102,1,0,85]])
 (.hk (qQ w 22 y.ci (lD c0 c1 i0 i1) ts ep) λJ=> .hk (kO w 25 22 M y.ci c0 c1 i0 i1 ts ep) λa=> .ret (.ok (.ret (.ref (a.k 0)))) (bJ (dz 0 (lP w.params k z {y with CI:=bN w.params (lD c0 c1 i0 i1) ts ep} 13 T (vP k.j x5 x6 x7 x8 x9 y .none .none) fo wo att (some (.ref du)) none)++[])))
 aa (LP.eK (ki (lS (wN w.params) 2)) (ev w.params k.j.i.N)) .ret ⟨lP w.params k z {y with CI:=bN w.params (lD c0 c1 i0 i1) ts ep} 13 T (vP k.j x5 x6 x7 x8 x9 y .none .none) fo wo att (some (.ref du)) none,[(y.mg,cb 1259 y.dx),(y.dx,tF w.params k.j.so y.ci y.k1 y.k2 y.k3)],M,tk⟩
theorem DK(c0 c1:Bool)(i0 i1:Nat)(ts:nN)(ep:Nat):aE (OV w k z y T x5 x6 x7 x8 x9 fo wo att du M tk aa c0 c1 i0 i1 ts ep):=by apply bR w
def wS(m:Nat->Int)(tt:nN):ax:=aF w 1000 40 (zJ [[3],va,[1,23,11,11]])
 (.ret (.ok .next) (bH (lP w.params k z y 13 T (vP k.j x5 x6 x7 x8 x9 y .none .none) fo (some (.int ((m 11).fmod 3) (tk+2))) att (some (.ref du)) none) [(k.j.i.nl,aw (mF m tt) 0)] M (tk+3)))
 aa (LP.bD [aB (bd w.params) 16] (ev w.params k.j.i.N)) id ⟨lP w.params k z y 13 T (vP k.j x5 x6 x7 x8 x9 y .none .none) fo wo att (some (.ref du)) none,[(k.j.i.nl,aw (mF m tt) 0)],M,tk⟩
theorem rD(m:Nat->Int)(tt:nN):aE (wS w k z y T x5 x6 x7 x8 x9 fo wo att du M tk aa m tt):=by apply bR w
end
def DR:Stmt:=aB (bd P) 17
def gh(n:Nat):Stmt:=aB (iq (DR P)) n
def lQ(k:KI)(z:XI)(y:YI)(FR:Obj)(fo wo att du na:Option Value)(r:RI)(i m:Nat):aA:=(k.j.i.N,FR)::(vA k.j fo wo att du na++(AP P k z.ms++(Gs P y++[(r.rg,nO r 2),(r.it,tX i m)])))
def JC(k:KI)(r:RI):Code:= .forLoop (eB (DR w.params)) (.ref r.it) [gh w.params 0,gh w.params 1,gh w.params 2,gh w.params 3,gh w.params 4,gh w.params 5] [] (ev w.params k.j.i.N)
theorem K5(it v:Value):letOwnedTupleGo (eB (DR P)) it v=Pure.pure ():=by kernel_rfl
section
variable(w:World)(k:KI)(z:XI)(y:YI)(FR:Obj)(fo wo att du na:Option Value)(r:RI)(M tk:Nat)(aa:RB)
def nQ(i m:Nat):ax:=aF w 300 38 [53,1,53,19,53,53,53,53,53,53,53] (.ret (.ok (.ret (.int i tk))) (bH (lQ w.params k z y FR fo wo att du na r (i+1) m) [] M (tk+1))) aa (Fast.tw9404975358583537561 (.ref r.it)) CR.jL ⟨lQ w.params k z y FR fo wo att du na r i (m+1),[],M,tk⟩
theorem Pc:aE (nQ w k z y FR fo wo att du na r M tk aa 0 1):=by apply bR w
theorem Pb:aE (nQ w k z y FR fo wo att du na r M tk aa 1 0):=by apply bR w
def eQ:ax:=aF w 300 38 [53,1,53,19,53,53,53,57] (.ret (.ok .next) λst=>[(.l (st.L.take 27),.l (lQ w.params k z y FR fo wo att du na r 2 0))]) aa (Fast.tw9404975358583537561 (.ref r.it)) CR.jL ⟨lQ w.params k z y FR fo wo att du na r 2 0,[],M,tk⟩
theorem I1:aE (eQ w k z y FR fo wo att du na r M tk aa):=by apply bR w
def aQ(i m v:Nat):ax:=aF w 100 38 [5,5] (.ret (.ok .next) (bH (lQ w.params k z y FR (some (.int i v)) wo att du na r (i+1) m) [] M tk)) aa (LP.jE (eB (DR w.params)) (ev w.params k.j.i.N) (.int i v)) (λJ=> .next) ⟨lQ w.params k z y FR fo wo att du na r (i+1) m,[],M,tk⟩
theorem Jh(i m v:Nat):aE (aQ w k z y FR fo wo att du na r M tk aa i m v):=by apply bR w
end
structure QI where
 f:Int
 ft:Nat
 t:Nat
 dv:aV
 dG:Nat
 b:Bool
 nm:aU
 nt:Nat
 e:MT.EI
 af:Rows
section
variable(w:World)(k:KI)(z:XI)(y:YI)(n:Nat)(T:nN)(x5 x6 x7 x8 x9 cZ dy:Value)(wo att:Option Value)(du:Nat)(na:Option Value)(q:QI)(M tk:Nat)(aa:RB)
def A7(n':Nat):ax:=aF w 3000 38 (zJ [[21,5],Bd,yD,[14,1,1,0,5,0,0],kA,[3,23,23,1,23,6],vX,[3,6],mQ,[8,8,8,1,8,10],jX,[8,51],jX,[8,51],jX,[8,51,51,55],FG,[73,1,1,10],mQ,[12],mQ,[5,12],mQ,mQ,[1,0,79,0,0,14],kA,[1,0,43]])
 (.hk (aP du q.f (.ref q.t)) λJ=> .hk (aP 1320 q.f (.bytes q.nm q.nt)) λJ=> .hk (dD w 23 24 y.q q.nm q.e.a (MM.two y.a0 y.a1) y.ts y.ep) λJ=> .hk (fj w 13 (sK k) z.D2 q.e.i (Bytes.joined #[] (aM q.af))) λa=> .hk (BL.gH (a.k 0) (Bytes.joined #[] (aM q.af))) λJ=>
  .hk (bu q.dG q.af) λJ=> .hk (mK (Bytes.joined #[] (aM q.af)) (Bytes.joined #[] (aM q.af))) λJ=> .ret (.ok .next) λst=>
  bJ (dz 0 (lP w.params k z y n' (dA st 0) (vP k.j (.bytes (Ot q.e.i) q.e.v) (.ref q.dG) x7 x8 x9 y (.int 33188 q.e.u) dy) (some (.int q.f q.ft)) wo att (some (.ref du)) (some (.bytes q.nm q.nt)))++[]) st)
 aa (LP.bD [gh w.params 0,gh w.params 1,gh w.params 2,gh w.params 3] (ev w.params k.j.i.N)) id ⟨lP w.params k z y n T (vP k.j x5 x6 x7 x8 x9 y cZ dy) (some (.int q.f q.ft)) wo att (some (.ref du)) na,[(du,aw q.dv 2),(q.t,dU (.ref q.dG) (.bool q.b)),(y.q.tb,cb 884 y.q.td),(q.e.a,MT.p6 q.e),(k.j.so,cb 1315 k.s.dx)],M,tk⟩
theorem Jq:aE (A7 w k z y 13 T x5 x6 x7 x8 x9 cZ dy wo att du na q M tk aa 14):=by apply bR w
theorem Jp:aE (A7 w k z y 14 T x5 x6 x7 x8 x9 cZ dy wo att du na q M tk aa 14):=by apply bR w
theorem Jo:aE (A7 w k z y 15 T x5 x6 x7 x8 x9 cZ dy wo att du na q M tk aa 15):=by apply bR w
def M0(b:Bool):ax:=aF w 1000 38 (zJ [[21,5],Bd,yD,[14]])
 (.hk (aP du q.f (.ref q.t)) λJ=> .ret (.ok (.ret (.bool b))) λst=>bJ (dz 0 (lP w.params k z y n T (vP k.j x5 x6 x7 x8 x9 y cZ dy) (some (.int q.f q.ft)) wo att (some (.ref du)) na)++[]) st)
 aa (w6 (cC (gh w.params 4)) (ev w.params k.j.i.N) (LP.eK (cC (gh w.params 4)) (ev w.params k.j.i.N))) (λb=> .ret (.bool b)) ⟨lP w.params k z y n T (vP k.j x5 x6 x7 x8 x9 y cZ dy) (some (.int q.f q.ft)) wo att (some (.ref du)) na,[(du,aw q.dv 2),(q.t,dU (.ref q.dG) (.bool b))],M,tk⟩
theorem Fx(b:Bool):aE (M0 w k z y 14 T x5 x6 x7 x8 x9 cZ dy wo att du na q M tk aa b):=by apply bR w
theorem Fw(b:Bool):aE (M0 w k z y 15 T x5 x6 x7 x8 x9 cZ dy wo att du na q M tk aa b):=by apply bR w
def M4(l:cK)(ts:nN)(ep ad:Nat):ax:=aF w 1000 38 (zJ [[1],oW,[4,23,45,45,45,1,45,0,27,14,1,1]])
 (.hk (ck w 22 y.ci l ts ep q.nm (.ref ad)) λJ=> .ret (.ok .next) λst=>bJ (dz 0 (lP w.params k z {y with CI:=bN w.params l ts ep} 15 (dA st 0) (vP k.j x5 x6 x7 x8 x9 y cZ (.ref ad)) (some (.int q.f q.ft)) wo att (some (.ref du)) (some (.bytes q.nm q.nt)))++[]) st)
 aa (LP.bD [aB (cY (gh w.params 4)) 0] (ev w.params k.j.i.N)) id ⟨lP w.params k z {y with CI:=bN w.params l ts ep} n T (vP k.j x5 x6 x7 x8 x9 y cZ dy) (some (.int q.f q.ft)) wo att (some (.ref du)) (some (.bytes q.nm q.nt)),[(y.mg,cb 1259 y.dx),(y.dx,tF w.params k.j.so y.ci y.k1 y.k2 y.k3)],M,tk⟩
theorem FC(l:cK)(ts:nN)(ep ad:Nat):aE (M4 w k z y 14 T x5 x6 x7 x8 x9 cZ dy wo att du q M tk aa l ts ep ad):=by apply bR w
theorem FA(l:cK)(ts:nN)(ep ad:Nat):aE (M4 w k z y 15 T x5 x6 x7 x8 x9 cZ dy wo att du q M tk aa l ts ep ad):=by apply bR w
def te7(P:Params):PySem.Expr:=cC (aB (cY (gh P 4)) 1)
def QO(ad dx pt a b c:Nat)(kk:nN):ax:=aF w 1000 38 (zJ [[1],oW,[4,1],oW,[4,1],oW,[4,1],oW,[4]])
 (.ret (.ok (.ret (.ref M))) (bJ (dz 0 (lP w.params k z y 15 T (vP k.j x5 x6 x7 x8 x9 y cZ (.ref ad)) (some (.int q.f q.ft)) wo att (some (.ref du)) na)++[(25,(M,aw #[.bytes q.nm pt,.ref a,.ref b,.ref c] 0))])))
 aa (LP.eK (ki (te7 w.params)) (ev w.params k.j.i.N)) .ret ⟨lP w.params k z y 15 T (vP k.j x5 x6 x7 x8 x9 y cZ (.ref ad)) (some (.int q.f q.ft)) wo att (some (.ref du)) na,[(ad,cb 1174 dx),(dx,MT.zd w.params kk q.nm pt a b c)],M,tk⟩
theorem Fz(ad dx pt a b c:Nat)(kk:nN):aE (QO w k z y T x5 x6 x7 x8 x9 cZ wo att du na q M tk aa ad dx pt a b c kk):=by apply bR w
def QN(a b c:Nat):ax:=aF w 2000 38 (match w.params.followText f5 with
 |true=>(zJ [[23,1],RM,[53,1,1,53,1,53],r5,[4],vX,[3,4],mQ,yE,r5,[6],vX,[3,6],mQ,yE,r5,[8],vX,[3,8],mQ,yE,[8,53,53,2],RY,[51,55,51,1,51,0,89]])
 |false=>(zJ [[23,1],RM,[53,1],RJ,[25,53,1,53,1,53],r5,[4],vX,[3,4],mQ,yE,r5,[6],vX,[3,6],mQ,yE,r5,[8],vX,[3,8],mQ,yE,[8,53,53,2],RY,[51,55,51,1,51,0,89]]))
 (.hk (dD w 14 15 k.q1 q.nm a (MM.two z.x1.a z.y1.a) z.s1 z.p1) λJ=> .hk (dD w 16 17 k.q2 q.nm b (MM.two z.x2.a z.y2.a) z.s2 z.p2) λJ=> .hk (dD w 18 19 k.q3 q.nm c (MM.two z.x3.a z.y3.a) z.s3 z.p3) λg=> .hk (i7 25 27 M #[.bytes q.nm q.nt] 0 (M+2) #[.ref a,.ref b,.ref c] 3) λJ=>
 .ret (.ok (.ret (.ref (g.N+2)))) (bJ (dz 0 (lP w.params k z y 15 T (vP k.j x5 x6 x7 x8 x9 y cZ dy) (some (.int q.f q.ft)) wo att (some (.ref du)) (some (.bytes q.nm q.nt)))++[(31,(g.N+2,aw (#[.bytes q.nm q.nt]++ #[.ref a,.ref b,.ref c]) 0))])))
 aa (LP.eK (UA (te7 w.params)) (ev w.params k.j.i.N)) .ret ⟨lP w.params k z y 15 T (vP k.j x5 x6 x7 x8 x9 y cZ dy) (some (.int q.f q.ft)) wo att (some (.ref du)) (some (.bytes q.nm q.nt)),[(k.j.qo,aw #[.ref k.q1.tb,.ref k.q2.tb,.ref k.q3.tb] 0),(k.q1.tb,cb 884 k.q1.td),(k.q2.tb,cb 884 k.q2.td),(k.q3.tb,cb 884 k.q3.td)],M,tk⟩
theorem Fy(a b c:Nat):aE (QN w k z y T x5 x6 x7 x8 x9 cZ dy wo att du q M tk aa a b c):=by apply RA w
def MY(v:WI)(u:RD)(f9:Nat):ax:=aF w 3000 38 (zJ [[1,5],UG,[0,1,5],Bd,[11],RG,[0,3,14],yF,[1,0,0]])
 (gR k v u (gR k v u (gF k v u (.ref f9) (.hk (eW u.r f9 q.dG) λJ=> .ret (.ok .next) λst=>bJ (dz 0 (lP w.params k z y n T (vP k.j x5 (.ref q.dG) x7 x8 x9 y cZ dy) (some (.int v.f v.ft)) (some (.int v.w v.wt)) att (some (.ref du)) na)++[]) st))))
 aa (LP.bD [gh w.params 5] (ev w.params k.j.i.N)) id ⟨lP w.params k z y n T (vP k.j x5 (.ref q.dG) x7 x8 x9 y cZ dy) (some (.int v.f v.ft)) (some (.int v.w v.wt)) att (some (.ref du)) na,[(k.j.i.ru,aw u.As u.CJ),(u.rf,aw u.Au 3),(u.r,gP true u.ak u.aN),(k.j.i.fi,aw u.AG u.Dk),(u.pf,aw u.Av 3)],M,tk⟩
theorem Ft(v:WI)(u:RD)(f9:Nat):aE (MY w k z y 14 T x5 x7 x8 x9 cZ dy att du na q M tk aa v u f9):=by apply bR w
theorem Fs(v:WI)(u:RD)(f9:Nat):aE (MY w k z y 15 T x5 x7 x8 x9 cZ dy att du na q M tk aa v u f9):=by apply bR w
def MZ(v:WI)(u:RD):ax:=aF w 3000 38 (zJ [[1,5],UG])
 (gR k v u (.ret (.ok .next) λst=>bJ (dz 0 (lP w.params k z y n T (vP k.j x5 (.ref q.dG) x7 x8 x9 y cZ dy) (some (.int v.f v.ft)) (some (.int v.w v.wt)) att (some (.ref du)) na)++[]) st))
 aa (LP.bD [gh w.params 5] (ev w.params k.j.i.N)) id ⟨lP w.params k z y n T (vP k.j x5 (.ref q.dG) x7 x8 x9 y cZ dy) (some (.int v.f v.ft)) (some (.int v.w v.wt)) att (some (.ref du)) na,[(k.j.i.ru,aw u.As u.CJ),(u.rf,aw u.Au 3),(u.r,gP false u.ak u.aN),(k.j.i.fi,aw u.AG u.Dk),(u.pf,aw u.Av 3)],M,tk⟩
theorem Fv(v:WI)(u:RD):aE (MZ w k z y 14 T x5 x7 x8 x9 cZ dy att du na q M tk aa v u):=by apply bR w
theorem Fu(v:WI)(u:RD):aE (MZ w k z y 15 T x5 x7 x8 x9 cZ dy att du na q M tk aa v u):=by apply bR w
end
def vE(F:aj)(cs:lU)(e:MT.EI)(c:aU):Prop:=F e.a=some (MT.p6 e)/\cs[e.i]? =some c
structure XS(F:aj)(z:XI)(cs:lU)(C:Nat->Nat->Rows):Prop where
 x1:vE F cs z.x1 (rb (C 0 0))
 y1:vE F cs z.y1 (rb (C 1 0))
 x2:vE F cs z.x2 (rb (C 0 1))
 y2:vE F cs z.y2 (rb (C 1 1))
 x3:vE F cs z.x3 (rb (C 0 2))
 y3:vE F cs z.y3 (rb (C 1 2))
 r0:∀i,i<3->bM F (z.r0 i) (C 0 i)
 r1:∀i,i<3->bM F (z.r1 i) (C 1 i)
theorem vE.up{F F':aj}(l:F.le F'){cs:lU}{e:MT.EI}{c x:aU}(h:vE F cs e c):vE F' (bT cs x) e c:=⟨l _ _ h.1,fZ h.2⟩
theorem XS.up{F F':aj}(l:F.le F'){z:XI}{cs:lU}{C:Nat->Nat->Rows}{x:aU}(h:XS F z cs C):XS F' z (bT cs x) C:=
 ⟨h.x1.up l,h.y1.up l,h.x2.up l,h.y2.up l,h.x3.up l,h.y3.up l,λi hi=>(h.r0 i hi).le l,λi hi=>(h.r1 i hi).le l⟩
theorem XS.le{F F':aj}(l:F.le F'){z:XI}{cs:lU}{C:Nat->Nat->Rows}(h:XS F z cs C):XS F' z cs C:=
 ⟨⟨l _ _ h.x1.1,h.x1.2⟩,⟨l _ _ h.y1.1,h.y1.2⟩,⟨l _ _ h.x2.1,h.x2.2⟩,⟨l _ _ h.y2.1,h.y2.2⟩,⟨l _ _ h.x3.1,h.x3.2⟩,⟨l _ _ h.y3.1,h.y3.2⟩,λi hi=>(h.r0 i hi).le l,λi hi=>(h.r1 i hi).le l⟩
theorem XS.set{z:XI}{cs:lU}{C:Nat->Nat->Rows}(h:XS F z cs C)(D D2:Obj):XS F {z with D:=D,D2:=D2} cs C:=⟨h.x1,h.y1,h.x2,h.y2,h.x3,h.y3,h.r0,h.r1⟩
theorem Th.two{F:aj}{cs:lU}{l:cK}{c:Nat->aU}(h:Th F cs l c 2):∃x y:MT.EI,l=MM.two x.a y.a/\vE F cs x (c 0)/\vE F cs y (c 1):=by obtain⟨ad,rfl,h⟩:=h;obtain⟨u,v,r,h1,h2⟩:=h 0 (by decide);obtain⟨u',v',r',h3,h4⟩:=h 1 (by decide);exact⟨⟨ad 0,u,v,r⟩,⟨ad 1,u',v',r'⟩,rfl,⟨h1,h2⟩,⟨h3,h4⟩⟩
theorem Cp.rH{v:aV}{C:Nat->Rows}(h:Cp F v C 3):∃dG:Nat->Nat,v= #[.ref (dG 0),.ref (dG 1),.ref (dG 2)]/\∀i,i<3->bM F (dG i) (C i):=by obtain⟨dG,h1,h2⟩:=h;exact⟨dG,Array.ext' h1,h2⟩
theorem ST.xi{w:World}{F:aj}{x:MS}{cs:lU}{C:Nat->Nat->Rows}(h:ST w F x cs C 1 3):∃z:XI,x=z.ms/\XS F z cs C/\dk w.params cs z.D/\fU w F cs z.D2/\cs.length<7:=by obtain⟨D,D2,l1,l2,l3,s1,s2,s3,p1,p2,p3,v0,n0,v1,n1⟩:=x;obtain⟨x1,y1,rfl,a1,b1⟩:=(h.en 0 (by decide)).two;obtain⟨x2,y2,rfl,a2,b2⟩:=(h.en 1 (by decide)).two;obtain⟨x3,y3,rfl,a3,b3⟩:=(h.en 2 (by decide)).two;obtain⟨r0,rfl,g0⟩:=(h.sv 0 (by decide)).rH;obtain⟨r1,rfl,g1⟩:=(h.sv 1 (by decide)).rH;refine⟨⟨x1,y1,x2,y2,x3,y3,r0,r1,D,D2,s1,s2,s3,p1,p2,p3,n0,n1⟩,rfl,⟨a1,b1,a2,b2,a3,b3,g0,g1⟩,h.kn,h.da,?_⟩;have:=h.len;lia
structure Ak(C:Nat->Nat->Rows)(b:Nat->Bool)(D:Nat->Rows):Prop where
 mo:∀f,f<2->MT.lp (rb (C f 0)) (rb (C f 1)) (rb (C f 2)) (rb (D f)) (b f)
 pl:∀f,f<2->LV λp q r:Nat->dP=>C f 0=[p 0,p 1,p 2]/\C f 1=[q 0,q 1,q 2]/\C f 2=[r 0,r 1,r 2]/\LP.plain p q r=(b f,D f)
 d:∀f,f<2->oT (D f)
 z:∀f,f<2->(rb (D f)).size<300
structure YS(w:World)(F:aj)(k:KI)(z:XI)(y:YI)(cs:lU)(b:Nat->Bool)(D:Nat->Rows):Prop where
 mg:F y.mg=some (cb 1259 y.dx)
 dx:F y.dx=some (tF w.params k.j.so y.ci y.k1 y.k2 y.k3)
 q:F y.q.tb=some (cb 884 y.q.td)
 cf:F y.cf=some (aw y.cv y.cn)
 cv:ay y.cv.toList (MT.names (b 0) (b 1))
 e0:vE F cs ⟨y.a0,y.p0,y.v0,y.u0⟩ (rb (D 0))
 e1:vE F cs ⟨y.a1,y.p1,y.v1,y.u1⟩ (rb (D 1))
 ci:MT.pF w F z.x1 z.x2 z.x3 z.y1 z.y2 z.y3 (b 0) (b 1) y.CI
theorem pF.le{w:World}{F F':aj}(l:F.le F'){b0 o0 t0 b1 o1 t1:MT.EI}{c0 c1:Bool}{ci:Obj}(h:MT.pF w F b0 o0 t0 b1 o1 t1 c0 c1 ci):MT.pF w F' b0 o0 t0 b1 o1 t1 c0 c1 ci:=by obtain⟨i0,i1,tc,ec,e,g0,g1⟩:=h;exact⟨i0,i1,tc,ec,e,λh=>(g0 h).le l,λh=>(g1 h).le l⟩
theorem YS.le{w:World}{F F':aj}(l:F.le F'){k:KI}{z:XI}{y:YI}{cs:lU}{b:Nat->Bool}{D:Nat->Rows}(h:YS w F k z y cs b D):YS w F' k z y cs b D:=
 ⟨l _ _ h.mg,l _ _ h.dx,l _ _ h.q,l _ _ h.cf,h.cv,⟨l _ _ h.e0.1,h.e0.2⟩,⟨l _ _ h.e1.1,h.e1.2⟩,pF.le l h.ci⟩
section
variable{w:World}{R:aA}{F:aj}{k:KI}{z:XI}{cs:lU}{C:Nat->Nat->Rows}{b:Nat->Bool}{D:Nat->Rows}{M tk:Nat}{T:nN}{x5 x6 x7 x8 x9:Value}{fo wo att:Option Value}
abbrev TM(F:aj)(C:Nat->Nat->Rows)(w:World)(k:KI)(b:Nat->Bool)(D:Nat->Rows)(x5 x6 x7 x8 x9:Value)(fo wo att:Option Value):Flow->aj->aZ->Prop:=λfl F' ah=>fl= .next/\F.le F'/\Uh λz' y T' dQ=>XS F' z' dQ C/\dk w.params dQ z'.D/\fU w F' dQ z'.D2/\dQ.length<=8/\YS w F' k z' y dQ b D/\ah.L=lP w.params k z' y 13 T' (vP k.j x5 x6 x7 x8 x9 y .none .none) fo wo att none none
theorem D9(eZ:rB w F k)(hx:XS F z cs C)(hk:dk w.params cs z.D)(hd:fU w F cs z.D2)(h7:cs.length<7)(hm:Ak C b D):
  ab w R F ⟨lM w.params k z.ms 10 T (vB k.j x5 x6 x7 x8 x9) fo wo att none none,[],M,tk⟩ 40 (PySem.execs [aB (bd w.params) 12,aB (bd w.params) 13] (ev w.params k.j.i.N)) (TM F C w k b D x5 x6 x7 x8 x9 fo wo att):=by
 have so:F k.j.so=some (cb 1315 k.s.dx):=by rw [<-eZ.so];exact eZ.st.o
 refine ab.cj rfl (aq so (aq eZ.qo cB)) ?_;refine ab.eq (LP.aH _ _) (ab.rN (d:=40) (A4 w k z T x5 x6 x7 x8 x9 fo wo att cs (rb (D 0)) (rb (D 1)) (b 0) (b 1) M tk) ?_);refine⟨jx.ok,λmg l1 FT=> ?_⟩;have EB:=hx.le l1;refine⟨MM.BN.ok (i:=Le k z mg) (nd (by kernel_rfl)) rfl ⟨FT.1.2.1,FT.1.2.2.1,by rw [show(Le k z mg).s=sK k from rfl,xu eZ];exact eZ.st.le l1,l1 _ _ eZ.q1,l1 _ _ eZ.q2,l1 _ _ eZ.q3,eZ.z1,eZ.z2,eZ.z3,EB.x1.1,EB.y1.1,EB.x2.1,EB.y2.1,EB.x3.1,EB.y3.1,hk,hd.le l1,h7,hx.x1.2,hx.x2.2,hx.x3.2,hx.y1.2,hx.y2.2,hx.y3.2⟩ (hm.mo 0 (by decide)) (hm.mo 1 (by decide)),λa l2 ha=> ?_⟩;obtain⟨J,hr⟩:=ha;refine VC.SV (Y:=λst=>dz 0 (lM w.params k {z with D:=a.o 0,D2:=a.o 1}.ms 13 (dA st 0) (vP k.j x5 x6 x7 x8 x9 (yA mg a) .none .none) fo wo att none none)++[(22,(mg.k 2,a.o 2)),(24,((MM.kq a).td,er w.params (MM.kq a))),(25,((MM.kq a).te,bN w.params (MM.two (a.k 11) (a.k 15)) (λn=>a.k (n+20)) (a.k 19)))]) (X:=λJ=>[]) (λst=> ?_) λst F' le hn N' t'=> ?_
 ·exact nd (by kernel_rfl)
 ·have Ld:=l2.trans le;refine⟨rfl,l1.trans Ld,{z with D:=a.o 0,D2:=a.o 1},yA mg a,dA st 0,bT (bT cs (rb (D 0))) (rb (D 1)),((EB.up l2 (x:=rb (D 0))).up le).set _ _,hr.kn,hr.da.le le,?_,⟨Ld _ _ FT.1.2.1,Ld _ _ FT.1.2.2.1,le _ _ hr.hq,le _ _ hr.Df,hr.Dd,⟨le _ _ hr.e0,hr.i0⟩,⟨le _ _ hr.e1,hr.i1⟩,pF.le le hr.zu⟩,?_⟩
  ·exact Nat.le_trans ll (Nat.succ_le_succ (Nat.le_trans ll h7))
  ·show(dz 0 _++_).map (·.2)=_;rw [List.map_append,cw];rfl
abbrev TK(F:aj)(b:Nat->Bool)(D:Nat->Rows)(w:World)(k:KI)(z:XI)(y:YI)(V:Nat->Value)(fo wo att:Option Value):Flow->aj->aZ->Prop:=λfl F' ah=>fl= .next/\F.le F'/\Uh λdu t0 t1 T'=>F' du=some (aw #[.ref t0,.ref t1] 2)/\dZ F' t0 (b 0) (D 0)/\dZ F' t1 (b 1) (D 1)/\ah.L=lP w.params k z y 13 T' V fo wo att (some (.ref du)) none
theorem D8{y:YI}{V:Nat->Value}(eZ:rB w F k)(hx:XS F z cs C)(hm:Ak C b D):
  ab w R F ⟨lP w.params k z y 13 T V fo wo att none none,[],M,tk⟩ 40 (PySem.execs [aB (bd w.params) 14] (ev w.params k.j.i.N)) (TK F b D w k z y V fo wo att):=by
 refine ab.cj rfl (aq eZ.AY cB) ?_;refine ab.eq (LP.aH _ _) (ab.rN (d:=40) (A3 w k z y T V fo wo att (b 0) (b 1) (D 0) (D 1) M tk) ?_);have get:∀f,f<2->∀(F':aj) (r:nN),(∀i,i<3->bM F' (r i) (C f i))->(jw (r 0) (r 1) (r 2) (b f) (D f)).OK w R F':=λf hf F' r hr=>by obtain⟨p,q,u,e0,e1,e2,e3⟩:=hm.pl f hf;exact jw.ok (e0▸hr 0 (by decide)) (e1▸hr 1 (by decide)) (e2▸hr 2 (by decide)) e3
 refine⟨get 0 (by decide) F z.r0 hx.r0,λa l1 ha=>⟨get 1 (by decide) a.F z.r1 λi hi=>(hx.r1 i hi).le l1,λc l2 hc=> ?_⟩⟩;refine VC.SV (Y:=λst=>dz 0 (lP w.params k z y 13 (dA st 0) V fo wo att (some (.ref (M+2))) none)) (X:=λJ=>[(27,(M+2,aw #[.ref (a.k 0),.ref (c.k 0)] 2))]) (λst=> ?_) λst F' le hn N' t'=> ?_
 ·exact nd (by kernel_rfl)
 ·exact⟨rfl,l1.trans (l2.trans le),M+2,a.k 0,c.k 0,dA st 0,hn 0 rfl,ha.2.le (l2.trans le),hc.2.le le,cw _ 0⟩
end
noncomputable abbrev KQ(e:PySem.Expr):PySem.Expr:= .Compare (ki e) [.NotEq] [UA e] (zX e)
theorem DS:aB (bd P) 15= .If (.BoolOp .Or [KQ (lS (wN P) 0),lS (wN P) 1,KQ (lS (wN P) 2)] (NB (wN P))) (cY (aB (bd P) 15)) [] (BF (aB (bd P) 15)):=by kernel_rfl
theorem K1:behindInMarks .NotEq (UA (lS (wN P) 0))=false:=by kernel_rfl
theorem K0:behindInMarks .NotEq (UA (lS (wN P) 2))=false:=by kernel_rfl
section
variable{w:World}{R:aA}{F:aj}{k:KI}{z:XI}{y:YI}{cs:lU}{b:Nat->Bool}{D:Nat->Rows}{M tk du t0 t1:Nat}{T:nN}{x5 x6 x7 x8 x9:Value}{fo wo att:Option Value}
theorem pJ(c0 c1:Bool)(i0 i1:Nat):(if c0=true then [(nA,Value.ref i0)]else [])++(if c1=true then [(nB,Value.ref i1)]else [])=lD c0 c1 i0 i1:=by cases c0<;>cases c1<;>rfl
abbrev TJ(F:aj)(w:World)(k:KI)(z:XI)(y:YI)(T:nN)(x5 x6 x7 x8 x9:Value)(fo wo att:Option Value)(du:Nat):Flow->aj->aZ->Prop:=λfl F' ah=>fl= .next/\F.le F'/\ah.L=lP w.params k z y 13 T (vP k.j x5 x6 x7 x8 x9 y .none .none) fo wo att (some (.ref du)) none
theorem D7(hy:YS w F k z y cs b D)(AD:F du=some (aw #[.ref t0,.ref t1] 2))(EE:dZ F t0 (b 0) (D 0))(BH:dZ F t1 (b 1) (D 1)):
  ab w R F ⟨lP w.params k z y 13 T (vP k.j x5 x6 x7 x8 x9 y .none .none) fo wo att (some (.ref du)) none,[],M,tk⟩ 40 (PySem.execs [aB (bd w.params) 15] (ev w.params k.j.i.N)) (TJ F w k z y T x5 x6 x7 x8 x9 fo wo att du):=by
 obtain⟨j0,j1,tc,ec,zu,J,J⟩:=id hy.ci;rw [pJ]at zu;obtain⟨r0,g0,J⟩:=EE;obtain⟨r1,g1,J⟩:=BH
 let Lx:aA:=lP w.params k z y 13 T (vP k.j x5 x6 x7 x8 x9 y .none .none) fo wo att (some (.ref du)) none
 let Q:Bool->aj->aZ->Prop:=λc F' ah=>c=false/\F.le F'/\ah.L=Lx
 rw [DS];refine ab.ia ((ab.Bo (P:=Q) ?_).aT λc F' ah J hh=> ?_)
 ·
  refine(ab.oI (P:=Q) (P1:=λv F' ah=>v= .ref y.cf/\F'=F/\ah=⟨Lx,[],M,tk⟩) (K1 w.params) (λJ J=>rfl) (ab.eq (LP.cQ _ _) ((ab.exact (d:=40) nr (AN w k z y T x5 x6 x7 x8 x9 fo wo att du M tk)).aT λv F' ah J hh=>by obtain⟨a,b,c⟩:=hh;exact⟨Flow.ret.inj a,b,c⟩)) ?_).aT ?_
  ·rintro _ F1 _ _ ⟨rfl,e2,rfl⟩;obtain rfl:=e2.symm;refine ab.cj rfl (aq AD (aq g0 (aq g1 cB))) ?_;refine ab.eq (LP.cQ _ _) (ab.run (enc:= .ret) (d:=40) (ai:=λrr F' ah=>rr= .ok (.ret (.ref (M+2)))/\F.le F'/\F' (M+2)=some (aw (i4 (b 0) (b 1) 2179 2180) (Jz (b 0) (b 1)))/\ah.L=Lx) nr (λaa=>E' w k z y T x5 x6 x7 x8 x9 fo wo att du M tk aa t0 t1 r0 r1 (b 0) (b 1)) ?_ (λv F' ah h=> ?_) λJ J J h=>by cases h.1)
   ·refine VC.gq (Y:=dz 0 Lx) (X:=[(27,(M+2,aw (i4 (b 0) (b 1) 2179 2180) (Jz (b 0) (b 1))))]) (nd (by kernel_rfl)) λF' le hn N' t'=> ?_;exact⟨rfl,le,hn 0 rfl,cw _ 0⟩
   ·obtain⟨h1,h2,h3,h4⟩:=h;obtain rfl:v= .ref (M+2):=Flow.ret.inj (Except.ok.inj h1);refine(vC (aX:=39) (λhh Rl=>Rl.fix _ _ (h2 _ _ hy.cf)) (λhh Rl=>Rl.fix _ _ h3) hy.cv (sq _ _ _ _)).aT ?_;rintro _ _ _ _ ⟨c,rfl,rfl,rfl,rfl⟩;exact⟨_,rfl,rfl,h2,h4⟩
  ·rintro c F1 bU _ ⟨e1,l1,e3⟩;refine⟨e1,?_⟩;refine ab.cj e3 (aq (l1 _ _ hy.q) cB) ?_;refine ab.eq (rF _ _) (ab.run (enc:=λb=> .ret (.bool b)) (d:=40) (ai:=λrr F' ah=>rr= .ok (.ret (.bool false))/\F1.le F'/\ah.L=Lx) nr (uj w k z y T x5 x6 x7 x8 x9 fo wo att du bU.N bU.t) ⟨jt.ok (by decide) (l1 _ _ hy.q) (by show [nA,nB].Nodup;decide) rfl,λa J hf=> ?_⟩ (λv F' ah h=> ?_) λJ J J h=>by cases h.1)
   ·rw [show a.F=F1 from hf];refine VC.gq (Y:=dz 0 Lx) (X:=[]) (nd (by kernel_rfl)) λF' le hn N' t'=> ?_;exact⟨rfl,le,cw _ 0⟩
   ·obtain⟨h1,l2,h3⟩:=h;refine⟨Value.bool.inj (Flow.ret.inj (Except.ok.inj h1)),?_⟩;have og:=l1.trans l2;refine ab.oI (P:=Q) (P1:=λv F3 fB=>LV λl t0 t1=>v= .ref l/\F'.le F3/\F3 l=some (aw (i4 (b 0) (b 1) t0 t1) (SK.nE (b 0) (b 1)))/\fB.L=Lx) (K0 w.params) (λJ J=>rfl) ?_ ?_
    ·refine ab.cj rfl (aq (og _ _ hy.mg) (aq (og _ _ hy.dx) cB)) ?_;have ey:Lx=lP w.params k z {y with CI:=bN w.params (lD (b 0) (b 1) j0 j1) tc ec} 13 T (vP k.j x5 x6 x7 x8 x9 y .none .none) fo wo att (some (.ref du)) none:=by show lP w.params k z y 13 T (vP k.j x5 x6 x7 x8 x9 y .none .none) fo wo att (some (.ref du)) none=_;unfold lP Gs;rw [zu]
     rw [h3,ey];refine ab.eq (LP.cQ _ _) (ab.run (enc:= .ret) (d:=40) (ai:=λrr F3 fB=>LV λl t0 t1=>rr= .ok (.ret (.ref l))/\F'.le F3/\F3 l=some (aw (i4 (b 0) (b 1) t0 t1) (SK.nE (b 0) (b 1)))/\fB.L=lP w.params k z {y with CI:=bN w.params (lD (b 0) (b 1) j0 j1) tc ec} 13 T (vP k.j x5 x6 x7 x8 x9 y .none .none) fo wo att (some (.ref du)) none) nr (λaa=>DK w k z y T x5 x6 x7 x8 x9 fo wo att du ah.N ah.t aa (b 0) (b 1) j0 j1 tc ec) ⟨qQ.ok (fe _ _ _ _),λa J hf=> ?_⟩ (λv F3 fB h=> ?_) λJ J J h=>by obtain⟨J,J,J,h,J⟩:=h;cases h)
     ·rw [show a.F=F' from hf];refine⟨kO.ok (by decide),λc l3 hc=> ?_⟩;refine VC.gq (Y:=dz 0 (lP w.params k z {y with CI:=bN w.params (lD (b 0) (b 1) j0 j1) tc ec} 13 T (vP k.j x5 x6 x7 x8 x9 y .none .none) fo wo att (some (.ref du)) none)) (X:=[]) (nd (by kernel_rfl)) λF' le hn N' t'=> ?_;exact⟨c.k 0,c.k 1,c.k 2,rfl,l3.trans le,le _ _ hc.2,cw _ 0⟩
     ·obtain⟨l,u0,u1,q1,q2,q3,q4⟩:=h;exact⟨l,u0,u1,Flow.ret.inj (Except.ok.inj q1),q2,q3,q4⟩
    ·rintro _ F3 fB _ ⟨l,u0,u1,rfl,l3,q3,q4⟩;have CW:=og.trans l3;have:=ab.exact (w:=w) (R:=R) (F:=F3) (aX:=40) (st:=⟨Lx,[],fB.N,fB.t⟩) (d:=40) nr (AM w k z y T x5 x6 x7 x8 x9 fo wo att du fB.N fB.t);refine ab.cj q4 cB ?_;refine ab.eq (LP.cQ _ _) (this.aT ?_);rintro v F4 xj _ ⟨e1,rfl,e3⟩;obtain rfl:v= .ref y.cf:=Flow.ret.inj e1;subst e3;refine(vC (aX:=39) (λhh Rl=>Rl.fix _ _ q3) (λhh Rl=>Rl.fix _ _ (CW _ _ hy.cf)) (sq _ _ _ _) hy.cv).aT ?_;rintro _ _ _ _ ⟨c,rfl,rfl,rfl,rfl⟩;exact⟨_,rfl,rfl,CW,rfl⟩
 ·obtain⟨e1,e2,e3⟩:=hh;subst e1;exact ab.pure ⟨rfl,e2,e3⟩
abbrev TH(F:aj)(w:World)(k:KI)(z:XI)(y:YI)(T:nN)(x5 x6 x7 x8 x9:Value)(fo:Option Value)(m:Nat->Int)(att:Option Value)(du:Nat):Flow->aj->aZ->Prop:=λfl F' ah=>fl= .next/\F'=F/\∃wt:Nat,ah.L=lP w.params k z y 13 T (vP k.j x5 x6 x7 x8 x9 y .none .none) fo (some (.int ((m 11).fmod 3) wt)) att (some (.ref du)) none
theorem D6{m:Nat->Int}{tt:nN}(hl:F k.j.i.nl=some (aw (mF m tt) 0)):
  ab w R F ⟨lP w.params k z y 13 T (vP k.j x5 x6 x7 x8 x9 y .none .none) fo wo att (some (.ref du)) none,[],M,tk⟩ 40 (PySem.execs [aB (bd w.params) 16] (ev w.params k.j.i.N)) (TH F w k z y T x5 x6 x7 x8 x9 fo m att du):=by
 refine ab.cj rfl (aq hl cB) ?_;refine ab.eq (LP.aH _ _) ((ab.exact (d:=40) nr (λaa=>rD w k z y T x5 x6 x7 x8 x9 fo wo att du M tk aa m tt)).aT λfl F' ah J hh=>by obtain⟨e1,e2,e3⟩:=hh;exact⟨e1,e2,tk+2,by rw [e3]⟩)
end
structure RF(w:World)(F:aj)(k:KI)(v:WI)(u:RD)(cv:Bool)(x:Value):Prop where
 f0:0<=v.f
 f1:v.f<1000
 w0:0<=v.w
 w1:v.w<1000
 ru:F k.j.i.ru=some (aw u.As u.CJ)
 Ju:u.As[v.f.toNat]? =some (.ref u.rf)
 rf:F u.rf=some (aw u.Au 3)
 Jw:u.Au[v.w.toNat]? =some (.ref u.r)
 hr:F u.r=some (gP cv u.ak u.aN)
 fi:F k.j.i.fi=some (aw u.AG u.Dk)
 JZ:u.AG[v.f.toNat]? =some (.ref u.pf)
 pf:F u.pf=some (aw u.Av 3)
 Jy:u.Av[v.w.toNat]? =some x
theorem KW{w:World}{F:aj}{k:KI}{q:CA}{m:Nat->Int}{tt:nN}{r0 r1 p0 p1 f g:Nat}{v:WI}(h7:P7 w F k.j.i q m tt r0 r1 p0 p1)(hf:f<2)(hg:g<3)(ED:v.f=f)(EC:v.w=g):
  LV λu cv xv=>RF w F k v u cv xv/\cv=conv (tI m f) (eI m f) (aG q g) (cG q g)/\u.ak=bq (tI m f) (eI m f) (aG q g) (cG q g)/\u.aN=Oq (tI m f) (eI m f) (aG q g) (cG q g)/\
   ((cv=false/\xv= .none)\/(cv=true/\∃f9,xv= .ref f9/\bW w F f9 u.ak u.aN)):=by
 obtain⟨KN,BJ⟩:=h7.ru;obtain⟨KO,BS⟩:=h7.fi;have IC:=h7.hq.ag g;have hR:∃rf,(#[Value.ref r0,.ref r1]:aV)[f]? =some (.ref rf)/\iJ F (tI m f) (eI m f) q rf:=by exact To f hf ⟨r0,rfl,h7.EJ⟩ ⟨r1,rfl,h7.EH⟩
 have hP:∃pf,(#[Value.ref p0,.ref p1]:aV)[f]? =some (.ref pf)/\hK w F (tI m f) (eI m f) q pf:=by exact To f hf ⟨p0,rfl,h7.Az⟩ ⟨p1,rfl,h7.pQ⟩
 obtain⟨rf,e1,g1⟩:=hR;obtain⟨pf,e2,g2⟩:=hP;obtain⟨rv,e3,g3⟩:=g1.get;obtain⟨r,e4,g4⟩:=g3 g hg;obtain⟨pv,e5,g5⟩:=g2.get;obtain⟨xv,e6,g6⟩:=g5 g hg;have EG:=SS (tI m f) (eI m f) (aG q g) (cG q g) (CE m f) (Dp m f) IC.1 IC.2;have tf:v.f.toNat=f:=by rw [ED];exact Int.toNat_natCast f
 have tw:v.w.toNat=g:=by rw [EC];exact Int.toNat_natCast g
 refine⟨⟨pf,rf,r,#[],0,#[.ref r0,.ref r1],KN,#[.ref p0,.ref p1],KO,rv,pv,#[],#[],bq (tI m f) (eI m f) (aG q g) (cG q g),Oq (tI m f) (eI m f) (aG q g) (cG q g)⟩,conv (tI m f) (eI m f) (aG q g) (cG q g),xv,⟨by rw [ED];lia,by rw [ED];lia,by rw [EC];lia,by rw [EC];lia,BJ,by rw [tf];exact e1,e3,by rw [tw];exact e4,g4,BS,by rw [tf];exact e2,e5,by rw [tw];exact e6⟩,rfl,rfl,rfl,?_⟩;rcases g6 with⟨h0,rfl⟩|⟨h0,f9,rfl,oq⟩
 ·refine .inl ⟨?_,rfl⟩;rw [EG.2.1,h0];rfl
 ·have hc:conv (tI m f) (eI m f) (aG q g) (cG q g)=true:=by rw [EG.2.1];exact bne_iff_ne.mpr h0
  have:=EG.2.2 hc;refine .inr ⟨hc,f9,rfl,?_⟩;show bW w F f9 (bq (tI m f) (eI m f) (aG q g) (cG q g)) (Oq (tI m f) (eI m f) (aG q g) (cG q g));rw [<-this.1,<-this.2];exact oq
structure TS(w:World)(F:aj)(k:KI)(z:XI)(y:YI)(du:Nat)(b:Nat->Bool)(D:Nat->Rows):Prop where
 eZ:rB w F k
 nm:ly F
 da:∃cs C,fU w F cs z.D2/\cs.length<=8/\XS F z cs C/\YS w F k z y cs b D
 du:∃t0 t1,F du=some (aw #[.ref t0,.ref t1] 2)/\dZ F t0 (b 0) (D 0)/\dZ F t1 (b 1) (D 1)
 d:∀f,f<2->oT (D f)
 z:∀f,f<2->(rb (D f)).size<300
theorem TS.le{w:World}{F F':aj}(l:F.le F'){k:KI}{z:XI}{y:YI}{du:Nat}{b:Nat->Bool}{D:Nat->Rows}(h:TS w F k z y du b D):TS w F' k z y du b D:=
 ⟨h.eZ.le l,h.nm.le l,(by obtain⟨cs,C,a,c,d,e⟩:=h.da;exact⟨cs,C,a.le l,c,d.le l,e.le l⟩),(by obtain⟨t0,t1,a,c,d⟩:=h.du;exact⟨t0,t1,l _ _ a,c.le l,d.le l⟩),h.d,h.z⟩
noncomputable def eY(y:YI)(f:Nat):MT.EI:=match f with
 |0=>⟨y.a0,y.p0,y.v0,y.u0⟩
 |_=>⟨y.a1,y.p1,y.v1,y.u1⟩
theorem two_nodup(x y:Nat):((MM.two x y).map (·.1)).Nodup:=by show [nA,nB].Nodup;decide
theorem two_at(x y:Nat):SO (MM.two x y) nA=some (.ref x)/\SO (MM.two x y) nB=some (.ref y):=⟨gM (two_nodup x y) (i:=0) rfl,gM (two_nodup x y) (i:=1) rfl⟩
section
variable{w:World}{R:aA}{F:aj}{k:KI}{z:XI}{y:YI}{b:Nat->Bool}{D:Nat->Rows}{n M tk du f ft:Nat}{T:nN}{x5 x6 x7 x8 x9 cZ dy:Value}{wo att na:Option Value}
abbrev TZ(F:aj)(D:Nat->Rows)(f:Nat)(w:World)(k:KI)(z:XI)(y:YI)(x7 x8 x9 dy:Value)(ft:Nat)(wo att:Option Value)(du:Nat):Flow->aj->aZ->Prop:=λfl F' ah=>fl= .next/\F.le F'/\TQ λn' T' x5 dG cZ nt=>(n'=14\/n'=15)/\bM F' dG (D f)/\ah.L=lP w.params k z y n' T' (vP k.j x5 (.ref dG) x7 x8 x9 y cZ dy) (some (.int f ft)) wo att (some (.ref du)) (some (.bytes (cq f) nt))
theorem I7(hn:n=13\/n=14\/n=15)(h:TS w F k z y du b D)(hf:f<2):
  ab w R F ⟨lP w.params k z y n T (vP k.j x5 x6 x7 x8 x9 y cZ dy) (some (.int f ft)) wo att (some (.ref du)) na,[],M,tk⟩ 38 (PySem.execs [gh w.params 0,gh w.params 1,gh w.params 2,gh w.params 3] (ev w.params k.j.i.N)) (TZ F D f w k z y x7 x8 x9 dy ft wo att du):=by
 obtain⟨cs,C,hd,h8,hx,hy⟩:=h.da;obtain⟨t0,t1,AD,g0,g1⟩:=h.du;obtain⟨FH,ND,ne,Ig⟩:=h.nm;have so:F k.j.so=some (cb 1315 k.s.dx):=by rw [<-h.eZ.so];exact h.eZ.st.o
 have hT:∃t,(#[Value.ref t0,.ref t1]:aV)[f]? =some (.ref t)/\dZ F t (b f) (D f):=by exact To f hf ⟨t0,rfl,g0⟩ ⟨t1,rfl,g1⟩
 obtain⟨t,e1,Gg,Ll,Lm⟩:=hT;have hN:∃nt,(#[Value.bytes nA FH,.bytes nB ND]:aV)[f]? =some (.bytes (cq f) nt):=by exact To f hf ⟨FH,rfl⟩ ⟨ND,rfl⟩
 obtain⟨nt,eN⟩:=hN;have hE:vE F cs (eY y f) (rb (D f)):=by exact To f hf hy.e0 hy.e1
 have uw:SO (MM.two y.a0 y.a1) (cq f)=some (.ref (eY y f).a):=by exact To f hf ((two_at _ _).1) ((two_at _ _).2)
 let q:QI:=⟨f,ft,t,#[.ref t0,.ref t1],Gg,b f,cq f,nt,eY y f,D f⟩
 have tf:(f:Int).toNat=f:=Int.toNat_natCast f;refine ab.cj rfl (aq AD (aq Ll (aq hy.q (aq hE.1 (aq so cB))))) ?_;have key:∀n',(n'=14\/n'=15)->(∀aa,aE (A7 w k z y n T x5 x6 x7 x8 x9 cZ dy wo att du na q M tk aa n'))->ab w R F ⟨lP w.params k z y n T (vP k.j x5 x6 x7 x8 x9 y cZ dy) (some (.int f ft)) wo att (some (.ref du)) na,[(du,aw q.dv 2),(q.t,dU (.ref q.dG) (.bool q.b)),(y.q.tb,cb 884 y.q.td),(q.e.a,MT.p6 q.e),(k.j.so,cb 1315 k.s.dx)],M,tk⟩ 38 (PySem.execs [gh w.params 0,gh w.params 1,gh w.params 2,gh w.params 3] (ev w.params k.j.i.N)) λfl F' ah=>fl= .next/\F.le F'/\
   TQ λn' T' x5 dG cZ nt=>(n'=14\/n'=15)/\bM F' dG (D f)/\ah.L=lP w.params k z y n' T' (vP k.j x5 (.ref dG) x7 x8 x9 y cZ dy) (some (.int f ft)) wo att (some (.ref du)) (some (.bytes (cq f) nt)):=λn' kL e=>by
  refine ab.eq (LP.aH _ _) (ab.rN (d:=38) e ?_);refine VC.sm (aP.ok AD (by show(0:Int)<=f;lia) (by show(f:Int)<1000;lia) (by rw [tf];exact e1)) λa=> ?_;refine VC.sm (aP.ok Ig (by show(0:Int)<=f;lia) (by show(f:Int)<1000;lia) (by rw [tf];exact eN)) λa=> ?_;refine VC.sm (dD.ok (by decide) hy.q (two_nodup _ _) uw) λa=> ?_;refine⟨fj.ok (cs:=cs) (by rw [xu h.eZ];exact h.eZ.st) hd h8 hE.2 (h.z f hf),λa l1 ha=> ?_⟩;refine⟨BL.gH.ok ha.1.2 (by have:=h.z f hf;rw [sizeLine_eq];show(rb (D f)).size<=_;lia),λc J BV=> ?_⟩;rw [show c.F=a.F from BV];refine⟨bu.wk (Lm.le l1) (h.d f hf),λc J BV=> ?_⟩;rw [show c.F=a.F from BV];refine⟨mK.ok rfl,λc J BV=> ?_⟩;rw [show c.F=a.F from BV];refine VC.SV (Y:=λst=>dz 0 (lP w.params k z y n' (dA st 0) (vP k.j (.bytes (Ot q.e.i) q.e.v) (.ref q.dG) x7 x8 x9 y (.int 33188 q.e.u) dy) (some (.int q.f q.ft)) wo att (some (.ref du)) (some (.bytes q.nm q.nt)))) (X:=λJ=>[]) (λst=> ?_) λst F' le pR N' t'=> ?_
  ·exact nd (by kernel_rfl)
  ·exact⟨rfl,l1.trans le,n',dA st 0,_,Gg,_,nt,kL,Lm.le (l1.trans le),cw _ 0⟩
 rcases hn with rfl|rfl|rfl
 ·exact key 14 (.inl rfl) λaa=>Jq w k z y T x5 x6 x7 x8 x9 cZ dy wo att du na q M tk aa
 ·exact key 14 (.inl rfl) λaa=>Jp w k z y T x5 x6 x7 x8 x9 cZ dy wo att du na q M tk aa
 ·exact key 15 (.inr rfl) λaa=>Jo w k z y T x5 x6 x7 x8 x9 cZ dy wo att du na q M tk aa
end
end LW
end H
theorem tl(F:aj):cX F []=F:=rfl
namespace H
namespace LW
theorem EA:gh P 4= .If (cC (gh P 4)) ([aB (cY (gh P 4)) 0]++[.If (KQ (te7 P)) (cY (aB (cY (gh P 4)) 1)) [] (BF (aB (cY (gh P 4)) 1))]) [] (BF (gh P 4)):=by kernel_rfl
theorem m7:behindInMarks .NotEq (UA (te7 P))=false:=by kernel_rfl
section
variable{w:World}{R:aA}{F:aj}{k:KI}{z:XI}{y:YI}{b:Nat->Bool}{D:Nat->Rows}{n M tk du f ft:Nat}{T:nN}{x5 x6 x7 x8 x9 cZ dy:Value}{wo att na:Option Value}
def tB(w:World)(F:aj)(k:KI)(z:XI)(y:YI)(f ft:Nat)(x5 x6 x7 x8 x9 cZ:Value)(wo att:Option Value)(du nt:Nat)(fl:Flow)(F':aj)(ah:aZ):Prop:=fl= .next/\F.le F'/\
 LV λn' T' dy=>(n'=14\/n'=15)/\ah.L=lP w.params k z y n' T' (vP k.j x5 x6 x7 x8 x9 y cZ dy) (some (.int f ft)) wo att (some (.ref du)) (some (.bytes (cq f) nt))
theorem Fe{nt:Nat}(hn:n=14\/n=15)(h:TS w F k z y du b D)(hf:f<2):
  ab w R F ⟨lP w.params k z y n T (vP k.j x5 x6 x7 x8 x9 y cZ dy) (some (.int f ft)) wo att (some (.ref du)) (some (.bytes (cq f) nt)),[],M,tk⟩ 38 (PySem.execs [gh w.params 4] (ev w.params k.j.i.N)) (tB w F k z y f ft x5 x6 x7 x8 x9 cZ wo att du nt):=by
 obtain⟨cs,C,hd,h8,hx,hy⟩:=h.da;obtain⟨t0,t1,AD,g0,g1⟩:=h.du;have hT:∃t,(#[Value.ref t0,.ref t1]:aV)[f]? =some (.ref t)/\dZ F t (b f) (D f):=by exact To f hf ⟨t0,rfl,g0⟩ ⟨t1,rfl,g1⟩
 obtain⟨t,e1,Gg,Ll,Lm⟩:=hT;have tf:(f:Int).toNat=f:=Int.toNat_natCast f
 let e0:MT.EI:=⟨0,0,0,0⟩
 let q:QI:=⟨f,ft,t,#[.ref t0,.ref t1],Gg,b f,cq f,nt,e0,D f⟩
 rw [EA];refine ab.ia ((?_:ab w R F _ 38 _ λc F' ah=>c=b f/\F'=F/\∃T',ah.L=lP w.params k z y n T' (vP k.j x5 x6 x7 x8 x9 y cZ dy) (some (.int f ft)) wo att (some (.ref du)) (some (.bytes (cq f) nt))).aT λc F1 bU J hh=> ?_)
 ·refine ab.cj rfl (aq AD (aq Ll cB)) ?_;have key:(∀aa,aE (M0 w k z y n T x5 x6 x7 x8 x9 cZ dy wo att du (some (.bytes (cq f) nt)) q M tk aa (b f)))->ab w R F ⟨lP w.params k z y n T (vP k.j x5 x6 x7 x8 x9 y cZ dy) (some (.int f ft)) wo att (some (.ref du)) (some (.bytes (cq f) nt)),[(du,aw q.dv 2),(q.t,dU (.ref q.dG) (.bool (b f)))],M,tk⟩ 38 (isTrue (cC (gh w.params 4)) (ev w.params k.j.i.N) (PySem.eval (cC (gh w.params 4)) (ev w.params k.j.i.N))) λc F' ah=>c=b f/\F'=F/\∃T',ah.L=lP w.params k z y n T' (vP k.j x5 x6 x7 x8 x9 y cZ dy) (some (.int f ft)) wo att (some (.ref du)) (some (.bytes (cq f) nt)):=λe=>by
   refine ab.eq (rF _ _) (ab.run (enc:=λb=> .ret (.bool b)) (d:=38) (ai:=λrr F' ah=>rr= .ok (.ret (.bool (b f)))/\F'=F/\∃T',ah.L=lP w.params k z y n T' (vP k.j x5 x6 x7 x8 x9 y cZ dy) (some (.int f ft)) wo att (some (.ref du)) (some (.bytes (cq f) nt))) nr e ?_ (λv F' ah h=>⟨Value.bool.inj (Flow.ret.inj (Except.ok.inj h.1)),h.2⟩) λJ J J h=>by cases h.1);refine VC.sm (aP.ok AD (by show(0:Int)<=f;lia) (by show(f:Int)<1000;lia) (by rw [tf];exact e1)) λa=> ?_;refine VC.kC (Y:=λst=>dz 0 (lP w.params k z y n T (vP k.j x5 x6 x7 x8 x9 y cZ dy) (some (.int q.f q.ft)) wo att (some (.ref du)) (some (.bytes (cq f) nt)))) (X:=λJ=>[]) (λst=> ?_) λst pR le N' t'=> ?_
   ·exact nd (by kernel_rfl)
   ·exact⟨rfl,tl _,T,cw _ 0⟩
  rcases hn with rfl|rfl
  ·exact key λaa=>Fx w k z y T x5 x6 x7 x8 x9 cZ dy wo att du _ q M tk aa (b f)
  ·exact key λaa=>Fw w k z y T x5 x6 x7 x8 x9 cZ dy wo att du _ q M tk aa (b f)
 obtain⟨ec,eF,T1,e3⟩:=hh;subst ec;obtain rfl:=eF.symm;cases hb:b f with
 |false=>exact ab.pure ⟨rfl,aj.le.refl _,n,T1,dy,hn,e3⟩
 |true=>
  obtain⟨j0,j1,tc,ec,zu,i0,i1⟩:=hy.ci;rw [pJ]at zu;have hI:Uh λad ob oo ot=>SO (lD (b 0) (b 1) j0 j1) (cq f)=some (.ref ad)/\MT.jh w F ad (cq f) ob oo ot/\F ob.a=some (MT.p6 ob)/\F oo.a=some (MT.p6 oo)/\F ot.a=some (MT.p6 ot)/\SO (MM.two z.x1.a z.y1.a) (cq f)=some (.ref ob.a)/\SO (MM.two z.x2.a z.y2.a) (cq f)=some (.ref oo.a)/\SO (MM.two z.x3.a z.y3.a) (cq f)=some (.ref ot.a):=by
   revert hb;refine To f hf ?_ ?_<;>intro hb
   ·refine⟨j0,z.x1,z.x2,z.x3,?_,i0 hb,hx.x1.1,hx.x2.1,hx.x3.1,(two_at _ _).1,(two_at _ _).1,(two_at _ _).1⟩;rw [hb];cases b 1 with
    |true=>exact gM (fe true true j0 j1) (i:=0) rfl
    |false=>exact gM (fe true false j0 j1) (i:=0) rfl
   ·refine⟨j1,z.y1,z.y2,z.y3,?_,i1 hb,hx.y1.1,hx.y2.1,hx.y3.1,(two_at _ _).2,(two_at _ _).2,(two_at _ _).2⟩;rw [hb];cases b 0 with
    |true=>exact gM (fe true true j0 j1) (i:=1) rfl
    |false=>exact gM (fe false true j0 j1) (i:=0) rfl
  obtain⟨ad,ob,oo,ot,uw,⟨dx,kk,pt,a,c,d,k1,k2,k3,k4,k5⟩,g2,g3,g4,a1,a2,a3⟩:=hI;show ab w R F bU 38 (PySem.execs ([aB (cY (gh w.params 4)) 0]++_) _) _;have ey:∀n T V,lP w.params k z y n T V (some (.int f ft)) wo att (some (.ref du)) (some (.bytes (cq f) nt))=lP w.params k z {y with CI:=bN w.params (lD (b 0) (b 1) j0 j1) tc ec} n T V (some (.int f ft)) wo att (some (.ref du)) (some (.bytes (cq f) nt)):=λn T V=>by unfold lP Gs;rw [zu]
  refine ab.seq ((?_:ab w R F bU 38 _ λfl F' ah=>fl= .next/\F'=F/\∃T',ah.L=lP w.params k z y 15 T' (vP k.j x5 x6 x7 x8 x9 y cZ (.ref ad)) (some (.int f ft)) wo att (some (.ref du)) (some (.bytes (cq f) nt))).aT λfl F2 fI J hh=> ?_)
  ·refine ab.cj rfl (aq hy.mg (aq hy.dx cB)) ?_;rw [e3,ey];have key:(∀aa,aE (M4 w k z y n T1 x5 x6 x7 x8 x9 cZ dy wo att du q bU.N bU.t aa (lD (b 0) (b 1) j0 j1) tc ec ad))->ab w R F ⟨lP w.params k z {y with CI:=bN w.params (lD (b 0) (b 1) j0 j1) tc ec} n T1 (vP k.j x5 x6 x7 x8 x9 y cZ dy) (some (.int f ft)) wo att (some (.ref du)) (some (.bytes (cq f) nt)),[(y.mg,cb 1259 y.dx),(y.dx,tF w.params k.j.so y.ci y.k1 y.k2 y.k3)],bU.N,bU.t⟩ 38 (PySem.execs [aB (cY (gh w.params 4)) 0] (ev w.params k.j.i.N)) λfl F' ah=>fl= .next/\F'=F/\∃T',ah.L=lP w.params k z y 15 T' (vP k.j x5 x6 x7 x8 x9 y cZ (.ref ad)) (some (.int f ft)) wo att (some (.ref du)) (some (.bytes (cq f) nt)):=λe=>by
    refine ab.eq (LP.aH _ _) (ab.rN (d:=38) e ?_);refine VC.sm (ck.ok (fe _ _ _ _) uw) λa=> ?_;refine VC.kC (Y:=λst=>dz 0 (lP w.params k z {y with CI:=bN w.params (lD (b 0) (b 1) j0 j1) tc ec} 15 (dA st 0) (vP k.j x5 x6 x7 x8 x9 y cZ (.ref ad)) (some (.int q.f q.ft)) wo att (some (.ref du)) (some (.bytes q.nm q.nt)))) (X:=λJ=>[]) (λst=> ?_) λst pR le N' t'=> ?_
    ·exact nd (by kernel_rfl)
    ·exact⟨rfl,tl _,dA st 0,by rw [ey];exact cw _ 0⟩
   rcases hn with rfl|rfl
   ·exact key λaa=>FC w k z y T1 x5 x6 x7 x8 x9 cZ dy wo att du q bU.N bU.t aa _ _ _ ad
   ·exact key λaa=>FA w k z y T1 x5 x6 x7 x8 x9 cZ dy wo att du q bU.N bU.t aa _ _ _ ad
  obtain⟨e4,eF,T2,e5⟩:=hh;refine⟨e4,?_⟩;obtain rfl:=eF.symm
  let Lx:aA:=lP w.params k z y 15 T2 (vP k.j x5 x6 x7 x8 x9 y cZ (.ref ad)) (some (.int f ft)) wo att (some (.ref du)) (some (.bytes (cq f) nt))
  refine ab.ia ((ab.oI (P:=λc F' ah=>c=false/\F.le F'/\ah.L=Lx) (P1:=λv F' ah=>∃l,v= .ref l/\F.le F'/\F' l=some (aw #[.bytes (cq f) pt,.ref a,.ref c,.ref d] 0)/\ah.L=Lx) (m7 w.params) (λJ J=>rfl) ?_ ?_).aT λc F' ah J hh=> ?_)
  ·refine ab.cj e5 (aq k1 (aq k2 cB)) ?_;refine ab.eq (LP.cQ _ _) (ab.run (enc:= .ret) (d:=38) (ai:=λrr F' ah=>∃l,rr= .ok (.ret (.ref l))/\F.le F'/\F' l=some (aw #[.bytes (cq f) pt,.ref a,.ref c,.ref d] 0)/\ah.L=Lx) nr (λaa=>Fz w k z y T2 x5 x6 x7 x8 x9 cZ wo att du (some (.bytes (cq f) nt)) q fI.N fI.t aa ad dx pt a c d kk) ?_ (λv F' ah h=> ?_) λJ J J h=>by obtain⟨J,h,J⟩:=h;cases h)
   ·refine VC.gq (Y:=dz 0 Lx) (X:=[(25,(fI.N,aw #[.bytes (cq f) pt,.ref a,.ref c,.ref d] 0))]) (nd (by kernel_rfl)) λF' le hn N' t'=> ?_;exact⟨fI.N,rfl,le,hn 0 rfl,cw _ 0⟩
   ·obtain⟨l,h1,h2⟩:=h;exact⟨l,Flow.ret.inj (Except.ok.inj h1),h2⟩
  ·rintro _ F3 fB _ ⟨l,rfl,l3,q3,q4⟩;refine ab.cj q4 (aq (l3 _ _ h.eZ.qo) (aq (l3 _ _ h.eZ.q1) (aq (l3 _ _ h.eZ.q2) (aq (l3 _ _ h.eZ.q3) cB)))) ?_;refine ab.eq (LP.cQ _ _) (ab.run (enc:= .ret) (d:=38) (ai:=λrr F' ah=>∃l,rr= .ok (.ret (.ref l))/\F3.le F'/\F' l=some (aw #[.bytes (cq f) nt,.ref ob.a,.ref oo.a,.ref ot.a] 0)/\ah.L=Lx) nr (λaa=>Fy w k z y T2 x5 x6 x7 x8 x9 cZ (.ref ad) wo att du q fB.N fB.t aa ob.a oo.a ot.a) ⟨dD.ok (by decide) (l3 _ _ h.eZ.q1) (two_nodup _ _) a1,λu J BV=> ?_⟩ (λv F' ah h=> ?_) λJ J J h=>by obtain⟨J,h,J⟩:=h;cases h)
   ·rw [show u.F=F3 from BV];refine VC.sm (dD.ok (by decide) (l3 _ _ h.eZ.q2) (two_nodup _ _) a2) λu=> ?_;refine VC.sm (dD.ok (by decide) (l3 _ _ h.eZ.q3) (two_nodup _ _) a3) λg=> ?_;refine VC.sm (i7.ok (by rw [sizeLine_eq];show 4<=_;decide)) λu=> ?_;refine VC.gq (Y:=dz 0 Lx) (X:=[(31,(g.N+2,aw (#[Value.bytes (cq f) nt]++ #[Value.ref ob.a,.ref oo.a,.ref ot.a]) 0))]) (nd (by kernel_rfl)) λF' le hn N' t'=> ?_;exact⟨g.N+2,rfl,le,hn 0 rfl,cw _ 0⟩
   ·obtain⟨l',h1,l4,h3,h4⟩:=h;obtain rfl:v= .ref l':=Flow.ret.inj (Except.ok.inj h1);have FK:=l3.trans l4;refine(vi (aX:=37) (λhh Rl=>Rl.fix _ _ (l4 _ _ q3)) (λhh Rl=>Rl.fix _ _ h3) rfl λhh g dr os Rl A hu j j1 j2=> ?_).aT ?_
    ·have tup:∀(e e':MT.EI) (p:Nat),F p=some (MT.p6 e)->F e.a=some (MT.p6 e)->SeqAt.EqAt A ⟨hh,g,dr,ah.t,os⟩ (.ref p) (.ref e.a) true:=λe e' p h1 h2=>sN (Rl.fix _ _ (FK _ _ h1)) (Rl.fix _ _ (FK _ _ h2)) hu
     match j,j1,j2 with
     |0,_,_=>have:=j' (cq f) (cq f) pt nt A ⟨hh,g,dr,ah.t,os⟩;rwa [show decide (cq f=cq f)=true by simp]at this
     |1,_,_=>exact tup ob ob a k3 g2
     |2,_,_=>exact tup oo oo c k4 g3
     |3,_,_=>exact tup ot ot d k5 g4
     |j+4,h1,_=>exact absurd h1 (by simp)
    ·rintro _ _ _ _ ⟨c',rfl,rfl,rfl,rfl⟩;exact⟨_,rfl,rfl,FK,h4⟩
  ·obtain⟨e1,e2,e3⟩:=hh;subst e1;exact ab.pure ⟨rfl,e2,15,T2,.ref ad,.inr rfl,e3⟩
theorem Fd{nt g wt:Nat}{q:CA}{m:Nat->Int}{tt:nN}{r0 r1 p0 p1 Gg:Nat}(hn:n=14\/n=15)(h7:P7 w F k.j.i q m tt r0 r1 p0 p1)(hf:f<2)(hg:g<3)(hr:bM F Gg (D f))(ht:conv (tI m f) (eI m f) (aG q g) (cG q g)=true->wH (bq (tI m f) (eI m f) (aG q g) (cG q g)) (Oq (tI m f) (eI m f) (aG q g) (cG q g)) (D f)):
  ab w R F ⟨lP w.params k z y n T (vP k.j x5 (.ref Gg) x7 x8 x9 y cZ dy) (some (.int f ft)) (some (.int g wt)) att (some (.ref du)) (some (.bytes (cq f) nt)),[],M,tk⟩ 38 (PySem.execs [gh w.params 5] (ev w.params k.j.i.N)) (tB w F k z y f ft x5 (.ref Gg) x7 x8 x9 cZ (some (.int g wt)) att du nt):=by
 let v:WI:=⟨f,ft,g,wt,0,.none⟩
 obtain⟨u,cv,xv,hu,e1,e2,e3,hx⟩:=KW (v:=v) h7 hf hg rfl rfl;rw [<-e1,<-e2,<-e3]at ht
 let qq:QI:=⟨f,ft,0,#[],Gg,false,cq f,nt,⟨0,0,0,0⟩,D f⟩
 refine ab.cj rfl (aq hu.ru (aq hu.rf (aq hu.hr (aq hu.fi (aq hu.pf cB))))) ?_
 let P:Result->aj->aZ->Prop:=λrr F' ah=>∃fl,rr= .ok fl/\tB w F k z y f ft x5 (.ref Gg) x7 x8 x9 cZ (some (.int g wt)) att du nt fl F' ah
 have fR:∀p:bE,VC w R P F p->VC w R P F (gR k v u p):=λp hp=>by refine VC.sm (aP.ok hu.ru hu.f0 hu.f1 hu.Ju) λa=> ?_;refine VC.sm (aP.ok hu.rf hu.w0 hu.w1 hu.Jw) λa=> ?_;exact hp
 have fF:∀p:bE,VC w R P F p->VC w R P F (gF k v u xv p):=λp hp=>by refine VC.sm (aP.ok hu.fi hu.f0 hu.f1 hu.JZ) λa=> ?_;refine VC.sm (aP.ok hu.pf hu.w0 hu.w1 hu.Jy) λa=> ?_;exact hp
 have fin:∀F1:aj,F.le F1->VC w R P F1 (.ret (.ok .next) λst=>bJ (dz 0 (lP w.params k z y n T (vP k.j x5 (.ref Gg) x7 x8 x9 y cZ dy) (some (.int v.f v.ft)) (some (.int v.w v.wt)) att (some (.ref du)) (some (.bytes (cq f) nt)))++[]) st):=λF1 l=>by
  refine VC.SV (Y:=λst=>dz 0 (lP w.params k z y n T (vP k.j x5 (.ref Gg) x7 x8 x9 y cZ dy) (some (.int v.f v.ft)) (some (.int v.w v.wt)) att (some (.ref du)) (some (.bytes (cq f) nt)))) (X:=λJ=>[]) (λst=> ?_) λst F' le pR N' t'=> ?_
  ·exact nd (by kernel_rfl)
  ·exact⟨.next,rfl,rfl,l.trans le,n,T,dy,hn,cw _ 0⟩
 rcases hx with⟨c1,c2⟩|⟨c1,f9,c2,oq⟩
 ·subst c1;have key:(∀aa,aE (MZ w k z y n T x5 x7 x8 x9 cZ dy att du (some (.bytes (cq f) nt)) qq M tk aa v u))->ab w R F ⟨lP w.params k z y n T (vP k.j x5 (.ref Gg) x7 x8 x9 y cZ dy) (some (.int f ft)) (some (.int g wt)) att (some (.ref du)) (some (.bytes (cq f) nt)),[(k.j.i.ru,aw u.As u.CJ),(u.rf,aw u.Au 3),(u.r,gP false u.ak u.aN),(k.j.i.fi,aw u.AG u.Dk),(u.pf,aw u.Av 3)],M,tk⟩ 38 (PySem.execs [gh w.params 5] (ev w.params k.j.i.N)) (tB w F k z y f ft x5 (.ref Gg) x7 x8 x9 cZ (some (.int g wt)) att du nt):=λe=>
   ab.eq (LP.aH _ _) (ab.run (enc:=id) (d:=38) (ai:=P) nr e (fR _ (fin F (aj.le.refl F))) (λf F' ah hh=>by obtain⟨fl,h1,h2⟩:=hh;obtain rfl:=Except.ok.inj h1;exact h2) λJ J J hh=>by obtain⟨J,h,J⟩:=hh;cases h)
  rcases hn with rfl|rfl
  ·exact key λaa=>Fv w k z y T x5 x7 x8 x9 cZ dy att du _ qq M tk aa v u
  ·exact key λaa=>Fu w k z y T x5 x7 x8 x9 cZ dy att du _ qq M tk aa v u
 ·subst c1 c2;have key:(∀aa,aE (MY w k z y n T x5 x7 x8 x9 cZ dy att du (some (.bytes (cq f) nt)) qq M tk aa v u f9))->ab w R F ⟨lP w.params k z y n T (vP k.j x5 (.ref Gg) x7 x8 x9 y cZ dy) (some (.int f ft)) (some (.int g wt)) att (some (.ref du)) (some (.bytes (cq f) nt)),[(k.j.i.ru,aw u.As u.CJ),(u.rf,aw u.Au 3),(u.r,gP true u.ak u.aN),(k.j.i.fi,aw u.AG u.Dk),(u.pf,aw u.Av 3)],M,tk⟩ 38 (PySem.execs [gh w.params 5] (ev w.params k.j.i.N)) (tB w F k z y f ft x5 (.ref Gg) x7 x8 x9 cZ (some (.int g wt)) att du nt):=λe=>
   ab.eq (LP.aH _ _) (ab.run (enc:=id) (d:=38) (ai:=P) nr e (fR _ (fR _ (fF _ ⟨eW.ok hu.hr oq hr (ht rfl),λa l1 J=>fin a.F l1⟩))) (λf F' ah hh=>by obtain⟨fl,h1,h2⟩:=hh;obtain rfl:=Except.ok.inj h1;exact h2) λJ J J hh=>by obtain⟨J,h,J⟩:=hh;cases h)
  rcases hn with rfl|rfl
  ·exact key λaa=>Ft w k z y T x5 x7 x8 x9 cZ dy att du _ qq M tk aa v u f9
  ·exact key λaa=>Fs w k z y T x5 x7 x8 x9 cZ dy att du _ qq M tk aa v u f9
end
section
variable{w:World}{R:aA}{F:aj}{k:KI}{z:XI}{y:YI}{b:Nat->Bool}{D:Nat->Rows}{n M tk du f ft g wt:Nat}{T:nN}{x5 x6 x7 x8 x9 cZ dy:Value}{att na:Option Value}{q:CA}{m:Nat->Int}{tt:nN}{r0 r1 p0 p1:Nat}
def qh(m:Nat->Int)(q:CA)(D:Nat->Rows):Prop:=∀f g,f<2->g<3->conv (tI m f) (eI m f) (aG q g) (cG q g)=true->wH (bq (tI m f) (eI m f) (aG q g) (cG q g)) (Oq (tI m f) (eI m f) (aG q g) (cG q g)) (D f)
def BQ(w:World)(F:aj)(k:KI)(z:XI)(y:YI)(x7 x8 x9:Value)(f ft g wt:Nat)(att:Option Value)(du:Nat)(F':aj)(ah:aZ):Prop:=F.le F'/\
 Uq λn' T' x5 x6 cZ dy na=>(n'=14\/n'=15)/\ah.L=lP w.params k z y n' T' (vP k.j x5 x6 x7 x8 x9 y cZ dy) (some (.int f ft)) (some (.int g wt)) att (some (.ref du)) na
theorem I6(hn:n=13\/n=14\/n=15)(h:TS w F k z y du b D)(h7:P7 w F k.j.i q m tt r0 r1 p0 p1)(hf:f<2)(hg:g<3)(ht:qh m q D):
  ab w R F ⟨lP w.params k z y n T (vP k.j x5 x6 x7 x8 x9 y cZ dy) (some (.int f ft)) (some (.int g wt)) att (some (.ref du)) na,[],M,tk⟩ 38 (PySem.execs ([gh w.params 0,gh w.params 1,gh w.params 2,gh w.params 3]++([gh w.params 4]++[gh w.params 5])) (ev w.params k.j.i.N)) λfl F' ah=>fl= .next/\BQ w F k z y x7 x8 x9 f ft g wt att du F' ah:=by
 refine ab.seq ((I7 hn h hf).aT ?_);rintro fl F1 bU _ ⟨e1,l1,n1,T1,a5,Gg,J9,nt,BM,hr,e2⟩;refine⟨e1,ab.seq ?_⟩;refine ab.cj e2 cB ?_;refine(Fe BM (h.le l1) hf).aT ?_;rintro fl F2 fI _ ⟨e3,l2,n2,T2,MP,pR,e4⟩;refine⟨e3,?_⟩;refine ab.cj e4 cB ?_;have og:=l1.trans l2;refine(Fd pR (h7.le og) hf hg (hr.le l2) (ht f g hf hg)).aT ?_;rintro fl F3 fB _ ⟨e5,l3,n3,T3,QB,PC,e6⟩;exact⟨e5,og.trans l3,n3,T3,a5,.ref Gg,J9,QB,_,PC,e6⟩
variable{ai:Result->aj->aZ->Prop}
theorem Cx{mm:Nat}{fo:Option Value}{r:RI}(Ie:∀FR M tk aa,aE (nQ w k z y FR fo (some (.int g wt)) att (some (.ref du)) na r M tk aa f mm))(hn:n=13\/n=14\/n=15)(h:TS w F k z y du b D)(h7:P7 w F k.j.i q m tt r0 r1 p0 p1)(hf:f<2)(hg:g<3)(ht:qh m q D)
  (hc:∀F' ft n' T' x5 x6 cZ dy FH M' t',F.le F'->(n'=14\/n'=15)->∀R,aD w R F' ⟨lQ w.params k z y (gJ w.params n' T' (vP k.j x5 x6 x7 x8 x9 y cZ dy)) (some (.int f ft)) (some (.int g wt)) att (some (.ref du)) FH r (f+1) mm,[],M',t'⟩ 39 (JC w k r) ai):
  aD w R F ⟨lQ w.params k z y (gJ w.params n T (vP k.j x5 x6 x7 x8 x9 y cZ dy)) fo (some (.int g wt)) att (some (.ref du)) na r f (mm+1),[],M,tk⟩ 39 (JC w k r) ai:=by
 let FR:=gJ w.params n T (vP k.j x5 x6 x7 x8 x9 y cZ dy)
 let L2:aA:=[(r.rg,nO r 2),(r.it,tX (f+1) mm)]
 refine aD.jA (aX:=38) (P1:=λv F' ah=>v= .int f tk/\F'=F/\ah=⟨lQ w.params k z y FR fo (some (.int g wt)) att (some (.ref du)) na r (f+1) mm,[],M,tk+1⟩) (P2:=λF' ah=>F'=F/\ah=⟨lQ w.params k z y FR fo (some (.int g wt)) att (some (.ref du)) na r (f+1) mm,[],M,tk+1⟩)
  (P3:=λF' ah=>∃bU:aZ,ah.L=bU.L++L2/\BQ w F k z y x7 x8 x9 f tk g wt att du F' bU) ?_ ?_ ?_
 ·exact ab.eq (CR.dq _) ((ab.exact (d:=38) nr (Ie FR M tk)).aT λr F' ah J hh=>by obtain⟨a,b,c⟩:=hh;exact⟨_,LP.jb a,rfl,b,c⟩)
 ·rintro v F' ah _ ⟨rfl,e0,rfl⟩;obtain rfl:=e0.symm;rw [K5];refine ab.pure ⟨⟨rfl,rfl⟩,?_⟩;refine ab.bind (P:=λJ F' ah=>F'=_/\ah=⟨lQ w.params k z y FR (some (.int f tk)) (some (.int g wt)) att (some (.ref du)) na r (f+1) mm,[],M,tk+1⟩) (ab.eq (LP.fY _ _ _) ((ab.exact (d:=38) nr (λaa=>Jh w k z y FR fo (some (.int g wt)) att (some (.ref du)) na r M (tk+1) aa f mm tk)).aT λa F2 fI J hh=>by obtain⟨J,b,c⟩:=hh;exact⟨b,c⟩)) λJ F2 fI J hh=> ?_;obtain⟨e2,e3⟩:=hh;subst e2 e3;refine ab.frame (L1:=lP w.params k z y n T (vP k.j x5 x6 x7 x8 x9 y cZ dy) (some (.int f tk)) (some (.int g wt)) att (some (.ref du)) na) (L2:=L2) (G1:=[]) (P1:=λfl F' bU=>fl= .next/\BQ w F2 k z y x7 x8 x9 f tk g wt att du F' bU) (List.Perm.refl _) cB (I6 hn h h7 hf hg ht) ?_;rintro fl F3 fB _ ⟨e1,hb⟩;exact⟨fB.L++L2,List.Perm.refl _,e1,fB,rfl,hb⟩
 ·rintro F' ah _ ⟨bU,e4,le,n',T',a5,a6,J9,MP,FH,kL,e5⟩;exact aD.drop (n:=27) (by rw [e4,e5];rfl) cB λR'=>hc F' tk n' T' a5 a6 J9 MP FH _ _ le kL R'
theorem HP{fo:Option Value}{r:RI}(hn:n=13\/n=14\/n=15)(h:TS w F k z y du b D)(h7:P7 w F k.j.i q m tt r0 r1 p0 p1)(hg:g<3)(ht:qh m q D):
  aD w R F ⟨lQ w.params k z y (gJ w.params n T (vP k.j x5 x6 x7 x8 x9 y cZ dy)) fo (some (.int g wt)) att (some (.ref du)) na r 0 2,[],M,tk⟩ 39 (JC w k r) λrr F' ah=>rr= .ok .next/\F.le F':=by
 refine Cx (f:=0) (mm:=1) (λFR M tk aa=>Pc w k z y FR fo _ att _ na r M tk aa) hn h h7 (by decide) hg ht ?_;intro F1 Ql n1 T1 a5 a6 J9 MP Pa M1 t1 l1 BM R;refine Cx (f:=1) (mm:=0) (λFR M tk aa=>Pb w k z y FR _ _ att _ Pa r M tk aa) (.inr BM) (h.le l1) (h7.le l1) (by decide) hg ht ?_;intro F2 E2 n2 T2 b5 b6 QG QF NF M2 t2 l2 pR R;refine aD.oy (aX:=38) (ab.eq (CR.dq _) (ab.run (enc:=CR.jL) (d:=38) (ai:=λrr F' ah=>rr= .ok .next/\F'=F2/\ah.L=lQ w.params k z y (gJ w.params n2 T2 (vP k.j b5 b6 x7 x8 x9 y QG QF)) (some (.int 1 E2)) (some (.int g wt)) att (some (.ref du)) NF r 2 0) nr (I1 w k z y _ _ _ att _ NF r _ _) (VC.keep λN' t'=>⟨rfl,rfl,rfl⟩) (λa F' ah hq=> ?_) λJ J J h=>by cases h.1));obtain⟨h1,h2,h3⟩:=hq;subst h2;refine⟨?_,rfl,l1.trans l2⟩;cases a with
 |none=>rfl
 |some v=>exact absurd (Except.ok.inj h1) (by intro h;cases h)
def JK(w:World)(k:KI)(z:XI)(y:YI)(FR:Obj)(fo wo att du na:Option Value)(r:RI):az:=⟨39,λJ=>JC w k r,λst=>[(.l st.L,.l (lQ w.params k z y FR fo wo att du na r 0 2))],λJ J=> .ok .next,λa st=>⟨[],st.G,a.N,a.t⟩,λF a=>F.le a.F⟩
theorem JK.ok{fo:Option Value}{r:RI}(hn:n=13\/n=14\/n=15)(h:TS w F k z y du b D)(h7:P7 w F k.j.i q m tt r0 r1 p0 p1)(hg:g<3)(ht:qh m q D):
  (JK w k z y (gJ w.params n T (vP k.j x5 x6 x7 x8 x9 y cZ dy)) fo (some (.int g wt)) att (some (.ref du)) na r).OK w R F:=λcc st hc he=>by
 have hL:st.L=lQ w.params k z y (gJ w.params n T (vP k.j x5 x6 x7 x8 x9 y cZ dy)) fo (some (.int g wt)) att (some (.ref du)) na r 0 2:=cp.l.inj (aY.cons.mp he).1;rw [hc];refine aD.gO (ai:=λrr F' ah=>ah.G=st.G/\rr= .ok .next/\F.le F') ?_ λrr F' ah hh=> ?_
 ·refine aD.frame (L1:=lQ w.params k z y (gJ w.params n T (vP k.j x5 x6 x7 x8 x9 y cZ dy)) fo (some (.int g wt)) att (some (.ref du)) na r 0 2) (L2:=[]) (G1:=[]) (jT:=λrr F' ah=>rr= .ok .next/\F.le F') (by rw [List.append_nil,hL]) cB (HP hn h h7 hg ht) λrr F' bU h=>⟨bU.L,by rw [List.append_nil],rfl,h⟩
 ·obtain⟨eG,y1,y2⟩:=hh;exact⟨[],List.nil_sublist _,bB F' ah.N ah.t 0,rfl,y2,y1,by rw [eG];rfl⟩
def uS(w:World)(k:KI)(z:XI)(y:YI)(FR:Obj)(fo wo att du na:Option Value)(M tk:Nat)(aa:RB):ax:=aF w 600 40 (zJ [[0],r7,[0]])
 (.hk (JK w k z y FR fo wo att du na ⟨M,M+1,tk+1,tk,tk+2⟩) λa=> .ret (.ok .next) λst=>[(.l st.L,.l [])])
 aa (LP.bD [DR w.params] (ev w.params k.j.i.N)) id ⟨(k.j.i.N,FR)::(vA k.j fo wo att du na++(AP w.params k z.ms++Gs w.params y)),[],M,tk⟩
theorem rE w k z y FR fo wo att du na M tk:∀aa,aE (uS w k z y FR fo wo att du na M tk aa):=by apply bh w
theorem Gi(w:World)(N M tk:Nat):∀aa,aE (aF w 100 40 [] (.ret (.ok (.ret (.bool true))) λst=>[(.l st.L,.l [])]) aa (LP.bD [aB (bd w.params) 18] (ev w.params N)) id ⟨[],[],M,tk⟩):=by apply bh w
theorem D5{fo:Option Value}(hn:n=13\/n=14\/n=15)(h:TS w F k z y du b D)(h7:P7 w F k.j.i q m tt r0 r1 p0 p1)(hg:g<3)(ht:qh m q D):
  ab w R F ⟨lP w.params k z y n T (vP k.j x5 x6 x7 x8 x9 y cZ dy) fo (some (.int g wt)) att (some (.ref du)) na,[],M,tk⟩ 40 (PySem.execs ([DR w.params]++[aB (bd w.params) 18]) (ev w.params k.j.i.N)) λfl F' ah=>fl= .ret (.bool true):=by
 refine ab.seq ?_;refine ab.eq (LP.aH _ _) (ab.run (enc:=id) (d:=40) (ai:=λrr F' ah=>rr= .ok .next/\ah.L=[]) nr (rE w k z y (gJ w.params n T (vP k.j x5 x6 x7 x8 x9 y cZ dy)) fo (some (.int g wt)) att (some (.ref du)) na M tk) ⟨JK.ok hn h h7 hg ht,λa le ha=>VC.all λN' t'=>⟨rfl,rfl⟩⟩ (λf F' ah h=>⟨Except.ok.inj h.1,?_⟩) λJ J J h=>by cases h.1);refine ab.cj h.2 cB ?_;exact ab.eq (LP.aH _ _) (ab.run (enc:=id) (d:=40) (ai:=λrr F' ah=>rr= .ok (.ret (.bool true))) nr (Gi w k.j.i.N ah.N ah.t) (VC.all λN' t'=>rfl) (λf F' ah h=>Except.ok.inj h) λJ J J h=>by cases h)
end
end LW
end H
namespace PL
noncomputable def dJ(s:List UInt8):List (List UInt8)->List UInt8
 |[]=>[]
 |p::ps=>p++(ps.map (s++·)).flatten
theorem Rv(s p q:List UInt8)(ps:List (List UInt8)):dJ s (p::q::ps)=p++(s++dJ s (q::ps)):=by simp [dJ]
theorem pN(s:aU):∀(ps:lU) (n:Nat) (o:aU),0<n->((ps.zipIdx n).foldl (λout (x:aU × Nat)=>(if x.2>0 then out++s else out)++x.1) o).toList=o.toList++((ps.map Array.toList).map (s.toList++·)).flatten
 |[],n,o,h=>by simp
 |p::ps,n,o,h=>by rw [List.zipIdx_cons,List.foldl_cons,pN s ps (n+1) _ (Nat.succ_pos n)];simp [h,List.append_assoc]
theorem fg(s:aU)(ps:lU):(Bytes.joined s ps).toList=dJ s.toList (ps.map Array.toList):=by
 cases ps with
 |nil=>rfl
 |cons p ps=>show(((p::ps).zipIdx 0).foldl (λout (x:aU × Nat)=>(if x.2>0 then out++s else out)++x.1) #[]).toList=_;rw [List.zipIdx_cons,List.foldl_cons,pN s ps 1 _ Nat.one_pos];simp [dJ]
theorem ud(w:Nat)(m:Nat->Bool)(no:∀j k,m j=true->m k=true->j<k->j+w<=k):∀(n i:Nat) (acc:List Nat) (e:Nat),(∀j,i<=j->m j=true->e<=j)->
  ((List.range' i n).foldl (λ(acc:List Nat × Nat) i=>if i≥acc.2&&m i then(i::acc.1,i+w)else acc) (acc,e)).1.reverse=acc.reverse++(List.range' i n).filter m
 |0,i,acc,e,_=>by simp
 |n+1,i,acc,e,h=>by
  rw [List.range'_succ,List.foldl_cons,List.filter_cons];cases hm:m i with
  |true=>have he:=h i (Nat.le_refl i) hm;simp only [ge_iff_le,he,decide_true,Bool.and_self,if_true];rw [ud w m no n (i+1) (i::acc) (i+w) λj hj Lz=>no i j hm Lz hj];simp
  |false=>simp only [Bool.and_false,Bool.false_eq_true,if_false];rw [ud w m no n (i+1) acc e λj hj Lz=>h j (Nat.le_of_succ_le hj) Lz]
theorem uf(b s:aU)(no:∀j k,(b.extract j (j+s.size)==s)=true->(b.extract k (k+s.size)==s)=true->j<k->j+s.size<=k):
  Bytes.occurrences b s 0 b.size=(List.range' 0 (b.size+1-s.size)).filter λi=>b.extract i (i+s.size)==s:=by
 show(((List.range (b.size+1-(0+s.size))).map (·+0)).foldl (λ(acc:List Nat × Nat) i=>if i≥acc.2&&b.extract i (i+s.size)==s then(i::acc.1,i+s.size)else acc) ([],0)).1.reverse=_;have:=ud s.size (λi=>b.extract i (i+s.size)==s) no (b.size+1-s.size) 0 [] 0 (λJ J J=>Nat.zero_le _);rw [Nat.zero_add,List.range_eq_range'];simp only [Nat.add_zero,List.map_id'];rw [this];rfl
noncomputable def fS(b:aU)(w:Nat):Nat->List Nat->lU
 |last,[]=>[b.extract last b.size]
 |last,p::ps=>b.extract last p::fS b w (p+w) ps
theorem oM(b:aU)(w:Nat):∀(ps:List Nat) (bz:Array aU) (last:Nat),
  (((ps.foldl (λ(x:Array aU × Nat) p=>(x.1.push (b.extract x.2 p),p+w)) (bz,last)).1.push (b.extract (ps.foldl (λ(x:Array aU × Nat) p=>(x.1.push (b.extract x.2 p),p+w)) (bz,last)).2 b.size))).toList=bz.toList++fS b w last ps
 |[],bz,last=>by simp [fS]
 |p::ps,bz,last=>by rw [List.foldl_cons,oM b w ps];simp [fS]
theorem iv(b:aU)(w:Nat)(ps:List Nat):Bytes.between b w ps=fS b w 0 ps:=by exact(oM b w ps #[] 0).trans (List.nil_append _)
noncomputable def dT(p:List UInt8):List (List UInt8)->List (List UInt8)
 |[]=>[p]
 |h::t=>(p++h)::t
noncomputable def lg:List UInt8->List (List UInt8)
 |[]=>[[]]
 |c::r=>if c=10 then []::lg r else dT [c] (lg r)
def UI:List UInt8->List (List UInt8) × List (List UInt8)
 |[]=>([[]],[[]])
 |c::r=>(if c=13/\r.head? =some 10 then []::(UI r).2 else dT [c] (UI r).1,(UI r).1)
noncomputable def fa(x:List UInt8):List (List UInt8):=(UI x).1
theorem UX(r:List UInt8):fa (13::10::r)=[]::fa r:=by show(if(13:UInt8)=13/\(10::r).head? =some 10 then []::(UI (10::r)).2 else dT [13] (UI (10::r)).1)=_;rw [if_pos ⟨rfl,rfl⟩];rfl
theorem UT(c:UInt8)(r:List UInt8)(h:∀r',c=13->r=10::r'->False):fa (c::r)=dT [c] (fa r):=by
 show(if c=13/\r.head? =some 10 then []::(UI r).2 else dT [c] (UI r).1)=_;refine if_neg λx=> ?_;cases r with
 |nil=>cases x.2
 |cons d r'=>exact h r' x.1 (by rw [Option.some.inj (show some d=some 10 from x.2)])
theorem mx(p q:List UInt8)(l:List (List UInt8))(h:l≠[]):dT p (dT q l)=dT (p++q) l:=by
 cases l with
 |nil=>exact absurd rfl h
 |cons a l=>simp [dT]
theorem sY(p:List UInt8)(l:List (List UInt8)):dT p l≠[]:=by cases l<;>simp [dT]
theorem hH{l:List (List UInt8)}(h:l≠[]):dT [] l=l:=by
 cases l with
 |nil=>exact absurd rfl h
 |cons a l=>rfl
theorem nq(x:List UInt8):lg x≠[]:=by
 cases x with
 |nil=>simp [lg]
 |cons c r=>unfold lg;split;simp;exact sY _ _
theorem gr(x:List UInt8):fa x≠[]:=by
 cases x with
 |nil=>exact List.cons_ne_nil _ _
 |cons c r=>
  show(if c=13/\r.head? =some 10 then []::(UI r).2 else dT [c] (UI r).1)≠[];split
  ·exact List.cons_ne_nil _ _
  ·exact sY _ _
theorem j9(b:aU)(i j:Nat):(b.extract i j).toList=(b.toList.take j).drop i:=by simp [Array.toList_extract,List.drop_take]
theorem nh(b:aU){last i:Nat}(h:last<=i):(b.extract last i).toList=(b.toList.drop last).take (i-last):=by rw [j9,List.drop_take]
theorem nV(b:aU)(v:Nat)(m:Nat->Bool)(cut:List UInt8->List (List UInt8))(dY:∀x,cut x≠[])(nil:∀x,x.length<v+1->cut x=[x])
  (hit:∀i,i+(v+1)<=b.size->m i=true->cut (b.toList.drop i)=[]::cut (b.toList.drop (i+(v+1)))/\∀j,i<j->j<i+(v+1)->m j=false) (miss:∀i (h:i<b.toList.length),m i=false->cut (b.toList.drop i)=dT [b.toList[i]] (cut (b.toList.drop (i+1)))):
  ∀(n i last:Nat),last<=i->i<=b.size->(b.size=v+i+n\/n=0/\b.size<=v+i)->(fS b (v+1) last ((List.range' i n).filter m)).map Array.toList=dT ((b.toList.drop last).take (i-last)) (cut (b.toList.drop i)):=by
 have hlen:b.toList.length=b.size:=Array.length_toList;intro n;induction n using Nat.strongRecOn with
 |ind n ih=>
  intro i last hl hi hn;obtain⟨d,rfl⟩:=Nat.exists_eq_add_of_le hl;rw [Nat.add_sub_cancel_left];cases n with
  |zero=>rw [nil (b.toList.drop (last+d)) (by rw [List.length_drop,hlen];clear ih;lia)];simp only [List.range'_zero,List.filter_nil,fS,List.map_cons,List.map_nil,dT,List.cons.injEq,and_true];rw [nh b (Nat.le_trans hl hi),<-List.drop_drop,List.take_append_drop];exact List.take_of_length_le (by rw [List.length_drop,hlen];exact Nat.le_refl _)
  |succ n=>
   have hN:b.size=v+(last+d)+(n+1):=hn.resolve_right λh=>by cases h.1
   clear hn hi;have NZ:last+d<b.toList.length:=by rw [hlen,hN];clear ih hN;lia
   rw [List.range'_succ,List.filter_cons];cases hm:m (last+d)with
   |true=>
    simp only [if_true];obtain⟨h1,h2⟩:=hit (last+d) (by rw [hN];clear ih hN;lia) hm;have skip:((List.range' (last+d+1) n).filter m)=((List.range' (last+d+(v+1)) (n-v)).filter m):=by
     rcases Nat.le_total v n with hle|hle
     ·obtain⟨u,rfl⟩:=Nat.exists_eq_add_of_le hle;rw [Nat.add_sub_cancel_left,<-List.range'_append_1,List.filter_append,List.filter_eq_nil_iff.mpr λj hj=> ?_,List.nil_append,Nat.add_assoc,Nat.add_comm 1 v];have:=List.mem_range'_1.mp hj;rw [h2 j this.1 (by rw [Nat.add_comm v 1,<-Nat.add_assoc];exact this.2)];exact Bool.false_ne_true
     ·rw [Nat.sub_eq_zero_of_le hle,List.range'_zero,List.filter_nil];exact List.filter_eq_nil_iff.mpr λj hj=>by have:=List.mem_range'_1.mp hj;rw [h2 j this.1 (Nat.lt_of_lt_of_le this.2 (by clear ih hN this hj;lia))];exact Bool.false_ne_true
    rw [skip];show(b.extract last (last+d)).toList::(fS b (v+1) (last+d+(v+1)) _).map Array.toList=_;rw [ih (n-v) (by clear ih;lia) (last+d+(v+1)) (last+d+(v+1)) nr (by rw [hN];clear ih hN;lia) (by rw [hN];clear ih hN;lia),h1,nh b hl,Nat.sub_self,List.take_zero,hH (dY _),Nat.add_sub_cancel_left];simp [dT]
   |false=>
    simp only [Bool.false_eq_true,if_false];rw [ih n (Nat.lt_succ_self n) (last+d+1) last (Nat.le_succ_of_le hl) (by rw [<-hlen];exact NZ) (.inl (by rw [hN];clear ih hN;lia)),miss (last+d) NZ hm,mx _ _ _ (dY _)]
    congr 1
    rw [Nat.add_assoc,Nat.add_sub_cancel_left,List.take_add_one]
    congr 1
    rw [List.getElem?_drop,List.getElem?_eq_getElem NZ];rfl
theorem CS(b:aU)(i:Nat)(h:i<b.toList.length):(b.extract i (i+1)== #[10])=(b.toList[i]==10):=by
 have hi:i<b.size:=by simpa using h
 have:b.extract i (i+1)= #[b[i]]:=by apply Array.ext';rw [nh b (Nat.le_succ i),show i+1-i=1 by lia,List.drop_eq_getElem_cons h];simp
 rw [this];simp
theorem vh(b:aU)(i:Nat)(h:i+1<b.toList.length):(b.extract i (i+2)== #[13,10])=(b.toList[i]==13&&b.toList[i+1]==10):=by
 have:b.extract i (i+2)= #[b.toList[i],b.toList[i+1]]:=by apply Array.ext';rw [nh b (by lia),show i+2-i=2 by lia,List.drop_eq_getElem_cons (by lia),List.drop_eq_getElem_cons h];simp
 rw [this];simp
theorem yX(b:aU)(i:Nat)(h:(b.extract i (i+2)== #[13,10])=true):i+1<b.toList.length:=by have:=congrArg Array.size (eq_of_beq h);simp at this;have hl:b.toList.length=b.size:=Array.length_toList;lia
theorem HL(b:aU)(i:Nat)(h:(b.extract i (i+1)== #[10])=true):i<b.toList.length:=by have:=congrArg Array.size (eq_of_beq h);simp at this;have hl:b.toList.length=b.size:=Array.length_toList;lia
theorem z8(b:aU):(Bytes.between b 1 (Bytes.occurrences b #[10] 0 b.size)).map Array.toList=lg b.toList:=by
 rw [iv,uf b #[10] (λj k J J h=>h)];have:=nV b 0 (λi=>b.extract i (i+1)== #[10]) lg nq (λx hx=>by
  have:x=[]:=List.eq_nil_of_length_eq_zero (by lia);rw [this];rfl) (λi hi hm=>⟨by
   have hl:=HL b i hm;rw [CS b i hl]at hm;rw [List.drop_eq_getElem_cons hl];show(if _ then _ else _)=_;rw [if_pos (eq_of_beq hm)],λj h1 h2=>by lia⟩) (λi h hm=>by
   rw [CS b i h]at hm;rw [List.drop_eq_getElem_cons h];show(if _ then _ else _)=_;rw [if_neg (λe=>by rw [e]at hm;exact absurd hm (by decide))]) (b.size+1-1) 0 0 nr (Nat.zero_le _) (by lia)
 simpa [hH (nq _)]using this
theorem th(b:aU):(Bytes.between b 2 (Bytes.occurrences b #[13,10] 0 b.size)).map Array.toList=fa b.toList:=by
 have no:∀j k,(b.extract j (j+2)== #[13,10])=true->(b.extract k (k+2)== #[13,10])=true->j<k->j+2<=k:=λj k h1 h2 Q8=>by
  have l1:=yX b j h1;have l2:=yX b k h2;rw [vh b j l1,Bool.and_eq_true]at h1;rw [vh b k l2,Bool.and_eq_true]at h2;rcases Nat.lt_or_ge (j+1) k with h|h
  ·exact h
  ·have:k=j+1:=by lia
   subst this;have e1:=eq_of_beq h1.2;have e2:=eq_of_beq h2.1;rw [e1]at e2;exact absurd e2 (by decide)
 rw [iv,uf b #[13,10] no];have:=nV b 1 (λi=>b.extract i (i+2)== #[13,10]) fa gr (λx hx=>by
  cases x with
  |nil=>rfl
  |cons c r=>cases r with
   |nil=>exact(UT c [] (λr' J h=>by cases h)).trans rfl
   |cons d r=>exact absurd (Nat.lt_of_succ_lt_succ (Nat.lt_of_succ_lt_succ hx)) (Nat.not_lt_zero _)) (λi hi hm=>⟨by
   have hl:=yX b i hm;rw [vh b i hl,Bool.and_eq_true]at hm;rw [List.drop_eq_getElem_cons (by lia),List.drop_eq_getElem_cons hl,eq_of_beq hm.1,eq_of_beq hm.2];exact UX _,λj h1 h2=>by
    have:j=i+1:=by lia
    subst this;cases e:b.extract (i+1) (i+1+2)== #[13,10]with
    |false=>rfl
    |true=>exact absurd (no i (i+1) hm e (by lia)) (by lia)⟩) (λi h hm=>by
   rw [List.drop_eq_getElem_cons h];refine UT _ _ λr' e1 e2=> ?_;have hl:i+1<b.toList.length:=by have:=congrArg List.length e2;rw [List.length_drop,List.length_cons]at this;lia
   rw [vh b i hl]at hm;rw [List.drop_eq_getElem_cons hl]at e2;rw [e1,(List.cons.inj e2).1]at hm;exact absurd hm (by decide)) (b.size+1-2) 0 0 nr (Nat.zero_le _) (by lia)
 simpa [hH (gr _)]using this
end PL
open PL
namespace H
namespace PL
noncomputable def tx:lU:=[#[112],#[],#[113,32,114],#[60,60,60,60,60,60,60,32,111,117,114,115],#[61,61,61,61,61,61,61],#[62,62,62,62,62,62,62,32,116,104,101,105,114,115]]
noncomputable def gd:List dP:=tx.flatMap λt=>[(t,#[10]),(t,#[13,10])]
noncomputable def rP:List dP:=(tx.take 3).flatMap λt=>[(t,#[10]),(t,#[13,10])]
def Gd(af:Rows):Prop:=∀p∈af,p∈gd
theorem SJ:∀p∈gd,(∀c∈p.1.toList,c≠10/\c≠13/\c≠0)/\p.1.size+p.2.size<=16/\0<p.2.size/\(p.2= #[10]\/p.2= #[13,10]):=by decide+kernel
theorem zx:∀p∈gd,∀q∈gd,p.1++p.2=q.1++q.2->p=q:=by decide+kernel
theorem vr:∀p∈gd,(p.1,(#[10]:aU))∈gd/\(p.1,(#[13,10]:aU))∈gd:=by decide+kernel
theorem lI:∀p∈rP,p∈gd:=by decide+kernel
theorem DI:∀p∈rP,∀c∈(p.1++p.2).toList,c≠60:=by decide+kernel
theorem zy:∀p∈gd,(if(true&&p8 (p.1++p.2.pop) #[13])=true then KBy.picked (p.1++p.2.pop) none (some (-1))else p.1++p.2.pop)=p.1:=by decide+kernel
noncomputable def jP(af:Rows):List UInt8:=(af.map λp=>p.1.toList++p.2.toList).flatten
theorem wa:∀ps:List (List UInt8),dJ [] ps=ps.flatten
 |[]=>rfl
 |p::ps=>by simp [dJ]
theorem dB(af:Rows):(rb af).toList=jP af:=by
 unfold rb jP aM;rw [fg,List.map_map,show(#[]:aU).toList=[]from rfl,wa]
 congr 1
 exact List.map_congr_left λp J=>by simp
theorem fQ(p:dP)(af:Rows):jP (p::af)=p.1.toList++(p.2.toList++jP af):=by simp [jP]
theorem Gd.tail{p:dP}{af:Rows}(h:Gd (p::af)):Gd af:=λq hq=>h q (.tail _ hq)
theorem Gd.head{p:dP}{af:Rows}(h:Gd (p::af)):p∈gd:=h p (.head _)
theorem Gd.laid{af:Rows}(h:Gd af){e:aU}(he:e= #[10]\/e= #[13,10]):Gd (LL.laid af e):=λq hq=>by
 obtain⟨p,hp,rfl⟩:=List.mem_map.mp hq;rcases he with rfl|rfl
 ·exact(vr p (h p hp)).1
 ·exact(vr p (h p hp)).2
theorem sV:∀(t x:List UInt8),(∀c∈t,c≠10)->lg (t++x)=dT t (lg x)
 |[],x,_=>(hH (nq x)).symm
 |c::t,x,h=>by show(if c=10 then []::lg (t++x)else dT [c] (lg (t++x)))=_;rw [if_neg (h c (.head _)),sV t x λd hd=>h d (.tail _ hd),mx _ _ _ (nq x)];rfl
theorem p9(c:UInt8)(x:List UInt8)(h:c≠13):fa (c::x)=dT [c] (fa x):=UT c x λr' e J=>h e
theorem sU:∀(t x:List UInt8),(∀c∈t,c≠13)->fa (t++x)=dT t (fa x)
 |[],x,_=>(hH (gr x)).symm
 |c::t,x,h=>by show fa (c::(t++x))=_;rw [p9 c _ (h c (.head _)),sU t x λd hd=>h d (.tail _ hd),mx _ _ _ (gr x)];rfl
theorem mI(s p:List UInt8)(l:List (List UInt8))(h:l≠[]):dJ s (dT p l)=p++dJ s l:=by
 cases l with
 |nil=>exact absurd rfl h
 |cons a l=>simp [dT,dJ]
theorem pn(s:List UInt8)(l:List (List UInt8))(h:l≠[]):dJ s ([]::l)=s++dJ s l:=by
 cases l with
 |nil=>exact absurd rfl h
 |cons a l=>simp [dJ]
theorem qe:∀{af:Rows},Gd af->lg (jP af)=af.map (λp=>p.1.toList++p.2.pop.toList)++[[]]
 |[],_=>rfl
 |p::af,h=>by
  obtain⟨h1,J,J,h2⟩:=SJ p h.head;rw [fQ,sV _ _ λc hc=>(h1 c hc).1];have e:lg (p.2.toList++jP af)=p.2.pop.toList::lg (jP af):=by
   rcases h2 with e|e
   ·rw [e];rfl
   ·rw [e];show(if(13:UInt8)=10 then _ else dT [13] (if(10:UInt8)=10 then _ else _))=_;rw [if_neg (by decide),if_pos rfl];rfl
  rw [e,qe h.tail];simp [dT]
theorem qd:∀{af:Rows},Gd af->dJ [10] (fa (jP af))=jP (LL.laid af #[10])
 |[],_=>rfl
 |p::af,h=>by
  obtain⟨h1,J,J,h2⟩:=SJ p h.head;rw [fQ,sU _ _ λc hc=>(h1 c hc).2.1,mI _ _ _ (gr _)];have e:dJ [10] (fa (p.2.toList++jP af))=[10]++dJ [10] (fa (jP af)):=by
   rcases h2 with e|e
   ·rw [e];show dJ [10] (fa (10::jP af))=_;rw [p9 10 _ (by decide),mI _ _ _ (gr _)]
   ·rw [e];show dJ [10] (fa (13::10::jP af))=_;rw [UX,pn _ _ (gr _)]
  rw [e,qd h.tail];show _=jP ((p.1,#[10])::LL.laid af #[10]);rw [fQ]
theorem ve{b s:aU}(h:(Bytes.occurrences b s 0 b.size).isEmpty=true):Bytes.between b s.size (Bytes.occurrences b s 0 b.size)=[b]:=by rw [List.isEmpty_iff.mp h,iv];simp [fS]
theorem rZ(b old new:aU):ew b old new=Bytes.joined new (Bytes.between b old.size (Bytes.occurrences b old 0 b.size)):=by
 unfold ew;split
 ·rename_i h;rw [ve h];apply Array.ext';rw [fg];simp [dJ]
 ·rfl
theorem lH{af:Rows}(h:Gd af):jU (rb af)=rb (LL.laid af #[10]):=by apply Array.ext';unfold jU;rw [rZ,fg];show dJ [10] ((Bytes.between (rb af) 2 (Bytes.occurrences (rb af) #[13,10] 0 (rb af).size)).map Array.toList)=_;rw [th,dB,dB,qd h]
theorem yJ(b:aU):(Bytes.occurrences b #[10] 0 b.size).length<=b.size+1:=by rw [uf b #[10] (λj k J J h=>h)];refine Nat.le_trans (List.length_filter_le _ _) ?_;rw [List.length_range'];exact Nat.sub_le _ _
theorem rO(b:aU):bj b #[10]=Bytes.between b 1 (Bytes.occurrences b #[10] 0 b.size):=by
 unfold bj;rw [List.take_of_length_le (yJ b)];split
 ·rename_i h;exact(ve h).symm
 ·rfl
theorem toList_inj:∀{l l':lU},l.map Array.toList=l'.map Array.toList->l=l'
 |[],[],_=>rfl
 |[],_::_,h=>by cases h
 |_::_,[],h=>by cases h
 |a::l,a'::l',h=>by rw [List.map_cons,List.map_cons,List.cons.injEq]at h;rw [Array.ext' h.1,toList_inj h.2]
theorem nL{af:Rows}(h:Gd af):bj (rb af) #[10]=af.map (λp=>p.1++p.2.pop)++[#[]]:=by
 apply toList_inj;rw [rO,z8,dB,qe h,List.map_append,List.map_map]
 congr 1
 exact List.map_congr_left λp J=>by simp
theorem oJ:∀{af:Rows} (n i:Nat),Gd af->n=i+af.length+1->bl n i (af.map (λp=>p.1++p.2.pop)++[#[]])=af.map (·.1)++[#[]]
 |[],n,i,_,hn=>by show [bK n i #[]]=_;unfold bK;rw [show decide (i+1<n)=false by rw [hn];simp];rfl
 |p::af,n,i,h,hn=>by show bK n i (p.1++p.2.pop)::bl n (i+1) (af.map (λp=>p.1++p.2.pop)++[#[]])=_;rw [oJ n (i+1) h.tail (by rw [hn,List.length_cons];lia)];unfold bK;rw [show decide (i+1<n)=true by rw [hn,List.length_cons];simp,zy p h.head];rfl
theorem pO(s:List UInt8):∀ps:List (List UInt8),dJ s (ps++[[]])=(ps.map (·++s)).flatten
 |[]=>rfl
 |[p]=>by simp [dJ]
 |p::q::ps=>by have:=pO s (q::ps);show dJ s (p::q::(ps++[[]]))=_;rw [Rv];rw [List.cons_append]at this;rw [this];simp
theorem nW{af:Rows}(h:Gd af):bl (bj (rb af) #[10]).length 0 (bj (rb af) #[10])=af.map (·.1)++[#[]]:=by rw [nL h];exact oJ _ 0 h (by simp)
theorem mA{af:Rows}(h:Gd af):SP (rb af)=rb (LL.laid af #[13,10]):=by apply Array.ext';unfold SP;rw [nW h,fg,List.map_append,List.map_map];show dJ [13,10] (_++[[]])=_;rw [pO,dB,List.map_map];unfold jP LL.laid;rw [List.map_map];rfl
theorem u9:∀{af:Rows},Gd af->(jP af).length<=16*af.length
 |[],_=>Nat.le_refl _
 |p::af,h=>by have h1:=(SJ p h.head).2.1;have h2:=u9 h.tail;rw [fQ,List.length_append,List.length_append,List.length_cons,Array.length_toList (xs:=p.1),Array.length_toList (xs:=p.2)];lia
theorem hU{af:Rows}(h:Gd af):(rb af).size<=16*af.length:=by rw [<-Array.length_toList,dB];exact u9 h
theorem rX:∀{af:Rows},Gd af->af.length<=(jP af).length
 |[],_=>Nat.le_refl _
 |p::af,h=>by have h1:=(SJ p h.head).2.2.1;have h2:=rX h.tail;rw [fQ,List.length_append,List.length_append,List.length_cons,Array.length_toList (xs:=p.1),Array.length_toList (xs:=p.2)];lia
theorem wj(ps:lU)(n k:Nat)(h:∀p∈ps,p.size<=k):ps.foldl (λn p=>n+p.size) n<=n+k*ps.length:=by
 induction ps generalizing n with
 |nil=>exact Nat.le_add_right _ _
 |cons p ps ih=>rw [List.foldl_cons];have:=ih (n+p.size) λq hq=>h q (.tail _ hq);have hp:=h p (.head _);rw [List.length_cons,Nat.mul_add,Nat.mul_one];lia
theorem uA(s:Nat)(ps:lU)(k:Nat)(h:∀p∈ps,p.size<=k)(hl:ps.length<=16)(hk:k<=16)(hs:s<=2):Bytes.tooLong (ps.toArray.foldl (λn p=>n+p.size) (s*(ps.toArray.size-1)))=false:=by
 show decide (_>sizeLine)=false;refine decide_eq_false λhg=> ?_;rw [<-Array.foldl_toList,show ps.toArray.toList=ps from rfl]at hg;have:=wj ps (s*(ps.toArray.size-1)) k h;have hz:ps.toArray.size<=16:=by simpa using hl
 have e1:s*(ps.toArray.size-1)<=2*16:=Nat.mul_le_mul hs (by lia);have e2:k*ps.length<=16*16:=Nat.mul_le_mul hk hl;rw [sizeLine_eq]at hg;lia
theorem zP{af:Rows}(h:Gd af)(h0:0<af.length)(hl:af.length<=15):oT af:=by
 have hz:=hU h;refine⟨λp hp=>Nat.le_trans (SJ p (h p hp)).2.1 (by decide),by rw [sizeLine_eq];lia,h0,?_,by rw [sizeLine_eq];lia⟩;have:=uA (#[]:aU).size (aM af) 16 (λq hq=>by obtain⟨p,hp,rfl⟩:=List.mem_map.mp hq;have:=(SJ p (h p hp)).2.1;simpa using this) (by unfold aM;rw [List.length_map];lia) nr (by decide)
 exact this
theorem Bu{b s:aU}{i j:Nat}(h:(b.extract i j==s)=true){c:UInt8}(hc:c∈s.toList):c∈b.toList:=by rw [<-eq_of_beq h,PL.j9]at hc;exact List.mem_of_mem_take (List.mem_of_mem_drop hc)
theorem pZ{b s:aU}{c:UInt8}(hc:c∈s.toList)(hb:c∉b.toList):(Bytes.find? b s 0 b.size).isSome=false:=by unfold Bytes.find?;rw [List.find?_eq_none.mpr λi J hi=>hb (Bu hi hc)];rfl
theorem wm{b s:aU}{x y:List UInt8}(h:b.toList=x++(s.toList++y)):(Bytes.find? b s 0 b.size).isSome=true:=by
 unfold Bytes.find?;rw [List.find?_isSome];have hlen:b.size=x.length+(s.size+y.length):=by rw [<-Array.length_toList,h,List.length_append,List.length_append,Array.length_toList (xs:=s)]
 refine⟨x.length,?_,?_⟩
 ·rw [Nat.zero_add];simp only [Nat.add_zero,List.map_id',List.mem_range];lia
 ·rw [beq_iff_eq];apply Array.ext';rw [PL.j9,h];rw [show x.length+s.size=x.length+s.toList.length by rw [Array.length_toList (xs:=s)],<-List.append_assoc,List.take_append_of_le_length (by rw [List.length_append];exact Nat.le_refl _),<-List.length_append,List.take_length];simp
theorem wk{af:Rows}(h:Gd af)(h0:0<af.length)(hl:af.length<=15):Ka (rb af):=by
 have hz:=hU h;have hp:∀p∈af,p.1.size<=16:=λp hp=>Nat.le_trans (Nat.le_add_right _ _) (SJ p (h p hp)).2.1;have hs:=nL h;refine⟨by lia,pZ (c:=0) (by simp) λhm=> ?_,?_,?_,?_,?_,?_,?_,?_⟩
 ·rw [dB]at hm;obtain⟨l,Ik,C6⟩:=List.mem_flatten.mp hm;obtain⟨p,pQ,rfl⟩:=List.mem_map.mp Ik;obtain⟨g1,J,J,g2⟩:=SJ p (h p pQ);rcases List.mem_append.mp C6 with hc|hc
  ·exact(g1 0 hc).2.2 rfl
  ·rcases g2 with e|e
   ·rw [e]at hc;revert hc;decide
   ·rw [e]at hc;revert hc;decide
 ·have:(Bytes.occurrences (rb af) #[13,10] 0 (rb af).size).length<=(rb af).size+1:=by
   have e:(Bytes.between (rb af) 2 (Bytes.occurrences (rb af) #[13,10] 0 (rb af).size)).length=(Bytes.occurrences (rb af) #[13,10] 0 (rb af).size).length+1:=by
    rw [iv];generalize Bytes.occurrences (rb af) #[13,10] 0 (rb af).size=o;have:∀(o:List Nat) (last:Nat),(fS (rb af) 2 last o).length=o.length+1:=λo=>by
     induction o with
     |nil=>intro last;rfl
     |cons a o ih=>intro last;show(fS _ _ _ _).length+1=_;rw [ih];rfl
    exact this o 0
   have e2:∀x:List UInt8,(fa x).length<=x.length+1:=λx=>by
    have k:∀x:List UInt8,(UI x).1.length<=x.length+1/\(UI x).2.length<=x.length+1:=λx=>by
     induction x with
     |nil=>exact⟨Nat.le_refl _,Nat.le_refl _⟩
     |cons c r ih=>
      refine⟨?_,Nat.le_succ_of_le ih.1⟩;show(if c=13/\r.head? =some 10 then []::(UI r).2 else dT [c] (UI r).1).length<=r.length+1+1;split
      ·exact Nat.succ_le_succ ih.2
      ·cases e:(UI r).1 with
       |nil=>exact absurd e (gr r)
       |cons a l=>rw [e]at ih;exact Nat.le_succ_of_le ih.1
    exact(k x).1
   have e3:=congrArg List.length (th (rb af));rw [List.length_map,e]at e3;have e4:=e2 (rb af).toList;rw [Array.length_toList (xs:=rb af)]at e4;lia
  lia
 ·rw [lH h];have:=hU (h.laid (e:= #[10]) (.inl rfl));unfold LL.laid at this;rw [List.length_map]at this;rw [sizeLine_eq];show(rb (LL.laid af #[10])).size<=_;unfold LL.laid;lia
 ·intro p NW;rw [hs]at NW;rw [sizeLine_eq];rcases List.mem_append.mp NW with hm|hm
  ·obtain⟨q,hq,rfl⟩:=List.mem_map.mp hm;have:=(SJ q (h q hq)).2.1;rw [Array.size_append,Array.size_pop];lia
  ·rw [List.mem_singleton.mp hm];decide
 ·rw [hs,sizeLine_eq,List.length_append,List.length_map];simp;lia
 ·rw [hs,List.length_append];simp
 ·rw [nW h];refine uA (#[13,10]:aU).size _ 16 (λq hq=> ?_) (by simp;lia) nr (by decide);rcases List.mem_append.mp hq with hm|hm
  ·obtain⟨q',wV,rfl⟩:=List.mem_map.mp hm;exact hp q' wV
  ·rw [List.mem_singleton.mp hm];decide
 ·rw [mA h];have:=hU (h.laid (e:= #[13,10]) (.inr rfl));unfold LL.laid at this;rw [List.length_map]at this;rw [sizeLine_eq];show(rb (LL.laid af #[13,10])).size<=_;unfold LL.laid;lia
theorem Gd.nj{af:Rows}(h:Gd af)(ak aN:Bool):Gd (nj ak aN af):=by
 unfold Mine.H.nj;split
 ·exact h
 ·split
  ·exact h
  ·exact h.laid (.inr rfl)
theorem Cc(ak aN:Bool)(af:Rows):(nj ak aN af).length=af.length:=by
 unfold Mine.H.nj;split
 ·rfl
 ·split
  ·rfl
  ·exact List.length_map ..
theorem qy{af:Rows}(h:Gd af)(ak aN:Bool):eu ak aN (rb af)=rb (nj ak aN af):=by
 unfold eu Mine.H.nj;cases ak with
 |false=>rfl
 |true=>
  dsimp only;cases aN&&(Bytes.find? (rb af) #[13] 0 (rb af).size).isSome with
  |true=>rfl
  |false=>exact mA h
theorem Gv{af:Rows}(h:Gd af)(h0:0<af.length)(hl:af.length<=15)(ak aN:Bool):wH ak aN af:=by
 have e1:=qy h ak aN;have hd:=h.nj ak aN;have l:=Cc ak aN af;have L9:0<(nj ak aN af).length:=by rw [l];exact h0
 have Dc:(nj ak aN af).length<=15:=by rw [l];exact hl
 refine⟨zP h h0 hl,zP hd L9 Dc,zP (hd.laid (.inl rfl)) (by unfold LL.laid;rw [List.length_map];exact L9) (by unfold LL.laid;rw [List.length_map];exact Dc),wk h h0 hl,?_,e1,?_⟩
 ·rw [e1];exact wk hd L9 Dc
 ·rw [e1];exact lH hd
theorem UW(n:Nat){x:List UInt8}(dY:x≠[]):Bytes.lines (n+1) true x=Bytes.lines.match_1 (λJ=>List (List UInt8)) (x.drop (x.takeWhile λc=>c !=10&&c !=13).length) (λrest=>((x.takeWhile λc=>c !=10&&c !=13)++[13,10])::Bytes.lines n true rest) (λc rest=>((x.takeWhile λc=>c !=10&&c !=13)++[c])::Bytes.lines n true rest) (λJ=>[x.takeWhile λc=>c !=10&&c !=13]):=by
 cases x with
 |nil=>exact absurd rfl dY
 |cons c y=>rfl
theorem n9:∀{af:Rows} (n:Nat),Gd af->af.length<=n->Bytes.lines n true (jP af)=af.map λp=>p.1.toList++p.2.toList
 |[],0,_,_=>rfl
 |[],n+1,_,_=>rfl
 |p::af,n+1,h,hn=>by
  obtain⟨h1,J,J,h2⟩:=SJ p h.head;have ih:=n9 n h.tail (by rw [List.length_cons]at hn;lia);have tw:∀(c:UInt8) (x:List UInt8),(c !=10&&c !=13)=false->(p.1.toList++(c::x)).takeWhile (λc=>c !=10&&c !=13)=p.1.toList:=λc x hc=>by
   rw [List.takeWhile_append_of_pos λd hd=>by have:=h1 d hd;simp [this.1,this.2.1],List.takeWhile_cons]
   rw [hc];simp
  rw [fQ];rcases h2 with e|e
  ·rw [e];have dY:p.1.toList++(10::jP af)≠[]:=by simp
   show Bytes.lines (n+1) true (p.1.toList++(10::jP af))=_;rw [UW _ dY,tw 10 _ (by decide),List.drop_left];show(p.1.toList++[10])::Bytes.lines n true (jP af)=_;rw [ih,List.map_cons,e]
  ·rw [e];have dY:p.1.toList++(13::10::jP af)≠[]:=by simp
   show Bytes.lines (n+1) true (p.1.toList++(13::10::jP af))=_;rw [UW _ dY,tw 13 _ (by decide),List.drop_left];show(p.1.toList++[13,10])::Bytes.lines n true (jP af)=_;rw [ih,List.map_cons,e]
theorem SU{af:Rows}(h:Gd af):(Bytes.lines (rb af).size true (rb af).toList).map List.toArray=aM af:=by rw [dB,n9 _ h (by rw [<-Array.length_toList,dB];exact rX h),List.map_map];unfold aM;exact List.map_congr_left λp J=>by apply Array.ext';simp
theorem UC{af rows':Rows}(h:Gd af)(h':Gd rows')(e:rb af=rb rows'):af=rows':=by
 have e2:aM af=aM rows':=by rw [<-SU h,<-SU h',e]
 clear e;induction af generalizing rows' with
 |nil=>
  cases rows' with
  |nil=>rfl
  |cons p r=>cases e2
 |cons p af ih=>
  cases rows' with
  |nil=>cases e2
  |cons q r=>
   have e3:p.1++p.2=q.1++q.2/\aM af=aM r:=by simpa [aM]using e2
   rw [zx p h.head q h'.head e3.1,ih h.tail h'.tail e3.2]
end PL
end H
end Mine
namespace Mine
open PL
namespace H
namespace PL
noncomputable def Ou(x y z:dP):Bool × Rows:=if y=z\/x=z then(false,[y])else if x=y then(false,[z])else(true,[(mark 0,#[10]),y,(mark 1,#[10]),z,(mark 2,#[10])])
theorem nK(o:Bool × Rows)(x y z:dP):LP.step o x y z=(o.1||(Ou x y z).1,o.2++(Ou x y z).2):=by
 unfold LP.step Ou;split
 ·simp
 ·split<;>simp
theorem di(p q r:Nat->dP):LP.plain p q r=((Ou (p 0) (q 0) (r 0)).1||(Ou (p 1) (q 1) (r 1)).1||(Ou (p 2) (q 2) (r 2)).1,(Ou (p 0) (q 0) (r 0)).2++((Ou (p 1) (q 1) (r 1)).2++(Ou (p 2) (q 2) (r 2)).2)):=by unfold LP.plain;rw [nK,nK,nK];simp
def oO(af:Rows):Prop:=∀p∈af,p∈rP
theorem oO.gd{af:Rows}(h:oO af):Gd af:=λp hp=>lI p (h p hp)
theorem qF(x y z:dP):0<(Ou x y z).2.length/\(Ou x y z).2.length<=5:=by
 unfold Ou;split
 ·simp
 ·split<;>simp
theorem mY{x y z:dP}(hy:y∈rP)(hz:z∈rP)(h:(Ou x y z).1=false):oO (Ou x y z).2:=by
 unfold Ou at h⊢;split at h
 ·rw [if_pos ‹_›];intro p hp;rw [List.mem_singleton.mp hp];exact hy
 ·split at h
  ·rw [if_neg ‹_›,if_pos ‹_›];intro p hp;rw [List.mem_singleton.mp hp];exact hz
  ·cases h
theorem nX{x y z:dP}(h:(Ou x y z).1=true):∃B,(Ou x y z).2=(mark 0,#[10])::B:=by
 unfold Ou at h⊢;split at h
 ·cases h
 ·split at h
  ·cases h
  ·rw [if_neg ‹_›,if_neg ‹_›];exact⟨_,rfl⟩
theorem n8:(mark 0,(#[10]:aU))∈gd/\(mark 1,(#[10]:aU))∈gd/\(mark 2,(#[10]:aU))∈gd:=by decide+kernel
theorem uc{x y z:dP}(hy:y∈rP)(hz:z∈rP):Gd (Ou x y z).2:=by
 cases e:(Ou x y z).1 with
 |false=>exact(mY hy hz e).gd
 |true=>
  unfold Ou at e⊢;split at e
  ·cases e
  ·split at e
   ·cases e
   ·rw [if_neg ‹_›,if_neg ‹_›];intro p hp;simp only [List.mem_cons,List.not_mem_nil,or_false]at hp;rcases hp with rfl|rfl|rfl|rfl|rfl
    ·exact n8.1
    ·exact lI _ hy
    ·exact n8.2.1
    ·exact lI _ hz
    ·exact n8.2.2
noncomputable abbrev pE(p:dP):aU:=p.1++p.2
theorem yV:M3.mk 0=pE (mark 0,#[10])/\M3.mk 1=pE (mark 1,#[10])/\M3.mk 2=pE (mark 2,#[10]):=by decide+kernel
theorem rm{x y:dP}(hx:x∈rP)(hy:y∈rP):(pE x=pE y)=(x=y):=propext ⟨λh=>zx x (lI x hx) y (lI y hy) h,λh=>by rw [h]⟩
theorem iZ(k:Nat){x y z:dP}(hx:x∈rP)(hy:y∈rP)(hz:z∈rP):M3.dX k (pE x) (pE y) (pE z)=aM (Ou x y z).2:=by
 have e1:=rm hx hy;have e2:=rm hy hz;have e3:=rm hx hz;unfold M3.dX LG.gk Ou;simp only [e1,e2,e3,yV.1,yV.2.1,yV.2.2];by_cases h1:x=y
 ·subst h1;by_cases h2:x=z
  ·subst h2;simp [aM]
  ·by_cases h4:k<2<;>simp [h2,h4,aM]
 ·by_cases h2:y=z
  ·subst h2;simp [h1,aM]
  ·by_cases h3:x=z
   ·subst h3;by_cases h4:0<k<;>simp [h1,h2,h4,aM]
   ·simp [h1,h2,h3,aM];exact⟨by decide+kernel,by decide+kernel,by decide+kernel⟩
theorem A8(a b:Rows):jP (a++b)=jP a++jP b:=by simp [jP]
theorem xk{af:Rows}(h:oO af):(60:UInt8)∉jP af:=λhm=>by obtain⟨l,Ik,C6⟩:=List.mem_flatten.mp hm;obtain⟨p,pQ,rfl⟩:=List.mem_map.mp Ik;refine DI p (h p pQ) 60 ?_ rfl;rw [Array.toList_append];exact C6
section
variable{x y z:Nat->dP}
noncomputable def l3(x:Nat->dP):Rows:=[x 0,x 1,x 2]
theorem yH(hy:oO (l3 y))(hz:oO (l3 z)):Gd (LP.plain x y z).2:=by
 rw [di];intro p hp;rcases List.mem_append.mp hp with h|h
 ·exact uc (hy _ (by simp [l3])) (hz _ (by simp [l3])) p h
 ·rcases List.mem_append.mp h with h|h
  ·exact uc (hy _ (by simp [l3])) (hz _ (by simp [l3])) p h
  ·exact uc (hy _ (by simp [l3])) (hz _ (by simp [l3])) p h
theorem lN:0<(LP.plain x y z).2.length/\(LP.plain x y z).2.length<=15:=by rw [di];have h0:=qF (x 0) (y 0) (z 0);have h1:=qF (x 1) (y 1) (z 1);have h2:=qF (x 2) (y 2) (z 2);simp only [List.length_append];lia
theorem Hs(hy:oO (l3 y))(hz:oO (l3 z)):(Bytes.find? (rb (LP.plain x y z).2) (mark 0) 0 (rb (LP.plain x y z).2).size).isSome=(LP.plain x y z).1:=by
 have some:∀A B:Rows,(LP.plain x y z).2=A++((mark 0,#[10])::B)->(Bytes.find? (rb (LP.plain x y z).2) (mark 0) 0 (rb (LP.plain x y z).2).size).isSome=true:=λA B e=>by refine wm (x:=jP A) (y:=10::jP B) ?_;rw [dB,e,A8,fQ];rfl
 cases c0:(Ou (x 0) (y 0) (z 0)).1 with
 |true=>obtain⟨B,hB⟩:=nX c0;rw [some [] (B++((Ou (x 1) (y 1) (z 1)).2++(Ou (x 2) (y 2) (z 2)).2)) (by rw [di,hB];rfl),di,c0];rfl
 |false=>
  cases c1:(Ou (x 1) (y 1) (z 1)).1 with
  |true=>obtain⟨B,hB⟩:=nX c1;rw [some (Ou (x 0) (y 0) (z 0)).2 (B++(Ou (x 2) (y 2) (z 2)).2) (by rw [di,hB];rfl),di,c0,c1];rfl
  |false=>
   cases c2:(Ou (x 2) (y 2) (z 2)).1 with
   |true=>obtain⟨B,hB⟩:=nX c2;rw [some ((Ou (x 0) (y 0) (z 0)).2++(Ou (x 1) (y 1) (z 1)).2) B (by rw [di,hB];simp),di,c0,c1,c2];rfl
   |false=>
    have hs:oO (LP.plain x y z).2:=by
     rw [di];intro p hp;rcases List.mem_append.mp hp with h|h
     ·exact mY (hy _ (by simp [l3])) (hz _ (by simp [l3])) c0 p h
     ·rcases List.mem_append.mp h with h|h
      ·exact mY (hy _ (by simp [l3])) (hz _ (by simp [l3])) c1 p h
      ·exact mY (hy _ (by simp [l3])) (hz _ (by simp [l3])) c2 p h
    rw [pZ (c:=60) (by decide) (by rw [dB];exact xk hs),di,c0,c1,c2];rfl
theorem qD(hy:oO (l3 y))(hz:oO (l3 z)):(rb (LP.plain x y z).2).size<300:=by have h1:=hU (yH (x:=x) hy hz);have h2:=(lN (x:=x) (y:=y) (z:=z)).2;lia
theorem Bn(hx:oO (l3 x))(hy:oO (l3 y))(hz:oO (l3 z))(h1:l3 y≠l3 z)(h2:l3 x≠l3 y)(h3:l3 x≠l3 z):
  Al (rb (l3 x)) (rb (l3 y)) (rb (l3 z)) (λk=>pE (x k)) (λk=>pE (y k)) (λk=>pE (z k)) (aM (LP.plain x y z).2) (LP.plain x y z).1:=by
 have sz:∀u:Nat->dP,oO (l3 u)->∀j,j<3->(pE (u j)).size<=sizeLine:=λu hu j hj=>by
  have hm:u j∈rP:=by exact Tn j hj (hu _ (by simp [l3])) (hu _ (by simp [l3])) (hu _ (by simp [l3]))
  have:=(SJ _ (lI _ hm)).2.1;rw [sizeLine_eq];show(_++_:aU).size<=_;rw [Array.size_append];lia
 have tz:∀u:Nat->dP,oO (l3 u)->(rb (l3 u)).size<=sizeLine:=λu hu=>by have:=hU hu.gd;rw [sizeLine_eq];have e:(l3 u).length=3:=rfl;lia
 have ne:∀u v:Nat->dP,oO (l3 u)->oO (l3 v)->l3 u≠l3 v->rb (l3 u)≠rb (l3 v):=λu v hu hv h e=>h (UC hu.gd hv.gd e);refine⟨SU hx.gd,SU hy.gd,SU hz.gd,sz x hx,sz y hy,sz z hz,tz x hx,tz y hy,tz z hz,ne y z hy hz h1,ne x y hx hy h2,ne x z hx hz h3,λa b c=> ?_,⟨?_,?_⟩,Hs hy hz⟩
 ·show(M3.dX 0 (pE (x 0)) (pE (y 0)) (pE (z 0))++M3.dX 1 (pE (x 1)) (pE (y 1)) (pE (z 1)))++M3.dX 2 (pE (x 2)) (pE (y 2)) (pE (z 2))=_;rw [iZ 0 (hx _ (by simp [l3])) (hy _ (by simp [l3])) (hz _ (by simp [l3])),iZ 1 (hx _ (by simp [l3])) (hy _ (by simp [l3])) (hz _ (by simp [l3])),iZ 2 (hx _ (by simp [l3])) (hy _ (by simp [l3])) (hz _ (by simp [l3])),di];simp [aM]
 ·have hg:=yH (x:=x) hy hz;refine uA 0 (aM (LP.plain x y z).2) 16 (λq hq=> ?_) ?_ nr (by decide)
  ·obtain⟨p,hp,rfl⟩:=List.mem_map.mp hq;have:=(SJ p (hg p hp)).2.1;simpa using this
  ·have:=(lN (x:=x) (y:=y) (z:=z)).2;unfold aM;rw [List.length_map];lia
 ·have:=qD (x:=x) hy hz;rw [sizeLine_eq];show(rb (LP.plain x y z).2).size<=_;lia
theorem um{u v:Nat->dP}(h:l3 u=l3 v):u 0=v 0/\u 1=v 1/\u 2=v 2:=by simpa [l3]using h
theorem D4(hx:oO (l3 x))(hy:oO (l3 y))(hz:oO (l3 z)):MT.lp (rb (l3 x)) (rb (l3 y)) (rb (l3 z)) (rb (LP.plain x y z).2) (LP.plain x y z).1:=by
 by_cases h1:l3 y=l3 z
 ·obtain⟨a,b,c⟩:=um h1;have e:LP.plain x y z=(false,l3 y):=by rw [di];simp [Ou,a,b,c,l3]
  rw [e];exact .eq (by rw [h1])
 ·by_cases h2:l3 x=l3 y
  ·obtain⟨a,b,c⟩:=um h2;have e:LP.plain x y z=(false,l3 z):=by
    rw [di];have o:∀u v:dP,Ou u u v=(false,[v]):=λu v=>by
     unfold Ou;by_cases h:u=v
     ·simp [h]
     ·simp [h]
    rw [<-a,<-b,<-c,o,o,o];rfl
   rw [e];exact .bo (λe=>h1 (UC hy.gd hz.gd e)) (by rw [h2])
  ·by_cases h3:l3 x=l3 z
   ·obtain⟨a,b,c⟩:=um h3;have e:LP.plain x y z=(false,l3 y):=by rw [di];simp [Ou,a,b,c,l3]
    rw [e];exact .bt (λe=>h1 (UC hy.gd hz.gd e)) (λe=>h2 (UC hx.gd hy.gd e)) (by rw [h3])
   ·exact .mg (Bn hx hy hz h1 h2 h3) (qD hy hz)
end
end PL
end H
end Mine
namespace Mine
namespace H
namespace LW
open Mine.H.PL
theorem rW:∀a∈([#[112],#[],#[113,32,114]]:lU),∀e∈([#[10],#[13,10]]:lU),(a,e)∈rP:=by decide+kernel
theorem u5(i:Int):tU i∈([#[112],#[],#[113,32,114]]:lU):=by
 unfold tU;rcases i.toNat with _|_|n
 ·exact .head _
 ·exact .tail _ (.head _)
 ·exact .tail _ (.tail _ (.head _))
theorem lK(g:Int):d6 g∈rP/\((d6 g).1,(#[10]:aU))∈rP:=by refine⟨rW _ (u5 _) _ ?_,rW _ (u5 _) _ (by simp)⟩;unfold zI;split<;>simp
noncomputable def PF(m:Nat->Int)(q:CA)(f g k:Nat):dP:=match conv (tI m f) (eI m f) (aG q g) (cG q g)with
 |true=>((d6 (nk (m (5+3*f+k)) (wL g))).1,#[10])
 |false=>d6 (nk (m (5+3*f+k)) (wL g))
theorem mN(m:Nat->Int)(q:CA)(f g:Nat):CM m q f g=l3 (PF m q f g):=by unfold CM stored l3 PF;cases conv (tI m f) (eI m f) (aG q g) (cG q g)<;>rfl
theorem jg(m:Nat->Int)(q:CA)(f g:Nat):oO (l3 (PF m q f g)):=λp hp=>by
 have key:∀k,PF m q f g k∈rP:=λk=>by
  unfold PF;split
  ·exact(lK _).2
  ·exact(lK _).1
 simp only [l3,List.mem_cons,List.not_mem_nil,or_false]at hp;rcases hp with rfl|rfl|rfl<;>exact key _
theorem pH(m:Nat->Int)(f g:Nat):oO (rY m f g):=λp hp=>by simp only [rY,List.mem_cons,List.not_mem_nil,or_false]at hp;rcases hp with rfl|rfl|rfl<;>exact(lK _).1
theorem Fh(m:Nat->Int)(q:CA):jj m q:=λf g J J=>by
 have hs:Gd (CM m q f g):=by rw [mN];exact(jg m q f g).gd
 have hl:(CM m q f g).length=3:=by rw [mN];rfl
 refine⟨zP hs (by show 0<(CM m q f g).length;lia) (by show(CM m q f g).length<=15;lia),?_,λJ=>⟨Gv (pH m f g).gd (by show 0<3;decide) (by show 3<=15;decide) _ _,lH (pH m f g).gd⟩⟩;have:=hU hs;show(rb (CM m q f g)).size<300;lia
noncomputable def Ol(m:Nat->Int)(q:CA)(f:Nat):Bool:=(LP.plain (PF m q f 0) (PF m q f 1) (PF m q f 2)).1
noncomputable def J2(m:Nat->Int)(q:CA)(f:Nat):Rows:=(LP.plain (PF m q f 0) (PF m q f 1) (PF m q f 2)).2
theorem zN(m:Nat->Int)(q:CA)(f:Nat):Gd (J2 m q f):=yH (jg m q f 1) (jg m q f 2)
theorem vg(m:Nat->Int)(q:CA):Ak (CM m q) (Ol m q) (J2 m q):=by refine⟨λf J=> ?_,λf J=>⟨PF m q f 0,PF m q f 1,PF m q f 2,mN ..,mN ..,mN ..,rfl⟩,λf J=>zP (zN m q f) lN.1 lN.2,λf J=>qD (jg m q f 1) (jg m q f 2)⟩;rw [mN,mN,mN];exact D4 (jg m q f 0) (jg m q f 1) (jg m q f 2)
theorem Gq(m:Nat->Int)(q:CA):qh m q (J2 m q):=λf g J J J=>Gv (zN m q f) lN.1 lN.2 _ _
end LW
namespace LW
theorem I9:bd P=GF P++([aB (bd P) 8,aB (bd P) 9,aB (bd P) 10]++([DT P]++([aB (bd P) 12,aB (bd P) 13]++([aB (bd P) 14]++([aB (bd P) 15]++([aB (bd P) 16]++([DR P]++[aB (bd P) 18]))))))):=by kernel_rfl
theorem Gb(l N t:Nat):∀aa,aE (aR w 300 41 [2,0,0,3,3,0] (.again 42 (Mo w.params N) (bH ((1336,FM.SQ)::fc N (Rq w.params t l) none none none none none none none none none none none) [] (N+12) (t+1))) aa (c l) ⟨[(1336,FM.SQ)],[],N,t⟩):=by apply bh w
variable{w}
theorem v9:LV λa b e=>H.KP P 1320=some (aw #[.bytes nA a,.bytes nB b] e):=⟨2179,2180,0,by kernel_rfl⟩
theorem yZ{l N t M tk e:Nat}{vs:aV}(hn:ly F)(hl:F l=some (aw vs e))(hi:∀v∈vs.toList,∃i t,v= .int i t)(hz:vs.size<=63):
  ab w R F ⟨(1336,FM.SQ)::fc N (Rq w.params t l) none none none none none none none none none none none,[],M,tk⟩ 40 (PySem.execs (bd w.params) (ev w.params N)) λfl F' ah=>fl= .ret (.bool true)/\∃n,F' 1336=some (iz n):=by
 rw [I9];refine ab.seq ?_;refine ab.frame (L1:=fc N (Rq w.params t l) none none none none none none none none none none none) (L2:=[(1336,FM.SQ)]) (G1:=[]) (List.perm_append_comm (l₁:=[(1336,FM.SQ)]) (l₂:=fc N (Rq w.params t l) none none none none none none none none none none none)) cB (Hu hl hi hz) ?_;rintro fl F1 bU l1 ⟨e1,_,i,q,m,tt,r0,r1,p0,p1,ft,ad,hN,h7,e2⟩;refine⟨bU.L++[(1336,FM.SQ)],List.Perm.refl _,e1,?_⟩;rw [e2];subst hN;refine ab.seq ((Eb (w:=w) (R:=R) (F:=F1) (i:=i)).aT ?_);rintro fl F2 fI l2 ⟨e3,_,k,T,n,hk,eZ,ht,e4⟩;subst hk;refine⟨e3,ab.cj e4 cB ?_⟩;have og:=l1.trans l2;refine ab.seq ((Ea (h7.le l2) eZ (hn.le og) (Fh m q)).aT ?_);rintro fl F3 fB l3 ⟨e5,_,x,cs,T',x5,x6,x7,x8,x9,ft,wt,wU,e6⟩;obtain⟨z,rfl,hx,PJ,JR,Qh⟩:=wU.xi;refine⟨e5,ab.cj e6 cB ?_⟩;refine ab.seq ((D9 (eZ.le l3) hx PJ JR Qh (vg m q)).aT ?_);rintro fl F4 xj l4 ⟨e7,_,z',y,T4,dQ,NQ,Q7,P',h8,hy,e8⟩;refine⟨e7,ab.cj e8 cB ?_⟩;have FK:=l3.trans l4;refine ab.seq ((D8 (eZ.le FK) NQ (vg m q)).aT ?_);rintro fl F5 GD l5 ⟨e9,_,du,t0,t1,T5,AD,EE,BH,Qv⟩;refine⟨e9,ab.cj Qv cB ?_⟩;have Pj:=FK.trans l5;refine ab.seq ((D7 (hy.le l5) AD EE BH).aT ?_);rintro fl F6 GC l6 ⟨Qu,_,Qt⟩;refine⟨Qu,ab.cj Qt cB ?_⟩;have NL:=Pj.trans l6;have Oc:=(h7.le l2).le NL;refine ab.seq ((D6 Oc.nl).aT ?_);rintro fl F7 GB l7 ⟨Qs,_,QP,Qr⟩;refine⟨Qs,ab.cj Qr cB ?_⟩;have PV:=fm (m 11) 3 (by decide);have eg:(m 11).fmod 3=(((m 11).fmod 3).toNat:Int):=(Int.toNat_of_nonneg PV.1).symm;have hg:((m 11).fmod 3).toNat<3:=by lia
 rw [eg];have Lb:=NL.trans l7;have hT:TS w F7 k z' y du (Ol m q) (J2 m q):=⟨eZ.le Lb,(hn.le og).le Lb,⟨dQ,_,P'.le (l5.trans (l6.trans l7)),h8,NQ.le (l5.trans (l6.trans l7)),hy.le (l5.trans (l6.trans l7))⟩,⟨t0,t1,(l6.trans l7) _ _ AD,EE.le (l6.trans l7),BH.le (l6.trans l7)⟩,(vg m q).d,(vg m q).z⟩
 refine(D5 (.inl rfl) hT (Oc.le l7) hg (Gq m q)).aT ?_;rintro fl F8 FE l8 Qq;exact⟨Qq,n,l8 _ _ (Lb _ _ ht)⟩
theorem BB{l N t e:Nat}{vs:aV}(hl:F l=some (aw vs e))(hi:∀v∈vs.toList,∃i t,v= .int i t)(hz:vs.size<=63):
  aD w R F ⟨[(1336,FM.SQ)],[],N,t⟩ 42 (c l) λr F' ah=>r= .ok (.ret (.bool true))/\∃n,F' 1336=some (iz n):=by
 refine aD.ej (p:=ly F) (λhh Rl=>by obtain⟨a,b,e,h⟩:=v9 w.params;exact⟨a,b,e,Rl.gO _ _ h⟩) λhn=> ?_;refine aD.run (d:=41) nr (Gb w l N t) λst he=> ?_;rw [eA he];refine aD.func (aX:=41) (((yZ hn hl hi hz).le (by decide)).aT λf F' ah J hh=> ?_);obtain⟨e1,h⟩:=hh;subst e1;exact⟨rfl,h⟩
variable(w)
end LW
namespace LW
theorem sk{cl:Str->Option Addr}{P:Params}{ord:List DictEntry->List DictEntry}:∀(xs:List WData) (s:Shared),(∀x∈xs,∃i,x= .int i)->∃vs t,layAllW [] cl P ord xs s=some (vs,{s with toks:=t})/\(∀v∈vs,∃i t,v=Value.int i t)/\vs.length=xs.length
 |[],s,_=>⟨[],s.toks,rfl,(λv h=>by cases h),rfl⟩
 |x::xs,s,h=>by
  obtain⟨i,rfl⟩:=h x (.head _);obtain⟨vs,t,e,hv,hl⟩:=sk (cl:=cl) (P:=P) (ord:=ord) xs {s with toks:=s.toks+1} λy hy=>h y (.tail _ hy);refine⟨.int i s.toks::vs,t,?_,λv hm=> ?_,congrArg (·+1) hl⟩
  ·show(match layAllW [] cl P ord xs {s with toks:=s.toks+1}with
    |some r=>some (Value.int i s.toks::r.1,r.2)
    |Option.none=>Option.none)=_
   rw [e]
  ·rcases List.mem_cons.mp hm with rfl|hm
   ·exact⟨i,s.toks,rfl⟩
   ·exact hv v hm
theorem pP:∀(xs:List WData),WShape.hasItems [] xs .int=true->∀x∈xs,∃i,x=WData.int i
 |[],_,x,hx=>by cases hx
 |y::xs,h,x,hx=>by
  have h:(WShape.has [] y .int&&WShape.hasItems [] xs .int)=true:=h;rw [Bool.and_eq_true]at h;rcases List.mem_cons.mp hx with rfl|hx
  ·cases x<;>first|exact⟨_,rfl⟩|exact Bool.noConfusion (show false=true from h.1)
  ·exact pP xs h.2 x hx
theorem yG{args:List WData}(h:lw.row.toRowW.claim.pre args=true):∃xs,args=[.list xs]/\(∀x∈xs,∃i,x=WData.int i)/\xs.length<=63:=by
 have h1:(WShape.hasAll [] args [.list .int]&&WTm.holds [] (.and (.not (.lt (.lit (.int 63)) (.len (.arg 0)))) (.lit (.bool true))) {args:=args})=true:=h;rw [Bool.and_eq_true]at h1;obtain⟨h1,h2⟩:=h1;cases args with
 |nil=>cases h1
 |cons x r=>
  cases r with
  |cons y r=>cases(Bool.and_eq_true .. ▸h1:_/\_).2
  |nil=>
   have h1:(WShape.has [] x (.list .int)&&WShape.hasAll [] [] [])=true:=h1;rw [Bool.and_eq_true]at h1;have hx:∃xs,x= .list xs/\WShape.hasItems [] xs .int=true:=by have:=h1.1;cases x<;>first|exact Bool.noConfusion (show false=true from this)|exact⟨_,rfl,(Bool.or_false _).symm.trans this⟩
   obtain⟨xs,rfl,hi⟩:=hx;refine⟨xs,rfl,pP xs hi,?_⟩;have h2:WTm.holds [] (.and (.not .res) (.lit (.bool true))) {args:=[],res:=some (.bool (decide ((63:Int)<xs.length)))}=true:=h2;have h3:∀c,WTm.holds [] (.and (.not .res) (.lit (.bool true))) {args:=[],res:=some (.bool c)}= !c:=λc=>by cases c<;>rfl
   rw [h3]at h2;by_cases rz:(63:Int)<xs.length
   ·rw [decide_eq_true rz]at h2;cases h2
   ·omega
theorem Ky(n:Nat)(h:n<=60):ff n callerA:=⟨rfl,⟨[],rfl⟩,by show 1+claimMargin+6*n<=960;show 1+300+6*n<=960;omega,by show 4+10*n<=9800;omega⟩
theorem AQ:(H1 P).get? 1336=some FM.SQ:=ow (vf P) (Ds P) (by kernel_rfl)
noncomputable def HA(o:Option Obj)(n:Str):Option Value:=match o with
 |some o=>match o.data with
  | .dict es _=>nsFind es n
  |_=>none
 |none=>none
theorem Eu:HA (KP P 3) pj.name=some (.ref 1391):=by kernel_rfl
theorem Ce:∃o vs,KP P 1340=some o/\o.cls= .type "code"/\o.data= .fields vs/\vs[11]? =some (.ref 1336):=by
 have h:(match KP P 1340 with
  |some o=>match o.data with
   | .fields vs=>(o.cls,bP vs.toList 11)
   |_=>(.none,none)
  |none=>(.none,none))=(Value.type "code",some (Value.ref 1336)):=by kernel_rfl
 cases e:KP P 1340 with
 |none=>rw [e]at h;cases h
 |some o=>
  rw [e]at h;obtain⟨cl,dd,dt,sl⟩:=o;cases dt with
  |fields vs=>obtain⟨h1,h2⟩:=Prod.mk.inj h;refine⟨_,vs,rfl,h1,rfl,?_⟩;rw [eU]at h2;simpa using h2
  |_=>cases(Prod.mk.inj h).2
theorem Cs:KP P 1336=none:=by kernel_rfl
theorem vZ(args ds:List WData):lw.row.toRowW.claim.post args (.bool true) ds=true:=by show(WShape.has [] (.bool true) .bool&&WTm.holds [] (.eq .res (.lit (.bool true))) {args:=args,res:=some (.bool true),after:=ds})=true;kernel_rfl
theorem UH{cl:Str->Option Addr}{P:Params}{ord:List DictEntry->List DictEntry}{xs:List WData}{s s':Shared}{v:List Value}(e:layAllW [] cl P ord xs s=some (v,s')):layAllW [] cl P ord [.list xs] s=some ([.ref s'.heap.objs.size],{s' with heap:=s'.heap.push {cls:= .type "list",data:= .seq v.toArray}}):=by
 show(match(match layAllW [] cl P ord xs s with
  |some r=>some (Value.ref r.2.heap.objs.size,({r.2 with heap:=r.2.heap.push {cls:= .type "list",data:= .seq r.1.toArray}}:Shared))
  |none=>none)with
  |some a=>some ([a.1],a.2)
  |none=>none)=_
 rw [e]
theorem call:WalkX qv loose (λJ J=>True) Yf Ya lw.row.toRowW pj [] λf vs=>PySem.call f vs:=by
 intro w s₀ s₁ mg mb G hY a o pm cd doc dV kV ho Q6 N5 N4 FT Ip args vals as L Lp PG Ln NR PD;have e0:s₀.heap=H1 w.params:=congrArg Prod.fst hY;have keep:∀b o,KP w.params b=some o->s₁.heap.get? b=some o:=λb o h=>L.keeps b o (by rw [e0];exact Fp w.params h);have ha:a=1391:=by
  obtain⟨o3,es,ep,h1,h2,J,h3⟩:=G.T.g;have h4:=Eu w.params;cases e:KP w.params 3 with
  |none=>rw [e]at h4;cases h4
  |some o'=>have:=keep 3 o' e;have e5:some o3=some o':=h1.symm.trans this;obtain rfl:=Option.some.inj e5;rw [e]at h4;unfold HA at h4;dsimp only at h4;rw [h2]at h4;have h4:nsFind es pj.name=some (.ref 1391):=h4;rw [h3,FT]at h4;exact Value.ref.inj (Option.some.inj h4)
 subst ha;obtain⟨xs,rfl,zh,hlen⟩:=yG Lp;obtain⟨ord,J,hl⟩:=L.laid;obtain⟨vs,t,e1,BG,JF⟩:=sk (cl:=classAt s₀.heap) (P:=w.params) (ord:=ord) xs s₀ zh;have e2:layAllW [] (classAt s₀.heap) w.params ord [.list xs] s₀=some ([.ref s₀.heap.objs.size],{s₀ with toks:=t,heap:=s₀.heap.push {cls:= .type "list",data:= .seq vs.toArray}}):=UH e1;have e3:some (vals,s₁)=some ([Value.ref s₀.heap.objs.size],{s₀ with toks:=t,heap:=s₀.heap.push {cls:= .type "list",data:= .seq vs.toArray}}):=hl.symm.trans e2;obtain⟨rfl,Pu⟩:=Prod.mk.inj (Option.some.inj e3)
 let l:=s₀.heap.objs.size
 have LA:s₁.heap.get? l=some (aw vs.toArray 0):=by rw [Pu];exact Heap.get?_push_size _ rfl
 have Ik:l=1392:=by show s₀.heap.objs.size=1392;rw [e0];exact DL w.params
 let F:aj:=λb=>if b=1336 then none else s₁.heap.get? b
 have hF:∀b,b≠1336->F b=s₁.heap.get? b:=λb hb=>if_neg hb;have Od:s₁.heap.get? 1336=some FM.SQ:=L.keeps _ _ (by rw [e0];exact AQ w.params);have Rl:bO (H.KP w.params) F [] s₁.heap ⟨[(1336,FM.SQ)],[],s₁.heap.objs.size,s₁.toks⟩:=by
  refine⟨rfl,λp hp=> ?_,by simp,λp hp=> ?_,λb o h=> ?_,λb o h=> ?_,λp hp=>by cases hp⟩
  ·obtain rfl:p=(1336,FM.SQ):=by simpa using hp
   exact Od
  ·obtain rfl:p=(1336,FM.SQ):=by simpa using hp
   exact if_pos rfl
  ·have hb:b≠1336:=λe=>by rw [e,Cs]at h;cases h
   rw [hF b hb];exact keep b o h
  ·by_cases hb:b=1336
   ·have:F b=none:=if_pos hb;rw [this]at h;cases h
   ·rw [hF b hb]at h;exact h
 have PH:F l=some (aw vs.toArray 0):=by rw [hF l (by omega)];exact LA
 have hc:=BB (w:=w) (R:=[]) (F:=F) (N:=s₁.heap.objs.size) (t:=s₁.toks) PH (λv hv=>BG v (by simpa using hv)) (by simpa [JF]using hlen) s₁.heap s₁.gens s₁.drawn s₁.os Rl callerA (Ky 42 (by decide));refine enter_call (codeAny_mono (rl hc (by show AllBare s₁.gens;rw [Ip];exact AllBare.empty)) λr s' h=> ?_);obtain⟨⟨F',ah,hle,cu,ht,UD,rfl,n,H6⟩,IA⟩:=h;refine⟨.inl ⟨.bool true,.bool true,[],rfl,λJ=>rfl,
  .bool true,vZ _ _,λJ=>⟨List.nodup_nil,λa ha=>by cases ha⟩⟩,⟨λb o' hb=> ?_,λb o' hb=> ?_⟩,UD,IA⟩
 ·by_cases h:b=1336
  ·subst h;rw [Od]at hb;obtain rfl:=Option.some.inj hb;refine .inr (.inl ⟨?_,rfl,#[],#[.int 1554 0,.int 4 0,.ref (n+9)],rfl,?_⟩)
   ·obtain⟨oc,vc,g1,g2,g3,g4⟩:=Ce w.params;exact⟨1340,oc,vc,keep _ _ g1,g2,g3,g4⟩
   ·rw [cu.fix _ _ H6];rfl
  ·exact .inl (cu.fix _ _ (hle _ _ (by rw [hF b h];exact hb)))
 ·by_cases h:b=1336
  ·subst h;exact⟨_,cu.fix _ _ H6⟩
  ·exact⟨o',cu.fix _ _ (hle _ _ (by rw [hF b h];exact hb))⟩
end LW
end H
end Mine
end
end
theorem PySem.Challenge.cw_aw0009_01_holds : PySem.Challenge.rw_aw0009_01.Holds :=
 Mine.H.head Mine.HW.ok Mine.H.promised Mine.H.LW.call
