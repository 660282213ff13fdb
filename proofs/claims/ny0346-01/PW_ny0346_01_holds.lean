import PyProof.Rows.All
import Wide.All
import OpenK.AllK
import Wide.FinOn
import KE.KSortTup
import KE.KIntText
import Lean
import PySem.Challenge.RW_ny0346_01
set_option Elab.async false
set_option maxRecDepth 100000
set_option maxHeartbeats 4000000
set_option linter.all false
set_option genInjectivity false
set_option genSizeOf false
set_option backward.match.sparseCases false
noncomputable section
namespace aaq
section
open PySem PySem.W PySem.W.X PyProof.Rows
def CM:Nat:=0x900224a28a2890010490092400412492402490010410010410010410010410010410010410010400010000010410010410010000400010001421450051400410420410400410420410400410420410400410400410411040c41041041041030c30c30c41001041001030c00c2
def NQ:Nat:=0x1000861860061801860010411810410010411810410010411810410010411810410010450011451410c0003040
def NP:Nat:=0x4310808500a2011c00812081451401040010410400410000000030c00820010400c0082000002000000081001040
def H9:Nat:=0xf0023d041040f00104f00f3c00413cf3c03cf0010410010410010410010410010410010410010400010000071c70071c700700004130030c00104c30c00c3000410400410400410400410400410400410400410000400001041001041001000010490092400412492402490010410010410010410010410010410010410010400010000010410010410010000400010001421450051400410420410400410420410400410420410400410400410411040c41041041041030c30c30c41001041001030c00c2
def NO:Nat:=0x1040001041001041041000041040001041001041040
def vY:Nat:=0x2c008c30c30b00104b0441001041001000010490092400412492402490010410010410010410010410010410010410010400010000010410010410010000400010001421450051400410420410400410420410400410420410400410400410411040c41041041041030c30c30c41001041001030c00c2
def NN:Nat:=0xc00841000030020800000800000020400000410c00820000020000000810c00820000020000000810c0082000002000000081001040
def H8:Nat:=0x30008c34d34d30004130030c00104c30c00c3000410400410400410400410400410400410400410000400001041001041001000010490092400412492402490010410010410010410010410010410010410010400010000010410010410010000400010001421450051400410420410400410420410400410420410400410400410411040c41041041041030c30c30c41001041001030c00c2
def H7:Nat:=0x44009249249100105104a28028a28028000104f00f3c00413cf3c03cf0010410010410010410010410010410010410010400010000071c70071c700700004130030c00104c30c00c3000410400410400410400410400410400410400410000400001041001041001000010490092400412492402490010410010410010410010410010410010410010400010000010410010410010000400010001421450051400410420410400410420410400410420410400410400410411040c41041041041030c30c30c41001041001030c00c2
abbrev aw:= @wpAny_bind
abbrev aX:= @wpAny_pure
abbrev fg:= @wpAny_mono
abbrev gj:= @wpAny_field
abbrev cQ:= @codeAny_mono
abbrev dy:= @List.perm_append_comm
abbrev jI:= @List.mem_append_right
abbrev jH:= @List.mem_append_left
abbrev gN:= @List.mem_map_of_mem
abbrev lY:= @List.perm_middle
abbrev cW:= @Nat.lt_of_le_of_lt
abbrev bP:= @Nat.le_trans
abbrev oE:= @Nat.lt_of_lt_of_le
abbrev bC:= @Nat.le_refl
abbrev cY:= @Nat.zero_le
abbrev iw:= @decide_eq_false
abbrev iu:= @decide_eq_true
abbrev eU:= @List.cons_ne_nil
abbrev dS:= @List.not_mem_nil
abbrev ir:= @List.mem_of_getElem?
abbrev iq:= @Heap.get?_push_of_some
abbrev ip:= @Int.fmod_nonneg_of_pos
abbrev jO:= @List.sublist_append_left
abbrev sE:= @Nat.lt_of_succ_lt
abbrev AB:= @Nat.le_of_lt
abbrev jN:= @List.getElem?_eq_getElem
section
variable{α:Type _}
theorem jM{a:α}{l:List α}(h:(a::l).Nodup):a∉l/\l.Nodup:=List.nodup_cons.mp h
theorem bw{a:α}{s u:List α}(h:a∈s++u):a∈s\/a∈u:=List.mem_append.mp h
theorem bu{a b:α}{l:List α}(h:a∈b::l):a=b\/a∈l:=List.mem_cons.mp h
theorem lZ{a b:α}(h:a∈[b]):a=b:=List.mem_singleton.mp h
end
theorem cz{α β:Type _}{f:α->β}{b:β}{l:List α}(h:b∈l.map f):∃a,a∈l/\f a=b:=List.mem_map.mp h
theorem jL{m n:Nat}(h:m∈List.range n):m<n:=List.mem_range.mp h
abbrev jK:= @Nat.le_succ_of_le
abbrev jJ:= @Nat.succ_le_succ
abbrev i8:= @Nat.not_lt_zero
inductive E2.{ua,ub}{A:Sort ua}{B:Sort ub}(p:A->B->Prop):Prop
 |i (a:A) (b:B) (h:p a b):E2 p
inductive E3.{ua,ub,uc}{A:Sort ua}{B:Sort ub}{C:Sort uc}(p:A->B->C->Prop):Prop
 |i (a:A) (b:B) (c:C) (h:p a b c):E3 p
inductive E4.{ua,ub,uc,ud}{A:Sort ua}{B:Sort ub}{C:Sort uc}{D:Sort ud}(p:A->B->C->D->Prop):Prop
 |i (a:A) (b:B) (c:C) (d:D) (h:p a b c d):E4 p
inductive E5.{ua,ub,uc,ud,ue}{A:Sort ua}{B:Sort ub}{C:Sort uc}{D:Sort ud}{E:Sort ue}(p:A->B->C->D->E->Prop):Prop
 |i (a:A) (b:B) (c:C) (d:D) (e:E) (h:p a b c d e):E5 p
inductive E6.{ua,ub,uc,ud,ue,uf}{A:Sort ua}{B:Sort ub}{C:Sort uc}{D:Sort ud}{E:Sort ue}{F:Sort uf}(p:A->B->C->D->E->F->Prop):Prop
 |i (a:A) (b:B) (c:C) (d:D) (e:E) (f:F) (h:p a b c d e f):E6 p
inductive E7.{ua,ub,uc,ud,ue,uf,ug}{A:Sort ua}{B:Sort ub}{C:Sort uc}{D:Sort ud}{E:Sort ue}{F:Sort uf}{G:Sort ug}(p:A->B->C->D->E->F->G->Prop):Prop
 |i (a:A) (b:B) (c:C) (d:D) (e:E) (f:F) (g:G) (h:p a b c d e f g):E7 p
inductive E9.{ua,ub,uc,ud,ue,uf,ug,uh,ui}{A:Sort ua}{B:Sort ub}{C:Sort uc}{D:Sort ud}{E:Sort ue}{F:Sort uf}{G:Sort ug}{H:Sort uh}{I:Sort ui}(p:A->B->C->D->E->F->G->H->I->Prop):Prop
 |i (a:A) (b:B) (c:C) (d:D) (e:E) (f:F) (g:G) (h:H) (i:I) (h:p a b c d e f g h i):E9 p
section
variable(c:Code)
noncomputable def D:Sem Fin:=PySem.W.Fast.tw11892475500146522536 PySem.W.Fast.tw14364793385576792824 c
noncomputable def rC:Bool:=PySem.W.ZFast.zw17772548960776305114 c
theorem mA:c.quiet=rC c:=by unfold rC;rw[<-PySem.W.ZFast.ze17772548960776305114]
theorem Pe:denote table c=D c:=by
 unfold D
 rw[table_eq_tree,<-PySem.W.Fast.te11892475500146522536,<-PySem.W.Fast.te14364793385576792824]
end
noncomputable abbrev Xs(ss:List Stmt)(env:Env):Sem Flow:=PySem.W.Fast.tw12563942051412417395 ss env
section
variable(e:Expr)(env:Env)
noncomputable abbrev Ev:Sem Value:=PySem.W.Fast.tw14044960220447912780 e env
noncomputable abbrev XW:Sem Bool:=PySem.W.Fast.tw15418851999007992765 e env (Ev e env)
end
noncomputable abbrev iC(e:Value)(env:Env)(hs:List ExceptHandler):Sem Flow:=PySem.W.Fast.tw14206642085496868694 e env hs
noncomputable abbrev uW(env:Env)(x:Str)(v:Value):Sem Unit:=PySem.W.Fast.tw7536695828754713326 env x v
theorem Ga(ss:List Stmt)(env:Env):execs ss env=Xs ss env:=by rw[PySem.W.Fast.te12563942051412417395]
section
variable(e:Expr)(env:Env)
theorem Pd:eval e env=Ev e env:=by rw[PySem.W.Fast.te14044960220447912780]
theorem Jj:PySem.isTrue e env (eval e env)=XW e env:=by rw[PySem.W.Fast.te15418851999007992765,PySem.W.Fast.te14044960220447912780]
end
theorem qM(e:Value)(env:Env)(hs:List ExceptHandler):handleBy e env hs=iC e env hs:=by rw[PySem.W.Fast.te14206642085496868694]
theorem AI(env:Env)(x:Str)(v:Value):bindName env x v=uW env x v:=by rw[PySem.W.Fast.te7536695828754713326]
set_option backward.match.sparseCases true in
noncomputable def OW(f0:CmpOp->Value->Value->Option Bool)(f1:CmpOp->String×Str×Str)(f2:Value->Sem Value)(f3:Value->Value->Sem Bool)(f4:Value->Str->Value->Sem (Option Value))(f5:Value->Value->Sem Bool)(u:Sem Value)(op:CmpOp)(a b:Value):Sem Value:=do
 if let some v:=f0 op a b then rule "compare.stand-ins-of-one-thing";return .bool v
 let(_,f,r):=f1 op
 let ta<-f2 a;let tb<-f2 b
 let kF<-if ta !=tb then f3 tb ta else pure false
 if kF then
  if let some v<-f4 b r a then rule "compare.subclass-reflected-first";return v
 if let some v<-f4 a f b then return v
 if !kF then
  if let some v<-f4 b r a then return v
 match op with
 | .Eq=>rule "compare.eq-identity";return .bool (<-f5 a b)
 | .NotEq=>rule "compare.ne-identity";return .bool (!(<-f5 a b))
 |_=>u
noncomputable def j8(op:CmpOp)(a b:Value):Sem Value:=OW PySem.W.Fast.tw13092491172507696223 PySem.W.Fast.tw363932546726248868 PySem.W.Fast.tw14684505520029207082 PySem.W.Fast.tw16098473122060591676 PySem.W.Fast.tw3989567798202555795 PySem.W.Fast.tw2518677612232015263 (unsupported "") op a b
def isEq(op:CmpOp):Bool:=match op with
 | .Eq=>true
 | .NotEq=>true
 |_=>false
theorem D3{op:CmpOp}(h:isEq op=true)(a b:Value):richCompare op a b=holding [a,b] (cRoomFor "comparison" [a,b]>>=fun _=>OW oneThing? cmpInfo typeOf isSubtype tryCompare isSame (unsupported "") op a b):=by
 cases op<;>first|rfl|cases h
theorem Gp{M:Model}{A:Around}{E:Value->Shared->Prop}{s:Shared}{op:CmpOp}{a b:Value}{Q:Value->Shared->Prop}(he:isEq op=true)(hu:A.units<cLine)(h:wpAny M A (j8 op a b) Q E s):wpAny M A (compareOp op a b) Q E s:=by
 have e:compareOp op a b=richCompare op a b:=by cases op<;>first|rfl|cases he
 unfold j8 at h
 rw[<-PySem.W.Fast.te13092491172507696223,<-PySem.W.Fast.te363932546726248868,<-PySem.W.Fast.te14684505520029207082,<-PySem.W.Fast.te16098473122060591676,<-PySem.W.Fast.te3989567798202555795,<-PySem.W.Fast.te2518677612232015263]at h
 rw[e,D3 he]
 exact wpAny_holding (aw (wpAny_cRoomFor hu h))
abbrev Led:=List (Addr×Obj)
structure Ob where
 α:Type
 a:α
 b:α
def Ob.l(o:Ob):Σα:Type,α:=⟨o.α,o.a⟩
def Ob.r(o:Ob):Σα:Type,α:=⟨o.α,o.b⟩
def dD(l:List Ob):Prop:=∀o∈l,o.a=o.b
theorem dD.of:∀{l:List Ob},l.map Ob.l=l.map Ob.r->dD l
 |[],_=>fun _ h=>nomatch h
 |o::l,h=>by
  rw[List.map_cons,List.map_cons]at h
  injection h with h1 h2
  intro x hx
  rcases bu hx with rfl|hx
  ·cases x with
   |mk α a b=>
    unfold Ob.l Ob.r at h1
    exact eq_of_heq (Sigma.mk.inj h1).2
  ·exact dD.of h2 x hx
theorem dD.app{l m:List Ob}:dD (l++m)↔dD l/\dD m:=by
 unfold dD
 constructor
 ·intro h
  exact⟨fun o ho=>h o (jH _ ho),fun o ho=>h o (jI _ ho)⟩
 ·rintro⟨h1,h2⟩ o ho
  rcases bw ho with q|q
  ·exact h1 o q
  ·exact h2 o q
theorem dD.cons{o:Ob}{m:List Ob}:dD (o::m)↔o.a=o.b/\dD m:=by
 unfold dD
 simp only[List.mem_cons,forall_eq_or_imp]
structure Ground where
 at_:Addr->Option Obj
 n:Nat
 lim:∀h:Heap,(∀a o,at_ a=some o->h.get? a=some o)->h.NoLimit
section
variable(o:Obj)
def bh:Prop:=o.cls=.type "frame"/\∃es n,o.data=.dict es n
noncomputable def fI:Bool:=match o.data with
 | .dict _ _=>match o.cls with
  | .type n=>n=="frame"
  |_=>false
 |_=>false
theorem dh:fI o=true↔bh o:=by
 refine⟨fun h=> ?_,fun⟨e2,es,n,e⟩=> ?_⟩
 ·obtain⟨c,d,dt,sl⟩:=o
  cases dt with
  |dict es n=>
   cases c with
   |type m=>exact⟨congrArg Value.type (eq_of_beq h),es,n,rfl⟩
   |_=>nomatch h
  |_=>nomatch h
 ·unfold fI
  rw[e,e2];rfl
def bq:Bool:=match o.slots.toList with
 |[none]=>true
 |_=>false
end
noncomputable def jt:Array (Option Value):= #[none]
def bU(o' o:Obj):Prop:=match bq o with
 |true=>bh o/\∃sl,o'={o with slots:=sl}
 |false=>¬bh o/\o'=o
structure Sat(T:Ground)(s:Shared)(led:Led):Prop where
 get:∀p∈led,∃o',s.heap.get? p.1=some o'/\bU o' p.2
 nd:(led.map (·.1)).Nodup
 low:∀p∈led,T.n<=p.1
 top:∀a o,T.at_ a=some o->s.heap.get? a=some o/\a<T.n
 size:T.n<=s.heap.objs.size
section
variable{o' o:Obj}
theorem bU.fr(l:bU o' o)(h:bh o):bq o=true/\∃sl,o'={o with slots:=sl}:=by
 unfold bU at l
 cases e:bq o with
 |true=>rw[e]at l;exact⟨rfl,l.2⟩
 |false=>rw[e]at l;exact absurd h l.1
theorem bU.no(l:bU o' o)(h:¬bh o):bq o=false/\o'=o:=by
 unfold bU at l
 cases e:bq o with
 |true=>rw[e]at l;exact absurd l.1 h
 |false=>rw[e]at l;exact⟨rfl,l.2⟩
theorem bU.mark(l:bU o' o)(h:bq o=true):bh o/\∃sl,o'={o with slots:=sl}:=by
 unfold bU at l;rw[h]at l;exact l
theorem bU.bare(l:bU o' o)(h:bq o=false):¬bh o/\o'=o:=by
 unfold bU at l;rw[h]at l;exact l
theorem bU.jT(h:bq o=true)(f:bh o){sl:Array (Option Value)}(e:o'={o with slots:=sl}):bU o' o:=by
 unfold bU;rw[h];exact⟨f,sl,e⟩
end
theorem bU.dp{o:Obj}(h:bq o=false)(f:¬bh o):bU o o:=by
 unfold bU;rw[h];exact⟨f,rfl⟩
theorem bU.zo{o' o:Obj}(l:bU o' o):bh o'↔bh o:=by
 by_cases h:bh o
 ·obtain⟨_,sl,rfl⟩:=l.fr h;exact⟨fun _=>h,fun _=>h⟩
 ·obtain⟨_,rfl⟩:=l.no h;exact Iff.rfl
section
variable{T:Ground}{s:Shared}{led:Led}
theorem Sat.at(h:Sat T s led){a:Addr}{o:Obj}(m:(a,o)∈led)(n:¬bh o):s.heap.get? a=some o:=by
 obtain⟨o',e,l⟩:=h.get _ m
 rw[e,(l.no n).2]
theorem Sat.alive(h:Sat T s led){p:Addr×Obj}(m:p∈led):∃o',s.heap.get? p.1=some o':=by
 obtain⟨o',e,_⟩:=h.get _ m
 exact⟨o',e⟩
end
theorem bb{o:Obj}(h:∀es n,o.data≠ .dict es n):¬bh o:=fun⟨_,es,n,e⟩=>h es n e
theorem mG{o:Obj}(h:o.cls≠ .type "frame"):¬bh o:=fun x=>h x.1
structure iE(T:Ground)(s s':Shared)(F:List Addr):Prop where
 keep:∀a o,s.heap.get? a=some o->a∉F->s'.heap.get? a=some o\/(T.n<=a/\bh o/\∃sl,s'.heap.get? a=some {o with slots:=sl})
 live:∀a o,s.heap.get? a=some o->bh o->∃o',s'.heap.get? a=some o'/\bh o'
 gens:s'.gens=s.gens
 drawn:s'.drawn=s.drawn
 os:s'.os=s.os
section
variable{T:Ground}
theorem iE.of_keep{s s':Shared}{F:List Addr}(h:∀a o,s.heap.get? a=some o->s'.heap.get? a=some o)(g:s'.gens=s.gens)(d:s'.drawn=s.drawn)(o:s'.os=s.os):iE T s s' F:=
 ⟨fun a x e _=>.inl (h a x e),fun a x e f=>⟨x,h a x e,f⟩,g,d,o⟩
theorem iE.refl(s:Shared)(F:List Addr):iE T s s F:=iE.of_keep (fun _ _ e=>e) rfl rfl rfl
theorem iE.back{s s':Shared}{F:List Addr}(x:iE T s s' F){a:Addr}(h:s'.heap.get? a=none):a∈F\/s.heap.get? a=none:=by
 by_cases m:a∈F
 ·exact .inl m
 ·cases e:s.heap.get? a with
  |none=>exact .inr rfl
  |some o=>
   rcases x.keep a o e m with q|⟨_,_,sl,q⟩
   ·rw[q]at h;cases h
   ·rw[q]at h;cases h
theorem iE.trans{s s' dB:Shared}{F G:List Addr}(x:iE T s s' F)(y:iE T s' dB G)(h:∀a∈G,a∈F\/s.heap.get? a=none):iE T s dB F:=by
 refine⟨fun a o e n=> ?_,fun a o e f=> ?_,y.gens.trans x.gens,y.drawn.trans x.drawn,y.os.trans x.os⟩
 ·have nG:a∉G:=fun m=>by
   rcases h a m with q|q
   ·exact n q
   ·exact absurd (e.symm.trans q) (by simp)
  rcases x.keep a o e n with q|⟨q1,q2,sl,q3⟩
  ·exact y.keep a o q nG
  ·rcases y.keep a _ q3 nG with z|⟨_,_,rq,z⟩
   ·exact .inr ⟨q1,q2,sl,z⟩
   ·exact .inr ⟨q1,q2,rq,z⟩
 ·obtain⟨o',e',f'⟩:=x.live a o e f
  exact y.live a o' e' f'
theorem iE.Ni{s s':Shared}{F:List Addr}(x:iE T s s' F){a:Addr}{o o':Obj}(e:s.heap.get? a=some o')(l:bU o' o)(n:a∉F):∃Wg,s'.heap.get? a=some Wg/\bU Wg o:=by
 rcases x.keep a o' e n with q|⟨_,f,sl,q⟩
 ·exact⟨o',q,l⟩
 ·have fo:=l.zo.mp f
  obtain⟨m,rq,rfl⟩:=l.fr fo
  exact⟨_,q,bU.jT m fo rfl⟩
end
section
variable(T:Ground)(s:Shared)
def Frames(fs:List Env):Prop:=∀env∈fs,env.scope.kind≠ .module/\E2 fun L o=>env.frame=some L/\T.n<=L/\s.heap.get? L=some o/\bh o
theorem Frames.nil:Frames T s []:=fun _ h=>nomatch h
end
theorem Frames.iD{T:Ground}{s s':Shared}{F:List Addr}{fs:List Env}(h:Frames T s fs)(x:iE T s s' F):Frames T s' fs:=fun env he=>by
 obtain⟨k,L,o,f,l,e,i⟩:=h env he
 obtain⟨o',e',i'⟩:=x.live L o e i
 exact⟨k,L,o',f,l,e',i'⟩
structure iz(n:Nat)(A:Around):Prop where
 depth:A.depth+6*n<900
 units:A.units+20*n<9000
abbrev Rm:=Nat×List Env
def cP(n:Option Rm)(A:Around):Prop:=match n with
 |none=>True
 |some n=>iz n.1 A/\A.frames=some n.2
def qI(lv:Option Nat)(fs:List Env)(A:Around):Prop:=match lv with
 |none=>True
 |some n=>iz n A/\A.frames=some fs
def dw(rm:Option Rm):List Env:=match rm with
 |none=>[]
 |some n=>n.2
def vC(need:Option Nat)(NK:Option Rm):Bool:=match need with
 |none=>true
 |some m=>match NK with
  |none=>false
  |some n=>Nat.ble m n.1
theorem iz.le{m n:Nat}{A:Around}(h:iz n A)(l:m<=n):iz m A:=⟨by have:=h.depth;lia,by have:=h.units;lia⟩
theorem vC.room{m:Option Nat}{n:Option Rm}{A:Around}(e:vC m n=true)(h:cP n A):qI m (dw n) A:=by
 cases m with
 |none=>trivial
 |some m=>
  cases n with
  |none=>cases e
  |some n=>exact⟨iz.le h.1 (Nat.le_of_ble_eq_true e),h.2⟩
structure Done{T:Ground}(s s':Shared)(led sel:Led):Prop where
 sat:Sat T s' sel
 iD:iE T s s' (led.map (·.1))
 grow:∀p∈sel,p.1∈led.map (·.1)\/s.heap.get? p.1=none
structure Told where
 r:Result
 post:List Obj
 new:Led
 obs:List Ob
 rest:Led:=[]
abbrev Mu:=(Nat->Nat)×(Nat->List Value)
abbrev Sl:=Addr->Array (Option Value)
abbrev M3:=(Nat->Nat)×(Nat->List Value)×Sl
noncomputable def pr(m:M3):Mu:=(m.1,m.2.1)
noncomputable def eQ:Mu:=(fun _=>0,fun _=>[])
noncomputable def YM:M3:=(fun _=>0,fun _=>[],fun _=> #[])
def e5(s:Shared):Sl:=fun a=>match s.heap.get? a with
 |some o=>match fI o with
  |true=>o.slots
  |false=> #[]
 |none=> #[]
structure Sm(prog:Program)(w:World)(T:Ground)where
 lv:Option Nat
 go:Option Value->List Env->Code->Led->Led->Mu->Option Told
 ok:∀(hd:Option Value) (fs:List Env) (c:Code) (pre tail:Led) (A:Around) (s:Shared) (R:Result->Shared->Prop),A.handled=hd->qI lv fs A->Frames T s fs->Sat T s (pre++tail)->(∀μ,∃t,go hd fs c pre tail μ=some t/\dD t.obs)->
  (∀μ t s',go hd fs c pre tail μ=some t->t.post.length=pre.length->Done (T:=T) s s' (pre++tail) ((pre.map (·.1)).zip t.post++(t.new++t.rest))->R t.r s')->codeAny (model prog w) A c R s
section
variable(prog:Program)(w:World)(T:Ground)
abbrev Nu:=Nat->M3
def trunc(j:Nat)(ν:Nu):Nu:=fun i=>match Nat.blt i j with
 |true=>ν i
 |false=>YM
structure St where
 led:Led
 j:Nat
 hs:Nat
 xs:List (Nu->Sm prog w T)
 obs:List Ob
noncomputable def bJ{α:Type _}{β:Type _}(o:Option α)(f:α->Option β):Option β:=match o with
 |some a=>f a
 |none=>none
section
variable{β:Type _}(b:Bool)(o:Option β)
noncomputable def gd:Option β:=match b with
 |true=>o
 |false=>none
noncomputable def ug:Option β:=match b with
 |true=>none
 |false=>o
end
theorem eP{α:Type _}{β:Type _}{o:Option α}{f:α->Option β}{b:β}{P:Prop}(h:bJ o f=some b)(k:∀a,o=some a->f a=some b->P):P:=by
 cases o with
 |none=>nomatch h
 |some a=>exact k a rfl h
section
variable{β:Type _}{b:Bool}{o:Option β}{x:β}{P:Prop}
theorem N0(h:gd b o=some x)(k:b=true->o=some x->P):P:=by
 cases b with
 |true=>exact k rfl h
 |false=>nomatch h
theorem QL(h:ug b o=some x)(k:b=false->o=some x->P):P:=by
 cases b with
 |false=>exact k rfl h
 |true=>nomatch h
end
section
variable(v:Value)
def rz:Option Addr:=match v with
 | .ref a=>some a
 |_=>none
def uS:Option Bool:=match v with
 | .bool b=>some b
 |_=>none
noncomputable def Ko:Option Str:=match v with
 | .str q _=>some q
 |_=>none
def QM:Option String:=match v with
 | .type n=>some n
 |_=>none
noncomputable def CD:Bool:=match v with
 | .none=>true
 |_=>false
end
def zH(o:Obj):Option (Array Value):=match o.data with
 | .fields vs=>some vs
 |_=>none
def N2(o:Obj):Option FuncData:=match o.data with
 | .func fd=>some fd
 |_=>none
def HT(o:Obj):Bool:=match o.data with
 | .dict _ _=>true
 |_=>false
def GC(fd:FuncData):Option (List Stmt):=match fd.body with
 | .stmts b=>some b
 | .expr _=>none
section
variable{v:Value}
theorem vp{a:Addr}(h:rz v=some a):v=.ref a:=by
 cases v with
 |ref=>cases h;rfl
 |_=>nomatch h
theorem F6{a:Bool}(h:uS v=some a):v=.bool a:=by
 cases v with
 |bool=>cases h;rfl
 |_=>nomatch h
theorem Q1{a:Str}(h:Ko v=some a):∃t,v=.str a t:=by
 cases v with
 |str=>cases h;exact⟨_,rfl⟩
 |_=>nomatch h
theorem VI{a:String}(h:QM v=some a):v=.type a:=by
 cases v with
 |type=>cases h;rfl
 |_=>nomatch h
theorem Fs(h:CD v=true):v=.none:=by
 cases v with
 |none=>rfl
 |_=>nomatch h
end
theorem wi{o:Obj}{vs:Array Value}(h:zH o=some vs):o.data=.fields vs:=by
 obtain⟨_,_,d,_⟩:=o
 cases d with
 |fields=>cases h;rfl
 |_=>nomatch h
theorem T7{o:Obj}{fd:FuncData}(h:N2 o=some fd):o.data=.func fd:=by
 obtain⟨_,_,d,_⟩:=o
 cases d with
 |func=>cases h;rfl
 |_=>nomatch h
theorem Ny{o:Obj}(h:HT o=true):∃es n,o.data=.dict es n:=by
 obtain⟨_,_,d,_⟩:=o
 cases d with
 |dict es n=>exact⟨es,n,rfl⟩
 |_=>nomatch h
theorem Q2{fd:FuncData}{b:List Stmt}(h:GC fd=some b):fd.body=.stmts b:=by
 unfold GC at h
 cases e:fd.body with
 |stmts=>rw[e]at h;cases h;rfl
 |expr=>rw[e]at h;nomatch h
def jh:Led->Nat->Option (Addr×Obj)
 |[],_=>none
 |p::l,i=>match Nat.beq i 0 with
  |true=>some p
  |false=>jh l (Nat.pred i)
noncomputable def put:Led->Nat->Obj->Led
 |[],_,_=>[]
 |p::l,i,o=>match Nat.beq i 0 with
  |true=>(p.1,o)::l
  |false=>p::put l (Nat.pred i) o
noncomputable def foot(led:Led):Nat->Nat->Option (Led×List Nat×Nat)
 |0,hs=>some ([],[],hs)
 |n+1,hs=>bJ (jh led (hs%64)) fun p=>bJ (foot led n (hs/64)) fun r=>some (p::r.1,(hs%64)::r.2.1,r.2.2)
noncomputable def cut:Nat->Led->Led×Led
 |0,l=>([],l)
 |n+1,l=>match l with
  |[]=>([],[])
  |p::l=>match cut n l with
   |(a,b)=>(p::a,b)
def parts(led:Led)(hs:Nat):Led×Led×Nat:=match Nat.beq (hs%64) 0 with
 |true=>(led,[],hs/64)
 |false=>match cut (Nat.pred (hs%64)) led with
  |(a,b)=>(a,b,hs/64)
def pG:Led->List Nat->List Obj->Led
 |led,i::is,o::os=>pG (put led i o) is os
 |led,_,_=>led
def glue(d:Nat)(l r:Led):Led:=match Nat.beq (d%64) 0 with
 |true=>l
 |false=>l++r
theorem zz(d:Nat)(l r:Led):(glue d l r).Sublist (l++r):=by
 unfold glue
 cases Nat.beq (d%64) 0 with
 |true=>exact jO _ _
 |false=>exact List.Sublist.refl _
def distinct:List Nat->Bool
 |[]=>true
 |i::is=>(is.all fun k=> !(Nat.beq k i))&&distinct is
noncomputable def jr(c:Code):Option Env:=match c with
 | .func _ env=>some env
 |_=>none
theorem Iz{c:Code}{env:Env}(h:jr c=some env):c.envs=[env]:=by
 cases c with
 |func=>cases h;rfl
 |_=>nomatch h
def sb(c:Code)(n:Nat)(fs:List Env):Option Rm:=match jr c with
 |some env=>some (n,env::fs)
 |none=>match c.envs with
  |[]=>some (n,fs)
  |_::_=>none
def EM(c:Code)(rm:Option Rm):Option Rm:=match rm with
 |some (n+1,fs)=>ug (PySem.W.ZFast.zw2167841511373827401 c) (sb c n fs)
 |_=>none
def ET(l:List Value):Option Str:=match l with
 |_::v::_=>Ko v
 |_=>none
theorem Lh{l:List Value}{q:Str}(h:ET l=some q):∃t,l[1]? =some (.str q t):=by
 cases l with
 |nil=>nomatch h
 |cons a l=>
  cases l with
  |nil=>nomatch h
  |cons v l=>obtain⟨t,rfl⟩:=Q1 h;exact⟨t,rfl⟩
def oj(a:Addr):Option (FuncData×List Stmt):=
 bJ (T.at_ a) fun o=>bJ (N2 o) fun fd=>bJ (GC fd) fun body=>ug (fd.scope.isCoroutine||fd.scope.isGenerator) (bJ (rz fd.code) fun cc=>bJ (T.at_ cc) fun oc=>bJ (zH oc) fun vs=>bJ (ET vs.toList) fun q=>gd (Fast.sEq q fd.qualname) (some (fd,body)))
noncomputable def Bk(head:Value)(L:Addr)(pl:List Value):Obj:={cls:=.type "traceback",data:=.fields (head:: .ref L:: .none:: .none:: .none::pl).toArray}
def bE(target:Expr)(it:Value)(env:Env):Sem Bool:=do
 match<-PySem.W.Fast.tw9404975358583537561 it with
 |none=>pure false
 |some v=>do
  PySem.W.Fast.tw1578499551869305889 target it v
  PySem.W.Fast.tw17772580674575903948 target env v
  pure true
abbrev Out(α:Type):=Option (Except Value α×St prog w T)
structure Rec where
 t:Option Value->Option Rm->(α:Type)->Sem α->St prog w T->Out prog w T α
 c:Option Value->Option Rm->Code->St prog w T->Out prog w T Flow
 e:Option Value->Option Rm->Expr->Env->St prog w T->Out prog w T Value
 q:Option Value->Option Rm->Expr->Env->St prog w T->Out prog w T Bool
 a:Option Value->Option Rm->BoolOp->List Expr->Env->St prog w T->Out prog w T Bool
 b:Option Value->Option Rm->List Stmt->Env->St prog w T->Out prog w T Flow
section
variable{prog w T}
def AX{α:Type}{γ:Sort _}(f:α->γ)(g:Value->γ)(x:Except Value α):γ:=match x with
 | .ok a=>f a
 | .error e=>g e
section
variable{α β:Type}(r:Out prog w T α)
noncomputable def bx(F:Except Value α->St prog w T->Out prog w T β):Out prog w T β:=match r with
 |some p=>F p.1 p.2
 |none=>none
def qB(f:α->St prog w T->Out prog w T β)(g:Value->St prog w T->Out prog w T β):Out prog w T β:=bx r (AX f g)
end
noncomputable def JZ{α:Type}(e:Value)(st:St prog w T):Out prog w T α:=some (.error e,st)
noncomputable def hE{α:Type}(a:α)(st:St prog w T):Out prog w T α:=some (.ok a,st)
def Wh{α β:Type}(_:α)(_:St prog w T):Out prog w T β:=none
def cB{α β:Type}(r:Out prog w T α)(f:α->St prog w T->Out prog w T β):Out prog w T β:=qB r f JZ
def calm{α:Type}(r:Out prog w T α):Out prog w T α:=qB r hE Wh
section
variable(st:St prog w T)
def St.next:St prog w T:={st with hs:=st.hs/64}
def St.ob(o:Ob):St prog w T:={st with obs:=o::st.obs}
def St.JI(l:List Ob):St prog w T:={st with hs:=st.hs/64,obs:=l++st.obs}
def St.JJ(a:Addr)(o:Obj):St prog w T:={st with led:=(a,o)::st.led,j:=st.j+1}
def St.G8(i:Nat)(o:Obj)(l:List Ob):St prog w T:={st with led:=put st.led i o,hs:=st.hs/64,obs:=l++st.obs}
end
end
def kj(self:Rec prog w T)(hd:Option Value)(rm:Option Rm)(c:Code)(st:St prog w T):Out prog w T Flow:=match c with
 | .call (.ref a) args=>match rm with
  |some (n+1,fs)=>bJ (oj T a) fun p=>cB (calm (self.t hd (some (n,fs)) (List (Str×Value)) (PySem.W.Fast.tw9782568553167038054 p.1 args) st)) fun binds bF=>
   cB (calm (self.t hd (some (n,fs)) Env (PySem.W.Fast.tw11113344188204177931 p.1.scope p.1.globals p.1.closure binds (p.1.qualname++".<locals>.") (some a) p.1.code none p.1.builtins) bF)) fun env c8=>self.c hd (some (n+1,fs)) (.func p.2 env) c8
  |_=>none
 |_=>none
noncomputable def BA(P:Params)(b:Bool):Params:={P with followText:=fun _=>b}
noncomputable def tF(i:Nat):String:=match Nat.beq i 1 with
 |true=>"special-get-raises"
 |false=>match Nat.beq i 2 with
  |true=>"for-iterable-display-folded"
  |false=>match Nat.beq i 3 with
   |true=>"set-order"
   |false=>match Nat.beq i 4 with
    |true=>"comprehension-iter-twice"
    |false=>"augassign-slice-made-twice"
variable(ν:Nu)
def Kb{α:Type _}(l:List α):Option (α×List α):=match l with
 |[]=>none
 |y::ys=>some (y,ys)
def GA(hd:Option Value)(rm:Option Rm)(c:Code)(st:St prog w T)(y:Sm prog w T)(ys:List (Nu->Sm prog w T))(p:Led×Led×Nat):Out prog w T Flow:=
 bJ (foot p.1 (Nat.pred (st.hs%64)) p.2.2) fun f=>gd (distinct f.2.1) (bJ (y.go hd (dw rm) c f.1 p.2.1 (pr (ν st.j))) fun t=>
  some (t.r,{led:=t.new++glue (st.hs/64) (pG p.1 f.2.1 t.post) t.rest,j:=st.j+1,hs:=f.2.2,xs:=ys,obs:=t.obs++st.obs}))
section
variable(self:Rec prog w T)(hd:Option Value)(rm:Option Rm)
def sr(c:Code)(st:St prog w T):Out prog w T Flow:=
 cond (Nat.beq (st.hs%64) 0) (self.c hd rm c st.next) (cond (Nat.beq (st.hs%64) 63) (kj prog w T self hd rm c st.next)
  (bJ (Kb st.xs) fun p=>gd (vC (p.1 (trunc st.j ν)).lv rm) (GA prog w T ν hd rm c st (p.1 (trunc st.j ν)) p.2 (parts st.led (st.hs/64)))))
def stepT(α:Type)(t:Sem α)(st:St prog w T):Out prog w T α:=match t with
 | .pure a=>hE a st
 | .raise e=>JZ e st
 | .rule _ k=>self.t hd rm α (k ()) st
 | .at _ k=>self.t hd rm α (k ()) st
 | .point _ k=>self.t hd rm α (k ()) st
 | .ask k=>cond (Nat.beq (st.hs%64) 0) (self.t hd rm α (k ⟨prog,w.params⟩) st.next)
  (self.t hd rm α (k ⟨prog,BA w.params true⟩) (st.JI [⟨Sem α,k ⟨prog,w.params⟩,k ⟨prog,BA w.params (w.params.followText (tF (st.hs%64)))⟩⟩,⟨Sem α,k ⟨prog,BA w.params false⟩,k ⟨prog,BA w.params true⟩⟩]))
 | .fresh k=>self.t hd rm α (k ((ν st.j).1 0)) {st with j:=st.j+1}
 | .handled own k=>ug own (self.t hd rm α (k hd) st)
 | .load a _ k=>cond (Nat.beq (st.hs%64) 0) (bJ (T.at_ a) fun o=>self.t hd rm α (k o) st.next)
  (bJ (jh st.led (Nat.pred (st.hs%64))) fun p=>cond (bq p.2) (self.t hd rm α (k {p.2 with slots:=(ν st.j).2.2 p.1}) (st.JI [⟨Nat,a,p.1⟩])) (self.t hd rm α (k p.2) (st.JI [⟨Nat,a,p.1⟩])))
 | .alloc o k=>ug o.isFreed (cond (fI o) (self.t hd rm α (k ((ν st.j).1 0)) (st.JJ ((ν st.j).1 0) {o with slots:=jt}))
  (ug (bq o) (self.t hd rm α (k ((ν st.j).1 0)) (st.JJ ((ν st.j).1 0) o))))
 | .update a _ f k=>bJ (jh st.led (Nat.pred (st.hs%64))) fun p=>cond (bq p.2)
  (gd (HT (f {p.2 with slots:=(ν st.j).2.2 p.1})) (self.t hd rm α (k ()) (st.G8 (Nat.pred (st.hs%64)) {f {p.2 with slots:=(ν st.j).2.2 p.1}with slots:=jt}
   [⟨Nat,a,p.1⟩,⟨Value,(f {p.2 with slots:=(ν st.j).2.2 p.1}).cls,p.2.cls⟩,⟨Array (Option Value),(f {p.2 with slots:=(ν st.j).2.2 p.1}).slots,(ν st.j).2.2 p.1⟩])))
  (ug ((f p.2).isFreed||bq (f p.2)||fI (f p.2)) (self.t hd rm α (k ()) (st.G8 (Nat.pred (st.hs%64)) (f p.2) [⟨Nat,a,p.1⟩])))
 | .call c h _ _ k=>gd (okMark h) (bx (sr prog w T ν self (h.or hd) rm c st) fun r st'=>self.t hd rm α (k r) st')
 |_=>none
end
def Er(l:List Value):Option (Value×Value×List Value):=match l with
 |v0::tb::r=>some (v0,tb,r)
 |_=>none
def PC(l:List Value):Bool:=match l with
 |_::_::_::v::_=>CD v
 |_=>false
def zF(tb:Value)(st:St prog w T):Option (List Ob×Nat):=cond (CD tb) (some ([],st.hs/64))
 (bJ (rz tb) fun h=>bJ (jh st.led (Nat.pred (st.hs/64%64))) fun p=>ug (Nat.beq (Nat.pred (st.hs/64%64)) (Nat.pred (st.hs%64))) (bJ (zH p.2) fun ws=>gd (PC ws.toList) (some ([⟨Nat,h,p.1⟩],st.hs/64/64))))
def qp(rm:Option Rm)(env:Env)(e:Value)(st:St prog w T):Out prog w T Unit:=
 bJ (Kb (dw rm)) fun fs=>bJ env.frame fun L=>bJ (rz e) fun a=>bJ (jh st.led (Nat.pred (st.hs%64))) fun p=>bJ (zH p.2) fun vs=>bJ (Er vs.toList) fun v=>bJ (zF prog w T v.2.1 st) fun z=>
  hE () {led:=((ν st.j).1 0,Bk v.2.1 L ((ν st.j).2.1 0))::put st.led (Nat.pred (st.hs%64)) {p.2 with data:=.fields (v.1:: .ref ((ν st.j).1 0)::v.2.2).toArray},j:=st.j+1,hs:=z.2,xs:=st.xs,obs:=(z.1++[⟨Nat,a,p.1⟩,⟨Env,env,fs.1⟩])++st.obs}
def Jc(self:Rec prog w T)(hd:Option Value)(rm:Option Rm)(op:CmpOp)(l r:Expr)(env:Env)(st:St prog w T):Out prog w T Value:=bJ rm fun _=>gd (isEq op&& !(behindInMarks op r))
 (cB (self.e hd rm l env st) fun va bF=>cB (self.e hd rm r env bF) fun vb c8=>self.t hd rm Value (j8 op va vb) c8)
def ki(op:BoolOp)(t:Bool):Bool:=match op with
 | .And=> !t
 | .Or=>t
def XN(self:Rec prog w T)(hd:Option Value)(rm:Option Rm)(op:BoolOp)(y:Expr)(env:Env)(v:Value)(st:St prog w T):Out prog w T Value:=bJ (uS v) fun t=>cond (ki op t) (hE v st) (self.e hd rm y env st)
section
variable{α:Type}(l:List α)
noncomputable def pP:Option α:=match l with
 |[x]=>some x
 |_=>none
def Kh:Option (α×α):=match l with
 |[x,y]=>some (x,y)
 |_=>none
end
section
variable(self:Rec prog w T)(hd:Option Value)(rm:Option Rm)
def Et(e:Expr)(env:Env)(st:St prog w T):Out prog w T Value:=cond (Nat.beq (st.hs%64) 0) (self.t hd rm Value (Ev e env) st.next) (match e with
 | .Compare l ops rs _=>bJ (pP ops) fun op=>bJ (pP rs) fun r=>Jc prog w T self hd rm op l r env st.next
 | .BoolOp op es _=>bJ (Kh es) fun x=>cB (self.e hd rm x.1 env st.next) (XN prog w T self hd rm op x.2 env)
 |_=>none)
def Es(e:Expr)(env:Env)(st:St prog w T):Out prog w T Bool:=cond (Nat.beq (st.hs%64) 0) (self.t hd rm Bool (XW e env) st.next) (match e with
 | .Compare l ops rs _=>bJ (pP ops) fun op=>bJ (pP rs) fun r=>cB (Jc prog w T self hd rm op l r env st.next) fun v bF=>bJ (uS v) fun b=>hE b bF
 | .BoolOp op es _=>self.a hd rm op es env st.next
 |_=>none)
def Ex(op:BoolOp)(es:List Expr)(env:Env)(st:St prog w T):Out prog w T Bool:=match es with
 |[]=>hE (!ki op true) st
 |e::rest=>cB (self.q hd rm e env st) fun b bF=>cond (ki op b) (hE b bF) (self.a hd rm op rest env bF)
end
def HS(f:Flow):Bool:=match f with
 | .next=>true
 |_=>false
def kc(self:Rec prog w T)(hd:Option Value)(rm:Option Rm)(rest:List Stmt)(env:Env)(f:Flow)(st:St prog w T):Out prog w T Flow:=cond (HS f) (self.b hd rm rest env st) (hE f st)
def OY(x:Str)(p:Pos)(e:Expr)(pos:Pos)(env:Env):Ob:=⟨Sem Bool,swapsWith e (some (.Name x p)) pos.line env,pure false⟩
def M5(ts:List Expr):Option (Str×Pos):=bJ (pP ts) fun t=>match t with
 | .Name x p=>some (x,p)
 |_=>none
section
variable(self:Rec prog w T)(hd:Option Value)(rm:Option Rm)
def Kq(s:Stmt)(rest:List Stmt)(env:Env)(st:St prog w T):Out prog w T Flow:=match s with
 | .If test body orelse _=>cB (self.q hd rm test env st) fun b bF=>cB (self.b hd rm (cond b body orelse) env bF) (kc prog w T self hd rm rest env)
 | .Return e _=>bJ e fun e=>cB (self.e hd rm e env st) fun v bF=>hE (Flow.ret v) bF
 | .Assign ts e pos=>bJ (M5 ts) fun x=>cB (self.e hd rm e env (st.ob (OY x.1 x.2 e pos env))) fun v bF=>cB (self.t hd rm Unit (uW env x.1 v) bF) fun _ c8=>self.b hd rm rest env c8
 | .Try body hs orelse final _=>ug (hs.isEmpty|| !orelse.isEmpty|| !final.isEmpty)
  (qB (self.b hd rm body env st) (kc prog w T self hd rm rest env) fun e bF=>cB (qp prog w T ν rm env e bF) fun _ c8=>cB (self.t hd rm Flow (iC e env hs) c8) (kc prog w T self hd rm rest env))
 |_=>none
def Ew(ss:List Stmt)(env:Env)(st:St prog w T):Out prog w T Flow:=match ss with
 |[]=>hE .next st
 |s::rest=>cond (Nat.beq (st.hs%64) 0) (cB (self.t hd rm Flow (Xs [s] env) st.next) (kc prog w T self hd rm rest env))
  (cond (Nat.beq (st.hs%64) 1) (Kq prog w T ν self hd rm s rest env st.next) (self.t hd rm Flow (Xs (s::rest) env) st.next))
end
def inDef(k:ScopeKind):Bool:=match k with
 | .module=>false
 |_=>true
def N6(env:Env)(led:Led)(k:Nat):Option Ob:=gd (inDef env.scope.kind) (bJ env.frame fun L=>bJ (jh led k) fun p=>gd (bq p.2) (some ⟨Nat,L,p.1⟩))
def DR(c:Code)(n:Nat):Nat:=match jr c with
 |some _=>n%2
 |none=>n
def eu(c:Code)(f:Flow):Fin:=match f with
 | .next=>.again c
 | .cont=>.again c
 | .brk=>.done .next
 | .ret v=>.done (.ret v)
def K2(f:Flow):Value:=match f with
 | .ret v=>v
 |_=>.none
section
variable(self:Rec prog w T)(hd:Option Value)(rm:Option Rm)(c:Code)
def y6(body:List Stmt)(env:Env)(st:St prog w T):Out prog w T Fin:=
 cB (self.b hd rm body env st) fun f bF=>hE (eu c f) bF
def It(body orelse:List Stmt)(env:Env)(b:Bool)(st:St prog w T):Out prog w T Fin:=
 cond b (y6 prog w T self hd rm c body env st) (hE (Fin.again (.block orelse env)) st)
end
noncomputable def nZ(T:String):Bool:=T=="list_iterator"||T=="tuple_iterator"||T=="range_iterator"||T=="dict_keyiterator"||T=="str_ascii_iterator"||T=="str_iterator"||T=="dict_valueiterator"
noncomputable def xx(gs:List Comprehension):Bool:=match gs with
 |g::_=>Nat.beq g.is_async.natAbs 0
 |_=>false
def xA(e:Expr):Bool:=match e with
 | .ListComp _ gs _ _=>xx gs
 | .DictComp _ _ gs _ _=>xx gs
 |_=>false
def xD(e:Expr)(depth:Nat)(it acc:Value)(env:Env)(st:St prog w T):Out prog w T Fin:=gd (xA e&&Nat.beq depth 0) (bJ (rz it) fun a=>bJ (jh st.led (Nat.pred (st.hs%64))) fun p=>bJ (QM p.2.cls) fun n=>gd (nZ n)
 (hE (Fin.again (.compLoop e depth it acc env)) (st.JI [⟨Nat,a,p.1⟩])))
structure AH where
 elt:Expr
 target:Expr
 iter:Expr
 cond:Expr
 sc:Scope
 pos:Pos
def F5(e:Expr)(depth:Nat):Option AH:=match e with
 | .ListComp elt gens sc pos=>bJ (pP gens) fun g=>bJ (pP g.ifs) fun c=>gd (Nat.beq depth 0&&Nat.beq g.is_async.natAbs 0) (some ⟨elt,g.target,g.iter,c,sc,pos⟩)
 |_=>none
def Kp(self:Rec prog w T)(hd:Option Value)(rm:Option Rm)(c:Code)(st:St prog w T):Out prog w T Fin:=match c with
 | .func body env=>qB (self.b hd rm body env st) (fun f bF=>hE (Fin.done (.ret (K2 f))) bF) fun e bF=>cB (qp prog w T ν rm env e bF) fun _ c8=>JZ e c8
 | .whileLoop test body orelse env=>calm (cB (self.q hd rm test env st) fun b bF=>cond b (y6 prog w T self hd rm (.whileLoop test body orelse env) body env bF) (cB (self.b hd rm orelse env bF) fun f c8=>hE (Fin.done f) c8))
 | .forLoop target it body orelse env=>calm (cB (self.t hd rm Bool (bE target it env) st) (It prog w T self hd rm (.forLoop target it body orelse env) body orelse env))
 | .compLoop e depth it acc env=>bJ (F5 e depth) fun z=>calm (cB (self.t hd rm Bool (bE z.target it env) st) fun b bF=>cond b (cB (self.q hd rm z.cond env bF) fun ok c8=>cond ok (cB (self.e hd rm z.elt env c8) fun v Ey=>cB (self.t hd rm Value (call (.builtin "list.append") [acc,v]) Ey) fun _ Pm=>hE (Fin.again (.compLoop e depth it acc env)) Pm)
  (hE (Fin.again (.compLoop e depth it acc env)) c8)) (hE (Fin.done .next) bF))
 | .compStart e depth it acc env=>xD prog w T e depth it acc env st
 |_=>none
def H6(c:Code):Bool:=match c with
 | .func .. =>true
 | .whileLoop .. =>true
 | .forLoop .. =>true
 | .compLoop .. =>true
 | .compStart .. =>true
 |_=>false
def isTup(e:Expr):Bool:=match e with
 | .Tuple _ _ _=>true
 |_=>false
section
variable(self:Rec prog w T)(hd:Option Value)(rm:Option Rm)
def Lq(target:Expr)(it v:Value)(st:St prog w T):Out prog w T Unit:=gd (isTup target) (bJ (rz it) fun r=>bJ (rz v) fun a=>bJ (jh st.led (st.hs%64)) fun p=>bJ (zH p.2) fun vs=>bJ (QM p.2.cls) fun n=>gd (n=="enumerate")
 (self.t hd rm Unit (updateField r 0 .none) (st.JI [⟨Nat,r,p.1⟩,⟨Option Value,vs[0]?,some (rawInt a)⟩])))
def Lr(target:Expr)(it:Value)(env:Env)(x:Option Value)(st:St prog w T):Out prog w T Bool:=match x with
 |none=>hE false st
 |some v=>cB (Lq prog w T self hd rm target it v st) fun _ c8=>cB (self.t hd rm Unit (PySem.W.Fast.tw17772580674575903948 target env v) c8) fun _ Ey=>hE true Ey
def Ls(c:Code)(st:St prog w T):Out prog w T Fin:=match c with
 | .forLoop target it body orelse env=>calm (cB (cB (self.t hd rm (Option Value) (PySem.W.Fast.tw9404975358583537561 it) st) (Lr prog w T self hd rm target it env)) (It prog w T self hd rm (.forLoop target it body orelse env) body orelse env))
 |_=>none
def sO(c:Code)(st:St prog w T):Out prog w T Fin:=cond (H6 c)
 (cond (Nat.beq (DR c (st.hs%64)) 0) (self.t hd rm Fin (D c) st.next) (cond (Nat.beq (st.hs%64) 2) (Ls prog w T self hd rm c st.next) (Kp prog w T ν self hd rm c st.next)))
 (self.t hd rm Fin (D c) st)
def turn(c:Code)(st:St prog w T):Out prog w T Fin:=match jr c with
 |some env=>bJ (N6 env st.led (st.hs%64/2)) fun o=>sO prog w T ν self hd (EM c rm) c (st.ob o)
 |none=>sO prog w T ν self hd (EM c rm) c st
end
def vN(c:Code):Bool:=match c with
 | .call f _=>match f with
  | .ref _=>true
  |_=>false
 |_=>false
section
variable(self:Rec prog w T)(hd:Option Value)(rm:Option Rm)(c:Code)
def Oh(fin:Fin)(st:St prog w T):Out prog w T Flow:=match fin with
 | .done f=>hE f st
 | .again c'=>gd (rC c') (cond (vN c) (sr prog w T ν self hd rm c' st) (self.c hd rm c' st))
def Eu(st:St prog w T):Out prog w T Flow:=cB (turn prog w T ν self hd rm c st) (Oh prog w T ν self hd rm c)
end
def vc:Nat->Rec prog w T
 |0=>⟨fun _ _ _ _ _=>none,fun _ _ _ _=>none,fun _ _ _ _ _=>none,fun _ _ _ _ _=>none,fun _ _ _ _ _ _=>none,fun _ _ _ _ _=>none⟩
 |n+1=>⟨stepT prog w T ν (vc n),Eu prog w T ν (vc n),Et prog w T (vc n),Es prog w T (vc n),Ex prog w T (vc n),Ew prog w T ν (vc n)⟩
variable{prog w T}
structure agree(n:Nat)(ν μ:Nu):Prop where
 a:∀i,i<n->ν i=μ i
 b:(ν n).2.2=(μ n).2.2
theorem agree.trans{n m:Nat}{a b c:Nu}(x:agree n a b)(y:agree m b c)(h:m<=n):agree m a c:=by
 refine⟨fun i hi=>(x.1 i (oE hi h)).trans (y.1 i hi),?_⟩
 rcases Nat.lt_or_eq_of_le h with l|l
 ·rw[x.1 m l];exact y.2
 ·cases l;exact x.2.trans y.2
theorem agree.refl(n:Nat)(a:Nu):agree n a a:=⟨fun _ _=>rfl,rfl⟩
theorem agree.trunc{n:Nat}{a b:Nu}(x:agree n a b):aaq.trunc n a=aaq.trunc n b:=by
 funext i
 unfold aaq.trunc
 cases e:Nat.blt i n with
 |false=>rfl
 |true=>exact x.1 i (Nat.le_of_ble_eq_true e)
section
variable(ν:Nu)(j:Nat)(μ:Mu)(sl:Sl)
def upd:Nu:=fun i=>if i=j then(μ.1,μ.2,(ν j).2.2)else if i=j+1 then((ν i).1,(ν i).2.1,sl)else ν i
theorem j9:upd ν j μ sl j=(μ.1,μ.2,(ν j).2.2):=if_pos rfl
theorem oP:(upd ν j μ sl (j+1)).2.2=sl:=by
 unfold upd
 rw[if_neg (Nat.succ_ne_self j),if_pos rfl]
end
theorem fQ(ax:Nu)(j:Nat)(μ:Mu)(sl:Sl):agree j (upd ax j μ sl) ax:=
 ⟨fun i hi=>(if_neg (Nat.ne_of_lt hi)).trans (if_neg (Nat.ne_of_lt (Nat.lt_succ_of_lt hi))),by rw[j9]⟩
theorem m7{ν ax:Nu}{j:Nat}{μ:Mu}{sl:Sl}(h:agree (j+1) ν (upd ax j μ sl)):agree j ν ax/\ν j=(μ.1,μ.2,(ax j).2.2):=
 ⟨h.trans (fQ ax j μ sl) (Nat.le_succ _),(h.1 j (Nat.lt_succ_self j)).trans (j9 _ _ _ _)⟩
structure After(s s':Shared)(st st':St prog w T):Prop where
 j:st.j<=st'.j
 sat:Sat T s' st'.led
 iD:iE T s s' (st.led.map (·.1))
 grow:∀p∈st'.led,p.1∈st.led.map (·.1)\/s.heap.get? p.1=none
theorem After.trans{s s' dB:Shared}{st st' Kr:St prog w T}(x:After s s' st st')(y:After s' dB st' Kr):After s dB st Kr:=by
 refine⟨bP x.j y.j,y.sat,x.iD.trans y.iD fun a ha=> ?_,fun p hp=> ?_⟩
 ·obtain⟨p,hp,rfl⟩:=cz ha
  exact x.grow p hp
 ·rcases y.grow p hp with q|q
  ·obtain⟨p',Tf,e⟩:=cz q
   rw[<-e]
   exact x.grow p' Tf
  ·exact x.iD.back q
theorem After.same{s:Shared}{st st':St prog w T}(h:Sat T s st.led)(hj:st.j<=st'.j)(hl:st'.led=st.led):After s s st st':=
 ⟨hj,hl▸h,iE.refl _ _,fun p hp=>.inl (gN (hl▸hp))⟩
abbrev PT(α:Type):=Around->(Except Value α->Shared->Prop)->Shared->Prop
section
variable(prog:Program)(w:World)
abbrev pT{α:Type}(t:Sem α):PT α:=fun A R s=>wpAny (model prog w) A t (fun a s'=>R (.ok a) s') (fun e s'=>R (.error e) s') s
abbrev pC(c:Code):PT Flow:=fun A R s=>codeAny (model prog w) A c R s
end
structure Pre(hd:Option Value)(rm:Option Rm)(st:St prog w T)(ax:Nu)(A:Around)(s:Shared):Prop where
 hh:A.handled=hd
 hr:cP rm A
 hf:Frames T s (dw rm)
 hs:Sat T s st.led
 hl:(ax st.j).2.2=e5 s
structure Ge(st:St prog w T)(ax:Nu)(s:Shared)(st':St prog w T)(cq:Nu)(s':Shared):Prop where
 ag:agree st.j cq ax
 sl:(cq st'.j).2.2=e5 s'
 af:After s s' st st'
theorem Ge.trans{st bF c8:St prog w T}{ax cq sL:Nu}{s s1 s2:Shared}(x:Ge st ax s bF cq s1)(y:Ge bF cq s1 c8 sL s2):Ge st ax s c8 sL s2:=
 ⟨y.ag.trans x.ag x.af.j,y.sl,x.af.trans y.af⟩
theorem Pre.RY{hd:Option Value}{rm:Option Rm}{st bF:St prog w T}{ax cq:Nu}{A:Around}{s s1:Shared}(x:Pre hd rm st ax A s)(y:Ge st ax s bF cq s1):Pre hd rm bF cq A s1:=
 ⟨x.hh,x.hr,x.hf.iD y.af.iD,y.af.sat,y.sl⟩
def Z5{α:Type}(st:St prog w T)(ax:Nu)(o:Nu->Out prog w T α):Prop:=∀ν,agree st.j ν ax->E2 fun x st'=>o ν=some (x,st')/\dD st'.obs
structure Tr(hd:Option Value)(rm:Option Rm)(st:St prog w T){α:Type}(o:Nu->Out prog w T α)(P:PT α):Prop where
 m:∀ν x st',o ν=some (x,st')->∀b∈st.obs,b∈st'.obs
 s:∀ax A s R,Pre hd rm st ax A s->Z5 st ax o->(∀x st' cq s',Ge st ax s st' cq s'->(∀ν,agree st'.j ν cq->o ν=some (x,st'))->R x s')->P A R s
section
variable{hd:Option Value}{rm:Option Rm}{st:St prog w T}{α β:Type}{o:Nu->Out prog w T α}{P P':PT α}
theorem Tr.imp(h:Tr hd rm st o P)(k:∀A R s,P A R s->P' A R s):Tr hd rm st o P':=⟨h.m,fun ax A s R p t kk=>k A R s (h.s ax A s R p t kk)⟩
theorem Tr.vQ(h:Tr hd rm st o P)(k:∀ax A R s,Pre hd rm st ax A s->P A R s->P' A R s):Tr hd rm st o P':=⟨h.m,fun ax A s R p t kk=>k ax A R s p (h.s ax A s R p t kk)⟩
theorem Tr.ret(x:Except Value α):Tr hd rm st (fun _=>some (x,st)) (fun _ R s=>R x s):=
 ⟨fun _ _ _ e b hb=>by cases e;exact hb,fun ax _ s _ p _ kk=>kk x st ax s ⟨agree.refl _ _,p.hl,After.same p.hs (bC _) rfl⟩ fun _ _=>rfl⟩
theorem Tr.ok(a:α):Tr hd rm st (fun _=>hE a st) (fun _ R s=>R (.ok a) s):=Tr.ret _
theorem Tr.er(e:Value):Tr hd rm st (fun _=>JZ e st) (fun _ R s=>(R:Except Value α->Shared->Prop) (.error e) s):=Tr.ret _
theorem Tr.none:Tr hd rm st (fun _=>(Option.none:Out prog w T α)) P:=by
 refine⟨fun _ _ _ e=> ?_,fun ax _ _ _ _ t _=> ?_⟩
 ·nomatch e
 ·obtain⟨_,_,e,_⟩:=t ax (agree.refl _ _)
  nomatch e
theorem Tr.qD{b:Bool}{x y:Nu->Out prog w T α}(h1:b=true->Tr hd rm st x P)(h2:b=false->Tr hd rm st y P):Tr hd rm st (fun ν=>cond b (x ν) (y ν)) P:=by
 cases b with
 |true=>exact h1 rfl
 |false=>exact h2 rfl
theorem Tr.bJ{γ:Type _}{b:Option γ}{f:Nu->γ->Out prog w T α}(h:∀a,b=some a->Tr hd rm st (fun ν=>f ν a) P):Tr hd rm st (fun ν=>aaq.bJ b (f ν)) P:=by
 cases b with
 |none=>exact Tr.none
 |some a=>exact h a rfl
theorem Tr.gd{b:Bool}(h:b=true->Tr hd rm st o P):Tr hd rm st (fun ν=>aaq.gd b (o ν)) P:=by
 cases b with
 |true=>exact h rfl
 |false=>exact Tr.none
theorem Tr.ug{b:Bool}(h:b=false->Tr hd rm st o P):Tr hd rm st (fun ν=>aaq.ug b (o ν)) P:=by
 cases b with
 |true=>exact Tr.none
 |false=>exact h rfl
theorem uR{r:Out prog w T α}{F:Except Value α->St prog w T->Out prog w T β}{z:Except Value β×St prog w T}{C:Prop}(e:bx r F=some z)(k:∀x bF,r=some (x,bF)->F x bF=some z->C):C:=by
 cases r with
 |none=>nomatch e
 |some p=>exact k p.1 p.2 rfl e
theorem Tr.bx{F:Nu->Except Value α->St prog w T->Out prog w T β}{P2:Except Value α->PT β}(h:Tr hd rm st o P)(k:∀x bF,Tr hd rm bF (fun ν=>F ν x bF) (P2 x)):
  Tr hd rm st (fun ν=>aaq.bx (o ν) (F ν)) (fun A R s=>P A (fun x s1=>P2 x A R s1) s):=by
 refine⟨fun ν y c8 e b hb=>uR e fun x bF e1 e2=>(k x bF).m ν y c8 e2 b (h.m ν x bF e1 b hb),fun ax A s R pre bR kk=> ?_⟩
 refine h.s ax A s _ pre (fun ν jY=> ?_) fun x bF cq s1 p1 e1=> ?_
 ·obtain⟨y,c8,e,ho⟩:=bR ν jY
  exact uR e fun x bF e1 e2=>⟨x,bF,e1,fun b hb=>ho b ((k x bF).m ν y c8 e2 b hb)⟩
 ·refine(k x bF).s cq A s1 R (pre.RY p1) (fun ν jY=> ?_) fun y c8 sL s2 p2 e2=>kk y c8 sL s2 (p1.trans p2) fun ν jY=> ?_
  ·obtain⟨y,c8,e,ho⟩:=bR ν (jY.trans p1.ag p1.af.j)
   have e:aaq.bx (o ν) (F ν)=some (y,c8):=e
   rw[e1 ν jY]at e
   exact⟨y,c8,e,ho⟩
  ·show aaq.bx (o ν) (F ν)=_
   rw[e1 ν (jY.trans p2.ag p2.af.j)]
   exact e2 ν jY
theorem Tr.qB{f:Nu->α->St prog w T->Out prog w T β}{g:Nu->Value->St prog w T->Out prog w T β}{P2:α->PT β}{P3:Value->PT β}(h:Tr hd rm st o P)(hf:∀a bF,Tr hd rm bF (fun ν=>f ν a bF) (P2 a))(hg:∀e bF,Tr hd rm bF (fun ν=>g ν e bF) (P3 e)):
  Tr hd rm st (fun ν=>aaq.qB (o ν) (f ν) (g ν)) (fun A R s=>P A (fun x s1=>AX P2 P3 x A R s1) s):=
 h.bx (F:=fun ν=>AX (f ν) (g ν)) fun x bF=>by
  cases x with
  |ok a=>exact hf a bF
  |error e=>exact hg e bF
def pK(P2:α->PT β)(x:Except Value α):PT β:=match x with
 | .ok a=>P2 a
 | .error e=>fun _ R s=>R (.error e) s
def EW(x:Except Value α):PT α:=match x with
 | .ok a=>fun _ R s=>R (.ok a) s
 | .error _=>fun _ _ _=>False
theorem Tr.cB{f:Nu->α->St prog w T->Out prog w T β}{P2:α->PT β}(h:Tr hd rm st o P)(hf:∀a bF,Tr hd rm bF (fun ν=>f ν a bF) (P2 a)):
  Tr hd rm st (fun ν=>aaq.cB (o ν) (f ν)) (fun A R s=>P A (fun x s1=>pK P2 x A R s1) s):=
 h.bx (F:=fun ν=>AX (f ν) JZ) fun x bF=>by
  cases x with
  |ok a=>exact hf a bF
  |error e=>exact Tr.er e
theorem Tr.calm(h:Tr hd rm st o P):Tr hd rm st (fun ν=>aaq.calm (o ν)) (fun A R s=>P A (fun x s1=>EW x A R s1) s):=
 h.bx (F:=fun _=>AX hE Wh) fun x bF=>by
  cases x with
  |ok a=>exact Tr.ok a
  |error e=>exact Tr.none
theorem Tr.read{γ:Type _}{g:Nu->γ}{r:γ->Nu->Out prog w T α}{P:γ->PT α}(hg:∀ν ax,agree st.j ν ax->g ν=g ax)(h:∀b,Tr hd rm st (r b) (P b))(k:∀ax A R s,Pre hd rm st ax A s->P (g ax) A R s->P' A R s):Tr hd rm st (fun ν=>r (g ν) ν) P':=
 ⟨fun ν x st' e=>(h (g ν)).m ν x st' e,fun ax A s R p t kk=>k ax A R s p ((h (g ax)).s ax A s R p (fun ν jY=>hg ν ax jY▸t ν jY) fun x st' cq s' q e=>kk x st' cq s' q fun ν jY=>by
  show r (g ν) ν=_
  rw[hg ν ax (jY.trans q.ag q.af.j)]
  exact e ν jY)⟩
theorem Tr.slots{r:Sl->Nu->Out prog w T α}(h:∀sl,Tr hd rm st (r sl) (fun A R s=>sl=e5 s->P A R s)):Tr hd rm st (fun ν=>r (ν st.j).2.2 ν) P:=
 Tr.read (g:=fun ν=>(ν st.j).2.2) (fun _ _ h=>h.b) h fun _ _ _ _ p q=>q p.hl
section
variable{st':St prog w T}{new:List Ob}
theorem Tr.step(h:Tr hd rm st' o P')(ej:st'.j=st.j)(eo:st'.obs=new++st.obs)(k:∀ax A R s,Pre hd rm st ax A s->dD new->(∀s',e5 s'=e5 s->After s s' st st'->P' A R s')->P A R s):Tr hd rm st o P:=by
 refine⟨fun ν x c8 e b hb=>h.m ν x c8 e b (eo▸jI _ hb),fun ax A s R pre bR kk=> ?_⟩
 have ob:dD new:=by
  obtain⟨x,c8,e,ho⟩:=bR ax (agree.refl _ _)
  exact fun b hb=>ho b (h.m ax x c8 e b (eo▸jH _ hb))
 refine k ax A R s pre ob fun s' es af=> ?_
 have p1:Ge st ax s st' ax s':=⟨agree.refl _ _,by rw[ej,es];exact pre.hl,af⟩
 exact h.s ax A s' R (pre.RY p1) (fun ν jY=>bR ν (ej▸jY)) fun x c8 cq s2 p2 e2=>kk x c8 cq s2 (p1.trans p2) e2
theorem Tr.jb(h:Tr hd rm st' o P')(el:st'.led=st.led)(ej:st'.j=st.j)(eo:st'.obs=new++st.obs)(k:∀ax A R s,Pre hd rm st ax A s->dD new->P' A R s->P A R s):Tr hd rm st o P:=
 h.step ej eo fun ax A R s p ob q=>k ax A R s p ob (q s rfl (After.same p.hs (Nat.le_of_eq ej.symm) el))
end
theorem Tr.next(h:Tr hd rm st.next o P):Tr hd rm st o P:=h.jb (new:=[]) rfl rfl rfl fun _ _ _ _ _ _ q=>q
theorem Tr.move{st':M3->St prog w T}{r:M3->Nu->Out prog w T α}{P':M3->PT α}{new:List Ob}(h:∀μ,Tr hd rm (st' μ) (r μ) (P' μ))(ej:∀μ,(st' μ).j=st.j+1)(eo:∀μ,(st' μ).obs=new++st.obs)
  (k:∀ax A R s,Pre hd rm st ax A s->dD new->(∀(μ:Mu) s',After s s' st (st' (μ.1,μ.2,e5 s))->P' (μ.1,μ.2,e5 s) A R s')->P A R s):Tr hd rm st (fun ν=>r (ν st.j) ν) P:=by
 refine⟨fun ν x c8 e b hb=>(h _).m ν x c8 e b (eo _▸jI _ hb),fun ax A s R pre bR kk=> ?_⟩
 have ob:dD new:=by
  obtain⟨x,c8,e,ho⟩:=bR ax (agree.refl _ _)
  exact fun b hb=>ho b ((h _).m ax x c8 e b (eo _▸jH _ hb))
 refine k ax A R s pre ob fun μ s' af=> ?_
 have p1:Ge st ax s (st' (μ.1,μ.2,e5 s)) (upd ax st.j μ (e5 s')) s':=⟨fQ _ _ _ _,by rw[ej];exact oP _ _ _ _,af⟩
 have key:∀ν,agree (st' (μ.1,μ.2,e5 s)).j ν (upd ax st.j μ (e5 s'))->agree st.j ν ax/\ν st.j=(μ.1,μ.2,e5 s):=fun ν jY=>pre.hl▸m7 (ej _▸jY)
 refine(h _).s _ A s' R (pre.RY p1) (fun ν jY=> ?_) fun x c8 cq s2 p2 e2=>kk x c8 cq s2 (p1.trans p2) fun ν jY=> ?_
 ·obtain⟨h1,h2⟩:=key ν jY
  have t:E2 fun x st'=>r (ν st.j) ν=some (x,st')/\dD st'.obs:=bR ν h1
  rw[h2]at t
  exact t
 ·show r (ν st.j) ν=_
  rw[(key ν (jY.trans p2.ag p2.af.j)).2]
  exact e2 ν jY
theorem Tr.shift{qP:Option Value}{RI:Option Rm}(h:Tr qP RI st o P)(g:Around->Around){C:Shared->Prop}(k:∀A s,A.handled=hd->cP rm A->Frames T s (dw rm)->C s->(g A).handled=qP/\cP RI (g A)/\Frames T s (dw RI)):Tr hd rm st o (fun A R s=>C s->P (g A) R s):=
 ⟨h.m,fun ax A s R p t kk c=>by
  obtain⟨k1,k2,k3⟩:=k A s p.hh p.hr p.hf c
  exact h.s ax (g A) s R ⟨k1,k2,k3,p.hs,p.hl⟩ t kk⟩
end
structure Vp(R:Nu->Rec prog w T):Prop where
 t:∀{hd rm} {α:Type} (t:Sem α) {st},Tr hd rm st (fun ν=>(R ν).t hd rm α t st) (pT prog w t)
 c:∀{hd rm} c {st},Tr hd rm st (fun ν=>(R ν).c hd rm c st) (pC prog w c)
 e:∀{hd rm} e env {st},Tr hd rm st (fun ν=>(R ν).e hd rm e env st) (pT prog w (eval e env))
 q:∀{hd rm} e env {st},Tr hd rm st (fun ν=>(R ν).q hd rm e env st) (pT prog w (PySem.isTrue e env (eval e env)))
 a:∀{hd rm} op es env {st},Tr hd rm st (fun ν=>(R ν).a hd rm op es env st) (pT prog w (allTrue op es env))
 b:∀{hd rm} ss env {st},Tr hd rm st (fun ν=>(R ν).b hd rm ss env st) (pT prog w (execs ss env))
theorem tR(l:Led):∀i,jh l i=l[i]? :=by
 induction l with
 |nil=>exact fun _=>rfl
 |cons p l ih=>
  intro i
  cases i with
  |zero=>rfl
  |succ i=>exact ih i
theorem br{l:Led}{i:Nat}{p:Addr×Obj}(h:jh l i=some p):p∈l:=ir (tR l i▸h)
theorem dN(l:Led):∀(i:Nat) (o:Obj),(put l i o).map (·.1)=l.map (·.1):=by
 induction l with
 |nil=>exact fun _ _=>rfl
 |cons q l ih=>
  intro i o
  cases i with
  |zero=>rfl
  |succ i=>exact congrArg (q.1::·) (ih i o)
theorem tI{l:Led}{i:Nat}{o:Obj}{p:Addr×Obj}(h:p∈put l i o):p.1∈l.map (·.1):=dN l i o▸gN h
theorem g8{l:Led}{o:Obj}{a:Addr}{x:Obj}:∀{i:Nat},(l.map (·.1)).Nodup->jh l i=some (a,x)->∀p∈put l i o,p=(a,o)\/(p∈l/\p.1≠a):=by
 induction l with
 |nil=>exact fun _ h=>nomatch h
 |cons q l ih=>
  intro i nd h p hp
  obtain⟨n1,n2⟩:=jM nd
  cases i with
  |zero=>
   cases h
   rcases bu hp with rfl|hp
   ·exact .inl rfl
   ·exact .inr ⟨.tail _ hp,fun z=>n1 (z▸gN (f:=(·.1)) hp)⟩
  |succ i=>
   rcases bu hp with rfl|hp
   ·exact .inr ⟨.head _,fun z=>n1 (by show p.1∈_;rw[z];exact gN (f:=(·.1)) (br (l:=l) (i:=i) h))⟩
   ·exact(ih (i:=i) n2 h p hp).imp id fun q=>⟨.tail _ q.1,q.2⟩
section
variable{s:Shared}
theorem Sat.sub{l m:Led}(h:Sat T s l)(hs:m.Sublist l):Sat T s m:=
 ⟨fun p hp=>h.get p (hs.subset hp),(hs.map _).nodup h.nd,fun p hp=>h.low p (hs.subset hp),h.top,h.size⟩
theorem Sat.perm{l m:Led}(h:Sat T s l)(hs:m.Perm l):Sat T s m:=
 ⟨fun p hp=>h.get p (hs.subset hp),(hs.map _).nodup_iff.mpr h.nd,fun p hp=>h.low p (hs.subset hp),h.top,h.size⟩
theorem Sat.look{l:Led}(h:Sat T s l){i:Nat}{p:Addr×Obj}(e:jh l i=some p):∃o',s.heap.get? p.1=some o'/\o'.cls=p.2.cls/\o'.data=p.2.data:=by
 obtain⟨o',e',k⟩:=h.get p (br e)
 cases fm:bq p.2 with
 |true=>obtain⟨_,sl,rfl⟩:=k.mark fm;exact⟨_,e',rfl,rfl⟩
 |false=>rw[(k.bare fm).2]at e';exact⟨_,e',rfl,rfl⟩
theorem pq{l:Led}(h:Sat T s l){o o':Obj}(hf:o.isFreed=false)(hl:bU o o'):Sat T {s with heap:=s.heap.push o} ((s.heap.objs.size,o')::l):=by
 refine⟨fun p hp=> ?_,List.nodup_cons.mpr ⟨fun hm=> ?_,h.nd⟩,fun p hp=> ?_,fun a x e=>⟨iq _ (h.top a x e).1,(h.top a x e).2⟩,?_⟩
 ·rcases bu hp with rfl|hp
  ·exact⟨o,Heap.get?_push_size _ hf,hl⟩
  ·obtain⟨x,e,k⟩:=h.get p hp
   exact⟨x,iq _ e,k⟩
 ·obtain⟨p,hp,e⟩:=cz hm
  obtain⟨x,e'⟩:=h.alive hp
  exact absurd (Heap.lt_size e') (e▸Nat.lt_irrefl _)
 ·rcases bu hp with rfl|hp
  ·exact h.size
  ·exact h.low p hp
 ·show T.n<=(s.heap.push o).objs.size
  rw[Heap.size_push]
  exact jK h.size
theorem Sat.alloc{l:Led}(h:Sat T s l){o:Obj}(hf:o.isFreed=false)(hb:bq o=false)(hn:¬bh o):Sat T {s with heap:=s.heap.push o} ((s.heap.objs.size,o)::l):=pq h hf (bU.dp hb hn)
end
theorem k8{o:Obj}(h:bh o):o.isFreed=false:=by
 obtain⟨c,d,dt,sl⟩:=o
 obtain⟨_,es,n,e⟩:=h
 cases e;rfl
theorem tD{s:Shared}{l:Led}(h:Sat T s l){i:Nat}{a:Addr}{o o' x':Obj}{f:Obj->Obj}(hi:jh l i=some (a,o))(ho:s.heap.get? a=some o')(hf:(f o').isFreed=false)(hl:bU (f o') x'):Sat T {s with heap:=s.heap.update a f} (put l i x'):=by
 have hs:Heap.SameBut a s.heap (s.heap.update a f):=Heap.SameBut.update ..
 have la:=h.low (a,o) (br hi)
 refine⟨fun p hp=> ?_,by rw[dN];exact h.nd,fun p hp=> ?_,fun b x e=>⟨(hs.2 b fun z=> ?_).trans (h.top b x e).1,(h.top b x e).2⟩,hs.1.symm▸h.size⟩
 ·rcases g8 h.nd hi p hp with rfl|q
  ·exact⟨_,Heap.get?_update_self f ho hf,hl⟩
  ·obtain⟨x,e,k⟩:=h.get p q.1
   exact⟨x,(hs.2 _ q.2).trans e,k⟩
 ·rcases g8 h.nd hi p hp with rfl|q
  ·exact la
  ·exact h.low p q.1
 ·exact absurd (z▸(h.top b x e).2) (Nat.not_lt.mpr la)
theorem Sat.update{s:Shared}{l:Led}(h:Sat T s l){i:Nat}{a:Addr}{o:Obj}{f:Obj->Obj}(hi:jh l i=some (a,o))(hn:¬bh o)(hf:(f o).isFreed=false)(hb:bq (f o)=false)(qg:¬bh (f o)):Sat T {s with heap:=s.heap.update a f} (put l i (f o)):=
 tD h hi (h.at (br hi) hn) hf (bU.dp hb qg)
theorem uL{s:Shared}{l:Led}{a:Addr}{o o':Obj}{f:Obj->Obj}{i:Nat}(hi:jh l i=some (a,o))(ho:s.heap.get? a=some o')(hf:(f o').isFreed=false)(hk:bh o'->bh (f o')):iE T s {s with heap:=s.heap.update a f} (l.map (·.1)):=by
 have vT:Heap.SameBut a s.heap (s.heap.update a f):=Heap.SameBut.update ..
 refine⟨fun b x e n=>.inl ((vT.2 b fun z=>n (z▸gN (f:=(·.1)) (br hi))).trans e),fun b x e fr=> ?_,rfl,rfl,rfl⟩
 by_cases z:b=a
 ·cases z
  cases ho.symm.trans e
  exact⟨_,Heap.get?_update_self f ho hf,hk fr⟩
 ·exact⟨x,(vT.2 b z).trans e,fr⟩
theorem rJ(l:Led):∀(i k:Nat) (o:Obj),k≠i->jh (put l i o) k=jh l k:=by
 induction l with
 |nil=>exact fun _ _ _ _=>rfl
 |cons q l ih=>
  intro i k o h
  cases i with
  |zero=>
   cases k with
   |zero=>exact absurd rfl h
   |succ k=>rfl
  |succ i=>
   cases k with
   |zero=>rfl
   |succ k=>exact ih i k o fun e=>h (congrArg Nat.succ e)
theorem kK{l:Led}{i k:Nat}{p q:Addr×Obj}(nd:(l.map (·.1)).Nodup)(h1:jh l i=some p)(h2:jh l k=some q)(ne:i≠k):p.1≠q.1:=fun e=>by
 rw[tR]at h1 h2
 have e1:(l.map (·.1))[i]? =some p.1:=by rw[List.getElem?_map,h1];rfl
 have e2:(l.map (·.1))[k]? =some q.1:=by rw[List.getElem?_map,h2];rfl
 exact ne ((List.getElem?_inj (List.getElem?_eq_some_iff.mp e1).1 nd).mp (e1.trans (e▸e2.symm)))
inductive eV(led:Led):Led->List Nat->Prop where
 |nil:eV led [] []
 |cons {p:Addr×Obj} {i:Nat} {pre:Led} {is:List Nat}:jh led i=some p->eV led pre is->eV led (p::pre) (i::is)
theorem wh{led:Led}{n:Nat}:∀{hs:Nat} {z:Led×List Nat×Nat},foot led n hs=some z->eV led z.1 z.2.1:=by
 induction n with
 |zero=>intro _ _ h;cases h;exact .nil
 |succ n ih=>
  intro hs z h
  exact eP h fun p hp h=>eP h fun r hr h=>by cases h;exact .cons hp (ih hr)
section
variable{led pre:Led}{is:List Nat}
theorem eV.mem(f:eV led pre is):∀p∈pre,∃i∈is,jh led i=some p:=by
 induction f with
 |nil=>exact fun _ h=>nomatch h
 |cons h _ ih=>
  intro p hp
  rcases bu hp with rfl|hp
  ·exact⟨_,.head _,h⟩
  ·obtain⟨i,hi,e⟩:=ih p hp
   exact⟨i,.tail _ hi,e⟩
theorem eV.key(f:eV led pre is){a:Addr}(h:a∈pre.map (·.1)):a∈led.map (·.1):=by
 obtain⟨p,hp,rfl⟩:=cz h
 obtain⟨i,_,e⟩:=f.mem p hp
 exact gN (br e)
end
theorem gy{i:Nat}{is:List Nat}(h:distinct (i::is)=true):(∀k∈is,k≠i)/\distinct is=true:=by
 obtain⟨h1,h2⟩:=Bool.and_eq_true_iff.mp (show((is.all fun k=> !(Nat.beq k i))&&distinct is)=true from h)
 refine⟨fun k hk e=> ?_,h2⟩
 have:=List.all_eq_true.mp h1 k hk
 rw[e,Nat.beq_refl]at this
 nomatch this
theorem eV.nd{led pre:Led}{is:List Nat}(f:eV led pre is)(nd:(led.map (·.1)).Nodup)(hd:distinct is=true):(pre.map (·.1)).Nodup:=by
 induction f with
 |nil=>exact List.nodup_nil
 |cons h f ih=>
  obtain⟨h1,h2⟩:=gy hd
  refine List.nodup_cons.mpr ⟨fun hm=> ?_,ih h2⟩
  obtain⟨q,hq,e⟩:=cz hm
  obtain⟨k,hk,ek⟩:=f.mem q hq
  exact kK nd ek h (h1 k hk) e
theorem eV.sat{s:Shared}{led pre:Led}{is:List Nat}(f:eV led pre is)(h:Sat T s led)(hd:distinct is=true):Sat T s pre:=by
 refine⟨fun p hp=> ?_,f.nd h.nd hd,fun p hp=> ?_,h.top,h.size⟩
 ·obtain⟨i,_,e⟩:=f.mem p hp
  exact h.get p (br e)
 ·obtain⟨i,_,e⟩:=f.mem p hp
  exact h.low p (br e)
theorem eV.put{led pre:Led}{is:List Nat}(f:eV led pre is){i:Nat}{o:Obj}(hi:∀k∈is,k≠i):eV (put led i o) pre is:=by
 induction f with
 |nil=>exact .nil
 |cons h f ih=>exact .cons ((rJ _ _ _ _ (hi _ (.head _))).trans h) (ih fun k hk=>hi k (.tail _ hk))
theorem fV(is:List Nat):∀(led:Led) (os:List Obj),(pG led is os).map (·.1)=led.map (·.1):=by
 induction is with
 |nil=>exact fun _ _=>rfl
 |cons i is ih=>
  intro led os
  cases os with
  |nil=>rfl
  |cons o os=>exact(ih (aaq.put led i o) os).trans (dN led i o)
theorem pF{is:List Nat}:∀{led pre:Led} {os:List Obj},eV led pre is->(led.map (·.1)).Nodup->distinct is=true->os.length=pre.length->∀p∈pG led is os,p∈(pre.map (·.1)).zip os\/(p∈led/\p.1∉pre.map (·.1)):=by
 induction is with
 |nil=>
  intro led pre os f _ _ _ p hp
  cases f
  exact .inr ⟨hp,dS⟩
 |cons i is ih=>
  intro led pre os f nd hd hl p hp
  cases f with
  | @cons q _ Yy _ h f=>
   cases os with
   |nil=>nomatch hl
   |cons o os=>
    obtain⟨h1,h2⟩:=gy hd
    rcases ih (f.put h1) ((dN led i o).symm▸nd) h2 (Nat.succ.inj hl) p hp with z|z
    ·exact .inl (.tail _ z)
    ·rcases g8 nd h p z.1 with e|e
     ·exact .inl (e▸ .head _)
     ·exact .inr ⟨e.1,fun m=>(bu m).elim e.2 z.2⟩
theorem D2(n:Nat):∀l:Led,(cut n l).1++(cut n l).2=l:=by
 induction n with
 |zero=>exact fun _=>rfl
 |succ n ih=>
  intro l
  cases l with
  |nil=>rfl
  |cons p l=>exact congrArg (p::·) (ih l)
theorem vy(led:Led)(hs:Nat):(parts led hs).1++(parts led hs).2.1=led:=by
 unfold parts
 cases Nat.beq (hs%64) 0 with
 |true=>exact List.append_nil _
 |false=>exact D2 _ led
section
variable{s:Shared}
theorem Sat.parts{front tail:Led}(h:Sat T s (front++tail)):Sat T s front/\Sat T s tail/\∀a∈front.map (·.1),a∉tail.map (·.1):=by
 refine⟨h.sub (jO _ _),h.sub (List.sublist_append_right _ _),fun a ha hb=> ?_⟩
 have nd:=h.nd
 rw[List.map_append,List.nodup_append]at nd
 exact nd.2.2 _ ha _ hb rfl
theorem nJ{l m:Led}(h:Sat T s l)(k:Sat T s m)(d:∀a∈l.map (·.1),a∉m.map (·.1)):Sat T s (l++m):=by
 refine⟨fun p q=>(bw q).elim (h.get p) (k.get p),?_,fun p q=>(bw q).elim (h.low p) (k.low p),h.top,h.size⟩
 rw[List.map_append,List.nodup_append]
 exact⟨h.nd,k.nd,fun a ha b hb e=>d a ha (e▸hb)⟩
theorem eV.RB{front tail pre:Led}{is:List Nat}(f:eV front pre is)(h:Sat T s (front++tail))(hd:distinct is=true):Sat T s (pre++tail):=by
 obtain⟨h1,h2,h3⟩:=h.parts
 exact nJ (f.sat h1 hd) h2 fun a ha=>h3 a (f.key ha)
end
theorem w9{l:List Addr}:∀{m:List Obj},m.length=l.length->(l.zip m).map (·.1)=l:=by
 induction l with
 |nil=>exact fun _=>rfl
 |cons a l ih=>
  intro m h
  cases m with
  |nil=>nomatch h
  |cons o m=>exact congrArg (a::·) (ih (Nat.succ.inj h))
theorem eV.after{s s':Shared}{front tail pre:Led}{is:List Nat}{os:List Obj}{new rest:Led}(f:eV front pre is)(h:Sat T s (front++tail))(hd:distinct is=true)(hl:os.length=pre.length)
  (d:Done (T:=T) s s' (pre++tail) ((pre.map (·.1)).zip os++(new++rest))):Sat T s' (new++(pG front is os++rest))/\∀p∈new++rest,p.1∈tail.map (·.1)\/s.heap.get? p.1=none:=by
 obtain⟨h1,h2,h3⟩:=h.parts
 obtain⟨g1,g2,gx⟩:=d.sat.parts
 obtain⟨g3,g4,g5⟩:=g2.parts
 have hn:∀p∈new++rest,p.1∈tail.map (·.1)\/s.heap.get? p.1=none:=fun p hp=>by
  refine(d.grow p (jI _ hp)).imp (fun z=> ?_) id
  rw[List.map_append]at z
  refine(bw z).elim (fun z=> ?_) id
  rw[<-w9 (m:=os) (hl.trans (List.length_map _).symm)]at z
  exact absurd (gN hp) (gx _ z)
 have out:∀a∈(new++rest).map (·.1),a∉front.map (·.1):=fun a ha m=>by
  obtain⟨p,hp,rfl⟩:=cz ha
  obtain⟨q,hq,e⟩:=cz m
  rcases hn p hp with z|z
  ·exact h3 _ m z
  ·obtain⟨x,g⟩:=h1.alive hq
   nomatch (e▸g).symm.trans z
 have fr:Sat T s' (pG front is os):=by
  refine⟨fun p hp=> ?_,(fV is front os).symm▸h1.nd,fun p hp=> ?_,d.sat.top,d.sat.size⟩
  ·rcases pF f h1.nd hd hl p hp with z|z
   ·exact g1.get p z
   ·obtain⟨x,ex,lx⟩:=h1.get p z.1
    refine d.iD.Ni ex lx fun m=> ?_
    rw[List.map_append]at m
    exact(bw m).elim z.2 (h3 _ (gN z.1))
  ·rcases pF f h1.nd hd hl p hp with z|z
   ·exact g1.low p z
   ·exact h1.low p z.1
 refine⟨nJ g3 (nJ fr g4 fun a ha hb=> ?_) fun a ha hb=> ?_,hn⟩
 ·rw[fV]at ha
  exact out a (by rw[List.map_append];exact jI _ hb) ha
 ·rw[List.map_append,fV]at hb
  rcases bw hb with q|q
  ·exact out a (by rw[List.map_append];exact jH _ ha) q
  ·exact g5 a ha q
section
variable{p:Prop} [i:Decidable p]
theorem lid{a:p->Nat}{b:¬p->Nat}{k:Nat}(h1:∀h,a h<=k)(h2:∀h,b h<=k):(@dite _ p i a b)<=k:=by
 cases i with
 |isTrue h=>exact h1 h
 |isFalse h=>exact h2 h
theorem Cm:(@ite _ p i 1 0:Nat)<=1:=by
 cases i with
 |isTrue=>exact bC 1
 |isFalse=>exact cY 1
end
theorem sC(id:String)(as:Args):(Code.builtin id as).frames<=3:=by
 unfold Code.frames Code.frames.match_1
 dsimp only[Code.frames._sparseCasesOn_1]
 refine lid (fun h=>by cases h;decide) fun _=>lid (fun h=>by cases h;decide) fun _=>lid (fun h=>by cases h;decide) fun _=>lid (fun h=>by cases h;decide) fun _=>lid (fun h=>by cases h;decide) fun _=>lid (fun h=>by cases h;decide) fun _=>lid (fun h=>by cases h;decide) fun _=>lid (fun h=>by cases h;decide) fun _=>lid (fun h=>by cases h;decide) fun _=>cY _
theorem we(c:Code):c.frames<=3:=by
 cases c with
 |builtin id as=>exact sC id as
 |compStart e d i a env=>exact bP (Nat.le_of_eq (rfl:_=(if(Code.compStart e d i a env).isFrame=true then 1 else 0))) (bP Cm (by decide))
 |compLoop e d i a env=>exact bP (Nat.le_of_eq (rfl:_=(if(Code.compLoop e d i a env).isFrame=true then 1 else 0))) (bP Cm (by decide))
 |_=>first|exact cY _|exact Nat.le_of_ble_eq_true rfl
theorem wL(c:Code):c.cUnits<=1+3*c.frames:=by
 cases c with
 |builtin=>exact bC _
 |call=>exact Nat.le_add_right _ _
 |_=>exact Nat.le_add_left _ _
theorem iz.under{n:Nat}{A:Around}{c:Code}(R:iz (n+1) A)(h:c.isCaller=false):iz n (A.under c):=by
 have hf:=we c
 have hu:=wL c
 have hw:c.weight<=3+1+1+0:=Nat.add_le_add (Nat.add_le_add (Nat.add_le_add hf Cm) Cm) (by rw[h];exact bC 0)
 have h1:=R.depth
 have h2:=R.units
 exact⟨show A.depth+c.weight+6*n<900 by lia,show A.units+c.cUnits+20*n<9000 by lia⟩
theorem px{rm:Option Rm}{A:Around}(c:Code)(R:cP rm A):cP (EM c rm) (A.under c):=by
 cases rm with
 |none=>trivial
 |some nf=>
  obtain⟨n,fs⟩:=nf
  cases n with
  |zero=>trivial
  |succ n=>
   have R1:A.frames=some fs:=R.2
   show cP (ug (PySem.W.ZFast.zw2167841511373827401 c) (sb c n fs)) _
   cases e:PySem.W.ZFast.zw2167841511373827401 c with
   |true=>trivial
   |false=>
    rw[<-PySem.W.ZFast.ze2167841511373827401]at e
    have key:∀es,c.envs=es->iz n (A.under c)/\(A.under c).frames=pushEnvs es (some fs):=fun es h=>⟨iz.under R.1 e,by
     rw[<-h,<-R1];rfl⟩
    show cP (sb c n fs) _
    unfold sb
    cases ef:jr c with
    |some env=>exact key [env] (Iz ef)
    |none=>
     cases ee:c.envs with
     |nil=>exact key [] ee
     |cons=>trivial
theorem mQ{s:Shared}{rm:Option Rm}(c:Code)(hf:Frames T s (dw rm))(h:∀env,jr c=some env->Frames T s [env]):Frames T s (dw (EM c rm)):=by
 cases rm with
 |none=>exact hf
 |some nf=>
  obtain⟨n,fs⟩:=nf
  cases n with
  |zero=>exact Frames.nil _ _
  |succ n=>
   show Frames T s (dw (ug (PySem.W.ZFast.zw2167841511373827401 c) (sb c n fs)))
   cases PySem.W.ZFast.zw2167841511373827401 c with
   |true=>exact Frames.nil _ _
   |false=>
    show Frames T s (dw (sb c n fs))
    unfold sb
    cases ef:jr c with
    |some env=>
     exact fun x hx=>by
      rcases bu hx with rfl|hx
      ·exact h _ ef _ (.head _)
      ·exact hf x hx
    |none=>
     cases c.envs with
     |nil=>exact hf
     |cons=>exact Frames.nil _ _
theorem N5{env:Env}{k:Nat}{st:St prog w T}{ob:Ob}{s:Shared}(h:N6 env st.led k=some ob)(hs:Sat T s st.led)(e:ob.a=ob.b):Frames T s [env]:=by
 refine N0 h fun hk h=>eP h fun L hL h=>eP h fun p hp h=>N0 h fun hm h=> ?_
 cases h
 intro x hx
 cases lZ hx
 obtain⟨ox,ex,lx⟩:=hs.get _ (br hp)
 have e:L=p.1:=e
 exact⟨fun q=>(by rw[q]at hk;nomatch hk),L,ox,hL,e▸hs.low _ (br hp),e▸ex,lx.zo.mpr (lx.mark hm).1⟩
theorem qo{a:Addr}{p:FuncData×List Stmt}(e:oj T a=some p):∃o,T.at_ a=some o/\o.data=.func p.1/\p.1.body=.stmts p.2/\p.1.scope.isCoroutine=false/\p.1.scope.isGenerator=false/\
  E4 fun cc oc vs tq=>p.1.code=.ref cc/\T.at_ cc=some oc/\oc.data=.fields vs/\vs[1]? =some (.str p.1.qualname tq):=
 eP e fun o ho e=>eP e fun fd Zh e=>eP e fun b hb e=>QL e fun hg e=>eP e fun cc Zl e=>eP e fun oc Y4 e=>eP e fun vs JN e=>eP e fun q hq e=>N0 e fun hs e=>by
  cases e
  obtain⟨g1,g2⟩:=Bool.or_eq_false_iff.mp hg
  obtain⟨t,ht⟩:=Lh hq
  exact⟨o,ho,T7 Zh,Q2 hb,g1,g2,cc,oc,vs,t,vp Zl,Y4,wi JN,by rw[<-Array.getElem?_toList,ht,Fast.sEq_iff.mp hs]⟩
theorem iz.in1{n:Nat}{A:Around}(R:iz (n+1) A):iz n A.in1:=by
 have h1:=R.depth
 have h2:=R.units
 exact⟨show A.depth+6*n<900 by lia,show A.units+1+20*n<9000 by lia⟩
section
variable{R:Nu->Rec prog w T}(hS:Vp R){hd:Option Value}{rm:Option Rm}{st:St prog w T}
include hS
theorem Eo(c:Code):Tr hd rm st (fun ν=>kj prog w T (R ν) hd rm c st) (pC prog w c):=by
 cases c with
 |call f args=>
  cases f with
  |ref a=>
   cases rm with
   |none=>exact Tr.none
   |some nf=>
    obtain⟨n,fs⟩:=nf
    cases n with
    |zero=>exact Tr.none
    |succ n=>
     refine Tr.bJ fun p ep=> ?_
     obtain⟨o,h1,h2,h3,h4,h5,cc,oc,vs,tq,h6,h7,h8,h9⟩:=qo ep
     have sh:∀{α:Type} {st:St prog w T} {o:Nu->Out prog w T α} {P:PT α},Tr hd (some (n,fs)) st o P->Tr hd (some (n+1,fs)) st o (fun A R s=>True->P A.in1 R s):=fun h=>h.shift (C:=fun _=>True) Around.in1 fun A s a b c _=>⟨a,⟨b.1.in1,b.2⟩,c⟩
     refine Tr.vQ (Tr.cB (sh (Tr.calm (hS.t _))) fun binds bF=>Tr.cB (sh (Tr.calm (hS.t _))) fun env c8=>Tr.vQ (hS.c _) (P':=fun A R s=>s.heap.NoLimit/\codeAny (model prog w) A (.func p.2 env) R s) fun _ _ _ _ pre q=>⟨T.lim _ fun b x e=>(pre.hs.top b x e).1,q⟩) fun ax A R s pre q=> ?_
     have d:=pre.hr.1.depth
     refine codeAny_call_function (by unfold recursionLimit;lia) (pre.hs.top a o h1).1 h2 h4 h5 h3 ⟨cc,oc,vs,tq,h6,(pre.hs.top cc oc h7).1,h8,h9⟩ ?_
     rw[PySem.W.Fast.te9782568553167038054]
     refine fg (q trivial) (fun binds s1 q=> ?_) fun _ _ q=>q.elim
     rw[PySem.W.Fast.te11113344188204177931]
     exact fg (q trivial) (fun env s2 q=>q) fun _ _ q=>q.elim
  |_=>exact Tr.none
 |_=>exact Tr.none
omit hS in
theorem Gw(c:Code)(y:Sm prog w T)(ys:List (Nu->Sm prog w T))(hL:vC y.lv rm=true):Tr hd rm st (fun ν=>GA prog w T ν hd rm c st y ys (parts st.led (st.hs/64))) (pC prog w c):=by
 have Ts:=vy st.led (st.hs/64)
 generalize parts st.led (st.hs/64)=p at Ts
 refine Tr.bJ fun f ef=>Tr.gd fun eD=> ?_
 have ft:=wh ef
 refine⟨fun ν x st' e b hb=>eP e fun t et e=>by cases e;exact jI _ hb,fun ax A s R pre bR kk=> ?_⟩
 have WI:Sat T s (p.1++p.2.1):=by rw[Ts];exact pre.hs
 refine y.ok hd (dw rm) c f.1 p.2.1 A s R pre.hh (vC.room hL pre.hr) pre.hf (ft.RB WI eD) (fun μ=> ?_) fun μ t s1 g1 g3 d=> ?_
 ·obtain⟨x,st',e,ho⟩:=bR (upd ax st.j μ (fun _=> #[])) (fQ _ _ _ _)
  refine eP e fun t et e=> ?_
  cases e
  rw[j9]at et
  exact⟨t,et,fun o Y3=>ho o (jH _ Y3)⟩
 ·obtain⟨sat,g6⟩:=ft.after WI eD g3 d
  have PN:∀{a},a∈p.1.map (·.1)\/a∈p.2.1.map (·.1)->a∈st.led.map (·.1):=fun h=>by rw[<-Ts,List.map_append];exact List.mem_append.mpr h
  have sub:=(zz (st.hs/64) (pG p.1 f.2.1 t.post) t.rest).append_left t.new
  refine kk t.r {led:=t.new++glue (st.hs/64) (pG p.1 f.2.1 t.post) t.rest,j:=st.j+1,hs:=f.2.2,xs:=ys,obs:=t.obs++st.obs} (upd ax st.j μ (e5 s1)) s1
   ⟨fQ _ _ _ _,oP _ _ _ _,Nat.le_succ _,sat.sub sub,⟨fun a o e n=>d.iD.keep a o e fun m=>n ?_,d.iD.live,d.iD.gens,d.iD.drawn,d.iD.os⟩,fun q hq=> ?_⟩ fun ν jY=> ?_
  ·rw[List.map_append]at m
   exact PN ((bw m).imp ft.key id)
  ·rcases bw (sub.subset hq)with hq|hq
   ·exact(g6 q (jH _ hq)).imp (fun h=>PN (.inr h)) id
   ·rcases bw hq with hq|hq
    ·have:=gN (f:=(·.1)) hq
     rw[fV]at this
     exact .inl (PN (.inl this))
    ·exact(g6 q (jI _ hq)).imp (fun h=>PN (.inr h)) id
  ·show bJ (y.go hd (dw rm) c f.1 p.2.1 (pr (ν st.j))) _=_
   rw[(m7 jY).2]
   show bJ (y.go hd (dw rm) c f.1 p.2.1 μ) _=_
   rw[g1]
   rfl
theorem sU(c:Code):Tr hd rm st (fun ν=>sr prog w T ν (R ν) hd rm c st) (pC prog w c):=
 Tr.qD (fun _=>(hS.c c).next) fun _=>Tr.qD (fun _=>(Eo hS c).next) fun _=>Tr.bJ fun p _=>Tr.read (g:=trunc st.j) (r:=fun τ ν=>gd (vC (p.1 τ).lv rm) (GA prog w T ν hd rm c st (p.1 τ) p.2 (parts st.led (st.hs/64)))) (fun _ _ h=>h.trunc) (fun τ=>Tr.gd fun h=>Gw c (p.1 τ) p.2 h) fun _ _ _ _ _ q=>q
omit hS in
theorem s9{s:Shared}{a:Addr}{o:Obj}(e:s.heap.get? a=some o)(f:bh o):e5 s a=o.slots:=by unfold e5;rw[e];dsimp only;rw[(dh o).mpr f]
omit hS in
theorem pb{s:Shared}{a:Addr}{o:Obj}{f:Obj->Obj}(e:s.heap.get? a=some o)(hf:(f o).isFreed=false)(hi:fI (f o)=fI o)(h:fI o=true->(f o).slots=o.slots):e5 {s with heap:=s.heap.update a f}=e5 s:=by
 funext b
 unfold e5
 dsimp only
 by_cases z:b=a
 ·cases z
  rw[Heap.get?_update_self f e hf,e]
  dsimp only
  rw[hi]
  cases q:fI o with
  |true=>exact h q
  |false=>rfl
 ·rw[(Heap.SameBut.update ..).2 b z]
omit hS in
theorem m9{s:Shared}{st':St prog w T}{o o':Obj}(hs:Sat T s st.led)(hf:o.isFreed=false)(hl:bU o o')(e1:st'.led=(s.heap.objs.size,o')::st.led)(e2:st.j<=st'.j):After s {s with heap:=s.heap.push o} st st':=by
 refine⟨e2,e1▸pq hs hf hl,iE.of_keep (fun a x e=>iq _ e) rfl rfl rfl,fun p hp=> ?_⟩
 rw[e1]at hp
 rcases bu hp with rfl|hp
 ·exact .inr (Heap.get?_none_of_le (bC _))
 ·exact .inl (gN hp)
omit hS in
theorem m8{s:Shared}{st':St prog w T}{i:Nat}{a:Addr}{o o' x':Obj}{f:Obj->Obj}(hs:Sat T s st.led)(hi:jh st.led i=some (a,o))(ho:s.heap.get? a=some o')(hf:(f o').isFreed=false)(hl:bU (f o') x')(hk:bh o'->bh (f o'))(e1:st'.led=put st.led i x')(e2:st.j<=st'.j):After s {s with heap:=s.heap.update a f} st st':=by
 refine⟨e2,e1▸tD hs hi ho hf hl,uL hi ho hf hk,fun p hp=>.inl ?_⟩
 rw[e1]at hp
 exact tI hp
section
variable(α:Type)
theorem Bf(a:Addr)(q:Option Value)(k:Obj->Sem α):Tr hd rm st (fun ν=>stepT prog w T ν (R ν) hd rm α (.load a q k) st) (pT prog w (.load a q k)):=by
 refine Tr.qD (fun _=>Tr.bJ fun o ho=> ?_) fun _=>Tr.bJ fun p hp=>Tr.qD (fun hm=> ?_) fun hm=> ?_
 ·exact(hS.t (k o)).next.vQ fun _ _ _ _ pre q=>x_load (pre.hs.top a o ho).1 q
 ·refine Tr.slots (r:=fun sl ν=>(R ν).t hd rm α (k {p.2 with slots:=sl p.1}) (st.JI [⟨Nat,a,p.1⟩])) fun sl=>(hS.t _).jb rfl rfl rfl fun ax A R s pre ob q e=> ?_
  obtain⟨o',eo,lo⟩:=pre.hs.get _ (br hp)
  have AS:a=p.1:=ob _ (.head _)
  have vR:=s9 eo (lo.zo.mpr (lo.mark hm).1)
  obtain⟨_,rq,rfl⟩:=lo.mark hm
  rw[e,vR]at q
  exact x_load (AS▸eo) q
 ·refine(hS.t _).jb (new:=[⟨Nat,a,p.1⟩]) rfl rfl rfl fun ax A R s pre ob q=> ?_
  obtain⟨o',eo,lo⟩:=pre.hs.get _ (br hp)
  have AS:a=p.1:=ob _ (.head _)
  exact x_load (AS▸(lo.bare hm).2▸eo) q
theorem xq(o:Obj)(k:Addr->Sem α):Tr hd rm st (fun ν=>stepT prog w T ν (R ν) hd rm α (.alloc o k) st) (pT prog w (.alloc o k)):=by
 refine Tr.ug fun hf=>Tr.qD (fun hi=> ?_) fun hi=>Tr.ug fun hm=> ?_
 ·refine Tr.move (st':=fun μ=>st.JJ (μ.1 0) {o with slots:=jt}) (r:=fun μ ν=>(R ν).t hd rm α (k (μ.1 0)) (st.JJ (μ.1 0) {o with slots:=jt})) (new:=[]) (fun μ=>hS.t _) (fun _=>rfl) (fun _=>rfl) fun ax A R s pre _ q=>aw (m:=alloc o) (f:=k) (wpAny_alloc ?_)
  exact q (fun _=>s.heap.objs.size,fun _=>[]) _ (m9 pre.hs hf (bU.jT (o:={o with slots:=jt}) rfl ((dh o).mp hi) (sl:=o.slots) rfl) rfl (Nat.le_succ _))
 ·refine Tr.move (st':=fun μ=>st.JJ (μ.1 0) o) (r:=fun μ ν=>(R ν).t hd rm α (k (μ.1 0)) (st.JJ (μ.1 0) o)) (new:=[]) (fun μ=>hS.t _) (fun _=>rfl) (fun _=>rfl) fun ax A R s pre _ q=>aw (m:=alloc o) (f:=k) (wpAny_alloc ?_)
  exact q (fun _=>s.heap.objs.size,fun _=>[]) _ (m9 pre.hs hf (bU.dp hm fun f=>nomatch hi.symm.trans ((dh o).mpr f)) rfl (Nat.le_succ _))
theorem u1(a:Addr)(q:Option Value)(f:Obj->Obj)(k:Unit->Sem α):Tr hd rm st (fun ν=>stepT prog w T ν (R ν) hd rm α (.update a q f k) st) (pT prog w (.update a q f k)):=by
 refine Tr.bJ fun p hp=>Tr.qD (fun hm=> ?_) fun hm=>Tr.ug fun hb=> ?_
 ·refine Tr.slots (r:=fun sl ν=>gd (HT (f {p.2 with slots:=sl p.1})) ((R ν).t hd rm α (k ()) (st.G8 (Nat.pred (st.hs%64)) {f {p.2 with slots:=sl p.1}with slots:=jt} [⟨Nat,a,p.1⟩,⟨Value,(f {p.2 with slots:=sl p.1}).cls,p.2.cls⟩,⟨Array (Option Value),(f {p.2 with slots:=sl p.1}).slots,sl p.1⟩]))) fun sl=>Tr.gd fun hd=>(hS.t _).step rfl rfl fun ax A R s pre ob q e=> ?_
  obtain⟨o',eo,lo⟩:=pre.hs.get _ (br hp)
  have AS:a=p.1:=ob _ (.head _)
  have H5:=ob _ (.tail _ (.head _))
  have HZ:=ob _ (.tail _ (.tail _ (.head _)))
  have Xi:=lo.zo.mpr (lo.mark hm).1
  have vR:sl p.1=_:=(congrFun e p.1).trans (s9 eo Xi)
  obtain⟨fr,rq,rfl⟩:=lo.mark hm
  dsimp only at vR H5 HZ
  rw[vR]at H5 HZ hd q
  obtain⟨es,n,ed⟩:=Ny hd
  have ff:bh (f {p.2 with slots:=rq}):=⟨H5.trans fr.1,es,n,ed⟩
  have h1:fI ({p.2 with slots:=rq}:Obj)=true:=(dh _).mpr Xi
  subst AS
  exact aw (m:=updatePart _ _ f) (f:=k) (wpAny_updatePart eo (q _ (pb eo (k8 ff) (((dh _).mpr ff).trans h1.symm) fun _=>HZ)
   (m8 pre.hs hp eo (k8 ff) (bU.jT (o:={f {p.2 with slots:=rq}with slots:=jt}) rfl ff (sl:=(f {p.2 with slots:=rq}).slots) rfl) (fun _=>ff) rfl (bC _))))
 ·refine(hS.t _).step (new:=[⟨Nat,a,p.1⟩]) rfl rfl fun ax A R s pre ob q=> ?_
  obtain⟨o',eo,lo⟩:=pre.hs.get _ (br hp)
  have AS:a=p.1:=ob _ (.head _)
  obtain⟨nf,rfl⟩:=lo.bare hm
  obtain⟨ZZ,b3⟩:=Bool.or_eq_false_iff.mp hb
  obtain⟨b1,b2⟩:=Bool.or_eq_false_iff.mp ZZ
  have Wi:fI p.2=false:=Bool.eq_false_iff.mpr fun q=>nf ((dh _).mp q)
  subst AS
  exact aw (m:=updatePart _ _ f) (f:=k) (wpAny_updatePart eo (q _ (pb eo b1 (b3.trans Wi.symm) fun z=>nomatch Wi.symm.trans z)
   (m8 pre.hs hp eo b1 (bU.dp b2 fun q=>nomatch b3.symm.trans ((dh _).mpr q)) (fun q=>absurd q nf) rfl (bC _))))
theorem Bc(t:Sem α):Tr hd rm st (fun ν=>stepT prog w T ν (R ν) hd rm α t st) (pT prog w t):=by
 cases t with
 |pure a=>exact(Tr.ok a).imp fun _ _ _ q=>x_pure q
 |raise e=>exact(Tr.er e).imp fun _ _ _ q=>x_raise q
 |rule _ k=>exact(hS.t (k ())).imp fun _ _ _ q=>x_rule q
 |«at» _ k=>exact(hS.t (k ())).imp fun _ _ _ q=>x_at q
 |point _ k=>exact(hS.t (k ())).imp fun _ _ _ q=>x_point q
 |ask k=>
  refine Tr.qD (fun _=>(hS.t _).next.imp fun _ _ _ q=>x_ask q) fun _=>(hS.t _).jb rfl rfl rfl fun ax A R s pre ob q=>x_ask ?_
  have o1:=ob _ (.head _)
  have o2:=ob _ (.tail _ (.head _))
  dsimp only at o1 o2
  rw[o1]
  cases w.params.followText (tF (st.hs%64))with
  |true=>exact q
  |false=>rw[o2];exact q
 |fresh k=>
  exact Tr.move (st':=fun _=>{st with j:=st.j+1}) (r:=fun μ ν=>(R ν).t hd rm α (k (μ.1 0)) {st with j:=st.j+1}) (new:=[]) (fun μ=>hS.t _) (fun _=>rfl) (fun _=>rfl) fun ax A R s pre _ q=>x_fresh (q (fun _=>s.toks,fun _=>[]) _
   ⟨Nat.le_succ _,⟨pre.hs.get,pre.hs.nd,pre.hs.low,pre.hs.top,pre.hs.size⟩,iE.of_keep (fun _ _ e=>e) rfl rfl rfl,fun p hp=>.inl (gN hp)⟩)
 |handled own k=>
  cases own with
  |true=>exact Tr.none
  |false=>exact(hS.t (k hd)).vQ fun _ _ _ _ pre q=>x_handled (pre.hh▸q)
 |load a q k=>exact Bf hS α a q k
 |alloc o k=>exact xq hS α o k
 |update a q f k=>exact u1 hS α a q f k
 |call c h g l k=>
  refine Tr.gd fun eM=>(((sU hS c).shift (hd:=hd) (rm:=rm) (C:=fun _=>True) (fun A=>A.mark h) fun A s a b c _=>⟨congrArg h.or a,by
   cases rm with
   |none=>trivial
   |some n=>exact⟨⟨b.1.depth,b.1.units⟩,b.2⟩,c⟩).bx (F:=fun ν r st'=>(R ν).t hd rm α (k r) st') fun r bF=>hS.t (k r)).imp fun A R s q=>x_call (q trivial) ?_
  rintro rfl
  nomatch eM
 |_=>exact Tr.none
end
end
theorem X4{α:Type _}{l:List α}{p:α×List α}(h:Kb l=some p):l=p.1::p.2:=by
 cases l with
 |nil=>nomatch h
 |cons=>cases h;rfl
theorem Km{l:List Value}{v:Value×Value×List Value}(h:Er l=some v):l=v.1::v.2.1::v.2.2:=by
 cases l with
 |nil=>nomatch h
 |cons a l=>
  cases l with
  |nil=>nomatch h
  |cons=>cases h;rfl
theorem Sk{l:List Value}(h:PC l=true):E4 fun a b c r=>l=a::b::c:: .none::r:=by
 match l,h with
 |a::b::c::v::r,h=>exact⟨a,b,c,r,by rw[Fs h]⟩
section
variable{α:Type _}{l:List α}
theorem rH{x:α}(h:pP l=some x):l=[x]:=by
 match l,h with
 |[_],h=>cases h;rfl
theorem QN{x:α×α}(h:Kh l=some x):l=[x.1,x.2]:=by
 match l,h with
 |[_,_],h=>cases h;rfl
end
structure Eh(T:Ground)(s s':Shared)(t a L:Addr)(o:Obj)(v0 tb:Value)(r pl:List Value):Prop where
 gens:s'.gens=s.gens
 drawn:s'.drawn=s.drawn
 os:s'.os=s.os
 size:T.n<=s'.heap.objs.size
 low:T.n<=t
 no:s.heap.get? t=none
 ta:t≠a
 gt:s'.heap.get? t=some (Bk tb L pl)
 ga:s'.heap.get? a=some {o with data:=.fields (v0:: .ref t::r).toArray}
 keep:∀b x,b≠a->s.heap.get? b=some x->s'.heap.get? b=some x\/(T.n<=b/\bh x/\∃sl,s'.heap.get? b=some {x with slots:=sl})
theorem Frames.T6{s:Shared}{l:List Env}(h:Frames T s l):s.heap.FunFrames {objs:= #[]} l:=by
 induction l with
 |nil=>trivial
 |cons e l ih=>
  obtain⟨k,L',o',f1,_,f3,f4⟩:=h e (.head _)
  exact⟨k,⟨L',o',f1,by simp[Heap.get?],f3,fun vs q=>by obtain⟨_,es,n,z⟩:=f4;rw[z]at q;cases q⟩,ih fun x hx=>h x (.tail _ hx)⟩
def Kl(tb:Value)(L:Addr)(pl:List Value):Obj:={cls:=.type "traceback",dict:=none,data:=.fields ([tb,.ref L,.none,rawInt L,.none]++pl).toArray}
theorem k9{A:Around}{s s₁:Shared}{env:Env}{outer:List Env}{L a:Addr}{o:Obj}{vs:Array Value}{v0 tb:Value}{r:List Value}{Q:Unit->Shared->Prop}{E:Value->Shared->Prop}{M:Model}{Zr:Bool}
  (P0:A.frames=some (env::outer))(hf:Frames T s (env::outer))(hL:env.frame=some L)(ho:s.heap.get? a=some o)(hd:o.data=.fields vs)(hv:vs.toList=v0::tb::r)(hsz:T.n<=s.heap.objs.size)
  (g1:s₁.gens=s.gens)(g2:s₁.drawn=s.drawn)(g3:s₁.os=s.os)(g4:s₁.heap.objs.size=s.heap.objs.size)(g5:∀b,s₁.heap.get? b=s.heap.get? b)
  (h:∀s' t pl,Eh T s s' t a L o v0 tb r pl->Q () s'):
  wpAny M A (do let x<-frameOf env;let pl<-entryPlaceOf L Zr;let b<-EntryCells.newEntry tb x .none (rawInt L) .none pl;setField (.ref a) 1 b) (fun _ dH=>wpAny M A (setFlight (.ref a) none) Q E dH) E s₁:=by
 have Vz:1<vs.size:=by rw[<-Array.length_toList,hv];exact Nat.succ_lt_succ (Nat.succ_pos _)
 have Ur:s₁.heap.FunFrames {objs:= #[]} (env::outer):=hf.T6.of_keeps fun b x e _=>⟨x,(g5 b).trans e,rfl⟩
 refine aw (wpAny_frameOf_fun P0 Ur hL fun h₁ mM=> ?_)
 refine aw (wpAny_entryPlaceOf fun pl PU=> ?_)
 unfold EntryCells.newEntry newFields
 refine aw (wpAny_newObj_type ?_ (PU.sizeOk5 _ _ _ _ _))
 have JP:s.heap.get? h₁.objs.size=none:=by
  cases z:s.heap.get? h₁.objs.size with
  |none=>rfl
  |some x=>
   obtain⟨sl,q⟩:=mM.2.2 _ x ((g5 _).trans z)
   exact absurd (Heap.lt_size q) (Nat.lt_irrefl _)
 have NI:a∉(env::outer).filterMap (·.frame):=fun hm=>by
  obtain⟨_,x,hx,Y7⟩:=Ur.mem hm
  rw[g5,ho]at hx;cases hx;exact Y7 vs hd
 have keep:∀b x,s.heap.get? b=some x->h₁.get? b=some x\/(T.n<=b/\bh x/\∃sl,h₁.get? b=some {x with slots:=sl}):=fun b x hx=>by
  by_cases hm:b∈(env::outer).filterMap (·.frame)
  ·obtain⟨e',P1,Zg⟩:=List.mem_filterMap.mp hm
   obtain⟨_,L',o',f1,f2,f3,f4⟩:=hf e' P1
   cases f1.symm.trans Zg
   cases f3.symm.trans hx
   exact .inr ⟨f2,f4,mM.2.2 b x ((g5 b).trans hx)⟩
  ·exact .inl ((mM.2.1 b hm).trans ((g5 b).trans hx))
 have Fx:h₁.get? a=some o:=(mM.2.1 a NI).trans ((g5 a).trans ho)
 have e4:h₁.objs.size=s.heap.objs.size:=mM.1.trans g4
 clear mM Ur NI g4 g5
 generalize (if pl.isEmpty then List.replicate 6 Value.none else pl)=JG
 show wpAny M A (setField (.ref a) 1 (.ref h₁.objs.size)) _ E ⟨h₁.push (Kl tb L JG),_,_,_,_⟩
 have Fw:=iq (Kl tb L JG) Fx
 refine wpAny_setField Fw hd Vz ?_
 have TG:h₁.objs.size≠a:=Nat.ne_of_gt (Heap.lt_size Fx)
 have Fy:=Obj.data_mapFields hd (·.setIfInBounds 1 (Value.ref h₁.objs.size))
 have Fv:=Heap.get?_update_self (Obj.mapFields (·.setIfInBounds 1 (Value.ref h₁.objs.size))) Fw (Obj.isFreed_of_fields Fy)
 have Fz:=(Heap.get?_update_other (h₁.push (Kl tb L JG)) (Obj.mapFields (·.setIfInBounds 1 (Value.ref h₁.objs.size))) (Ne.symm TG)).trans (Heap.get?_push_size h₁ rfl)
 unfold setFlight
 refine aw (gj Fv Fy (x:=.ref h₁.objs.size) (by simp[Vz]) ?_)
 rw[if_pos (show(Value.ref h₁.objs.size !=Value.none)=true from rfl)]
 refine wpAny_setField Fz rfl (show 3<_ from Nat.succ_lt_succ (Nat.succ_lt_succ (Nat.succ_lt_succ (Nat.succ_pos _)))) ?_
 refine h _ h₁.objs.size JG ⟨g1,g2,g3,?_,e4▸hsz,JP,TG,?_,?_,fun b x hb hx=> ?_⟩
 ·show T.n<=(((h₁.push (Kl tb L JG)).update a _).update _ _).objs.size
  rw[(Heap.SameBut.update ..).1,(Heap.SameBut.update ..).1,Heap.size_push,e4]
  exact jK hsz
 ·exact Heap.get?_update_self (Obj.mapFields (·.setIfInBounds 3 Value.none)) Fz (Obj.isFreed_of_fields (Obj.data_mapFields rfl _))
 ·refine(Heap.get?_update_other _ _ TG).trans (Fv.trans ?_)
  obtain⟨c,d,dt,sl⟩:=o
  cases hd
  cases (show vs=(v0::tb::r).toArray from by rw[<-hv])
  rfl
 ·have Zn:h₁.objs.size≠b:=fun z=>nomatch (z▸JP).symm.trans hx
  have k2:∀z,h₁.get? b=some z->(((h₁.push (Kl tb L JG)).update a (Obj.mapFields (·.setIfInBounds 1 (Value.ref h₁.objs.size)))).update h₁.objs.size (Obj.mapFields (·.setIfInBounds 3 Value.none))).get? b=some z:=fun z hz=>by
   rw[Heap.get?_update_other _ _ Zn,Heap.get?_update_other _ _ (Ne.symm hb)]
   exact iq _ hz
  exact(keep b x hx).imp (k2 x) fun q=>⟨q.1,q.2.1,q.2.2.elim fun sl q=>⟨sl,k2 _ q⟩⟩
theorem Dd{A:Around}{s:Shared}{env:Env}{outer:List Env}{L a:Addr}{o:Obj}{vs:Array Value}{v0 tb:Value}{r:List Value}{Q:Unit->Shared->Prop}{E:Value->Shared->Prop}{M:Model}
  (P0:A.frames=some (env::outer))(hf:Frames T s (env::outer))(hL:env.frame=some L)(ho:s.heap.get? a=some o)(hd:o.data=.fields vs)(hv:vs.toList=v0::tb::r)(hsz:T.n<=s.heap.objs.size)
  (YY:tb=.none\/E3 fun h o2 ws=>tb=.ref h/\h≠a/\s.heap.get? h=some o2/\o2.data=.fields ws/\PC ws.toList=true)
  (h:∀s' t pl,Eh T s s' t a L o v0 tb r pl->Q () s'):
  wpAny M A (noteFrame (.ref a) env) (fun _ dH=>wpAny M A (setFlight (.ref a) none) Q E dH) E s:=by
 have Ph:vs[1]? =some tb:=by rw[<-Array.getElem?_toList,hv];rfl
 unfold noteFrame
 simp only[hL]
 refine aw (gj ho hd Ph ?_)
 rcases YY with e|⟨hh,o2,ws,e,hZ,h2,hw,hn⟩
 ·cases e
  rw[if_neg (by decide)]
  exact k9 P0 hf hL ho hd hv hsz rfl rfl rfl rfl (fun _=>rfl) h
 ·cases e
  obtain⟨w0,w1,w2,wr,NC⟩:=Sk hn
  have NC:ws=(w0::w1::w2:: .none::wr).toArray:=by rw[<-NC]
  subst NC
  rw[if_pos (show(Value.ref hh !=Value.none)=true from rfl)]
  refine aw (gj h2 hw (i:=3) (x:=.none) rfl ?_)
  rw[if_neg (show¬((Value.none==rawInt L)=true)from Bool.false_ne_true)]
  refine aw (wpAny_setField h2 hw (Nat.succ_lt_succ (Nat.succ_lt_succ (Nat.succ_lt_succ (Nat.succ_pos _)))) ?_)
  refine k9 (s₁:=⟨s.heap.update hh (Obj.mapFields (·.setIfInBounds 3 Value.none)),s.gens,s.drawn,s.toks,s.os⟩) P0 hf hL ho hd hv hsz rfl rfl rfl (Heap.SameBut.update ..).1 (fun b=> ?_) h
  by_cases z:b=hh
  ·cases z
   refine(Heap.get?_update_self _ h2 (Obj.isFreed_of_fields (Obj.data_mapFields hw _))).trans (Eq.trans ?_ h2.symm)
   obtain⟨c,d,dt,sl⟩:=o2
   cases hw
   rfl
  ·exact Heap.get?_update_other _ _ (Ne.symm z)
def Ln(prog:Program)(w:World)(env:Env)(e:Value):PT Unit:=fun A R s=>wpAny (model prog w) A (noteFrame e env) (fun _ dH=>wpAny (model prog w) A (setFlight e none) (fun u s'=>R (.ok u) s') (fun e s'=>R (.error e) s') dH) (fun e s'=>R (.error e) s') s
theorem aa{o:Obj}{vs:Array Value}(h:o.data=.fields vs):¬bh o:=fun⟨_,es,n,e⟩=>nomatch h.symm.trans e
theorem Eh.after{s s':Shared}{st st':St prog w T}{i:Nat}{a t L:Addr}{o:Obj}{v0 tb:Value}{r pl:List Value}(x:Eh T s s' t a L o v0 tb r pl)(hs:Sat T s st.led)(hi:jh st.led i=some (a,o))(no:¬bh o)(mo:bq o=false)
  (e1:st'.led=(t,Bk tb L pl)::put st.led i {o with data:=.fields (v0:: .ref t::r).toArray})(e2:st.j<=st'.j):After s s' st st':=by
 have ma:a∈st.led.map (·.1):=gN (f:=(·.1)) (br hi)
 refine⟨e2,e1▸⟨fun p hp=> ?_,List.nodup_cons.mpr ⟨fun m=> ?_,(dN _ _ _).symm▸hs.nd⟩,fun p hp=> ?_,fun b y e=>⟨?_,(hs.top b y e).2⟩,x.size⟩,⟨fun b y e n=>x.keep b y (fun z=>n (z▸ma)) e,fun b y e f=> ?_,x.gens,x.drawn,x.os⟩,fun p hp=> ?_⟩
 ·rcases bu hp with rfl|hp
  ·exact⟨_,x.gt,bU.dp rfl (aa rfl)⟩
  ·rcases g8 hs.nd hi p hp with rfl|q
   ·exact⟨_,x.ga,bU.dp mo (aa rfl)⟩
   ·obtain⟨y,ey,ly⟩:=hs.get p q.1
    rcases x.keep p.1 y q.2 ey with z|⟨_,z2,sl,z⟩
    ·exact⟨y,z,ly⟩
    ·have fo:=ly.zo.mp z2
     obtain⟨m,rq,rfl⟩:=ly.fr fo
     exact⟨_,z,bU.jT m fo rfl⟩
 ·obtain⟨p,hp,e⟩:=cz (dN _ _ _▸m)
  obtain⟨y,ey⟩:=hs.alive hp
  exact nomatch (e▸ey).symm.trans x.no
 ·rcases bu hp with rfl|hp
  ·exact x.low
  ·rcases g8 hs.nd hi p hp with rfl|q
   ·exact hs.low (a,o) (br hi)
   ·exact hs.low p q.1
 ·have l:=hs.low (a,o) (br hi)
  have lt:=(hs.top b y e).2
  rcases x.keep b y (fun z=>absurd l (Nat.not_le.mpr (z▸lt))) (hs.top b y e).1 with z|⟨z,_⟩
  ·exact z
  ·exact absurd z (Nat.not_le.mpr lt)
 ·by_cases z:b=a
  ·cases z
   cases (hs.at (br hi) no).symm.trans e
   exact absurd f no
  ·rcases x.keep b y z e with q|⟨_,q2,sl,q⟩
   ·exact⟨y,q,f⟩
   ·exact⟨_,q,f⟩
 ·rw[e1]at hp
  rcases bu hp with rfl|hp
  ·exact .inr x.no
  ·exact .inl (tI hp)
theorem IB{tb:Value}{st:St prog w T}{z:List Ob×Nat}{p:Addr×Obj}{s:Shared}(h:zF prog w T tb st=some z)(hs:Sat T s st.led)(hp:jh st.led (Nat.pred (st.hs%64))=some p)(ob:dD z.1):
  tb=.none\/E3 fun h o2 ws=>tb=.ref h/\h≠p.1/\s.heap.get? h=some o2/\o2.data=.fields ws/\PC ws.toList=true:=by
 unfold zF at h
 cases e:CD tb with
 |true=>exact .inl (Fs e)
 |false=>
  rw[e]at h
  refine eP h fun b hb h=>eP h fun q hq h=>QL h fun hZ h=>eP h fun ws hw h=>N0 h fun hn h=> ?_
  cases h
  have e:b=q.1:=ob _ (.head _)
  exact .inr ⟨b,q.2,ws,vp hb,e▸kK hs.nd hq hp (Nat.ne_of_beq_eq_false hZ),e▸hs.at (br hq) (aa (wi hw)),wi hw,hn⟩
theorem sT{hd:Option Value}{rm:Option Rm}{st:St prog w T}(env:Env)(e:Value):Tr hd rm st (fun ν=>qp prog w T ν rm env e st) (Ln prog w env e):=by
 refine Tr.bJ fun fs Zf=>Tr.bJ fun L hL=>Tr.bJ fun a ha=>Tr.bJ fun p hp=>Tr.bJ fun vs JN=>Tr.bJ fun v hv=>Tr.bJ fun z hz=> ?_
 refine Tr.move (st':=fun μ=>{led:=(μ.1 0,Bk v.2.1 L (μ.2.1 0))::put st.led (Nat.pred (st.hs%64)) {p.2 with data:=.fields (v.1:: .ref (μ.1 0)::v.2.2).toArray},j:=st.j+1,hs:=z.2,xs:=st.xs,obs:=(z.1++[⟨Nat,a,p.1⟩,⟨Env,env,fs.1⟩])++st.obs})
  (r:=fun μ _=>hE () {led:=(μ.1 0,Bk v.2.1 L (μ.2.1 0))::put st.led (Nat.pred (st.hs%64)) {p.2 with data:=.fields (v.1:: .ref (μ.1 0)::v.2.2).toArray},j:=st.j+1,hs:=z.2,xs:=st.xs,obs:=(z.1++[⟨Nat,a,p.1⟩,⟨Env,env,fs.1⟩])++st.obs})
  (fun μ=>Tr.ok ()) (fun _=>rfl) (fun _=>rfl) fun ax A R s pre ob q=> ?_
 cases vp ha
 obtain⟨o1,o2⟩:=dD.app.mp ob
 have e1:a=p.1:=o2 _ (.head _)
 have e2:env=fs.1:=o2 _ (.tail _ (.head _))
 have ef:dw rm=env::fs.2:=e2▸X4 Zf
 have no:=aa (wi JN)
 have hr:A.frames=some (env::fs.2):=by
  cases rm with
  |none=>nomatch ef
  |some n=>exact ef▸pre.hr.2
 have mo:bq p.2=false:=by
  obtain⟨o',_,l⟩:=pre.hs.get _ (br hp)
  exact(l.no no).1
 subst e1
 exact Dd (T:=T) hr (ef▸pre.hf) hL (pre.hs.at (br hp) no) (wi JN) (Km hv) pre.hs.size (IB hz pre.hs hp o1) fun s' t pl x=>q (fun _=>t,fun _=>pl) s' (x.after pre.hs hp no mo rfl (Nat.le_succ _))
theorem gV{M:Model}{Γ:Ctx}{env:Env}(b:List Stmt):∀(a:List Stmt) (Q:Flow->Pos->Shared->Prop) (E:Value->Pos->Shared->Prop) (p:Pos) (s:Shared),
  Sem.wp M Γ (execs a env) (fun f p' s'=>match f with| .next=>Sem.wp M Γ (execs b env) Q E p' s'|f=>Q f p' s') E p s->Sem.wp M Γ (execs (a++b) env) Q E p s
 |[],Q,E,p,s,h=>h
 |st::a,Q,E,p,s,h=>by
  rw[execs_cons,Sem.wp_bind']at h
  rw[List.cons_append,execs_cons,Sem.wp_bind']
  refine Sem.wp_mono M Γ _ (fun f p' s' h'=> ?_) (fun _ _ _ h'=>h') _ _ h
  cases f with
  |next=>exact gV b a Q E p' s' h'
  |brk=>exact h'
  |cont=>exact h'
  |ret v=>exact h'
section
variable{M:Model}{A:Around}
theorem jz{env:Env}{a b:List Stmt}{Q:Flow->Shared->Prop}{E:Value->Shared->Prop}{s:Shared}(h:wpAny M A (execs a env) (fun f s'=>match f with| .next=>wpAny M A (execs b env) Q E s'|f=>Q f s') E s):wpAny M A (execs (a++b) env) Q E s:=fun Γ p AP=>by
 refine gV b a _ _ p s (Sem.wp_mono M Γ _ (fun f p' s' h'=> ?_) (fun _ _ _ h'=>h') _ _ (h Γ p AP))
 cases f<;>first|exact h' Γ p' AP|exact h'
theorem gB{target:Expr}{it:Value}{env:Env}{s:Shared}{α:Type}{f:Sem α}{g:Value->Sem α}{Q:α->Shared->Prop}{E:Value->Shared->Prop}(h:wpAny M A (bE target it env) (fun b s₁=>match b with|true=>∀v,wpAny M A (g v) Q (fun _ _=>False) s₁|false=>wpAny M A f Q (fun _ _=>False) s₁) (fun _ _=>False) s):
  wpAny M A (do
   match<-pyNext it with
   |none=>f
   |some v=>do
    letOwnedTupleGo target it v
    assign target env v
    g v) Q E s:=by
 have e:bE target it env=(do
  match<-pyNext it with
  |none=>pure false
  |some v=>do
   letOwnedTupleGo target it v
   assign target env v
   pure true):=by
  unfold bE
  rw[<-PySem.W.Fast.te9404975358583537561,<-PySem.W.Fast.te1578499551869305889,<-PySem.W.Fast.te17772580674575903948]
 rw[e]at h
 intro Γ p AP
 have h:=h Γ p AP
 rw[Sem.wp_bind']at h⊢
 refine Sem.wp_mono M Γ _ (fun x p' s' q=> ?_) (fun _ _ _ q=>q.elim) _ _ h
 cases x with
 |none=>
  dsimp only at q⊢
  rw[Sem.wp_pure']at q
  exact Sem.wp_mono M Γ _ (fun _ _ _ q=>q) (fun _ _ _ q=>q.elim) _ _ (q Γ p' AP)
 |some v=>
  dsimp only at q⊢
  rw[Sem.wp_bind']at q⊢
  refine Sem.wp_mono M Γ _ (fun x p' s' q=> ?_) (fun _ _ _ q=>q.elim) _ _ q
  rw[Sem.wp_bind']at q⊢
  refine Sem.wp_mono M Γ _ (fun x p' s' q=> ?_) (fun _ _ _ q=>q.elim) _ _ q
  rw[Sem.wp_pure']at q
  exact Sem.wp_mono M Γ _ (fun _ _ _ q=>q) (fun _ _ _ q=>q.elim) _ _ (q v Γ p' AP)
end
section
variable{A:Around}
theorem fy{α:Type}{m:Sem α}{k:Value->Sem Unit}{Q:α->Shared->Prop}{E:Value->Shared->Prop}{s:Shared}{M:Model}(h:wpAny M A m Q (fun _ _=>False) s):wpAny M A (m.onRaise k) Q E s:=
 wpAny_onRaise (fg h (fun _ _ q=>q) fun _ _ q=>q.elim)
theorem xd{test:Expr}{body orelse:List Stmt}{env:Env}{Q:Fin->Shared->Prop}{E:Value->Shared->Prop}{s:Shared}(h:wpAny (model prog w) A (PySem.isTrue test env (eval test env)) (fun b s₁=>match b with
   |true=>wpAny (model prog w) A (execs body env) (fun f dH=>Q (eu (.whileLoop test body orelse env) f) dH) (fun _ _=>False) s₁
   |false=>wpAny (model prog w) A (execs orelse env) (fun f dH=>Q (.done f) dH) (fun _ _=>False) s₁) (fun _ _=>False) s):
  wpAny (model prog w) A (denote table (.whileLoop test body orelse env)) Q E s:=by
 show wpAny _ A ((whileTurn test body orelse env).onRaise (fun x=>do noteFrame x env;theTreesLotGoes x)) _ _ s
 refine fy ?_
 simp only[whileTurn]
 refine aw (fg h (fun b dH q=> ?_) fun _ _ q=>q)
 cases b with
 |false=>
  simp only[Bool.false_eq_true,if_false]
  exact aw (fg q (fun f lP q=>aX q) fun _ _ q=>q)
 |true=>
  simp only[if_true]
  refine aw (fg q (fun f lP q=> ?_) fun _ _ q=>q)
  cases f<;>exact aX q
theorem sN{target:Expr}{it:Value}{body orelse:List Stmt}{env:Env}{Q:Fin->Shared->Prop}{E:Value->Shared->Prop}{s:Shared}(h:wpAny (model prog w) A (bE target it env) (fun b s₁=>match b with
   |true=>wpAny (model prog w) A (execs body env) (fun f dH=>Q (eu (.forLoop target it body orelse env) f) dH) (fun _ _=>False) s₁
   |false=>Q (.again (.block orelse env)) s₁) (fun _ _=>False) s):
  wpAny (model prog w) A (denote table (.forLoop target it body orelse env)) Q E s:=by
 show wpAny _ A ((forTurn target it body orelse env).onRaise (fun x=>do noteFrame x env;theTreesLotGoes x)) _ _ s
 refine fy ?_
 simp only[forTurn]
 refine aw (wpAny_standAt ?_)
 have key:=gB (f:=(again (.block orelse env):Sem Fin)) (g:=fun _=>(do match<-execs body env with| .next| .cont=>again (.forLoop target it body orelse env)| .brk=>pure (.done .next)| .ret v=>pure (.done (.ret v)):Sem Fin)) (Q:=Q) (E:=fun _ _=>False) (fg h (fun b s₁ q=>by
  cases b with
  |true=>
   intro v
   refine aw (fg q (fun f lP q=> ?_) fun _ _ q=>q)
   cases f<;>exact aX q
  |false=>exact aX q) fun _ _ q=>q)
 intro Γ p AP
 have key:=key Γ p AP
 rw[Sem.wp_bind']at key⊢
 rw[Sem.wp_onRaise]
 exact Sem.wp_mono (model prog w) Γ _ (fun x p' s' q=>q) (fun _ _ _ (q:False)=>q.elim) _ _ key
theorem xe{elt target iter cond:Expr}{as:Int}{sc:Scope}{pos:Pos}{it acc:Value}{env:Env}{Q:Fin->Shared->Prop}{E:Value->Shared->Prop}{s:Shared}(ha:as=0)(h:wpAny (model prog w) A (bE target it env) (fun b s₁=>match b with
   |true=>wpAny (model prog w) A (PySem.isTrue cond env (eval cond env)) (fun ok dH=>match ok with
    |true=>wpAny (model prog w) A (eval elt env) (fun v lP=>wpAny (model prog w) A (call (.builtin "list.append") [acc,v]) (fun _ q0=>Q (.again (.compLoop (.ListComp elt [⟨target,iter,[cond],as⟩] sc pos) 0 it acc env)) q0) (fun _ _=>False) lP) (fun _ _=>False) dH
    |false=>Q (.again (.compLoop (.ListComp elt [⟨target,iter,[cond],as⟩] sc pos) 0 it acc env)) dH) (fun _ _=>False) s₁
   |false=>Q (.done .next) s₁) (fun _ _=>False) s):
  wpAny (model prog w) A (denote table (.compLoop (.ListComp elt [⟨target,iter,[cond],as⟩] sc pos) 0 it acc env)) Q E s:=by
 subst ha
 show wpAny _ A ((compTurn (.ListComp elt [⟨target,iter,[cond],0⟩] sc pos) 0 it acc env).onRaise (fun x=>do noteFrame x env;theTreesLotGoes x)) _ _ s
 refine fy ?_
 rw[compTurn_list]
 refine aw (wpAny_standAt (gB (fg h (fun b s₁ q=> ?_) fun _ _ q=>q)))
 cases b with
 |false=>exact aX q
 |true=>
  intro v
  refine aw (wpAny_tests_one (fg q (fun ok lP q=> ?_) fun _ _ q=>q))
  cases ok with
  |false=>exact aX q
  |true=>exact aw (aw (fg q (fun x q0 S1=>aw (fg S1 (fun _ Yl S0=>aX (aX S0)) fun _ _ h'=>h')) fun _ _ h'=>h'))
end
theorem cM{n:String}(h:nZ n=true){a:Addr}{A:Around}{E:Value->Shared->Prop}{s:Shared}(hT:s.TypeIs (.ref a) n):wpAny (model prog w) A (pyIter (.ref a)) (fun v s'=>v=.ref a/\s'=s) E s:=by
 simp only[nZ,Bool.or_eq_true,beq_iff_eq]at h
 rcases h with(((((rfl|rfl)|rfl)|rfl)|rfl)|rfl)|rfl
 ·refine wpAny_pyIter_slot hT slot_listiter_iter (wpAny_call_entry slot_listiter_iter hT entry_listiter_iter ?_ (args_listiter_iter _))
  exact aX ⟨_,rfl,_,_,hT,slot_listiter_next.lookup,rfl,rfl⟩
 ·refine wpAny_pyIter_slot hT F.slot_tuple_iterator_iter (wpAny_call_entry F.slot_tuple_iterator_iter hT F.entry_tuple_iterator_iter ?_ (F.args_tuple_iterator_iter_1 _))
  exact aX ⟨_,rfl,_,_,hT,F.slot_tuple_iterator_next.lookup,rfl,rfl⟩
 ·refine wpAny_pyIter_slot hT F.slot_range_iterator_iter (wpAny_call_entry F.slot_range_iterator_iter hT F.entry_range_iterator_iter ?_ (F.args_range_iterator_iter_1 _))
  exact aX ⟨_,rfl,_,_,hT,F.slot_range_iterator_next.lookup,rfl,rfl⟩
 ·refine wpAny_pyIter_slot hT F.slot_dict_keyiterator_iter (wpAny_call_entry F.slot_dict_keyiterator_iter hT F.entry_dict_keyiterator_iter ?_ (F.args_dict_keyiterator_iter_1 _))
  exact aX ⟨_,rfl,_,_,hT,F.slot_dict_keyiterator_next.lookup,rfl,rfl⟩
 ·refine wpAny_pyIter_slot hT F.slot_str_ascii_iterator_iter (wpAny_call_entry F.slot_str_ascii_iterator_iter hT F.entry_str_ascii_iterator_iter ?_ (F.args_str_ascii_iterator_iter_1 _))
  exact aX ⟨_,rfl,_,_,hT,F.slot_str_ascii_iterator_next.lookup,rfl,rfl⟩
 ·refine wpAny_pyIter_slot hT F.slot_str_iterator_iter (wpAny_call_entry F.slot_str_iterator_iter hT F.entry_str_iterator_iter ?_ (F.args_str_iterator_iter_1 _))
  exact aX ⟨_,rfl,_,_,hT,F.slot_str_iterator_next.lookup,rfl,rfl⟩
 ·refine wpAny_pyIter_slot hT F.slot_dict_valueiterator_iter (wpAny_call_entry F.slot_dict_valueiterator_iter hT entry_dict_valueiterator_iter ?_ (F.args_dict_valueiterator_iter_1 _))
  exact aX ⟨_,rfl,_,_,hT,F.slot_dict_valueiterator_next.lookup,rfl,rfl⟩
theorem xy{e:Expr}(h:xA e=true):xx (clausesOf e)=true/\∀a acc env,denote table (.compStart e 0 (.ref a) acc env)=(compStart e 0 (.ref a) acc env).onRaise (fun x=>do noteFrame x env;standAt theWindowsPlace):=by
 cases e with
 |ListComp _ _ _ _=>exact⟨h,fun _ _ _=>rfl⟩
 |DictComp _ _ _ _ _=>exact⟨h,fun _ _ _=>rfl⟩
 |_=>nomatch h
theorem oN{e:Expr}{depth:Nat}{a:Addr}{acc:Value}{env:Env}{A:Around}{Q:Fin->Shared->Prop}{E:Value->Shared->Prop}{s:Shared}(he:(xA e&&Nat.beq depth 0)=true)
  (hI:∀A E,wpAny (model prog w) A (pyIter (.ref a)) (fun v s'=>v=.ref a/\s'=s) E s)(h:Q (.again (.compLoop e depth (.ref a) acc env)) s):wpAny (model prog w) A (denote table (.compStart e depth (.ref a) acc env)) Q E s:=by
 obtain⟨h1,h2⟩:=Bool.and_eq_true_iff.mp he
 have h2:=Nat.eq_of_beq_eq_true h2
 subst h2
 obtain⟨h1,hd⟩:=xy h1
 have hd:=hd a acc env
 have hc:((clausesOf e)[0]?).elim false (·.is_async !=0)=false:=by
  generalize clausesOf e=gs at h1
  cases gs with
  |nil=>cases h1
  |cons g gs=>
   have:g.is_async=0:=Int.natAbs_eq_zero.mp (Nat.eq_of_beq_eq_true h1)
   show(some g).elim false _=false
   simp[this]
 rw[hd]
 refine fy ?_
 unfold compStart
 rw[if_neg (by rw[hc];exact Bool.false_ne_true)]
 show wpAny _ _ (ask>>=_) _ _ s
 refine aw (wpAny_askSetting (wpAny_ite ?_))
 split
 ·exact aX h
 ·refine aw (wpAny_rule ?_)
  have go:wpAny (model prog w) A (pyIter (.ref a)>>=fun it=>again (.compLoop e 0 it acc env)) Q (fun _ _=>False) s:=by
   refine aw (fg (hI A _) (fun SR s' q=> ?_) fun _ _ q=>q)
   obtain⟨rfl,rfl⟩:=q
   exact aX h
  cases (clausesOf e)[0]? with
  |none=>exact go
  |some g=>exact aw (wpAny_standAt go)
section
variable{R:Nu->Rec prog w T}(hS:Vp R){hd:Option Value}{rm:Option Rm}{st:St prog w T}
include hS
def R3(prog:Program)(w:World)(op:CmpOp)(l r:Expr)(env:Env):PT Value:=fun A R s=>behindInMarks op r=false/\pT prog w (eval l env) A (fun x s1=>pK (fun a A R s=>pT prog w (eval r env) A (fun x s2=>pK (fun b=>pT prog w (compareOp op a b)) x A R s2) s) x A R s1) s
theorem xp(op:CmpOp)(l r:Expr)(env:Env):Tr hd rm st (fun ν=>Jc prog w T (R ν) hd rm op l r env st) (R3 prog w op l r env):=by
 cases rm with
 |none=>exact Tr.none
 |some nf=>
  refine Tr.gd fun h=> ?_
  obtain⟨h1,h2⟩:=Bool.and_eq_true_iff.mp h
  refine((hS.e l env).cB fun a bF=>(hS.e r env).cB fun b c8=>(hS.t (j8 op a b)).vQ (P':=pT prog w (compareOp op a b)) fun ax A R s pre q=> ?_).imp fun A R s q=>⟨(Bool.not_eq_true' _).mp h2,q⟩
  have:=pre.hr.1.units
  exact Gp h1 (by unfold cLine;lia) q
set_option backward.match.sparseCases true in
omit hS in
theorem qW{A:Around}{pos:Pos}{op:BoolOp}{x y:Expr}{env:Env}{Q:Value->Shared->Prop}{E:Value->Shared->Prop}{s:Shared}
  (h:wpAny (model prog w) A (eval x env) (fun v s₁=>∃t,v=.bool t/\(match ki op t with|true=>Q v s₁|false=>wpAny (model prog w) A (eval y env) Q E s₁)) E s):wpAny (model prog w) A (boolOp pos op [eval x env,eval y env]) Q E s:=by
 show wpAny _ A (do let v<-eval x env;standAt pos;let t<-holding [v] (truthy v);match op,t with| .And,false| .Or,true=>pure v|_,_=>boolOp pos op [eval y env]) Q E s
 refine aw (fg h (fun v s₁ q=> ?_) fun _ _ q=>q)
 obtain⟨t,rfl,q⟩:=q
 refine aw (wpAny_standAt (aw (wpAny_holding (wpAny_truthy_bool ?_))))
 cases op<;>cases t<;>first|exact aX q|exact q
section
variable(e:Expr)(env:Env)
theorem QR:Tr hd rm st (fun ν=>Et prog w T (R ν) hd rm e env st) (pT prog w (eval e env)):=by
 refine Tr.qD (fun _=>Pd e env▸(hS.t _).next) fun _=> ?_
 cases e with
 |Compare l ops rs pos=>
  refine Tr.bJ fun op h1=>Tr.bJ fun r h2=> ?_
  cases rH h1
  cases rH h2
  exact(xp hS op l r env).next.imp fun A R s q=>wpAny_Compare1 q.2 q.1
 |BoolOp op es pos=>
  refine Tr.bJ fun x h=> ?_
  cases QN h
  refine(Tr.cB (f:=fun ν=>XN prog w T (R ν) hd rm op x.2 env) (P2:=fun v A R s=>∃t,v=.bool t/\(match ki op t with|true=>R (.ok v) s|false=>pT prog w (eval x.2 env) A R s)) (hS.e x.1 env).next fun v bF=>Tr.bJ fun t ht=> ?_).imp fun A R s q=>qW q
  cases F6 ht
  exact Tr.qD (fun e=>(Tr.ok _).imp fun _ _ _ q=>⟨t,rfl,e▸q⟩) fun e=>(hS.e _ _).imp fun _ _ _ q=>⟨t,rfl,e▸q⟩
 |_=>exact Tr.none
theorem QQ:Tr hd rm st (fun ν=>Es prog w T (R ν) hd rm e env st) (pT prog w (PySem.isTrue e env (eval e env))):=by
 refine Tr.qD (fun _=>Jj e env▸(hS.t _).next) fun _=> ?_
 cases e with
 |Compare l ops rs pos=>
  refine Tr.bJ fun op h1=>Tr.bJ fun r h2=> ?_
  cases rH h1
  cases rH h2
  refine(Tr.cB (f:=fun _ v bF=>bJ (uS v) fun b=>hE b bF) (P2:=fun v=>pT prog w (truthy v)) (xp hS op l r env).next fun v bF=>Tr.bJ fun b hb=> ?_).imp fun A R s q=>wpAny_isTrue_Compare1 q.2 q.1
  cases F6 hb
  exact(Tr.ok b).imp fun _ _ _ q=>wpAny_truthy_bool q
 |BoolOp op es pos=>exact(hS.a op es env).next.imp fun A R s q=>wpAny_isTrue_BoolOp q
 |_=>exact Tr.none
end
set_option backward.match.sparseCases true in
theorem QU(op:BoolOp)(es:List Expr)(env:Env):Tr hd rm st (fun ν=>Ex prog w T (R ν) hd rm op es env st) (pT prog w (allTrue op es env)):=by
 cases es with
 |nil=>
  refine(Tr.ok _).imp fun A R s q=> ?_
  show wpAny _ _ (pure (op==.And)) _ _ _
  refine aX ?_
  cases op<;>exact q
 |cons e rest=>
  refine(Tr.cB (f:=fun ν b bF=>cond (ki op b) (hE b bF) ((R ν).a hd rm op rest env bF)) (P2:=fun b A R s=>match ki op b with|true=>R (.ok b) s|false=>pT prog w (allTrue op rest env) A R s) (hS.q e env) fun b bF=>Tr.qD (fun e=>(Tr.ok b).imp fun _ _ _ q=>e▸q) fun e=>(hS.a op rest env).imp fun _ _ _ q=>e▸q).imp fun A R s q=> ?_
  show wpAny _ _ (do match op,<-PySem.isTrue e env (eval e env)with| .And,false=>pure false| .Or,true=>pure true|_,_=>allTrue op rest env) _ _ _
  refine aw (fg q (fun b s₁ q=> ?_) fun _ _ q=>q)
  cases op<;>cases b<;>first|exact aX q|exact q
def yA(prog:Program)(w:World)(rest:List Stmt)(env:Env)(f:Flow):PT Flow:=fun A R s=>match f with
 | .next=>pT prog w (execs rest env) A R s
 |f=>R (.ok f) s
theorem sR(rest:List Stmt)(env:Env)(f:Flow):Tr hd rm st (fun ν=>kc prog w T (R ν) hd rm rest env f st) (yA prog w rest env f):=by
 cases f with
 |next=>exact hS.b rest env
 |_=>exact Tr.ok _
omit hS in
theorem jP{A:Around}{env:Env}{st:Stmt}{rest:List Stmt}{R:Except Value Flow->Shared->Prop}{s:Shared}
  (h:pT prog w (exec st env) A (fun x s'=>pK (yA prog w rest env) x A R s') s):pT prog w (execs (st::rest) env) A R s:=by
 refine wpAny_execs_cons (fg h (fun f s' q=> ?_) fun _ _ q=>q)
 cases f<;>exact q
theorem Gx(s:Stmt)(rest:List Stmt)(env:Env):Tr hd rm st (fun ν=>Kq prog w T ν (R ν) hd rm s rest env st) (pT prog w (execs (s::rest) env)):=by
 have tT:∀{st} f,Tr hd rm st (fun ν=>kc prog w T (R ν) hd rm rest env f st) (yA prog w rest env f):=fun f=>sR hS rest env f
 cases s with
 |If test body orelse pos=>
  refine Tr.imp (Tr.cB (hS.q test env) fun b bF=>Tr.cB (hS.b _ env) fun f c8=>tT f) fun A R s q=>jP (wpAny_If (fg q (fun b s' q=> ?_) fun _ _ q=>q))
  cases b<;>exact q
 |Return e pos=>
  refine Tr.bJ fun e' he=> ?_
  cases he
  exact Tr.imp (Tr.cB (hS.e e' env) fun v bF=>Tr.ok _) fun A R s q=>jP (wpAny_Return_some q)
 |Assign ts e pos=>
  refine Tr.bJ fun x hx=> ?_
  have ht:ts=[.Name x.1 x.2]:=eP hx fun t h1 h2=>by
   cases rH h1
   cases t with
   |Name=>cases h2;rfl
   |_=>nomatch h2
  cases ht
  refine Tr.jb (Tr.cB (hS.e e env) fun v bF=>Tr.cB (hS.t (uW env x.1 v)) fun _ c8=>hS.b rest env) (new:=[OY x.1 x.2 e pos env]) rfl rfl rfl fun ax A R s pre ob q=>jP (wpAny_Assign_Name (fg q (fun v s' q=> ?_) fun _ _ q=>q) (ob _ (.head _)))
  have q:wpAny (model prog w) A (uW env x.1 v) (fun _ s1=>wpAny (model prog w) A (execs rest env) (fun a s=>R (.ok a) s) (fun e s=>R (.error e) s) s1) (fun e s=>R (.error e) s) s':=q
  rw[<-AI]at q
  intro Γ p AP
  have:=q Γ p AP
  rw[Sem.wp_bindName]at this
  exact this
 |Try body hs orelse final pos=>
  refine Tr.ug fun h=> ?_
  match hs,orelse,final,h with
  |h::hs,[],[],_=>
   refine Tr.imp (Tr.qB (g:=fun ν e bF=>cB (qp prog w T ν rm env e bF) fun _ c8=>cB ((R ν).t hd rm Flow (iC e env (h::hs)) c8) (kc prog w T (R ν) hd rm rest env)) (hS.b body env) (fun f bF=>tT f) fun e bF=>Tr.cB (sT env e) fun _ c8=>Tr.cB (hS.t (iC e env (h::hs))) fun f Ey=>tT f) fun A R s q=>jP (wpAny_Try_except (fg q (fun f s' q=> ?_) fun e s' q=> ?_))
   ·cases f with
    |next=>exact wpAny_execs_nil q
    |_=>exact q
   ·refine fg q (fun _ dH q=>fg q (fun _ lP q=> ?_) fun _ _ q=>q) fun _ _ q=>q
    rw[qM]
    exact q
 |_=>exact Tr.none
theorem QT(ss:List Stmt)(env:Env):Tr hd rm st (fun ν=>Ew prog w T ν (R ν) hd rm ss env st) (pT prog w (execs ss env)):=by
 cases ss with
 |nil=>exact(Tr.ok _).imp fun A R s q=>wpAny_execs_nil q
 |cons s rest=>
  refine Tr.qD (fun _=> ?_) fun _=>Tr.qD (fun _=>(Gx hS s rest env).next) fun _=>Ga (s::rest) env▸(hS.t _).next
  refine Tr.imp (Tr.cB (hS.t (Xs [s] env)).next fun f bF=>sR hS rest env f) fun A R s' q=>jz (a:=[s]) (b:=rest) ?_
  rw[Ga]
  refine fg q (fun f s' q=> ?_) fun _ _ q=>q
  cases f<;>exact q
theorem oQ(c:Code)(body:List Stmt)(env:Env):Tr hd rm st (fun ν=>y6 prog w T (R ν) hd rm c body env st) (fun A R s=>pT prog w (execs body env) A (fun x s'=>pK (fun f _ R s=>R (.ok (eu c f)) s) x A R s') s):=
 Tr.cB (hS.b body env) fun f bF=>Tr.ok (eu c f)
def BW(prog:Program)(w:World)(c:Code)(body orelse:List Stmt)(env:Env)(b:Bool):PT Fin:=fun A R s=>match b with
 |true=>pT prog w (execs body env) A (fun x s'=>pK (fun f _ R s=>R (.ok (eu c f)) s) x A R s') s
 |false=>R (.ok (.again (.block orelse env))) s
theorem sS(c:Code)(body orelse:List Stmt)(env:Env)(b:Bool):Tr hd rm st (fun ν=>It prog w T (R ν) hd rm c body orelse env b st) (BW prog w c body orelse env b):=by
 cases b with
 |true=>exact oQ hS c body env
 |false=>exact Tr.ok _
def Hs(prog:Program)(w:World)(c:Code)(body orelse:List Stmt)(env:Env)(b:Bool):PT Fin:=fun A R s=>match b with
 |true=>pT prog w (execs body env) A (fun x s'=>pK (fun f _ R s=>R (.ok (eu c f)) s) x A R s') s
 |false=>pT prog w (execs orelse env) A (fun x s'=>pK (fun f _ R s=>R (.ok (.done f)) s) x A R s') s
omit hS in
theorem xo(e:Expr)(depth:Nat)(it acc:Value)(env:Env):Tr hd rm st (fun _=>xD prog w T e depth it acc env st) (pT prog w (denote table (.compStart e depth it acc env))):=by
 refine Tr.gd fun he=>Tr.bJ fun a ha=>Tr.bJ fun p hp=>Tr.bJ fun n hn=>Tr.gd fun hi=> ?_
 refine(Tr.ok _).jb (new:=[⟨Nat,a,p.1⟩]) rfl rfl rfl fun ax A R s pre ob q=> ?_
 have e1:a=p.1:=ob _ (.head _)
 cases vp ha
 obtain⟨o',ho,hc,_⟩:=pre.hs.look hp
 exact oN he (fun A E=>cM hi ⟨o',e1▸ho,hc.trans (VI hn)⟩) q
omit hS in
theorem OU{e:Expr}{depth:Nat}{z:AH}(h:F5 e depth=some z):e=.ListComp z.elt [⟨z.target,z.iter,[z.cond],0⟩] z.sc z.pos/\depth=0:=by
 cases e with
 |ListComp elt gens sc pos=>
  refine eP h fun g h1 h=>eP h fun c h2 h=>N0 h fun h3 h=> ?_
  obtain⟨h4,h5⟩:=Bool.and_eq_true_iff.mp h3
  cases h
  obtain⟨t,i,ifs,as⟩:=g
  cases rH h1
  cases rH h2
  cases Int.natAbs_eq_zero.mp (Nat.eq_of_beq_eq_true h5)
  exact⟨rfl,Nat.eq_of_beq_eq_true h4⟩
 |_=>nomatch h
section
variable(prog:Program)(w:World)(c:Code)
def yC(elt:Expr)(acc:Value)(env:Env)(b:Bool):PT Fin:=fun A R s=>match b with
 |true=>pT prog w (eval elt env) A (fun x s=>pK (fun v A R s=>pT prog w (call (.builtin "list.append") [acc,v]) A (fun x s=>pK (fun _ _ R s=>R (.ok (.again c)) s) x A R s) s) x A R s) s
 |false=>R (.ok (.again c)) s
def Lo(cond elt:Expr)(acc:Value)(env:Env)(b:Bool):PT Fin:=fun A R s=>match b with
 |true=>pT prog w (PySem.isTrue cond env (eval cond env)) A (fun x s'=>pK (fun b=>yC prog w c elt acc env b) x A R s') s
 |false=>R (.ok (.done .next)) s
end
theorem Bg(z:AH)(it acc:Value)(env:Env)(c:Code)(hc:c=.compLoop (.ListComp z.elt [⟨z.target,z.iter,[z.cond],0⟩] z.sc z.pos) 0 it acc env):Tr hd rm st (fun ν=>calm (cB ((R ν).t hd rm Bool (bE z.target it env) st) fun b bF=>cond b (cB ((R ν).q hd rm z.cond env bF) fun ok c8=>cond ok (cB ((R ν).e hd rm z.elt env c8) fun v Ey=>cB ((R ν).t hd rm Value (call (.builtin "list.append") [acc,v]) Ey) fun _ Pm=>hE (Fin.again c) Pm)
  (hE (Fin.again c) c8)) (hE (Fin.done .next) bF))) (pT prog w (denote table c)):=by
 refine Tr.imp (Tr.calm (Tr.cB (P2:=Lo prog w c z.cond z.elt acc env) (hS.t _) fun b bF=> ?_)) fun A R s q=> ?_
 ·cases b with
  |false=>exact Tr.ok _
  |true=>
   refine Tr.cB (P2:=yC prog w c z.elt acc env) (hS.q z.cond env) fun b bF=> ?_
   cases b with
   |false=>exact Tr.ok _
   |true=>exact Tr.cB (hS.e z.elt env) fun v Ey=>Tr.cB (hS.t (call (.builtin "list.append") [acc,v])) fun _ Pm=>Tr.ok _
 ·rw[hc]at q⊢
  refine xe rfl (fg q (fun b s' q=> ?_) fun _ _ q=>q)
  cases b with
  |false=>exact q
  |true=>
   refine fg q (fun b s' q=> ?_) fun _ _ q=>q
   cases b<;>exact q
set_option backward.match.sparseCases true in
theorem Bd(c:Code):Tr hd rm st (fun ν=>Kp prog w T ν (R ν) hd rm c st) (pT prog w (denote table c)):=by
 cases c with
 |func body env=>
  refine Tr.imp (Tr.qB (g:=fun ν e bF=>cB (qp prog w T ν rm env e bF) fun _ c8=>JZ e c8) (hS.b body env) (fun f bF=>Tr.ok _) fun e bF=>Tr.cB (sT env e) fun _ c8=>Tr.er e) fun A R s q=> ?_
  show wpAny _ A (do point;match<-(execs body env).onRaise (leaving env)with| .ret v=>ret v|_=>ret .none) _ _ s
  refine aw (wpAny_point (aw (wpAny_onRaise (fg q (fun f s' q=> ?_) fun e s' q=> ?_))))
  ·cases f<;>exact aX q
  ·exact aw q
 |whileLoop test body orelse env=>
  refine Tr.imp (Tr.calm (Tr.cB (P2:=Hs prog w (.whileLoop test body orelse env) body orelse env) (hS.q test env) fun b bF=> ?_)) fun A R s q=>xd (fg q (fun b s' q=> ?_) fun _ _ q=>q)
  ·cases b with
   |true=>exact oQ hS _ body env
   |false=>exact Tr.cB (hS.b orelse env) fun f c8=>Tr.ok _
  ·cases b<;>exact q
 |forLoop target it body orelse env=>
  refine Tr.imp (Tr.calm (Tr.cB (P2:=BW prog w (.forLoop target it body orelse env) body orelse env) (hS.t _) fun b bF=>sS hS _ body orelse env b)) fun A R s q=>sN (fg q (fun b s' q=> ?_) fun _ _ q=>q)
  cases b<;>exact q
 |compLoop e depth it acc env=>
  refine Tr.bJ fun z hz=> ?_
  obtain⟨h1,h2⟩:=OU hz
  exact Bg hS z it acc env _ (by rw[h1,h2])
 |compStart e depth it acc env=>exact xo e depth it acc env
 |_=>exact Tr.none
omit hS in
theorem Ht{target:Expr}{r a:Addr}{o':Obj}{vs:Array Value}{A:Around}{Q:Unit->Shared->Prop}{E:Value->Shared->Prop}{s:Shared}(ht:isTup target=true)(ho:s.heap.get? r=some o')(hc:o'.cls=.type "enumerate")(hd:o'.data=.fields vs)(hv:vs[0]? =some (rawInt a))(h:wpAny (model prog w) A (updateField r 0 .none) Q E s):
  wpAny (model prog w) A (letOwnedTupleGo target (.ref r) (.ref a)) Q E s:=by
 cases target with
 |Tuple=>
  unfold letOwnedTupleGo
  refine aw (wpAny_load ho ?_)
  simp only[hc,hd]
  rw[if_pos (by rw[hv];simp)]
  exact aw (wpAny_rule h)
 |_=>nomatch ht
theorem Gy(target:Expr)(it v:Value):Tr hd rm st (fun ν=>Lq prog w T (R ν) hd rm target it v st) (pT prog w (letOwnedTupleGo target it v)):=by
 refine Tr.gd fun ht=>Tr.bJ fun r hr=>Tr.bJ fun a ha=>Tr.bJ fun p hp=>Tr.bJ fun vs JN=>Tr.bJ fun n hn=>Tr.gd fun en=> ?_
 refine(hS.t _).jb (new:=[⟨Nat,r,p.1⟩,⟨Option Value,vs[0]?,some (rawInt a)⟩]) rfl rfl rfl fun ax A R s pre ob q=> ?_
 have e1:r=p.1:=ob _ (.head _)
 cases vp hr
 cases vp ha
 obtain⟨o',ho,hc,hd⟩:=pre.hs.look hp
 exact Ht ht (e1▸ho) (hc.trans ((VI hn).trans (congrArg Value.type (eq_of_beq en)))) (hd.trans (wi JN)) (ob _ (.tail _ (.head _))) q
def R2(prog:Program)(w:World)(target:Expr)(it:Value)(env:Env)(x:Option Value):PT Bool:=fun A R s=>match x with
 |none=>R (.ok false) s
 |some v=>pT prog w (letOwnedTupleGo target it v) A (fun x s2=>pK (fun _ A R s=>pT prog w (PySem.W.Fast.tw17772580674575903948 target env v) A (fun x s3=>pK (fun _ _ R s=>R (.ok true) s) x A R s3) s) x A R s2) s
section
variable(c:Code)
theorem Be:Tr hd rm st (fun ν=>Ls prog w T (R ν) hd rm c st) (pT prog w (denote table c)):=by
 cases c with
 |forLoop target it body orelse env=>
  refine Tr.imp (Tr.calm (Tr.cB (P2:=BW prog w (.forLoop target it body orelse env) body orelse env) (Tr.cB (f:=fun ν=>Lr prog w T (R ν) hd rm target it env) (P2:=R2 prog w target it env) (hS.t _) fun x bF=> ?_) fun b bF=>sS hS _ body orelse env b)) fun A R s q=>sN ?_
  ·cases x with
   |none=>exact Tr.ok _
   |some v=>exact Tr.cB (Gy hS target it v) fun _ c8=>Tr.cB (hS.t _) fun _ Ey=>Tr.ok _
  ·have fin:∀(b:Bool) (s:Shared),pK (BW prog w (.forLoop target it body orelse env) body orelse env) (.ok b) A (fun x s1=>EW x A R s1) s->(match b with
    |true=>wpAny (model prog w) A (execs body env) (fun f dH=>R (.ok (eu (.forLoop target it body orelse env) f)) dH) (fun _ _=>False) s
    |false=>R (.ok (.again (.block orelse env))) s):=fun b s q=>by
    cases b<;>exact q
   unfold bE
   refine aw (fg q (fun x s' q=> ?_) fun _ _ q=>q)
   cases x with
   |none=>exact aX (fin false _ q)
   |some v=>
    refine aw ?_
    rw[<-PySem.W.Fast.te1578499551869305889]
    exact fg q (fun _ s' q=>aw (fg q (fun _ s' q=>aX (fin true _ q)) fun _ _ q=>q)) fun _ _ q=>q
 |_=>exact Tr.none
theorem xn:Tr hd rm st (fun ν=>sO prog w T ν (R ν) hd rm c st) (pT prog w (denote table c)):=
 Tr.qD (fun _=>Tr.qD (fun _=>Pe c▸(hS.t _).next) fun _=>Tr.qD (fun _=>(Be hS c).next) fun _=>(Bd hS c).next) fun _=>Pe c▸hS.t _
theorem nt:Tr hd rm st (fun ν=>turn prog w T ν (R ν) hd rm c st) (fun A R s=>pT prog w (denote table c) (A.under c) R s):=by
 have go:∀{st:St prog w T},Tr hd rm st (fun ν=>sO prog w T ν (R ν) hd (EM c rm) c st) (fun A R s=>Frames T s (dw (EM c rm))->pT prog w (denote table c) (A.under c) R s):=
  fun{st}=>(xn hS c).shift (C:=fun s=>Frames T s (dw (EM c rm))) (fun A=>A.under c) fun A s a b _ d=>⟨a,px c b,d⟩
 unfold turn
 cases e:jr c with
 |none=>exact go.vQ fun ax A R s pre q=>q (mQ c pre.hf fun env h=>nomatch e.symm.trans h)
 |some env=>
  refine Tr.bJ fun o ho=>go.jb (new:=[o]) rfl rfl rfl fun ax A R s pre ob q=>q (mQ c pre.hf fun ZJ h=> ?_)
  cases e.symm.trans h
  exact N5 ho pre.hs (ob _ (.head _))
theorem QS:Tr hd rm st (fun ν=>Eu prog w T ν (R ν) hd rm c st) (pC prog w c):=by
 refine(Tr.cB (f:=fun ν=>Oh prog w T ν (R ν) hd rm c) (P2:=fun fin A R s=>match fin with| .done f=>R (.ok f) s| .again c'=>c'.quiet=true/\pC prog w c' A R s) (nt hS c) fun fin bF=> ?_).imp fun A R s q=>x_code q
 cases fin with
 |done f=>exact Tr.ok f
 |again c'=>exact Tr.gd fun hq=>Tr.qD (fun _=>(sU hS c').imp fun _ _ _ q=>⟨(mA c').trans hq,q⟩) fun _=>(hS.c c').imp fun _ _ _ q=>⟨(mA c').trans hq,q⟩
end
end
theorem mj(n:Nat):Vp fun ν=>vc prog w T ν n:=by
 induction n with
 |zero=>exact⟨fun _=>Tr.none,fun _=>Tr.none,fun _ _=>Tr.none,fun _ _=>Tr.none,fun _ _ _=>Tr.none,fun _ _=>Tr.none⟩
 |succ n ih=>exact⟨fun t=>Bc ih _ t,fun c=>QS ih c,fun e env=>QR ih e env,fun e env=>QQ ih e env,fun op es env=>QU ih op es env,fun ss env=>QT ih ss env⟩
noncomputable def pN:Nat->Nat->Led->Led
 |0,_,_=>[]
 |n+1,m,l=>match m%4 with
  |0=>[]
  |3=>l
  |1=>match l with
   |[]=>[]
   |p::l=>p::pN n (m/4) l
  |_=>match l with
   |[]=>[]
   |_::l=>pN n (m/4) l
def pick(m:Nat)(l:Led):Led:=pN 64 m l
theorem vx(n:Nat):∀(m:Nat) (l:Led),(pN n m l).Sublist l:=by
 induction n with
 |zero=>exact fun _ l=>List.nil_sublist l
 |succ n ih=>
  intro m l
  unfold pN
  split
  ·exact List.nil_sublist _
  ·exact List.Sublist.refl _
  ·cases l with
   |nil=>exact .slnil
   |cons p l=>exact(ih (m/4) l).cons_cons p
  ·cases l with
   |nil=>exact .slnil
   |cons p l=>exact(ih (m/4) l).cons p
theorem pL(m:Nat)(l:Led):(pick m l).Sublist l:=vx 64 m l
section
variable{β:Type}
def dJ(m:Nat)(o:Option (β×St prog w T)):Option (β×Led×List (Σα:Type,α)):=match o with
 |some (b,st)=>some (b,pick m st.led,st.obs.map Ob.l)
 |none=>none
def asked(b:β)(l:Led)(o:Option (β×St prog w T)):Option (β×Led×List (Σα:Type,α)):=some (b,l,match o with
 |some (_,st)=>st.obs.map Ob.r
 |none=>[])
theorem pj{m:Nat}{o:Option (β×St prog w T)}{b:β}{l:Led}(e:dJ m o=asked b l o):∃st,o=some (b,st)/\pick m st.led=l/\dD st.obs:=by
 cases o with
 |none=>nomatch e
 |some y=>
  injection e with e
  injection e with e1 e
  injection e with e2 e3
  exact⟨y.2,congrArg some (e1▸rfl),e2,dD.of e3⟩
end
def YG(s:Shared):Nu:=fun _=>(fun _=>0,fun _=>[],e5 s)
theorem Tr.run{hd:Option Value}{rm:Option Rm}{led:Led}{hs m:Nat}{xs:List (Nu->Sm prog w T)}{α:Type}{o:Nu->Out prog w T α}{P:PT α}{A:Around}{s:Shared}{res:Nu->Except Value α}{sel:Nu->Led}{R:Except Value α->Shared->Prop}
  (t:Tr hd rm ⟨led,0,hs,xs,[]⟩ o P)(e:∀ν,dJ m (o ν)=asked (res ν) (sel ν) (o ν))(hh:A.handled=hd)(hr:cP rm A)(hf:Frames T s (dw rm))(h:Sat T s led)
  (k:∀ν s',Done (T:=T) s s' led (sel ν)->R (res ν) s'):P A R s:=by
 refine t.s (YG s) A s R ⟨hh,hr,hf,h,rfl⟩ (fun ν _=> ?_) fun x st' cq s' p e'=> ?_
 ·obtain⟨st,e1,_,e3⟩:=pj (e ν)
  exact⟨_,st,e1,e3⟩
 ·obtain⟨st,e1,e2,_⟩:=pj (e cq)
  cases (e' cq (agree.refl _ _)).symm.trans e1
  exact k cq s' ⟨e2▸p.af.sat.sub (pL _ _),p.af.iD,fun p' hp=>p.af.grow p' ((pL _ _).subset (e2▸hp))⟩
section
variable{led:Led}{hd:Option Value}{rm:Option Rm}{n hs m:Nat}{xs:List (Nu->Sm prog w T)}{sel:Nu->Led}{A:Around}{s:Shared}
theorem vo{α:Type}{t:Sem α}{res:Nu->Except Value α}{Q:α->Shared->Prop}{E:Value->Shared->Prop}
  (e:∀ν,dJ m ((vc prog w T ν n).t hd rm α t ⟨led,0,hs,xs,[]⟩)=asked (res ν) (sel ν) ((vc prog w T ν n).t hd rm α t ⟨led,0,hs,xs,[]⟩))
  (hh:A.handled=hd)(hr:cP rm A)(hf:Frames T s (dw rm))(h:Sat T s led)(k:∀ν s',Done (T:=T) s s' led (sel ν)->AX Q E (res ν) s'):wpAny (model prog w) A t Q E s:=
 ((mj n).t t).run e hh hr hf h (R:=fun x s'=>AX Q E x s') k
theorem fU{c:Code}{res:Nu->Except Value Fin}{Q:Fin->Shared->Prop}{E:Value->Shared->Prop}
  (e:∀ν,dJ m (turn prog w T ν (vc prog w T ν n) hd rm c ⟨led,0,hs,xs,[]⟩)=asked (res ν) (sel ν) (turn prog w T ν (vc prog w T ν n) hd rm c ⟨led,0,hs,xs,[]⟩))
  (hh:A.handled=hd)(hr:cP rm A)(hf:Frames T s (dw rm))(h:Sat T s led)(k:∀ν s',Done (T:=T) s s' led (sel ν)->AX Q E (res ν) s'):wpAny (model prog w) (A.under c) (denote table c) Q E s:=
 (nt (mj n) c).run e hh hr hf h (R:=fun x s'=>AX Q E x s') k
section
variable{c:Code}{res:Nu->Result}{R:Result->Shared->Prop}
theorem aU(e:∀ν,dJ m ((vc prog w T ν n).c hd rm c ⟨led,0,hs,xs,[]⟩)=asked (res ν) (sel ν) ((vc prog w T ν n).c hd rm c ⟨led,0,hs,xs,[]⟩))(hh:A.handled=hd)(hr:cP rm A)(hf:Frames T s (dw rm))(h:Sat T s led)(k:∀ν s',Done (T:=T) s s' led (sel ν)->R (res ν) s'):codeAny (model prog w) A c R s:=
 ((mj n).c c).run e hh hr hf h k
theorem aV(e:∀ν,dJ m (kj prog w T (vc prog w T ν n) hd rm c ⟨led,0,hs,xs,[]⟩)=asked (res ν) (sel ν) (kj prog w T (vc prog w T ν n) hd rm c ⟨led,0,hs,xs,[]⟩))(hh:A.handled=hd)(hr:cP rm A)(hf:Frames T s (dw rm))(h:Sat T s led)(k:∀ν s',Done (T:=T) s s' led (sel ν)->R (res ν) s'):codeAny (model prog w) A c R s:=
 (Eo (mj n) c).run e hh hr hf h k
end
theorem ym{α:Type}{t:Sem α}{res:Nu->Except Value α}
  (e:∀ν,dJ m ((vc prog w T ν n).t hd rm α t ⟨led,0,hs,xs,[]⟩)=asked (res ν) (sel ν) ((vc prog w T ν n).t hd rm α t ⟨led,0,hs,xs,[]⟩))
  (hh:A.handled=hd)(hr:cP rm A)(hf:Frames T s (dw rm))(h:Sat T s led):
  wpAny (model prog w) A t (fun a s'=>∃ν,res ν=.ok a/\Done (T:=T) s s' led (sel ν)) (fun x s'=>∃ν,res ν=.error x/\Done (T:=T) s s' led (sel ν)) s:=
 ((mj n).t t).run e hh hr hf h (R:=fun x s'=>∃ν,res ν=x/\Done (T:=T) s s' led (sel ν)) fun ν _ d=>⟨ν,rfl,d⟩
section
variable{c:Code}{res:Nu->Result}
theorem yn(e:∀ν,dJ m ((vc prog w T ν n).c hd rm c ⟨led,0,hs,xs,[]⟩)=asked (res ν) (sel ν) ((vc prog w T ν n).c hd rm c ⟨led,0,hs,xs,[]⟩))(hh:A.handled=hd)(hr:cP rm A)(hf:Frames T s (dw rm))(h:Sat T s led):
  codeAny (model prog w) A c (fun r s'=>∃ν,res ν=r/\Done (T:=T) s s' led (sel ν)) s:=aU e hh hr hf h fun ν _ d=>⟨ν,rfl,d⟩
theorem kC(e:∀ν,dJ m (kj prog w T (vc prog w T ν n) hd rm c ⟨led,0,hs,xs,[]⟩)=asked (res ν) (sel ν) (kj prog w T (vc prog w T ν n) hd rm c ⟨led,0,hs,xs,[]⟩))(hh:A.handled=hd)(hr:cP rm A)(hf:Frames T s (dw rm))(h:Sat T s led):
  codeAny (model prog w) A c (fun r s'=>∃ν,res ν=r/\Done (T:=T) s s' led (sel ν)) s:=aV e hh hr hf h fun ν _ d=>⟨ν,rfl,d⟩
end
theorem yk{c:Code}{res:Nu->Except Value Fin}
  (e:∀ν,dJ m (turn prog w T ν (vc prog w T ν n) hd rm c ⟨led,0,hs,xs,[]⟩)=asked (res ν) (sel ν) (turn prog w T ν (vc prog w T ν n) hd rm c ⟨led,0,hs,xs,[]⟩))
  (hh:A.handled=hd)(hr:cP rm A)(hf:Frames T s (dw rm))(h:Sat T s led):
  wpAny (model prog w) (A.under c) (denote table c) (fun a s'=>∃ν,res ν=.ok a/\Done (T:=T) s s' led (sel ν)) (fun x s'=>∃ν,res ν=.error x/\Done (T:=T) s s' led (sel ν)) s:=
 (nt (mj n) c).run e hh hr hf h (R:=fun x s'=>∃ν,res ν=x/\Done (T:=T) s s' led (sel ν)) fun ν _ d=>⟨ν,rfl,d⟩
end
end
theorem zd{α:Type}{P:List α->Prop}(h0:P [])(h1:∀a,P [a])(h2:∀a b,P [a,b])(h3:∀a b c,P [a,b,c])(h4:∀a b c d,P [a,b,c,d])(h5:∀a b c d e,P [a,b,c,d,e])(h6:∀a b c d e f,P [a,b,c,d,e,f])(l:List α)(h:l.length<=6):P l:=
 match l,h with
 |[],_=>h0
 |[a],_=>h1 a
 |[a,b],_=>h2 a b
 |[a,b,c],_=>h3 a b c
 |[a,b,c,d],_=>h4 a b c d
 |[a,b,c,d,e],_=>h5 a b c d e
 |[a,b,c,d,e,f],_=>h6 a b c d e f
 |_::_::_::_::_::_::_::l,h=>absurd h (Nat.not_le.mpr (Nat.le_add_left 7 l.length))
theorem PJ{P:Nat->Prop}{n:Nat}(h:n<6)(h0:P 0)(h1:P 1)(h2:P 2)(h3:P 3)(h4:P 4)(h5:P 5):P n:=
 match n,h with
 |0,_=>h0
 |1,_=>h1
 |2,_=>h2
 |3,_=>h3
 |4,_=>h4
 |5,_=>h5
 |n+6,h=>absurd h (Nat.not_lt.mpr (Nat.le_add_left 6 n))
end
variable{w:World}{s:Shared}{A:Around}{R:Result->Shared->Prop}{α:Type}{xs:List Value}{es:Array DictEntry}
section
open PySem PySem.W PySem.W.X PyProof.Rows
noncomputable abbrev pw:Program:=PySem.Challenge.pw_ny0346_01
noncomputable def S(x:String):Str:=Str.ofString x
def st(i:Nat):Stmt:=pw.main.body.getD i (.Pass default)
def D4:Stmt->List Stmt
 | .ClassDef _ _ _ b _ _ _ _ _ _ _=>b
 |_=>[]
def me(i k:Nat):Stmt:=(D4 (st i)).getD k (.Pass default)
noncomputable def UB:Stmt->Arguments
 | .FunctionDef _ a _ _ _ _ _ _ _ _=>a
 |_=>default
def fBody:Stmt->List Stmt
 | .FunctionDef _ _ b _ _ _ _ _ _ _=>b
 |_=>[]
def fScope:Stmt->Scope
 | .FunctionDef _ _ _ _ _ _ s _ _ _=>s
 |_=>default
def fn(d:Stmt)(name qual:Str)(dV pm cd:Value):FuncData:={name,qualname:=qual,params:=UB d,body:=.stmts (fBody d),scope:=fScope d,globals:=3,closure:=[],defaults:=dV,kwdefaults:=.none,pyModule:=pm,code:=cd,builtins:=0}
def E(P:Params)(x:String)(t:Tok)(v:Value):DictEntry:=⟨PyData.keyHash P (S x),.str (S x) t,v⟩
abbrev aH(w:World):=E w.params
section
variable(P:Params)
def o0:Obj:=⟨(.type "dict"),none,(.dict #[E P "__name__" 1 (.str (S "builtins") 160),E P "__doc__" 2 (.builtin "builtins.__doc__:str#opaque"),E P "__package__" 3 (.builtin "builtins.__package__:str#opaque"),E P "__loader__" 4 (.builtin "builtins.__loader__:shared#opaque"),E P "__spec__" 5 (.builtin "builtins.__spec__#opaque"),E P "__build_class__" 6 (.builtin "__build_class__"),E P "__import__" 7 (.builtin "__import__"),E P "abs" 8 (.builtin "abs"),E P "all" 9 (.builtin "all"),E P "any" 10 (.builtin "any"),E P "ascii" 11 (.builtin "ascii"),E P "bin" 12 (.builtin "bin"),E P "breakpoint" 13 (.builtin "breakpoint"),E P "callable" 14 (.builtin "callable"),E P "chr" 15 (.builtin "chr"),E P "compile" 16 (.builtin "compile"),E P "delattr" 17 (.builtin "delattr"),E P "dir" 18 (.builtin "dir"),E P "divmod" 19 (.builtin "divmod"),E P "eval" 20 (.builtin "eval"),E P "exec" 21 (.builtin "exec"),E P "format" 22 (.builtin "format"),E P "getattr" 23 (.builtin "getattr"),E P "globals" 24 (.builtin "globals"),E P "hasattr" 25 (.builtin "hasattr"),E P "hash" 26 (.builtin "hash"),E P "hex" 27 (.builtin "hex"),E P "id" 28 (.builtin "id"),E P "input" 29 (.builtin "input"),E P "isinstance" 30 (.builtin "isinstance"),E P "issubclass" 31 (.builtin "issubclass"),E P "iter" 32 (.builtin "iter"),E P "aiter" 33 (.builtin "aiter"),E P "len" 34 (.builtin "len"),E P "locals" 35 (.builtin "locals"),E P "max" 36 (.builtin "max"),E P "min" 37 (.builtin "min"),E P "next" 38 (.builtin "next"),E P "anext" 39 (.builtin "anext"),E P "oct" 40 (.builtin "oct"),E P "ord" 41 (.builtin "ord"),E P "pow" 42 (.builtin "pow"),E P "print" 43 (.builtin "print"),E P "repr" 44 (.builtin "repr"),E P "round" 45 (.builtin "round"),E P "setattr" 46 (.builtin "setattr"),E P "sorted" 47 (.builtin "sorted"),E P "sum" 48 (.builtin "sum"),E P "vars" 49 (.builtin "vars"),E P "None" 50 .none,E P "Ellipsis" 51 .ellipsis,E P "NotImplemented" 52 .notImplemented,E P "False" 53 (.bool false),E P "True" 54 (.bool true),E P "bool" 55 (.type "bool"),E P "memoryview" 56 (.type "memoryview"),E P "bytearray" 57 (.type "bytearray"),E P "bytes" 58 (.type "bytes"),E P "classmethod" 59 (.type "classmethod"),E P "complex" 60 (.type "complex"),E P "dict" 61 (.type "dict"),E P "enumerate" 62 (.type "enumerate"),E P "filter" 63 (.type "filter"),E P "float" 64 (.type "float"),E P "frozenset" 65 (.type "frozenset"),E P "property" 66 (.type "property"),E P "int" 67 (.type "int"),E P "list" 68 (.type "list"),E P "map" 69 (.type "map"),E P "object" 70 (.type "object"),E P "range" 71 (.type "range"),E P "reversed" 72 (.type "reversed"),E P "set" 73 (.type "set"),E P "slice" 74 (.type "slice"),E P "staticmethod" 75 (.type "staticmethod"),E P "str" 76 (.type "str"),E P "super" 77 (.type "super"),E P "tuple" 78 (.type "tuple"),E P "type" 79 (.type "type"),E P "zip" 80 (.type "zip"),E P "__debug__" 81 (.bool true),E P "BaseException" 82 (.type "BaseException"),E P "BaseExceptionGroup" 83 (.type "BaseExceptionGroup"),E P "Exception" 84 (.type "Exception"),E P "GeneratorExit" 85 (.type "GeneratorExit"),E P "KeyboardInterrupt" 86 (.type "KeyboardInterrupt"),E P "SystemExit" 87 (.type "SystemExit"),E P "ArithmeticError" 88 (.type "ArithmeticError"),E P "AssertionError" 89 (.type "AssertionError"),E P "AttributeError" 90 (.type "AttributeError"),E P "BufferError" 91 (.type "BufferError"),E P "EOFError" 92 (.type "EOFError"),E P "ImportError" 93 (.type "ImportError"),E P "LookupError" 94 (.type "LookupError"),E P "MemoryError" 95 (.type "MemoryError"),E P "NameError" 96 (.type "NameError"),E P "OSError" 97 (.type "OSError"),E P "ReferenceError" 98 (.type "ReferenceError"),E P "RuntimeError" 99 (.type "RuntimeError"),E P "StopAsyncIteration" 100 (.type "StopAsyncIteration"),E P "StopIteration" 101 (.type "StopIteration"),E P "SyntaxError" 102 (.type "SyntaxError"),E P "SystemError" 103 (.type "SystemError"),E P "TypeError" 104 (.type "TypeError"),E P "ValueError" 105 (.type "ValueError"),E P "Warning" 106 (.type "Warning"),E P "FloatingPointError" 107 (.type "FloatingPointError"),E P "OverflowError" 108 (.type "OverflowError"),E P "ZeroDivisionError" 109 (.type "ZeroDivisionError"),E P "BytesWarning" 110 (.type "BytesWarning"),E P "DeprecationWarning" 111 (.type "DeprecationWarning"),E P "EncodingWarning" 112 (.type "EncodingWarning"),E P "FutureWarning" 113 (.type "FutureWarning"),E P "ImportWarning" 114 (.type "ImportWarning"),E P "PendingDeprecationWarning" 115 (.type "PendingDeprecationWarning"),E P "ResourceWarning" 116 (.type "ResourceWarning"),E P "RuntimeWarning" 117 (.type "RuntimeWarning"),E P "SyntaxWarning" 118 (.type "SyntaxWarning"),E P "UnicodeWarning" 119 (.type "UnicodeWarning"),E P "UserWarning" 120 (.type "UserWarning"),E P "BlockingIOError" 121 (.type "BlockingIOError"),E P "ChildProcessError" 122 (.type "ChildProcessError"),E P "ConnectionError" 123 (.type "ConnectionError"),E P "FileExistsError" 124 (.type "FileExistsError"),E P "FileNotFoundError" 125 (.type "FileNotFoundError"),E P "InterruptedError" 126 (.type "InterruptedError"),E P "IsADirectoryError" 127 (.type "IsADirectoryError"),E P "NotADirectoryError" 128 (.type "NotADirectoryError"),E P "PermissionError" 129 (.type "PermissionError"),E P "ProcessLookupError" 130 (.type "ProcessLookupError"),E P "TimeoutError" 131 (.type "TimeoutError"),E P "IndentationError" 132 (.type "IndentationError"),E P "_IncompleteInputError" 133 (.type "_IncompleteInputError"),E P "IndexError" 134 (.type "IndexError"),E P "KeyError" 135 (.type "KeyError"),E P "ModuleNotFoundError" 136 (.type "ModuleNotFoundError"),E P "NotImplementedError" 137 (.type "NotImplementedError"),E P "PythonFinalizationError" 138 (.type "PythonFinalizationError"),E P "RecursionError" 139 (.type "RecursionError"),E P "UnboundLocalError" 140 (.type "UnboundLocalError"),E P "UnicodeError" 141 (.type "UnicodeError"),E P "BrokenPipeError" 142 (.type "BrokenPipeError"),E P "ConnectionAbortedError" 143 (.type "ConnectionAbortedError"),E P "ConnectionRefusedError" 144 (.type "ConnectionRefusedError"),E P "ConnectionResetError" 145 (.type "ConnectionResetError"),E P "TabError" 146 (.type "TabError"),E P "UnicodeDecodeError" 147 (.type "UnicodeDecodeError"),E P "UnicodeEncodeError" 148 (.type "UnicodeEncodeError"),E P "UnicodeTranslateError" 149 (.type "UnicodeTranslateError"),E P "ExceptionGroup" 150 (.type "ExceptionGroup"),E P "EnvironmentError" 151 (.type "OSError"),E P "IOError" 152 (.type "OSError"),E P "open" 153 (.builtin "open"),E P "quit" 154 (.builtin "builtins.quit#opaque"),E P "exit" 155 (.builtin "builtins.exit#opaque"),E P "copyright" 156 (.builtin "builtins.copyright#opaque"),E P "credits" 157 (.builtin "builtins.credits#opaque"),E P "license" 158 (.builtin "builtins.license#opaque"),E P "help" 159 (.builtin "builtins.help#opaque")] 159),#[]⟩
def o2:Obj:=⟨.none,none,(.dict #[E P "type.__subclasses__.Exception.0" 212 (.int (31) 0),E P "type.__subclasses__.Exception.n" 213 (.int (1) 0)] 2),#[]⟩
def o3:Obj:=⟨(.type "dict"),none,(.dict #[E P "__name__" 165 (.str (S "law_ny0346_01") 546),E P "__doc__" 166 .none,E P "__package__" 167 .none,E P "__loader__" 168 (.builtin "__main__.__loader__#opaque"),E P "__spec__" 169 .none,E P "__annotations__" 170 (.ref 6),E P "__builtins__" 171 (.ref 4),E P "__file__" 173 (.str (S "/claim/cut.py") 172),E P "__cached__" 174 .none,E P "_wall" 193 (.ref 21),E P "Error" 215 (.ref 31),E P "error_reply" 231 (.ref 44),E P "error_proto" 247 (.ref 56),E P "parse229" 260 (.ref 65),E P "parse257" 271 (.ref 72),E P "_NODE_OUT" 276 (.int (-1) 275),E P "_NODE_DONE" 279 (.int (-2) 278),E P "_NodeInfo" 316 (.ref 91),E P "CycleError" 334 (.ref 106),E P "TopologicalSorter" 453 (.ref 188),E P "S_IFMT" 462 (.ref 199),E P "S_IFDIR" 464 (.int (16384) 463),E P "S_IFCHR" 466 (.int (8192) 465),E P "S_IFBLK" 468 (.int (24576) 467),E P "S_IFREG" 470 (.int (32768) 469),E P "S_IFIFO" 472 (.int (4096) 471),E P "S_IFLNK" 474 (.int (40960) 473),E P "S_IFSOCK" 476 (.int (49152) 475),E P "S_ISREG" 483 (.ref 206),E P "S_ISUID" 485 (.int (2048) 484),E P "S_ISGID" 487 (.int (1024) 486),E P "S_ISVTX" 489 (.int (512) 488),E P "S_IRUSR" 491 (.int (256) 490),E P "S_IWUSR" 493 (.int (128) 492),E P "S_IXUSR" 495 (.int (64) 494),E P "S_IRGRP" 497 (.int (32) 496),E P "S_IWGRP" 499 (.int (16) 498),E P "S_IXGRP" 501 (.int (8) 500),E P "S_IROTH" 503 (.int (4) 502),E P "S_IWOTH" 505 (.int (2) 504),E P "S_IXOTH" 507 (.int (1) 506),E P "_filemode_table" 533 (.ref 239),E P "filemode" 545 (.ref 246),E P "_law_values" 553 (.ref 251),E P "_law_needs" 562 (.ref 258),E P "_law_name" 571 (.ref 265),E P "_law_mode" 579 (.ref 272),E P "_law_replies" 585 (.ref 277),E P "_law_peer" 592 (.ref 284),E P "_law_read" 602 (.ref 291),E P "_law_file" 608 (.ref 296),E P "_law_told_size" 616 (.ref 303),E P "_law_fetched" 622 (.ref 308),E P "_law_ring" 628 (.ref 313),E P "_law_due" 634 (.ref 318),E P "law" 640 (.ref 323)] 56),#[]⟩
def Sj:Obj:=⟨(.type "dict"),none,(.dict #[E P "__module__" 203 (.str (S "cpy313.ftplib") 194),E P "__firstlineno__" 207 (.int (5) 206),E P "__static_attributes__" 208 (.ref 29),E P "__weakref__" 210 (.ref 32),E P "__doc__" 211 .none] 3),#[]⟩
end
def Si(P:Params):Obj:=⟨(.type "type"),none,(.cls {name:=(S "Error"),bases:=[(.type "Exception")],mro:=[(.ref 31),(.type "Exception"),(.type "BaseException"),(.type "object")],ns:=30,qualname:=(S "Error"),hasDict:=true,slotNames:=[],subclasses:=[(.ref 44),(.ref 56)],abstract:=false,collection:=none,hasDel:=false}),#[(some (.ref 22)),none,(some (.str (S "Error") 196)),(some (.str (S "Error") 204)),(some (.builtin "Exception.__new__")),(some (.bool true))]⟩
def Wf(P:Params):Obj:=⟨(.type "dict"),none,(.dict #[E P "__module__" 223 (.str (S "cpy313.ftplib") 194),E P "__firstlineno__" 227 (.int (7) 226),E P "__static_attributes__" 228 (.ref 42),E P "__doc__" 229 .none] 2),#[]⟩
def Sh(P:Params):Obj:=⟨(.type "type"),none,(.cls {name:=(S "error_reply"),bases:=[(.ref 31)],mro:=[(.ref 44),(.ref 31),(.type "Exception"),(.type "BaseException"),(.type "object")],ns:=43,qualname:=(S "error_reply"),hasDict:=true,slotNames:=[],subclasses:=[],abstract:=false,collection:=none,hasDel:=false}),#[(some (.ref 35)),none,(some (.str (S "error_reply") 216)),(some (.str (S "error_reply") 224)),(some (.builtin "Exception.__new__")),(some (.bool true))]⟩
def We(P:Params):Obj:=⟨(.type "dict"),none,(.dict #[E P "__module__" 239 (.str (S "cpy313.ftplib") 194),E P "__firstlineno__" 243 (.int (9) 242),E P "__static_attributes__" 244 (.ref 54),E P "__doc__" 245 .none] 2),#[]⟩
def Sg(P:Params):Obj:=⟨(.type "type"),none,(.cls {name:=(S "error_proto"),bases:=[(.ref 31)],mro:=[(.ref 56),(.ref 31),(.type "Exception"),(.type "BaseException"),(.type "object")],ns:=55,qualname:=(S "error_proto"),hasDict:=true,slotNames:=[],subclasses:=[],abstract:=false,collection:=none,hasDel:=false}),#[(some (.ref 47)),none,(some (.str (S "error_proto") 232)),(some (.str (S "error_proto") 240)),(some (.builtin "Exception.__new__")),(some (.bool true))]⟩
def Wd(P:Params):Obj:=⟨(.type "code"),none,(.fields #[(.str (S "parse229") 248),(.str (S "parse229") 249),(.str (S "/claim/cut.py") 250),(.int (11) 0),(.int (2) 0),(.int (0) 0),(.int (0) 0),(.int (3) 0),(.ref 59),(.bool true),(.int (181) 0),(.ref 60),.none,(.ref 61),(.ref 62),(.ref 63),(.int (258) 0),(.int (11) 0),(.str (S "/claim/cut.py") 259)]),#[]⟩
def Wc(P:Params):Obj:=⟨(.type "function"),none,(.func (fn (st 5) (S "parse229") (S "parse229") .none (.str (S "cpy313.ftplib") 194) (.ref 64))),#[]⟩
def Wb(P:Params):Obj:=⟨(.type "code"),none,(.fields #[(.str (S "parse257") 261),(.str (S "parse257") 262),(.str (S "/claim/cut.py") 263),(.int (28) 0),(.int (1) 0),(.int (0) 0),(.int (0) 0),(.int (3) 0),(.ref 66),(.bool true),(.int (181) 0),(.ref 67),.none,(.ref 68),(.ref 69),(.ref 70),(.int (269) 0),(.int (28) 0),(.str (S "/claim/cut.py") 270)]),#[]⟩
def Wa(P:Params):Obj:=⟨(.type "function"),none,(.func (fn (st 6) (S "parse257") (S "parse257") .none (.str (S "cpy313.ftplib") 194) (.ref 71))),#[]⟩
def V9(P:Params):Obj:=⟨(.type "code"),none,(.fields #[(.str (S "__init__") 296),(.str (S "_NodeInfo.__init__") 297),(.str (S "/claim/cut.py") 298),(.int (51) 0),(.int (2) 0),(.int (0) 0),(.int (0) 0),(.int (3) 0),(.ref 81),(.bool true),(.int (181) 0),(.ref 82),.none,(.ref 83),(.ref 84),(.ref 85),(.int (301) 0),(.int (51) 0),(.str (S "/claim/cut.py") 302)]),#[]⟩
def V8(P:Params):Obj:=⟨(.type "function"),none,(.func (fn (me 10 1) (S "__init__") (S "_NodeInfo.__init__") .none (.str (S "cpy313.graphlib") 272) (.ref 86))),#[]⟩
def V7(P:Params):Obj:=⟨(.type "dict"),none,(.dict #[E P "__module__" 287 (.str (S "cpy313.graphlib") 272),E P "__firstlineno__" 291 (.int (48) 290),E P "__slots__" 295 (.ref 80),E P "__init__" 303 (.ref 87),E P "__static_attributes__" 307 (.ref 88),E P "node" 309 (.ref 92),E P "npredecessors" 311 (.ref 93),E P "successors" 313 (.ref 94),E P "__doc__" 314 .none] 5),#[]⟩
def V6(P:Params):Obj:=⟨(.type "type"),none,(.cls {name:=(S "_NodeInfo"),bases:=[(.type "object")],mro:=[(.ref 91),(.type "object")],ns:=90,qualname:=(S "_NodeInfo"),hasDict:=false,slotNames:=[(S "node"),(S "npredecessors"),(S "successors")],subclasses:=[],abstract:=false,collection:=none,hasDel:=false}),#[none,none,(some (.str (S "_NodeInfo") 280)),(some (.str (S "_NodeInfo") 288)),(some (.builtin "object.__new__")),(some (.bool false))]⟩
def V5(P:Params):Obj:=⟨(.type "member_descriptor"),none,(.fields #[(.str (S "node") 308),(.ref 91),(.builtin "proto.slot"),(.builtin "proto.slot#set"),(.int (2) 0)]),#[]⟩
def V4(P:Params):Obj:=⟨(.type "member_descriptor"),none,(.fields #[(.str (S "npredecessors") 310),(.ref 91),(.builtin "proto.slot"),(.builtin "proto.slot#set"),(.int (1) 0)]),#[]⟩
def V3(P:Params):Obj:=⟨(.type "member_descriptor"),none,(.fields #[(.str (S "successors") 312),(.ref 91),(.builtin "proto.slot"),(.builtin "proto.slot#set"),(.int (0) 0)]),#[]⟩
def M0(P:Params):Obj:=⟨(.type "dict"),none,(.dict #[E P "__module__" 324 (.str (S "cpy313.graphlib") 272),E P "__firstlineno__" 328 (.int (55) 327),E P "__static_attributes__" 329 (.ref 104),E P "__weakref__" 331 (.ref 107),E P "__doc__" 332 .none] 3),#[]⟩
def HC(P:Params):Obj:=⟨(.type "type"),none,(.cls {name:=(S "CycleError"),bases:=[(.type "ValueError")],mro:=[(.ref 106),(.type "ValueError"),(.type "Exception"),(.type "BaseException"),(.type "object")],ns:=105,qualname:=(S "CycleError"),hasDict:=true,slotNames:=[],subclasses:=[],abstract:=false,collection:=none,hasDel:=false}),#[(some (.ref 97)),none,(some (.str (S "CycleError") 317)),(some (.str (S "CycleError") 325)),(some (.builtin "ValueError.__new__")),(some (.bool true))]⟩
noncomputable def MZ(P:Params):Obj:=⟨(.type "tuple"),none,(.seq #[.none] 0),#[]⟩
def MY(P:Params):Obj:=⟨(.type "code"),none,(.fields #[(.str (S "__init__") 347),(.str (S "TopologicalSorter.__init__") 348),(.str (S "/claim/cut.py") 349),(.int (59) 0),(.int (2) 0),(.int (0) 0),(.int (0) 0),(.int (3) 0),(.ref 118),(.bool true),(.int (181) 0),(.ref 119),.none,(.ref 120),(.ref 121),(.ref 122),(.int (354) 0),(.int (59) 0),(.str (S "/claim/cut.py") 355)]),#[]⟩
def MX(P:Params):Obj:=⟨(.type "function"),none,(.func (fn (me 12 0) (S "__init__") (S "TopologicalSorter.__init__") (.ref 117) (.str (S "cpy313.graphlib") 272) (.ref 123))),#[]⟩
def MW(P:Params):Obj:=⟨(.type "code"),none,(.fields #[(.str (S "_get_nodeinfo") 357),(.str (S "TopologicalSorter._get_nodeinfo") 358),(.str (S "/claim/cut.py") 359),(.int (68) 0),(.int (2) 0),(.int (0) 0),(.int (0) 0),(.int (3) 0),(.ref 125),(.bool true),(.int (181) 0),(.ref 126),.none,(.ref 127),(.ref 128),(.ref 129),(.int (363) 0),(.int (68) 0),(.str (S "/claim/cut.py") 364)]),#[]⟩
def MV(P:Params):Obj:=⟨(.type "function"),none,(.func (fn (me 12 1) (S "_get_nodeinfo") (S "TopologicalSorter._get_nodeinfo") .none (.str (S "cpy313.graphlib") 272) (.ref 130))),#[]⟩
def MU(P:Params):Obj:=⟨(.type "code"),none,(.fields #[(.str (S "add") 366),(.str (S "TopologicalSorter.add") 367),(.str (S "/claim/cut.py") 368),(.int (73) 0),(.int (2) 0),(.int (0) 0),(.int (0) 0),(.int (7) 0),(.ref 132),(.bool true),(.int (181) 0),(.ref 133),.none,(.ref 134),(.ref 135),(.ref 136),(.int (375) 0),(.int (73) 0),(.str (S "/claim/cut.py") 376)]),#[]⟩
def MT(P:Params):Obj:=⟨(.type "function"),none,(.func (fn (me 12 2) (S "add") (S "TopologicalSorter.add") .none (.str (S "cpy313.graphlib") 272) (.ref 137))),#[]⟩
def MS(P:Params):Obj:=⟨(.type "code"),none,(.fields #[(.str (S "prepare") 378),(.str (S "TopologicalSorter.prepare") 379),(.str (S "/claim/cut.py") 380),(.int (82) 0),(.int (1) 0),(.int (0) 0),(.int (0) 0),(.int (3) 0),(.ref 139),(.bool true),(.int (181) 0),(.ref 140),.none,.none,.none,(.ref 141),(.int (381) 0),(.int (82) 0),(.str (S "/claim/cut.py") 382)]),#[]⟩
def MR(P:Params):Obj:=⟨(.type "function"),none,(.func (fn (me 12 3) (S "prepare") (S "TopologicalSorter.prepare") .none (.str (S "cpy313.graphlib") 272) (.ref 142))),#[]⟩
def MQ(P:Params):Obj:=⟨(.type "code"),none,(.fields #[(.str (S "get_ready") 384),(.str (S "TopologicalSorter.get_ready") 385),(.str (S "/claim/cut.py") 386),(.int (90) 0),(.int (1) 0),(.int (0) 0),(.int (0) 0),(.int (3) 0),(.ref 144),(.bool true),(.int (181) 0),(.ref 145),.none,(.ref 146),(.ref 147),(.ref 148),(.int (391) 0),(.int (90) 0),(.str (S "/claim/cut.py") 392)]),#[]⟩
def MP(P:Params):Obj:=⟨(.type "function"),none,(.func (fn (me 12 4) (S "get_ready") (S "TopologicalSorter.get_ready") .none (.str (S "cpy313.graphlib") 272) (.ref 149))),#[]⟩
def MO(P:Params):Obj:=⟨(.type "code"),none,(.fields #[(.str (S "is_active") 394),(.str (S "TopologicalSorter.is_active") 395),(.str (S "/claim/cut.py") 396),(.int (101) 0),(.int (1) 0),(.int (0) 0),(.int (0) 0),(.int (3) 0),(.ref 151),(.bool true),(.int (181) 0),(.ref 152),.none,(.ref 153),(.ref 154),(.ref 155),(.int (398) 0),(.int (101) 0),(.str (S "/claim/cut.py") 399)]),#[]⟩
def MN(P:Params):Obj:=⟨(.type "function"),none,(.func (fn (me 12 5) (S "is_active") (S "TopologicalSorter.is_active") .none (.str (S "cpy313.graphlib") 272) (.ref 156))),#[]⟩
def MM(P:Params):Obj:=⟨(.type "code"),none,(.fields #[(.str (S "done") 408),(.str (S "TopologicalSorter.done") 409),(.str (S "/claim/cut.py") 410),(.int (109) 0),(.int (1) 0),(.int (0) 0),(.int (0) 0),(.int (7) 0),(.ref 165),(.bool true),(.int (181) 0),(.ref 166),.none,(.ref 167),(.ref 168),(.ref 169),(.int (419) 0),(.int (109) 0),(.str (S "/claim/cut.py") 420)]),#[]⟩
def MK(P:Params):Obj:=⟨(.type "function"),none,(.func (fn (me 12 7) (S "done") (S "TopologicalSorter.done") .none (.str (S "cpy313.graphlib") 272) (.ref 170))),#[]⟩
def MJ(P:Params):Obj:=⟨(.type "code"),none,(.fields #[(.str (S "_find_cycle") 422),(.str (S "TopologicalSorter._find_cycle") 423),(.str (S "/claim/cut.py") 424),(.int (132) 0),(.int (1) 0),(.int (0) 0),(.int (0) 0),(.int (3) 0),(.ref 172),(.bool true),(.int (181) 0),(.ref 173),.none,(.ref 174),(.ref 175),(.ref 176),(.int (432) 0),(.int (132) 0),(.str (S "/claim/cut.py") 433)]),#[]⟩
def MI(P:Params):Obj:=⟨(.type "function"),none,(.func (fn (me 12 8) (S "_find_cycle") (S "TopologicalSorter._find_cycle") .none (.str (S "cpy313.graphlib") 272) (.ref 177))),#[]⟩
def MH(P:Params):Obj:=⟨(.type "dict"),none,(.dict #[E P "__module__" 342 (.str (S "cpy313.graphlib") 272),E P "__firstlineno__" 346 (.int (57) 345),E P "__init__" 356 (.ref 124),E P "_get_nodeinfo" 365 (.ref 131),E P "add" 377 (.ref 138),E P "prepare" 383 (.ref 143),E P "get_ready" 393 (.ref 150),E P "is_active" 400 (.ref 157),E P "__bool__" 407 (.ref 164),E P "done" 421 (.ref 171),E P "_find_cycle" 434 (.ref 178),E P "static_order" 441 (.ref 185),E P "__static_attributes__" 446 (.ref 186),E P "__dict__" 448 (.ref 189),E P "__weakref__" 450 (.ref 190),E P "__doc__" 451 .none] 4),#[]⟩
def MG(P:Params):Obj:=⟨(.type "type"),none,(.cls {name:=(S "TopologicalSorter"),bases:=[(.type "object")],mro:=[(.ref 188),(.type "object")],ns:=187,qualname:=(S "TopologicalSorter"),hasDict:=true,slotNames:=[],subclasses:=[],abstract:=false,collection:=none,hasDel:=false}),#[none,none,(some (.str (S "TopologicalSorter") 335)),(some (.str (S "TopologicalSorter") 343)),(some (.builtin "object.__new__")),(some (.bool true))]⟩
def MF(P:Params):Obj:=⟨(.type "code"),none,(.fields #[(.str (S "S_IFMT") 456),(.str (S "S_IFMT") 457),(.str (S "/claim/cut.py") 458),(.int (164) 0),(.int (1) 0),(.int (0) 0),(.int (0) 0),(.int (3) 0),(.ref 193),(.bool true),(.int (181) 0),(.ref 194),.none,(.ref 195),(.ref 196),(.ref 197),(.int (460) 0),(.int (164) 0),(.str (S "/claim/cut.py") 461)]),#[]⟩
def ME(P:Params):Obj:=⟨(.type "function"),none,(.func (fn (st 14) (S "S_IFMT") (S "S_IFMT") .none (.str (S "cpy313.stat") 454) (.ref 198))),#[]⟩
def MD(P:Params):Obj:=⟨(.type "code"),none,(.fields #[(.str (S "S_ISREG") 477),(.str (S "S_ISREG") 478),(.str (S "/claim/cut.py") 479),(.int (173) 0),(.int (1) 0),(.int (0) 0),(.int (0) 0),(.int (3) 0),(.ref 200),(.bool true),(.int (181) 0),(.ref 201),.none,(.ref 202),(.ref 203),(.ref 204),(.int (481) 0),(.int (173) 0),(.str (S "/claim/cut.py") 482)]),#[]⟩
def MC(P:Params):Obj:=⟨(.type "function"),none,(.func (fn (st 22) (S "S_ISREG") (S "S_ISREG") .none (.str (S "cpy313.stat") 454) (.ref 205))),#[]⟩
def MB(P:Params):Obj:=⟨(.type "tuple"),none,(.seq #[(.int (40960) 473),(.str (S "l") 508)] 0),#[]⟩
def MA(P:Params):Obj:=⟨(.type "tuple"),none,(.seq #[(.int (49152) 475),(.str (S "s") 509)] 0),#[]⟩
def Mz(P:Params):Obj:=⟨(.type "tuple"),none,(.seq #[(.int (32768) 469),(.str (S "-") 510)] 0),#[]⟩
def My(P:Params):Obj:=⟨(.type "tuple"),none,(.seq #[(.int (24576) 467),(.str (S "b") 511)] 0),#[]⟩
def Mx(P:Params):Obj:=⟨(.type "tuple"),none,(.seq #[(.int (16384) 463),(.str (S "d") 512)] 0),#[]⟩
def Mw(P:Params):Obj:=⟨(.type "tuple"),none,(.seq #[(.int (8192) 465),(.str (S "c") 513)] 0),#[]⟩
def Mv(P:Params):Obj:=⟨(.type "tuple"),none,(.seq #[(.int (4096) 471),(.str (S "p") 514)] 0),#[]⟩
noncomputable def Mt(P:Params):Obj:=⟨(.type "tuple"),none,(.seq #[(.ref 207),(.ref 208),(.ref 209),(.ref 210),(.ref 211),(.ref 212),(.ref 213)] 0),#[]⟩
def Ms(P:Params):Obj:=⟨(.type "tuple"),none,(.seq #[(.int (256) 490),(.str (S "r") 515)] 0),#[]⟩
noncomputable def Mr(P:Params):Obj:=⟨(.type "tuple"),none,(.seq #[(.ref 215)] 0),#[]⟩
def Mq(P:Params):Obj:=⟨(.type "tuple"),none,(.seq #[(.int (128) 492),(.str (S "w") 516)] 0),#[]⟩
noncomputable def Mp(P:Params):Obj:=⟨(.type "tuple"),none,(.seq #[(.ref 217)] 0),#[]⟩
def Mn(P:Params):Obj:=⟨(.type "tuple"),none,(.seq #[(.int (2112) 517),(.str (S "s") 518)] 0),#[]⟩
def Mm(P:Params):Obj:=⟨(.type "tuple"),none,(.seq #[(.int (2048) 484),(.str (S "S") 519)] 0),#[]⟩
def Ml(P:Params):Obj:=⟨(.type "tuple"),none,(.seq #[(.int (64) 494),(.str (S "x") 520)] 0),#[]⟩
noncomputable def Mk(P:Params):Obj:=⟨(.type "tuple"),none,(.seq #[(.ref 219),(.ref 220),(.ref 221)] 0),#[]⟩
def Mj(P:Params):Obj:=⟨(.type "tuple"),none,(.seq #[(.int (32) 496),(.str (S "r") 521)] 0),#[]⟩
noncomputable def Mi(P:Params):Obj:=⟨(.type "tuple"),none,(.seq #[(.ref 223)] 0),#[]⟩
def Mh(P:Params):Obj:=⟨(.type "tuple"),none,(.seq #[(.int (16) 498),(.str (S "w") 522)] 0),#[]⟩
noncomputable def Mg(P:Params):Obj:=⟨(.type "tuple"),none,(.seq #[(.ref 225)] 0),#[]⟩
def Mf(P:Params):Obj:=⟨(.type "tuple"),none,(.seq #[(.int (1032) 523),(.str (S "s") 524)] 0),#[]⟩
def Me(P:Params):Obj:=⟨(.type "tuple"),none,(.seq #[(.int (1024) 486),(.str (S "S") 525)] 0),#[]⟩
def Md(P:Params):Obj:=⟨(.type "tuple"),none,(.seq #[(.int (8) 500),(.str (S "x") 526)] 0),#[]⟩
noncomputable def Mc(P:Params):Obj:=⟨(.type "tuple"),none,(.seq #[(.ref 227),(.ref 228),(.ref 229)] 0),#[]⟩
def Mb(P:Params):Obj:=⟨(.type "tuple"),none,(.seq #[(.int (4) 502),(.str (S "r") 527)] 0),#[]⟩
noncomputable def Ma(P:Params):Obj:=⟨(.type "tuple"),none,(.seq #[(.ref 231)] 0),#[]⟩
def L9(P:Params):Obj:=⟨(.type "tuple"),none,(.seq #[(.int (2) 504),(.str (S "w") 528)] 0),#[]⟩
noncomputable def L8(P:Params):Obj:=⟨(.type "tuple"),none,(.seq #[(.ref 233)] 0),#[]⟩
def L7(P:Params):Obj:=⟨(.type "tuple"),none,(.seq #[(.int (513) 529),(.str (S "t") 530)] 0),#[]⟩
def L6(P:Params):Obj:=⟨(.type "tuple"),none,(.seq #[(.int (512) 488),(.str (S "T") 531)] 0),#[]⟩
def L5(P:Params):Obj:=⟨(.type "tuple"),none,(.seq #[(.int (1) 506),(.str (S "x") 532)] 0),#[]⟩
noncomputable def L4(P:Params):Obj:=⟨(.type "tuple"),none,(.seq #[(.ref 235),(.ref 236),(.ref 237)] 0),#[]⟩
noncomputable def L3(P:Params):Obj:=⟨(.type "tuple"),none,(.seq #[(.ref 214),(.ref 216),(.ref 218),(.ref 222),(.ref 224),(.ref 226),(.ref 230),(.ref 232),(.ref 234),(.ref 238)] 0),#[]⟩
def L1(P:Params):Obj:=⟨(.type "code"),none,(.fields #[(.str (S "filemode") 534),(.str (S "filemode") 535),(.str (S "/claim/cut.py") 536),(.int (188) 0),(.int (1) 0),(.int (0) 0),(.int (0) 0),(.int (3) 0),(.ref 240),(.bool true),(.int (181) 0),(.ref 241),.none,(.ref 242),(.ref 243),(.ref 244),(.int (543) 0),(.int (188) 0),(.str (S "/claim/cut.py") 544)]),#[]⟩
def L0(P:Params):Obj:=⟨(.type "function"),none,(.func (fn (st 36) (S "filemode") (S "filemode") .none (.str (S "cpy313.stat") 454) (.ref 245))),#[]⟩
def LZ(P:Params):Obj:=⟨(.type "code"),none,(.fields #[(.str (S "_law_values") 548),(.str (S "_law_values") 549),(.str (S "/claim/cut.py") 550),(.int (206) 0),(.int (1) 0),(.int (0) 0),(.int (0) 0),(.int (3) 0),(.ref 247),(.bool true),(.int (181) 0),(.ref 248),.none,.none,.none,(.ref 249),(.int (551) 0),(.int (206) 0),(.str (S "/claim/cut.py") 552)]),#[]⟩
def LY(P:Params):Obj:=⟨(.type "function"),none,(.func (fn (st 38) (S "_law_values") (S "_law_values") .none (.str (S "law_ny0346_01") 546) (.ref 250))),#[]⟩
def LX(P:Params):Obj:=⟨(.type "code"),none,(.fields #[(.str (S "_law_needs") 554),(.str (S "_law_needs") 555),(.str (S "/claim/cut.py") 556),(.int (209) 0),(.int (2) 0),(.int (0) 0),(.int (0) 0),(.int (3) 0),(.ref 252),(.bool true),(.int (181) 0),(.ref 253),.none,(.ref 254),(.ref 255),(.ref 256),(.int (560) 0),(.int (209) 0),(.str (S "/claim/cut.py") 561)]),#[]⟩
def LW(P:Params):Obj:=⟨(.type "function"),none,(.func (fn (st 39) (S "_law_needs") (S "_law_needs") .none (.str (S "law_ny0346_01") 546) (.ref 257))),#[]⟩
def LV(P:Params):Obj:=⟨(.type "code"),none,(.fields #[(.str (S "_law_name") 563),(.str (S "_law_name") 564),(.str (S "/claim/cut.py") 565),(.int (212) 0),(.int (2) 0),(.int (0) 0),(.int (0) 0),(.int (3) 0),(.ref 259),(.bool true),(.int (181) 0),(.ref 260),.none,(.ref 261),(.ref 262),(.ref 263),(.int (569) 0),(.int (212) 0),(.str (S "/claim/cut.py") 570)]),#[]⟩
def LU(P:Params):Obj:=⟨(.type "function"),none,(.func (fn (st 40) (S "_law_name") (S "_law_name") .none (.str (S "law_ny0346_01") 546) (.ref 264))),#[]⟩
def LS(P:Params):Obj:=⟨(.type "code"),none,(.fields #[(.str (S "_law_mode") 572),(.str (S "_law_mode") 573),(.str (S "/claim/cut.py") 574),(.int (215) 0),(.int (1) 0),(.int (0) 0),(.int (0) 0),(.int (3) 0),(.ref 266),(.bool true),(.int (181) 0),(.ref 267),.none,(.ref 268),(.ref 269),(.ref 270),(.int (577) 0),(.int (215) 0),(.str (S "/claim/cut.py") 578)]),#[]⟩
def LR(P:Params):Obj:=⟨(.type "function"),none,(.func (fn (st 41) (S "_law_mode") (S "_law_mode") .none (.str (S "law_ny0346_01") 546) (.ref 271))),#[]⟩
def LQ(P:Params):Obj:=⟨(.type "code"),none,(.fields #[(.str (S "_law_replies") 580),(.str (S "_law_replies") 581),(.str (S "/claim/cut.py") 582),(.int (218) 0),(.int (4) 0),(.int (0) 0),(.int (0) 0),(.int (3) 0),(.ref 273),(.bool true),(.int (181) 0),(.ref 274),.none,.none,.none,(.ref 275),(.int (583) 0),(.int (218) 0),(.str (S "/claim/cut.py") 584)]),#[]⟩
def LP(P:Params):Obj:=⟨(.type "function"),none,(.func (fn (st 42) (S "_law_replies") (S "_law_replies") .none (.str (S "law_ny0346_01") 546) (.ref 276))),#[]⟩
def LO(P:Params):Obj:=⟨(.type "code"),none,(.fields #[(.str (S "_law_peer") 586),(.str (S "_law_peer") 587),(.str (S "/claim/cut.py") 588),(.int (222) 0),(.int (1) 0),(.int (0) 0),(.int (0) 0),(.int (3) 0),(.ref 278),(.bool true),(.int (181) 0),(.ref 279),.none,(.ref 280),(.ref 281),(.ref 282),(.int (590) 0),(.int (222) 0),(.str (S "/claim/cut.py") 591)]),#[]⟩
def LN(P:Params):Obj:=⟨(.type "function"),none,(.func (fn (st 43) (S "_law_peer") (S "_law_peer") .none (.str (S "law_ny0346_01") 546) (.ref 283))),#[]⟩
def LM(P:Params):Obj:=⟨(.type "code"),none,(.fields #[(.str (S "_law_read") 593),(.str (S "_law_read") 594),(.str (S "/claim/cut.py") 595),(.int (224) 0),(.int (2) 0),(.int (0) 0),(.int (0) 0),(.int (3) 0),(.ref 285),(.bool true),(.int (181) 0),(.ref 286),.none,(.ref 287),(.ref 288),(.ref 289),(.int (600) 0),(.int (224) 0),(.str (S "/claim/cut.py") 601)]),#[]⟩
def LL(P:Params):Obj:=⟨(.type "function"),none,(.func (fn (st 44) (S "_law_read") (S "_law_read") .none (.str (S "law_ny0346_01") 546) (.ref 290))),#[]⟩
def LK(P:Params):Obj:=⟨(.type "code"),none,(.fields #[(.str (S "_law_file") 603),(.str (S "_law_file") 604),(.str (S "/claim/cut.py") 605),(.int (237) 0),(.int (4) 0),(.int (0) 0),(.int (0) 0),(.int (3) 0),(.ref 292),(.bool true),(.int (181) 0),(.ref 293),.none,.none,.none,(.ref 294),(.int (606) 0),(.int (237) 0),(.str (S "/claim/cut.py") 607)]),#[]⟩
def LJ(P:Params):Obj:=⟨(.type "function"),none,(.func (fn (st 45) (S "_law_file") (S "_law_file") .none (.str (S "law_ny0346_01") 546) (.ref 295))),#[]⟩
def LI(P:Params):Obj:=⟨(.type "code"),none,(.fields #[(.str (S "_law_told_size") 609),(.str (S "_law_told_size") 610),(.str (S "/claim/cut.py") 611),(.int (243) 0),(.int (2) 0),(.int (0) 0),(.int (0) 0),(.int (3) 0),(.ref 297),(.bool true),(.int (181) 0),(.ref 298),.none,(.ref 299),(.ref 300),(.ref 301),(.int (614) 0),(.int (243) 0),(.str (S "/claim/cut.py") 615)]),#[]⟩
def LH(P:Params):Obj:=⟨(.type "function"),none,(.func (fn (st 46) (S "_law_told_size") (S "_law_told_size") .none (.str (S "law_ny0346_01") 546) (.ref 302))),#[]⟩
def LG(P:Params):Obj:=⟨(.type "code"),none,(.fields #[(.str (S "_law_fetched") 617),(.str (S "_law_fetched") 618),(.str (S "/claim/cut.py") 619),(.int (248) 0),(.int (3) 0),(.int (0) 0),(.int (0) 0),(.int (3) 0),(.ref 304),(.bool true),(.int (181) 0),(.ref 305),.none,.none,.none,(.ref 306),(.int (620) 0),(.int (248) 0),(.str (S "/claim/cut.py") 621)]),#[]⟩
def LF(P:Params):Obj:=⟨(.type "function"),none,(.func (fn (st 47) (S "_law_fetched") (S "_law_fetched") .none (.str (S "law_ny0346_01") 546) (.ref 307))),#[]⟩
def LD(P:Params):Obj:=⟨(.type "code"),none,(.fields #[(.str (S "_law_ring") 623),(.str (S "_law_ring") 624),(.str (S "/claim/cut.py") 625),(.int (272) 0),(.int (1) 0),(.int (0) 0),(.int (0) 0),(.int (3) 0),(.ref 309),(.bool true),(.int (181) 0),(.ref 310),.none,.none,.none,(.ref 311),(.int (626) 0),(.int (272) 0),(.str (S "/claim/cut.py") 627)]),#[]⟩
def LC(P:Params):Obj:=⟨(.type "function"),none,(.func (fn (st 48) (S "_law_ring") (S "_law_ring") .none (.str (S "law_ny0346_01") 546) (.ref 312))),#[]⟩
def LB(P:Params):Obj:=⟨(.type "code"),none,(.fields #[(.str (S "_law_due") 629),(.str (S "_law_due") 630),(.str (S "/claim/cut.py") 631),(.int (277) 0),(.int (3) 0),(.int (0) 0),(.int (0) 0),(.int (3) 0),(.ref 314),(.bool true),(.int (181) 0),(.ref 315),.none,.none,.none,(.ref 316),(.int (632) 0),(.int (277) 0),(.str (S "/claim/cut.py") 633)]),#[]⟩
def LA(P:Params):Obj:=⟨(.type "function"),none,(.func (fn (st 49) (S "_law_due") (S "_law_due") .none (.str (S "law_ny0346_01") 546) (.ref 317))),#[]⟩
def Lz(P:Params):Obj:=⟨(.type "code"),none,(.fields #[(.str (S "law") 635),(.str (S "law") 636),(.str (S "/claim/cut.py") 637),(.int (304) 0),(.int (1) 0),(.int (0) 0),(.int (0) 0),(.int (3) 0),(.ref 319),(.bool true),(.int (181) 0),(.ref 320),.none,.none,.none,(.ref 321),(.int (638) 0),(.int (304) 0),(.str (S "/claim/cut.py") 639)]),#[]⟩
def Ly(P:Params):Obj:=⟨(.type "function"),none,(.func (fn (st 50) (S "law") (S "law") .none (.str (S "law_ny0346_01") 546) (.ref 322))),#[]⟩
def Ep(P:Params):KT:=(.node (some (o0 P)) (.node none (.node (some (o3 P)) (.node none (.node none (.node (some (Si P)) .nil (.node none .nil (.node (some (Mj P)) .nil .nil))) (.node none (.node none (.node (some (MR P)) (.node (some (LS P)) .nil .nil) .nil) (.node (some (MB P)) .nil .nil)) (.node none (.node none (.node (some (LH P)) .nil .nil) .nil) (.node (some (L3 P)) .nil .nil)))) (.node none (.node none (.node (some (Wb P)) .nil (.node (some (ME P)) .nil .nil)) (.node none (.node none (.node (some (LK P)) .nil .nil) .nil) (.node (some (Mb P)) .nil .nil))) (.node (some (We P)) (.node (some (V8 P)) .nil (.node (some (Ms P)) .nil .nil)) .nil))) (.node none (.node none (.node none (.node none (.node (some (MV P)) .nil .nil) (.node none (.node (some (Ly P)) .nil .nil) .nil)) (.node none (.node none (.node (some (LL P)) .nil .nil) .nil) (.node (some (Mf P)) .nil .nil))) (.node none (.node none .nil (.node (some (Mx P)) .nil .nil)) (.node none (.node none (.node (some (LG P)) .nil .nil) .nil) .nil))) (.node none (.node (some (Wf P)) .nil (.node none (.node (some (MK P)) .nil .nil) (.node (some (L7 P)) .nil .nil))) (.node none (.node (some (V6 P)) (.node none (.node (some (LO P)) .nil .nil) .nil) (.node (some (Mn P)) .nil .nil)) (.node (some (MY P)) (.node (some (MH P)) .nil .nil) (.node (some (LY P)) .nil .nil)))))) (.node none (.node none (.node none (.node none (.node (some (Wc P)) (.node none (.node (some (LX P)) .nil .nil) .nil) .nil) (.node none .nil (.node (some (Mh P)) .nil .nil))) (.node none (.node none .nil (.node (some (Mz P)) .nil .nil)) (.node none (.node (some (MJ P)) .nil .nil) .nil))) (.node none (.node none (.node none (.node (some (MU P)) (.node (some (LU P)) .nil .nil) .nil) .nil) (.node (some (M0 P)) .nil (.node (some (L9 P)) .nil .nil))) (.node none (.node none .nil (.node (some (Mq P)) .nil .nil)) (.node none (.node none (.node (some (LC P)) .nil .nil) .nil) .nil)))) (.node none (.node none (.node none .nil (.node none .nil (.node (some (Md P)) .nil .nil))) (.node none (.node none (.node (some (MQ P)) (.node (some (LP P)) .nil .nil) .nil) (.node (some (Mv P)) .nil .nil)) (.node (some (MZ P)) .nil (.node (some (L1 P)) .nil .nil)))) (.node none (.node none (.node none .nil (.node (some (MD P)) .nil .nil)) (.node none .nil (.node (some (L5 P)) .nil .nil))) (.node none (.node (some (V4 P)) (.node (some (MN P)) .nil .nil) (.node (some (Ml P)) .nil .nil)) (.node none (.node none (.node (some (LB P)) .nil .nil) .nil) .nil)))))) (.node (some (o2 P)) (.node none (.node none (.node none (.node none (.node (some (Wd P)) .nil .nil) (.node none .nil (.node (some (Mi P)) .nil .nil))) (.node none (.node none (.node none (.node (some (LR P)) .nil .nil) .nil) (.node (some (MA P)) .nil .nil)) .nil)) (.node none (.node none (.node (some (Wa P)) (.node none (.node (some (LV P)) .nil .nil) .nil) .nil) (.node none (.node none (.node (some (LJ P)) .nil .nil) .nil) (.node (some (Ma P)) .nil .nil))) (.node (some (Sg P)) (.node none .nil (.node (some (Mr P)) .nil .nil)) (.node none (.node none (.node (some (LD P)) .nil .nil) .nil) .nil)))) (.node none (.node none (.node none .nil (.node none .nil (.node (some (Me P)) .nil .nil))) (.node none (.node none (.node none (.node (some (LQ P)) .nil .nil) .nil) (.node (some (Mw P)) .nil .nil)) (.node none (.node none (.node (some (LF P)) .nil .nil) .nil) .nil))) (.node none (.node (some (Sh P)) .nil (.node none .nil (.node (some (L6 P)) .nil .nil))) (.node none (.node (some (V5 P)) (.node (some (MO P)) (.node (some (LN P)) .nil .nil) .nil) (.node (some (Mm P)) .nil .nil)) (.node (some (MX P)) (.node (some (MG P)) .nil .nil) .nil))))) (.node none (.node none (.node none (.node none (.node none (.node (some (MW P)) (.node (some (LW P)) .nil .nil) .nil) (.node none (.node (some (Lz P)) .nil .nil) .nil)) (.node none (.node none (.node (some (LM P)) .nil .nil) .nil) (.node (some (Mg P)) .nil .nil))) (.node none (.node none .nil (.node (some (My P)) .nil .nil)) (.node none (.node (some (MI P)) .nil .nil) .nil))) (.node none (.node none (.node none (.node (some (MT P)) .nil .nil) .nil) (.node (some (HC P)) (.node (some (MM P)) .nil .nil) (.node (some (L8 P)) .nil .nil))) (.node none (.node (some (V7 P)) .nil (.node (some (Mp P)) .nil .nil)) (.node none .nil (.node (some (LZ P)) .nil .nil))))) (.node none (.node none (.node none (.node none .nil (.node (some (MF P)) .nil .nil)) (.node none .nil (.node (some (Mc P)) .nil .nil))) (.node none (.node (some (V9 P)) (.node (some (MP P)) .nil .nil) (.node (some (Mt P)) .nil .nil)) (.node none .nil (.node (some (L0 P)) .nil .nil)))) (.node (some (Sj P)) (.node none (.node none (.node (some (MS P)) .nil .nil) (.node (some (MC P)) .nil .nil)) (.node none (.node none (.node (some (LI P)) .nil .nil) .nil) (.node (some (L4 P)) .nil .nil))) (.node none (.node (some (V3 P)) .nil (.node (some (Mk P)) .nil .nil)) (.node none (.node none (.node (some (LA P)) .nil .nil) .nil) .nil)))))))
noncomputable def mm:List Addr:=[0,2,3,30,31,43,44,55,56,64,65,71,72,86,87,90,91,92,93,94,105,106,117,123,124,130,131,137,138,142,143,149,150,156,157,170,171,177,178,187,188,198,199,205,206,207,208,209,210,211,212,213,214,215,216,217,218,219,220,221,222,223,224,225,226,227,228,229,230,231,232,233,234,235,236,237,238,239,245,246,250,251,257,258,264,265,271,272,276,277,283,284,290,291,295,296,302,303,307,308,312,313,317,318,322,323]
section
variable(P:Params)
def zD:Frag:=[(0,o0 P),(2,o2 P),(3,o3 P),(30,Sj P),(31,Si P),(43,Wf P),(44,Sh P),(55,We P),(56,Sg P),(64,Wd P),(65,Wc P),(71,Wb P),(72,Wa P),(86,V9 P),(87,V8 P),(90,V7 P),(91,V6 P),(92,V5 P),(93,V4 P),(94,V3 P),(105,M0 P),(106,HC P),(117,MZ P),(123,MY P),(124,MX P),(130,MW P),(131,MV P),(137,MU P),(138,MT P),(142,MS P),(143,MR P),(149,MQ P),(150,MP P),(156,MO P),(157,MN P),(170,MM P),(171,MK P),(177,MJ P),(178,MI P),(187,MH P),(188,MG P),(198,MF P),(199,ME P),(205,MD P),(206,MC P),(207,MB P),(208,MA P),(209,Mz P),(210,My P),(211,Mx P),(212,Mw P),(213,Mv P),(214,Mt P),(215,Ms P),(216,Mr P),(217,Mq P),(218,Mp P),(219,Mn P),(220,Mm P),(221,Ml P),(222,Mk P),(223,Mj P),(224,Mi P),(225,Mh P),(226,Mg P),(227,Mf P),(228,Me P),(229,Md P),(230,Mc P),(231,Mb P),(232,Ma P),(233,L9 P),(234,L8 P),(235,L7 P),(236,L6 P),(237,L5 P),(238,L4 P),(239,L3 P),(245,L1 P),(246,L0 P),(250,LZ P),(251,LY P),(257,LX P),(258,LW P),(264,LV P),(265,LU P),(271,LS P),(272,LR P),(276,LQ P),(277,LP P),(283,LO P),(284,LN P),(290,LM P),(291,LL P),(295,LK P),(296,LJ P),(302,LI P),(303,LH P),(307,LG P),(308,LF P),(312,LD P),(313,LC P),(317,LB P),(318,LA P),(322,Lz P),(323,Ly P)]
theorem HM(h:Heap)(k:∀a o,(Ep P).get a=some o->h.get? a=some o):h.NoLimit:=by
 have e:=k 2 (o2 P) rfl
 exact⟨_,Heap.Ns.of_isNs (h:=h) (a:=2) (by unfold Heap.isNs;rw[e];kernel_rfl!),by unfold Heap.nsMap;rw[e];kernel_rfl!⟩
def T:Ground:=⟨(Ep P).get,324,HM P⟩
end
def q:Program:=PySem.W.view pw [50]
def rN:List Str:=[S "_wall",S "Error",S "error_reply",S "error_proto",S "parse229",S "parse257",S "_NODE_OUT",S "_NODE_DONE",
 S "_NodeInfo",S "CycleError",S "TopologicalSorter",S "S_IFMT",S "S_IFDIR",S "S_IFCHR",S "S_IFBLK",S "S_IFREG",S "S_IFIFO",
 S "S_IFLNK",S "S_IFSOCK",S "S_ISREG",S "S_ISUID",S "S_ISGID",S "S_ISVTX",S "S_IRUSR",S "S_IWUSR",S "S_IXUSR",S "S_IRGRP",
 S "S_IWGRP",S "S_IXGRP",S "S_IROTH",S "S_IWOTH",S "S_IXOTH",S "_filemode_table",S "filemode",S "_law_values",S "_law_needs",
 S "_law_name",S "_law_mode",S "_law_replies",S "_law_peer",S "_law_read",S "_law_file",S "_law_told_size",S "_law_fetched",
 S "_law_ring",S "_law_due"]
def Yf(s:Shared):List (Option Obj)×Nat:=(mm.map s.heap.get?,s.heap.objs.size)
def Ya(w:World):List (Option Obj)×Nat:=(mm.map (Ep w.params).get,324)
theorem left:LeftO pw q rN (fun s=>recOk [] s) Yf Ya 5300:=by
 intro w
 show(Option.map _ (openEnds treeTable pw w 5300))=_
 unfold openEnds fencedOpening topFrom
 rw[PySem.W.Fast.te14082659384304107361,PySem.W.Fast.te14364793385576792824,PySem.W.Fast.te10274390034422433532]
 kernel_rfl
theorem RC:PySem.Challenge.rw_ny0346_01.wellSaid=true:=by kernel_rfl
theorem head(hc:WalkX q rN (fun _ _=>True) Yf Ya PySem.Challenge.rw_ny0346_01.row.toRowW ((defOf q PySem.Challenge.rw_ny0346_01.row.name).get (by kernel_rfl)).1 ((defOf q PySem.Challenge.rw_ny0346_01.row.name).get (by kernel_rfl)).2 fun f vs=>PySem.call f vs):PySem.Challenge.rw_ny0346_01.Holds:=by
 refine holds_law RC fun k1=> ?_
 refine holds_openX (q:=q) (loose:=rN) (Xt:=fun s=>recOk [] s) (XP:=fun _ _=>True) (Yf:=Yf) (Ya:=Ya) (N:=5300) left (fun _ _=>trivial) (fun _ _ _ _ _=>trivial) (by kernel_rfl) (by kernel_rfl) (by kernel_rfl) (fun s e=>recFacts_nil rfl) (by kernel_rfl) k1 (by kernel_rfl) ⟨rfl,rfl,rfl,rfl,rfl,by decide+kernel⟩ ?_ hc
 exact⟨[.list []],by decide+kernel,by decide+kernel⟩
section
variable(w:World)
abbrev aJ:=Sm pw w (T w.params)
abbrev Mo:=model pw w
abbrev TW:Ground:=T w.params
end
theorem Sat.frame{G:Ground}{s':Shared}{L L' R:Led}(h:Sat G s (L++R))(d:Done (T:=G) s s' L L'):Sat G s' (L'++R):=by
 have hL:∀p∈R,p.1∉L.map (·.1):=fun p hp m=>by
  have nd:=h.nd
  rw[List.map_append,List.nodup_append]at nd
  exact nd.2.2 p.1 m p.1 (gN (f:=(·.1)) hp) rfl
 refine⟨fun p hp=> ?_,?_,fun p hp=> ?_,d.sat.top,d.sat.size⟩
 ·rcases bw hp with hp|hp
  ·exact d.sat.get p hp
  ·obtain⟨x,ex,lx⟩:=h.get p (jI _ hp)
   exact d.iD.Ni ex lx (hL p hp)
 ·have nd:=h.nd
  rw[List.map_append,List.nodup_append]at nd
  rw[List.map_append,List.nodup_append]
  refine⟨d.sat.nd,nd.2.1,fun a ha b hb=> ?_⟩
  obtain⟨p,hp,rfl⟩:=cz ha
  obtain⟨q,hq,rfl⟩:=cz hb
  rcases d.grow p hp with z|z
  ·intro e
   exact hL q hq (e▸z)
  ·intro e
   obtain⟨x,g,_⟩:=h.get q (jI _ hq)
   rw[<-e,z]at g
   cases g
 ·rcases bw hp with hp|hp
  ·exact d.sat.low p hp
  ·exact h.low p (jI _ hp)
noncomputable abbrev K(x:aJ w):Nu->aJ w:=fun _=>x
structure In(w:World)(lv:Option Nat)(bare:Bool)(fs:List Env)(A:Around)(s:Shared)(L:Led):Prop where
 hr:qI lv fs A
 hf:Frames (TW w) s fs
 hh:bare=true->A.handled=none
 hs:Sat (TW w) s L
structure aD(w:World)(X:Type)where
 lv:Option Nat:=none
 bare:Bool:=false
 find:Code->Led->Led->Option X
 code:X->Code
 pre:X->Led
 tail:X->Led:=fun _=>[]
 r:X->Mu->Result
 post:X->Mu->List Obj
 new:X->Mu->Led:=fun _ _=>[]
 rest:X->Mu->Led:=fun _ _=>[]
 obs:X->List Ob:=fun _=>[]
section
variable{X:Type}(P:aD w X)
def aD.fin(x:X)(μ:Mu):Led:=((P.pre x).map (·.1)).zip (P.post x μ)++(P.new x μ++P.rest x μ)
def aD.Ok:Prop:=∀(x:X) (fs:List Env) (A:Around) (s:Shared) (R:Result->Shared->Prop),In w P.lv P.bare fs A s (P.pre x++P.tail x)->dD (P.obs x)->
 (∀μ s',(P.post x μ).length=(P.pre x).length->Done (T:=TW w) s s' (P.pre x++P.tail x) (P.fin x μ)->R (P.r x μ) s')->codeAny (Mo w) A (P.code x) R s
theorem aD.old{P:aD w X}(h:∀(x:X) (fs:List Env) (A:Around) (s:Shared),qI P.lv fs A->Frames (TW w) s fs->(P.bare=true->A.handled=none)->dD (P.obs x)->Sat (TW w) s (P.pre x++P.tail x)->
  codeAny (Mo w) A (P.code x) (fun r s'=>∃μ,P.r x μ=r/\(P.post x μ).length=(P.pre x).length/\Done (T:=TW w) s s' (P.pre x++P.tail x) (P.fin x μ)) s):P.Ok:=
 fun x fs A s R i ho k=>cQ (h x fs A s i.hr i.hf i.hh ho i.hs) fun r s' ⟨μ,e,l,d⟩=>e▸k μ s' l d
theorem wo{R:α->Shared->Prop}{a r:α}(e:a=r)(h:R a s):R r s:=e▸h
def aD.told(x:X)(c:Code)(pre tail:Led)(more:List Ob)(μ:Mu):Told:=⟨P.r x μ,P.post x μ,P.new x μ,⟨Code,c,P.code x⟩::⟨Led,pre,P.pre x⟩::⟨Led,tail,P.tail x⟩::(more++P.obs x),P.rest x μ⟩
def aD.VK(find:List Env->Code->Led->Led->Option X)(more:List Env->X->List Ob)(ok:∀(x:X) (fs:List Env) (A:Around) (s:Shared) (R:Result->Shared->Prop),dD (more fs x)->In w P.lv P.bare fs A s (P.pre x++P.tail x)->dD (P.obs x)->
  (∀μ s',(P.post x μ).length=(P.pre x).length->Done (T:=TW w) s s' (P.pre x++P.tail x) (P.fin x μ)->R (P.r x μ) s')->codeAny (Mo w) A (P.code x) R s):aJ w where
 lv:=P.lv
 go hd fs c pre tail μ:=ug (P.bare&&hd.isSome) (bJ (find fs c pre tail) fun x=>some (P.told x c pre tail (more fs x) μ))
 ok hd fs c pre tail A s R hh hr hf hs h k:=by
  obtain⟨t,e,ho⟩:=h eQ
  refine QL e fun hb e=>eP e fun x ex e=> ?_
  cases e
  have h1:c=P.code x:=ho _ (.head _)
  have h2:pre=P.pre x:=ho _ (.tail _ (.head _))
  have h3:tail=P.tail x:=ho _ (.tail _ (.tail _ (.head _)))
  have h4:dD (more fs x):=fun o h=>ho o (.tail _ (.tail _ (.tail _ (jH _ h))))
  have h5:dD (P.obs x):=fun o h=>ho o (.tail _ (.tail _ (.tail _ (jI _ h))))
  clear ho
  subst h2 h3
  refine h1▸ok x fs A s R h4 ⟨hr,hf,fun z=> ?_,hs⟩ h5 fun μ s' l d=>k μ (P.told x c (P.pre x) (P.tail x) (more fs x) μ) s' ?_ l d
  ·rw[hh]
   rw[z]at hb
   cases hd with
   |none=>rfl
   |some v=>nomatch hb
  ·rw[hb,ex]
   rfl
def aD.sm(ok:P.Ok):aJ w:=P.VK (fun _=>P.find) (fun _ _=>[]) fun x fs A s R _=>ok x fs A s R
end
noncomputable def e9(c:Code):List Value:=match c with
 | .call _ as=>as.pos
 | .builtin _ as=>as.pos
 |_=>[]
def bV(v:Value):Tok:=match v with
 | .int _ t=>t
 | .str _ t=>t
 |_=>0
noncomputable def rS(v:Value):Int:=match v with
 | .int i _=>i
 |_=>0
def Vi(id:String)(x y:Int)(b:Bool):aD w (Tok×Tok)where
 find c _ _:=some (bV ((e9 c).getD 0 .none),bV ((e9 c).getD 1 .none))
 code t:=.call (.builtin id) ⟨[.int x t.1,.int y t.2],[]⟩
 pre _:=[]
 r _ _:=.ok (.ret (.bool b))
 post _ _:=[]
def o8(id:String)(f:Int->Int->Bool)(e:∀(hd:Option Value) (a b:Int) (t u:Tok) (ν:Nu),dJ 0 ((vc pw w (TW w) ν 20).c hd none (.call (.builtin id) ⟨[.int a t,.int b u],[]⟩) ⟨[],0,0,[],[]⟩)=
   asked (.ok (.ret (.bool (f a b)))) [] ((vc pw w (TW w) ν 20).c hd none (.call (.builtin id) ⟨[.int a t,.int b u],[]⟩) ⟨[],0,0,[],[]⟩)) (x y:Int) (b:Bool) (hb:f x y=b):aJ w:=
 (Vi id x y b).sm fun t _ A s _ i _ k=>aU (m:=0) (rm:=none) (fun ν=>e A.handled x y t.1 t.2 ν) rfl trivial (Frames.nil _ _) i.hs fun _ s' d=>hb▸k eQ s' rfl d
def kp:=o8 (w:=w) "int.__lt__" (fun a b=>decide (a<b)) (fun _ _ _ _ _ _=>by kernel_rfl)
def o7:=o8 (w:=w) "int.__gt__" (fun a b=>decide (a>b)) (fun _ _ _ _ _ _=>by kernel_rfl)
def KC:=o8 (w:=w) "int.__ge__" (fun a b=>decide (a>=b)) (fun _ _ _ _ _ _=>by kernel_rfl)
def aF:=o8 (w:=w) "int.__eq__" (fun a b=>decide (a=b)) (fun _ _ _ _ _ _=>by kernel_rfl)
def Rc:=o8 (w:=w) "int.__ne__" (fun a b=> !(decide (a=b))) (fun _ _ _ _ _ _=>by kernel_rfl)
noncomputable def U(es:Array DictEntry)(n:Nat):Obj:={cls:=.type "dict",data:=.dict es n}
noncomputable def ah(xs:Array Value)(n:Nat):Obj:={cls:=.type "list",data:=.seq xs n}
abbrev aj(xs:List Value):=ah xs.toArray
noncomputable def ae(xs:Array Value)(n:Nat):Obj:={cls:=.type "tuple",data:=.seq xs n}
abbrev kS(w:World):KeyKind pw w Str:=strKind pw w
section
variable(xs:Array Value)(n:Nat)
theorem ar:¬bh (ah xs n):=bb fun _ _ h=>nomatch h
theorem cf:¬bh (ae xs n):=bb fun _ _ h=>nomatch h
end
theorem aO(es:Array DictEntry)(n:Nat):¬bh (U es n):=mG fun h=>by
 have h:Value.type "dict"=.type "frame":=h
 injection h with h
 exact absurd h (by decide)
section
variable{G:Ground}
theorem ck{L:Led}(h:Sat G s L)(k:Nat):Done (T:=G) s {s with toks:=k} L L:=
 ⟨⟨h.get,h.nd,h.low,h.top,h.size⟩,iE.of_keep (fun _ _ e=>e) rfl rfl rfl,fun p hp=>.inl (gN (f:=(·.1)) hp)⟩
theorem qy{L:Led}{i:Nat}{a:Addr}{o:Obj}{f:Obj->Obj}(h:Sat G s L)(hi:jh L i=some (a,o))(hn:¬bh o)(hf:(f o).isFreed=false)(hb:bq (f o)=false)(qg:¬bh (f o))(k:Nat):Done (T:=G) s {s with heap:=s.heap.update a f,toks:=k} L (put L i (f o)):=by
 have u:=h.update hi hn hf hb qg
 have ev:=uL (T:=G) (f:=f) hi (h.at (br hi) hn) hf (fun q=>absurd q hn)
 refine⟨⟨u.get,u.nd,u.low,u.top,u.size⟩,⟨ev.keep,ev.live,rfl,rfl,rfl⟩,fun p hp=>.inl ?_⟩
 have:=gN (f:=(·.1)) hp
 rw[dN]at this
 exact this
theorem bN{a:Addr}{o:Obj}{f:Obj->Obj}(h:Sat G s [(a,o)])(hn:¬bh o)(hf:(f o).isFreed=false)(hb:bq (f o)=false)(qg:¬bh (f o))(k:Nat):Done (T:=G) s {s with heap:=s.heap.update a f,toks:=k} [(a,o)] [(a,f o)]:=
 qy (i:=0) h rfl hn hf hb qg k
end
theorem aB{T:String}{name:Str}{id:String}{B:Builtin}{self:Value}{rest:List Value}(slot:Slot T name id)(hT:s.TypeIs self T)
  (entry:entryFor table id=some B)(args:argsOk id ⟨self::rest,[]⟩)
  (h:wpAny (Mo w) A.in1 (B ⟨self::rest,[]⟩) (fun fin s'=>match fin with| .done f=>R (.ok f) s'| .again c'=>c'.quiet=true/\codeAny (Mo w) A c' R s') (fun e s'=>R (.error e) s') s):
  codeAny (Mo w) A (.call (.builtin id) ⟨self::rest,[]⟩) R s:=
 codeAny_call_builtin slot.plain entry (slot.check _ _ _ _ _ _ _ _ hT args h)
noncomputable def bo(es:Array DictEntry)(x:Str):Option Value:=findBy Value.isStrOf es x
theorem mapOf{d:Addr}{n:Nat}(ho:s.heap.get? d=some (U es n))(hk:KeysOf (kS w) es):s.heap.MapOf (kS w) d (bo es):=
 ⟨_,es,n,ho,⟨rfl,rfl,rfl⟩,rfl,hk,fun _=>rfl⟩
theorem jU{d:Addr}{G:Ground}{o:Obj}{L:Led}(h:Sat G s ((d,o)::L))(hn:20<=G.n):(d==sysModules)=false:=by
 have:=h.low (d,o) (.head _)
 have e:sysModules<20:=by decide
 exact beq_eq_false_iff_ne.mpr fun z=>by subst z;exact absurd (bP hn this) (Nat.not_le.mpr e)
section
variable{d:Addr}{n:Nat}{x:Str}{t:Tok}
theorem Al(h:Sat (TW w) s [(d,U es n)])(hk:KeysOf (kS w) es):
  codeAny (Mo w) A (.call (.builtin "dict.get") ⟨[.ref d,.str x t],[]⟩) (fun r s'=>r=.ok (.ret ((bo es x).getD .none))/\Done (T:=TW w) s s' [(d,U es n)] [(d,U es n)]) s:=by
 have hm:=mapOf (h.at (.head _) (aO _ _)) hk
 refine aB F.slot_dict_get hm.typeIs F.entry_dict_get (by first|rfl|decide+kernel|kernel_rfl!) ?_
 show wpAny _ _ (dictGet d (.str x t)>>=_) _ _ s
 refine aw (wpAny_dictGet_of (k:=x) (strKind_is pw w x t) hm ?_)
 cases hf:bo es x with
 |some v=>exact aX ⟨rfl,ck h _⟩
 |none=>
  show wpAny _ _ (Builtin.Dict.missed d (.str x t)>>=_) _ _ _
  exact aw (wpAny_missed_other (jU h (by show 20<=324;decide)) (aX ⟨rfl,ck h _⟩))
theorem wF{v:Value}(h:Sat (TW w) s [(d,U es n)])(hk:KeysOf (kS w) es)(hv:bo es x=some v):
  codeAny (Mo w) A (.call (.builtin "dict.__getitem__") ⟨[.ref d,.str x t],[]⟩) (fun r s'=>r=.ok (.ret v)/\Done (T:=TW w) s s' [(d,U es n)] [(d,U es n)]) s:=by
 have hm:=mapOf (h.at (.head _) (aO _ _)) hk
 refine aB F.slot_dict_getitem hm.typeIs F.entry_dict_getitem (args_dict_getitem _ _) ?_
 show wpAny _ _ (dictGet d (.str x t)>>=_) _ _ s
 refine aw (wpAny_dictGet_of (k:=x) (strKind_is pw w x t) hm ?_)
 rw[hv]
 exact aX ⟨rfl,ck h _⟩
theorem Ak(h:Sat (TW w) s [(d,U es n)])(hk:KeysOf (kS w) es):
  codeAny (Mo w) A (.call (.builtin "dict.__contains__") ⟨[.ref d,.str x t],[]⟩) (fun r s'=>r=.ok (.ret (.bool (bo es x).isSome))/\Done (T:=TW w) s s' [(d,U es n)] [(d,U es n)]) s:=by
 have hm:=mapOf (h.at (.head _) (aO _ _)) hk
 refine aB F.slot_dict_contains hm.typeIs F.entry_dict_contains (args_dict_contains _ _) ?_
 show wpAny _ _ (dictGet d (.str x t)>>=_) _ _ s
 refine aw (wpAny_dictGet_of (k:=x) (strKind_is pw w x t) hm ?_)
 cases hf:bo es x with
 |some v=>exact aX ⟨rfl,ck h _⟩
 |none=>
  show wpAny _ _ (Builtin.Dict.pendingKey? d (.str x t)>>=_) _ _ _
  exact aw (wpAny_pendingKey_other (jU h (by show 20<=324;decide)) (aX ⟨rfl,ck h _⟩))
end
def bI(w:World)(es:Array DictEntry)(x:Str)(t:Tok)(v:Value):Array DictEntry:=es.push ⟨hashStr w x,.str x t,v⟩
theorem Aj{d:Addr}{n:Nat}{x:Str}{t:Tok}{v:Value}(h:Sat (TW w) s [(d,U es n)])(hk:KeysOf (kS w) es)(hz:es.size<1000)(hi:es.findIdx? (fun e=>(kS w).is x e.key)=none):
  codeAny (Mo w) A (.call (.builtin "dict.__setitem__") ⟨[.ref d,.str x t,v],[]⟩) (fun r s'=>r=.ok (.ret .none)/\Done (T:=TW w) s s' [(d,U es n)] [(d,U (bI w es x t v) (n+1))]) s:=by
 have ho:s.heap.get? d=some (U es n):=h.at (.head _) (aO _ _)
 have hm:=mapOf ho hk
 refine aB F.slot_dict_setitem hm.typeIs F.entry_dict_setitem (args_dict_setitem _ _ _) ?_
 show wpAny _ _ (Builtin.Dict.notOrdered "__setitem__" ⟨[.ref d,.str x t,v],[]⟩>>=_) _ _ s
 refine aw (wpAny_notOrdered_dict hm.typeIs ?_)
 show wpAny _ _ (dictSet d (.str x t) v>>=_) _ _ s
 refine aw ?_
 unfold dictSet
 try with_reducible refine wpAny_holding ?_
 refine aw ((kS w).pyHash (strKind_is pw w x t) ?_)
 unfold dictSetHashed
 try with_reducible refine wpAny_holding ?_
 refine aw (wpAny_dictFind_of (s:={s with toks:=s.toks+1}) (strKind_is pw w x t) ho rfl hk ?_)
 rw[hi]
 refine aw (wpAny_rule (wpAny_updateDictKeys (hz:=by show es.size<=2^24;lia) (s:={s with toks:=s.toks+1}) ho rfl ?_))
 exact aX ⟨rfl,bN h (aO _ _) rfl rfl (aO _ _) _⟩
def XI(o:Obj):Nat:=match o.data with
 | .dict _ n=>n
 |_=>0
def OJ(id:String)(x:Str)(more:Value->List Value)(es U4:Array DictEntry)(k:Nat)(r:Value):aD w (Addr×Tok×Value×Nat)where
 find c pre _:=bJ (Kb pre) fun p=>some (p.1.1,bV ((e9 c).getD 1 .none),(e9 c).getD 2 .none,XI p.1.2)
 code y:=.call (.builtin id) ⟨.ref y.1:: .str x y.2.1::more y.2.2.1,[]⟩
 pre y:=[(y.1,U es y.2.2.2)]
 r _ _:=.ok (.ret r)
 post y _:=[U U4 (y.2.2.2+k)]
section
variable(x:Str)(es:Array DictEntry)
def xV(r:Value)(hk:KeysOf (kS w) es)(hr:(bo es x).getD .none=r):aJ w:=
 (OJ "dict.get" x (fun _=>[]) es es 0 r).sm fun _ _ _ _ _ i _ k=>cQ (Al i.hs hk) fun _ _ q=>by
  rw[q.1,hr]
  exact k eQ _ rfl q.2
def OD:aD w (Addr×Tok×Value×Nat)where
 find c pre _:=bJ (Kb pre) fun p=>some (p.1.1,bV ((e9 c).getD 1 .none),(e9 c).getD 2 .none,XI p.1.2)
 code y:=.call (.builtin "dict.__setitem__") ⟨[.ref y.1,.str x y.2.1,y.2.2.1],[]⟩
 pre y:=[(y.1,U es y.2.2.2)]
 r _ _:=.ok (.ret .none)
 post y _:=[U (bI w es x y.2.1 y.2.2.1) (y.2.2.2+1)]
def xR(hk:KeysOf (kS w) es)(hz:es.size<1000)(hi:es.findIdx? (fun e=>(kS w).is x e.key)=none):aJ w:=
 (OD x es).sm fun _ _ _ _ _ i _ k=>cQ (Aj i.hs hk hz hi) fun _ _ q=>q.1▸k eQ _ rfl q.2
end
abbrev aT{prog:Program}{G:Ground}{β:Type}(m:Nat)(res:β)(sel:Led)(X:Option (β×St prog w G)):Prop:=dJ m X=asked res sel X
section
variable(w:World)(ν:Nu)(n:Nat)(hd:Option Value)(rm:Option Rm)
noncomputable abbrev bX(f:Addr)(args:List Value)(led:Led)(hs:Nat)(xs:List (Nu->aJ w)):=kj pw w (TW w) (vc pw w (TW w) ν n) hd rm (.call (.ref f) ⟨args,[]⟩) ⟨led,0,hs,xs,[]⟩
noncomputable abbrev runC(c:Code)(led:Led)(hs:Nat)(xs:List (Nu->aJ w)):=(vc pw w (TW w) ν n).c hd rm c ⟨led,0,hs,xs,[]⟩
noncomputable abbrev bW(c:Code)(led:Led)(hs:Nat)(xs:List (Nu->aJ w)):=turn pw w (TW w) ν (vc pw w (TW w) ν n) hd rm c ⟨led,0,hs,xs,[]⟩
noncomputable abbrev gh(t:Sem α)(led:Led)(hs:Nat)(xs:List (Nu->aJ w)):=(vc pw w (TW w) ν n).t hd rm α t ⟨led,0,hs,xs,[]⟩
end
theorem iE.wide{T:Ground}{s':Shared}{F G:List Addr}(x:iE T s s' F)(h:∀a∈F,a∈G):iE T s s' G:=⟨fun a o e n=>x.keep a o e fun m=>n (h a m),x.live,x.gens,x.drawn,x.os⟩
theorem Done.refl{G:Ground}{L:Led}(h:Sat G s L):Done (T:=G) s s L L:=⟨h,iE.refl _ _,fun _ hp=>.inl (gN hp)⟩
theorem Done.trans{G:Ground}{s' dB:Shared}{L L' XY:Led}(x:Done (T:=G) s s' L L')(y:Done (T:=G) s' dB L' XY):Done (T:=G) s dB L XY:=
 ⟨y.sat,x.iD.trans y.iD (fun a ha=>by
  obtain⟨p,hp,rfl⟩:=cz ha
  exact x.grow p hp),fun p hp=>by
  rcases y.grow p hp with q|q
  ·obtain⟨p',Tf,e⟩:=cz q
   rw[<-e]
   exact x.grow p' Tf
  ·exact x.iD.back q⟩
theorem Done.frame{G:Ground}{s':Shared}{L L' R:Led}(h:Sat G s (L++R))(d:Done (T:=G) s s' L L'):Done (T:=G) s s' (L++R) (L'++R):=
 ⟨h.frame d,d.iD.wide fun a ha=>by rw[List.map_append];exact jH _ ha,fun p hp=>by
  rw[List.map_append]
  rcases bw hp with q|q
  ·rcases d.grow p q with z|z
   ·exact .inl (jH _ z)
   ·exact .inr z
  ·exact .inl (jI _ (gN q))⟩
theorem Done.sel{G:Ground}{s':Shared}{L L' M:Led}(d:Done (T:=G) s s' L L')(h:M.Sublist L'):Done (T:=G) s s' L M:=⟨d.sat.sub h,d.iD,fun p hp=>d.grow p (h.subset hp)⟩
theorem Done.perm{G:Ground}{s':Shared}{L L' M:Led}(d:Done (T:=G) s s' L L')(h:M.Perm L'):Done (T:=G) s s' L M:=⟨d.sat.perm h,d.iD,fun p hp=>d.grow p (h.subset hp)⟩
section
variable{G:Ground}{s':Shared}
theorem Done.pre{L K L':Led}(d:Done (T:=G) s s' L L')(h:∀a∈L.map (·.1),a∈K.map (·.1)):Done (T:=G) s s' K L':=⟨d.sat,d.iD.wide h,fun p hp=>(d.grow p hp).imp (h _) id⟩
theorem Done.part{K L L' R:Led}(h:Sat G s K)(hp:(L++R).Perm K)(d:Done (T:=G) s s' L L'):Done (T:=G) s s' K (L'++R):=
 (Done.frame (h.perm hp) d).pre fun a ha=>(hp.map _).subset ha
end
theorem Sat.part{G:Ground}{K L R:Led}(h:Sat G s K)(hp:(L++R).Perm K):Sat G s L:=(h.perm hp).sub (jO _ _)
section
variable{lv:Option Nat}{b:Bool}{fs:List Env}{K L:Led}{k n hs m:Nat}{xs:List (Nu->aJ w)}{sel:Nu->Led}
theorem In.go{s':Shared}{L':Led}(i:In w lv b fs A s L)(d:Done (T:=TW w) s s' L L'):In w lv b fs A s' L':=⟨i.hr,i.hf.iD d.iD,i.hh,d.sat⟩
theorem In.part{B:Led}(i:In w lv b fs A s K)(hp:(L++B).Perm K):In w lv b fs A s L:=⟨i.hr,i.hf,i.hh,i.hs.part hp⟩
theorem In.sub(i:In w lv b fs A s K)(hp:L.Sublist K):In w lv b fs A s L:=⟨i.hr,i.hf,i.hh,i.hs.sub hp⟩
theorem In.under{c:Code}(i:In w (some (k+1)) b fs A s L)(hc:EM c (some (k+1,fs))=some (k,fs)):In w (some k) b fs (A.under c) s L:=⟨by
 have q:=px (rm:=some (k+1,fs)) c i.hr
 rw[hc]at q
 exact q,i.hf,i.hh,i.hs⟩
theorem In.fn{f:Addr}{args:List Value}{res:Nu->Result}(i:In w (some k) true fs A s L)(e:∀ν,aT m (res ν) (sel ν) (bX w ν n none (some (k,fs)) f args L hs xs))(kk:∀ν s',Done (T:=TW w) s s' L (sel ν)->R (res ν) s'):codeAny (Mo w) A (.call (.ref f) ⟨args,[]⟩) R s:=
 aV (rm:=some (k,fs)) e (i.hh rfl) i.hr i.hf i.hs kk
theorem In.code{c:Code}{res:Nu->Result}(i:In w (some k) true fs A s L)(e:∀ν,aT m (res ν) (sel ν) (runC w ν n none (some (k,fs)) c L hs xs))(kk:∀ν s',Done (T:=TW w) s s' L (sel ν)->R (res ν) s'):codeAny (Mo w) A c R s:=
 aU (rm:=some (k,fs)) e (i.hh rfl) i.hr i.hf i.hs kk
theorem In.tree{t:Sem α}{r:Nu->α}{Q:α->Shared->Prop}{E:Value->Shared->Prop}(i:In w (some k) true fs A s L)(e:∀ν,aT m (.ok (r ν)) (sel ν) (gh w ν n none (some (k,fs)) t L hs xs))(kk:∀ν s',Done (T:=TW w) s s' L (sel ν)->Q (r ν) s'):wpAny (Mo w) A t Q E s:=
 vo (rm:=some (k,fs)) e (i.hh rfl) i.hr i.hf i.hs kk
theorem In.turn{c:Code}(i:In w (some k) true fs A s L)(hq:c.quiet=true)(e:∀ν,aT m (.ok (.again c)) (sel ν) (bW w ν n none (some (k,fs)) c L hs xs))(kk:∀ν s',Done (T:=TW w) s s' L (sel ν)->codeAny (Mo w) A c R s'):codeAny (Mo w) A c R s:=
 x_code (fU (rm:=some (k,fs)) e (i.hh rfl) i.hr i.hf i.hs fun ν s' d=>⟨hq,kk ν s' d⟩)
theorem In.last{c:Code}{f:Flow}(i:In w (some k) true fs A s L)(e:∀ν,aT m (.ok (.done f)) (sel ν) (bW w ν n none (some (k,fs)) c L hs xs))(kk:∀ν s',Done (T:=TW w) s s' L (sel ν)->R (.ok f) s'):codeAny (Mo w) A c R s:=
 x_code (fU (rm:=some (k,fs)) e (i.hh rfl) i.hr i.hf i.hs fun ν s' d=>kk ν s' d)
theorem Done.at{s':Shared}{B L':Led}(i:In w lv b fs A s K)(hp:(L++B).Perm K)(d:Done (T:=TW w) s s' L L'):Done (T:=TW w) s s' K (L'++B):=Done.part i.hs hp d
end
section
variable(w:World)(k:Nat)(fs:List Env)(c:Code)
def eB(L:Led)(M:Nu->Led):Prop:=
 ∀(A:Around) (s:Shared) (R:Result->Shared->Prop),In w (some k) true fs A s L->(∀ν s',Done (T:=TW w) s s' L (M ν)->codeAny (Mo w) A c R s')->codeAny (Mo w) A c R s
def ng(L M:Led):Prop:=
 ∀(A:Around) (s:Shared) (R:Result->Shared->Prop),In w (some k) true fs A s L->(∀s',Done (T:=TW w) s s' L M->R (.ok .next) s')->codeAny (Mo w) A c R s
end
section
variable{k n hs m:Nat}{fs:List Env}{c:Code}{K L B M':Led}{M:Nu->Led}{xs:List (Nu->aJ w)}{sel:Nu->Led}
theorem eB.of(hq:c.quiet=true)(e:∀ν,aT m (.ok (.again c)) (sel ν) (bW w ν n none (some (k,fs)) c L hs xs)):eB w k fs c L sel:=fun _ _ _ i kk=>i.turn hq e kk
theorem eB.at(hp:(L++B).Perm K)(t:eB w k fs c L M):eB w k fs c K fun ν=>M ν++B:=fun A s R i kk=>t A s R (i.part hp) fun ν s' d=>kk ν s' (d.at i hp)
theorem eB.in{X:Led}{Y:Nu->Led}(t:eB w k fs c (X++L) fun ν=>Y ν++L)(hl:(L++B).Perm K):eB w k fs c (X++K) fun ν=>Y ν++K:=fun A s R i kk=>
 have h (Z:Led):((Z++L)++B).Perm (Z++K):=by rw[List.append_assoc];exact hl.append_left Z
 t A s R (i.part (h X)) fun ν s' d=>kk ν s' ((d.at i (h X)).perm (h (Y ν)).symm)
theorem ng.of{M:Led}(e:∀ν,aT m (.ok .next) M (runC w ν n none (some (k,fs)) c L hs xs)):ng w k fs c L M:=fun _ _ _ i kk=>i.code e fun _ s' d=>kk s' d
theorem ng.sw{K':Led}(t:ng w k fs c L M')(hp:(L++B).Perm K)(hq:(M'++B).Perm K'):ng w k fs c K K':=fun A s R i kk=>t A s R (i.part hp) fun s' d=>kk s' ((d.at i hp).perm hq.symm)
theorem eB.mid{X C Q r:Led}{Y D:Nu->Led}(t:eB w k fs c (X++(r++C)) fun ν=>Y ν++(r++D ν))(hl:(r++B).Perm Q):eB w k fs c (X++(Q++C)) fun ν=>Y ν++(Q++D ν):=fun A s R i kk=>
 have h (Z C:Led):((Z++(r++C))++B).Perm (Z++(Q++C)):=by
  rw[List.append_assoc,List.append_assoc]
  exact((dy.append_left r).trans (List.append_assoc r B C▸hl.append_right C)).append_left Z
 t A s R (i.part (h X C)) fun ν s' d=>kk ν s' ((d.at i (h X C)).perm (h (Y ν) (D ν)).symm)
theorem forL{X:Type}{N:Nat}{L:Nat->X->Led}{I:Nat->X->Prop}{E:X->Led}
  (turn:∀j x,j<N->I j x->∃y:Nu->X,(∀ν,I (j+1) (y ν))/\eB w k fs c (L j x) fun ν=>L (j+1) (y ν))(last:∀x,I N x->ng w k fs c (L N x) (E x)):
  ∀d j x s (R:Result->Shared->Prop),N=j+d->I j x->In w (some k) true fs A s (L j x)->(∀x' s',I N x'->Done (T:=TW w) s s' (L j x) (E x')->R (.ok .next) s')->codeAny (Mo w) A c R s:=by
 intro d
 induction d with
 |zero=>
  intro j x s R e hi ii kk
  cases e
  exact last x hi A s R ii fun s' d=>kk x s' hi d
 |succ d ih=>
  intro j x s R e hi ii kk
  obtain⟨y,hy,t⟩:=turn j x (by lia) hi
  exact t A s R ii fun ν s' dd=>ih (j+1) (y ν) s' R (by lia) (hy ν) (ii.go dd) fun x' dB hx d2=>kk x' dB hx (dd.trans d2)
end
theorem tK{β:Type}{f:α->β}{l:List α}{j:Nat}{r:α}(h:l[j]? =some r):E2 fun(B:List β) (_:Unit)=>([f r]++B).Perm (l.map f):=by
 obtain⟨h,rfl⟩:=List.getElem?_eq_some_iff.mp h
 refine⟨(l.take j++l.drop (j+1)).map f,(),?_⟩
 rw[<-List.map_singleton,<-List.map_append]
 refine List.Perm.map f (List.Perm.trans (lY (l₁:=l.take j) (l₂:=l.drop (j+1))).symm ?_)
 rw[List.getElem_cons_drop,List.take_append_drop]
theorem wI{c:Code}{L:Led}{fs:List Env}{M:Nu->Led}(hq:c.quiet=true)(hf:Frames (TW w) s fs)
  (h:wpAny (Mo w) (A.under c) (denote table c) (fun a s'=>∃ν,(.ok (.again c):Except Value Fin)=.ok a/\Done (T:=TW w) s s' L (M ν)) (fun x s'=>∃ν:Nu,(.ok (.again c):Except Value Fin)=.error x/\Done (T:=TW w) s s' L (M ν)) s)
  (k:∀ν s',Done (T:=TW w) s s' L (M ν)->Frames (TW w) s' fs->codeAny (Mo w) A c R s'):codeAny (Mo w) A c R s:=by
 refine x_code (fg h (fun fin s' q=> ?_) fun e s' q=> ?_)
 ·obtain⟨ν,q,d⟩:=q
  cases q
  exact⟨hq,k ν s' d (hf.iD d.iD)⟩
 ·obtain⟨_,q,_⟩:=q;cases q
def az(l:Led)(n:Nat):Addr×Obj:=l.getD n (0,U #[] 0)
section
variable(o:Obj)
noncomputable def XB:List DictEntry:=match o.data with
 | .dict es _=>es.toList
 |_=>[]
def cK:Nat:=match o.data with
 | .dict _ n=>n
 | .seq _ n=>n
 |_=>0
def lI(n:Nat):Tok:=(XB o)[n]?.elim 0 fun e=>bV e.key
def wR(n:Nat):Value:=(XB o)[n]?.elim .none (·.val)
end
def gM(v:Value):Addr:=match v with
 | .ref a=>a
 |_=>0
noncomputable def bodyOf(w:World)(f:Addr):List Stmt:=match oj (TW w) f with
 |some (_,body)=>body
 |none=>[]
noncomputable def dj(w:World)(a fr:Addr):Env:=match oj (TW w) a with
 |some (fd,_)=>{scope:=fd.scope,locals:=fr,globals:=fd.globals,cells:=fd.closure,qual:=fd.qualname++".<locals>.",func:=some a,code:=fd.code,frame:=some fr,builtins:=fd.builtins}
 |none=>default
def aW(es:Array DictEntry)(n:Nat):Obj:={cls:=.type "frame",data:=.dict es n,slots:=jt}
def subB:Stmt->List Stmt
 | .For _ _ b _ _=>b
 | .While _ b _ _=>b
 | .If _ b _ _=>b
 | .Try b _ _ _ _=>b
 |_=>[]
def QY:Stmt->List Stmt
 | .For _ _ _ o _=>o
 | .While _ _ o _=>o
 | .If _ _ o _=>o
 |_=>[]
noncomputable def Cd:List Stmt->Nat->Stmt
 |[],_=>.Pass default
 |s::_,0=>s
 |_::l,n+1=>Cd l n
def Xa(s:Stmt):List Nat->Stmt
 |[]=>s
 |i::p=>Xa (match Nat.ble 100 i with
  |true=>Cd (QY s) (Nat.sub i 100)
  |false=>Cd (subB s) i) p
noncomputable def aK(w:World)(f:Nat)(p:List Nat):Stmt:=match p with
 |[]=>.Pass default
 |i::p=>Xa (Cd (bodyOf w f) i) p
def cw(s:Stmt)(it:Value)(env:Env):Code:=match s with
 | .For t _ b o _=>.forLoop t it b o env
 | .While t b o _=>.whileLoop t b o env
 |_=>.block [] env
noncomputable def valOf:Stmt->Expr
 | .Assign _ e _=>e
 | .Return (some e) _=>e
 | .Expr e _=>e
 | .AugAssign _ _ e _=>e
 | .If t _ _ _=>t
 | .For _ i _ _ _=>i
 |_=>.Constant .none 0 default
def OZ(n:Nat):Expr->Expr
 | .Call _ as _ _=>as.getD n (.Constant .none 0 default)
 | .BoolOp _ es _=>es.getD n (.Constant .none 0 default)
 | .Compare l _ rs _=>(l::rs).getD n (.Constant .none 0 default)
 | .BinOp l _ r _=>[l,r].getD n (.Constant .none 0 default)
 | .ListComp e gs _ _=>match n with
  |0=>e
  |n+1=>((gs.map (·.iter))++(gs.flatMap (·.ifs))).getD n (.Constant .none 0 default)
 | .DictComp k v _ _ _=>[k,v].getD n (.Constant .none 0 default)
 | .List es _=>es.getD n (.Constant .none 0 default)
 | .Tuple es _ _=>es.getD n (.Constant .none 0 default)
 | .Subscript v s _=>[v,s].getD n (.Constant .none 0 default)
 | .IfExp t b o _=>[t,b,o].getD n (.Constant .none 0 default)
 |_=>.Constant .none 0 default
def bf(e:Expr):List Nat->Expr
 |[]=>e
 |i::p=>bf (OZ i e) p
def bc(T:String)(l:Value)(k:Nat):Obj:={cls:=.type T,data:=.fields #[l,rawInt k]}
abbrev aZ:=bc "list_iterator"
abbrev cN:=bc "tuple_iterator"
def aN(c:Code)(n:Nat):Value:=(e9 c).getD n .none
noncomputable def cS(a:Addr):Obj:={cls:=.type "StopIteration",data:=.fields #[.ref a,.none,.none,.none,.bool false,.none]}
theorem aS{T:String}{name:Str}{id:String}{B:Builtin}{self:Value}{rest:List Value}{S:PySem.Spec}(slot:Slot T name id)(hT:s.TypeIs self T)
  (entry:entryFor table id=some B)(args:argsOk id ⟨self::rest,[]⟩)(g:Meets (B ⟨self::rest,[]⟩) S)(h:S A R s):
  codeAny (Mo w) A (.call (.builtin id) ⟨self::rest,[]⟩) R s:=
 codeAny_call_builtin slot.plain entry (slot.check _ _ _ _ _ _ _ _ hT args (g pw w A R s h))
theorem oz{id:String}{b:Builtin}{args:List Value}(hk:builtinKind id=none)(hp:plainId id=true)
  (hb:entryFor table id=some b)(ha:argsOk id ⟨args,[]⟩)
  (hc:wpAny (Mo w) A.in1 (b ⟨args,[]⟩) (fun fin s'=>match fin with| .done f=>R (.ok f) s'| .again c'=>c'.quiet=true/\codeAny (Mo w) A c' R s') (fun e s'=>R (.error e) s') s):codeAny (Mo w) A (.call (.builtin id) ⟨args,[]⟩) R s:=by
 refine codeAny_call_builtin hp hb ?_
 simp only[checkBuiltinCall,hk]
 cases S6:Manifest.signature? id with
 |none=>exact aX hc
 |some sig=>
  simp only[argsOk,S6]at ha
  have h2:Bind.checkArgs id sig ⟨args,[]⟩=pure ():=ha
  show wpAny _ A.in1 (Bind.checkArgs id sig ⟨args,[]⟩) _ _ s
  rw[h2];exact aX hc
section
variable{T id:String}{B:Builtin}{v:Value}{n:Int}{S:PySem.Spec}
theorem pY{Q:PySem.Fin->Shared->Prop}{E:Value->Shared->Prop}(hT:s.TypeIs v T)(slot:Slot T "__len__" id)(entry:entryFor table id=some B)(args:argsOk id ⟨[v],[]⟩)(g:Meets (B ⟨[v],[]⟩) S)(h0:¬n<0)(iY:¬n>=2^63)(hS:∀(Q':Value->Shared->Prop) E,Q' (.int n s.toks) {s with toks:=s.toks+1}->S A (wants Q' E) s)(h:Q (.done (.ret (.int n (s.toks+1)))) {s with toks:=s.toks+1+1}):wpAny (Mo w) A (Builtin.«len» ⟨[v],[]⟩) Q E s:=by
 unfold Builtin.«len»
 refine aw (m:=oneArg "len" _) (aX ?_)
 refine aw (m:=callSpecial? v (Str.ofString "__len__")) (wpAny_callSpecial?_slot (name:=Str.ofString "__len__") hT slot (call_meets slot hT entry args g (hS _ _ ?_)))
 show wpAny _ _ _ _ _ {s with toks:=s.toks+1}
 refine aw (wpAny_holding (aX ?_))
 refine aw (wpAny_letGo ?_)
 show wpAny _ _ (if n<0 then _ else _) _ _ _
 rw[if_neg h0]
 show wpAny _ _ (if n>=2^63 then _ else _) _ _ _
 rw[if_neg iY]
 exact aw (wpAny_mkInt (aX h))
theorem iU(hT:s.TypeIs v T)(slot:Slot T "__len__" id)(entry:entryFor table id=some B)(args:argsOk id ⟨[v],[]⟩)(g:Meets (B ⟨[v],[]⟩) S)(h0:¬n<0)(iY:¬n>=2^63)(hS:∀(Q':Value->Shared->Prop) E,Q' (.int n s.toks) {s with toks:=s.toks+1}->S A.in1 (wants Q' E) s)(h:R (.ok (.ret (.int n (s.toks+1)))) {s with toks:=s.toks+1+1}):codeAny (Mo w) A (.call (.builtin "len") ⟨[v],[]⟩) R s:=
 oz kind_len plain_len entry_len (args_len1 _) (pY hT slot entry args g h0 iY hS h)
theorem rR(hT:s.TypeIs v T)(slot:Slot T "__len__" id)(entry:entryFor table id=some B)(args:argsOk id ⟨[v],[]⟩)(g:Meets (B ⟨[v],[]⟩) S)(h0:¬n<0)(iY:¬n>=2^63)(hS:∀(Q':Value->Shared->Prop) E,Q' (.int n s.toks) {s with toks:=s.toks+1}->S A.in1 (wants Q' E) s)(h:R (.ok (.ret (.int n (s.toks+1)))) {s with toks:=s.toks+1+1}):codeAny (Mo w) A (.builtin "len" ⟨[v],[]⟩) R s:=by
 refine codeAny_builtin entry_len ?_
 rw[Around.under_plainId plain_len _]
 exact pY hT slot entry args g h0 iY hS h
end
theorem cH{G:Ground}{a b:Addr}{o p:Obj}{f:Obj->Obj}(h:Sat G s [(a,o),(b,p)])(hn:¬bh o)(hf:(f o).isFreed=false)(hb:bq (f o)=false)(qg:¬bh (f o)):Done (T:=G) s {s with heap:=s.heap.update a f} [(a,o),(b,p)] [(a,f o),(b,p)]:=
 qy (i:=0) h rfl hn hf hb qg s.toks
theorem bk{G:Ground}{L:Led}{o:Obj}(h:Sat G s L)(hf:o.isFreed=false)(hb:bq o=false)(hn:¬bh o):Done (T:=G) s {s with heap:=s.heap.push o} L ((s.heap.objs.size,o)::L):=
 ⟨h.alloc hf hb hn,iE.of_keep (fun a x e=>iq _ e) rfl rfl rfl,fun p hp=>by
  rcases bu hp with rfl|hp
  ·exact .inr (Heap.get?_none_of_le (bC _))
  ·exact .inl (gN hp)⟩
theorem ka{it l:Addr}{ol:Obj}{k ep:Nat}{v:Value}
  (hl:ol.data=.seq xs.toArray ep)(hv:xs[k]? =some v)(h:Sat (TW w) s [(it,cN (.ref l) k),(l,ol)]):
  codeAny (Mo w) A (.call (.builtin "tuple_iterator.__next__") ⟨[.ref it],[]⟩) (fun r s'=>.ok (.ret v)=r/\Done (T:=TW w) s s' [(it,cN (.ref l) k),(l,ol)] [(it,cN (.ref l) (k+1)),(l,ol)]) s:=by
 have nf:∀v k,¬bh (cN v k):=fun _ _=>aa rfl
 have ho:s.heap.get? it=some (cN (.ref l) k):=h.at (.head _) (nf _ _)
 have uA:s.heap.get? l=some ol:=h.at (.tail _ (.head _)) (bb fun es n q=>by rw[hl]at q;cases q)
 refine aB F.slot_tuple_iterator_next ⟨_,ho,rfl⟩ F.entry_tuple_iterator_next (F.args_tuple_iterator_next_1 _) ?_
 show wpAny _ _ (field (.ref it) 0>>=_) _ _ s
 refine aw (gj ho rfl (x:=.ref l) rfl ?_)
 show wpAny _ _ (if(Value.ref l==Value.none)=true then _ else _) _ _ s
 rw[if_neg (show¬((Value.ref l==Value.none)=true)from Bool.false_ne_true)]
 show wpAny _ _ (field (.ref it) 1>>=_) _ _ s
 refine aw (gj ho rfl (x:=.int k 0) rfl ?_)
 show wpAny _ _ (seqItems? (.ref l)>>=_) _ _ s
 refine aw (wpAny_seqItems uA hl ?_)
 have hx:xs.toArray[k]? =some v:=by rw[List.getElem?_toArray];exact hv
 simp only[Int.toNat_natCast,hx]
 exact aw (wpAny_setField ho rfl (by simp) (aX ⟨rfl,cH h (nf _ _) rfl rfl (aa rfl)⟩))
theorem cv{K L:Led}{xv:Shared}{Q:α->Shared->Prop}(hh:A.handled=none)(d:Done (T:=TW w) xv s K L):
  wpAny (Mo w) A.in1 (newExc (.type "StopIteration") []>>=raiseNew) Q (fun e s'=>E2 fun a b=>(.error (.ref b):Result)=.error e/\Done (T:=TW w) xv s' K ((b,cS a)::(a,ae #[] 0)::L)) s:=by
 refine aw ?_
 unfold newExc newTuple
 refine aw (wpAny_newObj_type ?_ (by size_fits))
 refine aw (m:=firstArgMember _ _) (wpAny_of_eq (a:=Value.none) (by first|rfl|(simp only[firstArgMember];rfl)) ?_)
 refine wpAny_newObj_type ?_ (by size_fits)
 unfold raiseNew
 refine aw (wpAny_handled ?_)
 rw[show A.in1.handled=none from hh]
 refine aw (aX (wpAny_throw ?_))
 have d2:=d.trans (bk (o:=ae #[] 0) d.sat rfl rfl (cf _ _))
 exact⟨_,_,rfl,d2.trans (bk (o:=cS _) d2.sat rfl rfl (aa rfl))⟩
theorem lM{it l:Addr}{ol:Obj}{k ep:Nat}(hh:A.handled=none)
  (hl:ol.data=.seq xs.toArray ep)(hv:xs[k]? =none)(h:Sat (TW w) s [(it,cN (.ref l) k),(l,ol)]):
  codeAny (Mo w) A (.call (.builtin "tuple_iterator.__next__") ⟨[.ref it],[]⟩) (fun r s'=>E2 fun a b=>.error (.ref b)=r/\Done (T:=TW w) s s' [(it,cN (.ref l) k),(l,ol)] [(b,cS a),(a,ae #[] 0),(it,cN .none k),(l,ol)]) s:=by
 have nf:∀v k,¬bh (cN v k):=fun _ _=>aa rfl
 have ho:s.heap.get? it=some (cN (.ref l) k):=h.at (.head _) (nf _ _)
 have uA:s.heap.get? l=some ol:=h.at (.tail _ (.head _)) (bb fun es n q=>by rw[hl]at q;cases q)
 refine aB F.slot_tuple_iterator_next ⟨_,ho,rfl⟩ F.entry_tuple_iterator_next (F.args_tuple_iterator_next_1 _) ?_
 show wpAny _ _ (field (.ref it) 0>>=_) _ _ s
 refine aw (gj ho rfl (x:=.ref l) rfl ?_)
 show wpAny _ _ (if(Value.ref l==Value.none)=true then _ else _) _ _ s
 rw[if_neg (show¬((Value.ref l==Value.none)=true)from Bool.false_ne_true)]
 show wpAny _ _ (field (.ref it) 1>>=_) _ _ s
 refine aw (gj ho rfl (x:=.int k 0) rfl ?_)
 show wpAny _ _ (seqItems? (.ref l)>>=_) _ _ s
 refine aw (wpAny_seqItems uA hl ?_)
 have hx:xs.toArray[k]? =none:=by rw[List.getElem?_toArray];exact hv
 simp only[Int.toNat_natCast,hx]
 refine aw (wpAny_rule (aw (wpAny_setField ho rfl (by simp) ?_)))
 have d1:=cH (f:=fun o=>o.mapFields (·.setIfInBounds 0 .none)) h (nf _ _) rfl rfl (aa rfl)
 show wpAny _ _ (newExc (.type "StopIteration") []>>=_) _ _ _
 exact cv hh d1
theorem xk{l:Addr}{ep:Nat}(hz:xs.length<1000000)(h:Sat (TW w) s [(l,ae xs.toArray ep)]):
  codeAny (Mo w) A (.call (.builtin "len") ⟨[.ref l],[]⟩) (fun r s'=>∃t,.ok (.ret (.int xs.length t))=r/\Done (T:=TW w) s s' [(l,ae xs.toArray ep)] [(l,ae xs.toArray ep)]) s:=by
 have ho:s.heap.get? l=some (ae xs.toArray ep):=h.at (.head _) (cf _ _)
 exact iU (n:=(xs.length:Int)) ⟨_,ho,rfl⟩ F.slot_tuple_len F.entry_tuple_len (F.args_tuple_len_1 _) (AutoSeq1.tuple___len___tuple_0 l xs.toArray ep) (by lia) (by lia) (fun Q' E hq=>⟨ho,by simpa using hq⟩) ⟨_,rfl,ck h _⟩
section
variable(xs:List Value)
def uZ:aD w (Addr×Nat)where
 find _ pre _:=some ((az pre 0).1,(cK (az pre 0).2))
 code x:=.call (.builtin "len") ⟨[.ref x.1],[]⟩
 pre x:=[(x.1,ae xs.toArray x.2)]
 r _ μ:=.ok (.ret (.int xs.length (μ.1 0)))
 post x _:=[ae xs.toArray x.2]
def q8(hz:xs.length<1000000):aJ w:=(uZ xs).sm<|aD.old fun _ _ _ _ _ _ _ _ h=>
 cQ (xk hz h) fun _ _ ⟨t,e,d⟩=>⟨(fun _=>t,fun _=>[]),e,rfl,d⟩
def qZ(k:Nat)(v:Value):aD w (Addr×Addr×Nat)where
 find c pre _:=some ((gM (aN c 0)),(az pre 1).1,(cK (az pre 1).2))
 code x:=.call (.builtin "tuple_iterator.__next__") ⟨[.ref x.1],[]⟩
 pre x:=[(x.1,cN (.ref x.2.1) k),(x.2.1,ae xs.toArray x.2.2)]
 r _ _:=.ok (.ret v)
 post x _:=[cN (.ref x.2.1) (k+1),ae xs.toArray x.2.2]
def ct(k:Nat)(v:Value)(hv:xs[k]? =some v):aJ w:=(qZ xs k v).sm<|aD.old fun _ _ _ _ _ _ _ _ h=>
 cQ (ka rfl hv h) fun _ _ ⟨e,d⟩=>⟨eQ,e,rfl,d⟩
def u0(k:Nat):aD w (Addr×Addr×Nat)where
 bare:=true
 find c pre _:=some ((gM (aN c 0)),(az pre 1).1,(cK (az pre 1).2))
 code x:=.call (.builtin "tuple_iterator.__next__") ⟨[.ref x.1],[]⟩
 pre x:=[(x.1,cN (.ref x.2.1) k),(x.2.1,ae xs.toArray x.2.2)]
 r _ μ:=.error (.ref (μ.1 1))
 post x _:=[cN .none k,ae xs.toArray x.2.2]
 new _ μ:=[(μ.1 1,cS (μ.1 0)),(μ.1 0,ae #[] 0)]
def dI(k:Nat)(hv:xs[k]? =none):aJ w:=(u0 xs k).sm<|aD.old fun _ _ _ _ _ _ hb _ h=>
 cQ (lM (hb rfl) rfl hv h) fun _ _ ⟨a,b,e,d⟩=>⟨(fun i=>if i=0 then a else b,fun _=>[]),e,rfl,d.perm (dy (l₁:=[_,_]) (l₂:=[_,_]))⟩
end
section
variable{it l:Addr}{ol:Obj}{k ep:Nat}
theorem gv{v:Value}(hl:ol.data=.seq xs.toArray ep)(hv:xs[k]? =some v)(h:Sat (TW w) s [(it,aZ (.ref l) k),(l,ol)]):
  codeAny (Mo w) A (.call (.builtin "list_iterator.__next__") ⟨[.ref it],[]⟩) (fun r s'=>.ok (.ret v)=r/\Done (T:=TW w) s s' [(it,aZ (.ref l) k),(l,ol)] [(it,aZ (.ref l) (k+1)),(l,ol)]) s:=by
 have nf:∀v k,¬bh (aZ v k):=fun _ _=>aa rfl
 have ho:s.heap.get? it=some (aZ (.ref l) k):=h.at (.head _) (nf _ _)
 have uA:s.heap.get? l=some ol:=h.at (.tail _ (.head _)) (bb fun es n q=>by rw[hl]at q;cases q)
 refine aB slot_listiter_next ⟨_,ho,rfl⟩ entry_listiter_next (args_listiter_next _) ?_
 show wpAny _ _ (field (.ref it) 0>>=_) _ _ s
 refine aw (gj ho rfl (x:=.ref l) rfl ?_)
 show wpAny _ _ (if(Value.ref l==Value.none)=true then _ else _) _ _ s
 rw[if_neg (show¬((Value.ref l==Value.none)=true)from Bool.false_ne_true)]
 show wpAny _ _ (field (.ref it) 1>>=_) _ _ s
 refine aw (gj ho rfl (x:=.int k 0) rfl ?_)
 show wpAny _ _ (seqItems? (.ref l)>>=_) _ _ s
 refine aw (wpAny_seqItems uA hl ?_)
 have hx:xs.toArray[k]? =some v:=by rw[List.getElem?_toArray];exact hv
 simp only[Int.toNat_natCast,hx]
 exact aw (wpAny_setField ho rfl (by simp) (aX ⟨rfl,cH h (nf _ _) rfl rfl (aa rfl)⟩))
theorem hQ(hh:A.handled=none)(hl:ol.data=.seq xs.toArray ep)(hv:xs[k]? =none)(h:Sat (TW w) s [(it,aZ (.ref l) k),(l,ol)]):
  codeAny (Mo w) A (.call (.builtin "list_iterator.__next__") ⟨[.ref it],[]⟩) (fun r s'=>E2 fun a b=>.error (.ref b)=r/\Done (T:=TW w) s s' [(it,aZ (.ref l) k),(l,ol)] [(b,cS a),(a,ae #[] 0),(it,aZ .none k),(l,ol)]) s:=by
 have nf:∀v k,¬bh (aZ v k):=fun _ _=>aa rfl
 have ho:s.heap.get? it=some (aZ (.ref l) k):=h.at (.head _) (nf _ _)
 have uA:s.heap.get? l=some ol:=h.at (.tail _ (.head _)) (bb fun es n q=>by rw[hl]at q;cases q)
 refine aB slot_listiter_next ⟨_,ho,rfl⟩ entry_listiter_next (args_listiter_next _) ?_
 show wpAny _ _ (field (.ref it) 0>>=_) _ _ s
 refine aw (gj ho rfl (x:=.ref l) rfl ?_)
 show wpAny _ _ (if(Value.ref l==Value.none)=true then _ else _) _ _ s
 rw[if_neg (show¬((Value.ref l==Value.none)=true)from Bool.false_ne_true)]
 show wpAny _ _ (field (.ref it) 1>>=_) _ _ s
 refine aw (gj ho rfl (x:=.int k 0) rfl ?_)
 show wpAny _ _ (seqItems? (.ref l)>>=_) _ _ s
 refine aw (wpAny_seqItems uA hl ?_)
 have hx:xs.toArray[k]? =none:=by rw[List.getElem?_toArray];exact hv
 simp only[Int.toNat_natCast,hx]
 refine aw (wpAny_rule (aw (wpAny_setField ho rfl (by simp) ?_)))
 have d1:=cH (f:=fun o=>o.mapFields (·.setIfInBounds 0 .none)) h (nf _ _) rfl rfl (aa rfl)
 show wpAny _ _ (newExc (.type "StopIteration") []>>=_) _ _ _
 exact cv hh d1
end
theorem Cq{l:Addr}{ep:Nat}(hz:xs.length<1000000)(h:Sat (TW w) s [(l,aj xs ep)]):
  codeAny (Mo w) A (.call (.builtin "len") ⟨[.ref l],[]⟩) (fun r s'=>∃t,.ok (.ret (.int xs.length t))=r/\Done (T:=TW w) s s' [(l,aj xs ep)] [(l,aj xs ep)]) s:=by
 have ho:s.heap.get? l=some (aj xs ep):=h.at (.head _) (ar _ _)
 exact iU (n:=(xs.length:Int)) ⟨_,ho,rfl⟩ F.slot_list_len F.entry_list_len (F.args_list_len_1 _) (AutoListH.list___len___list_0 l xs.toArray ep) (by lia) (by lia) (fun Q' E hq=>⟨ho,by simpa using hq⟩) ⟨_,rfl,ck h _⟩
def zb(xs:List Value):aD w (Addr×Nat)where
 find _ pre _:=some ((az pre 0).1,(cK (az pre 0).2))
 code x:=.call (.builtin "len") ⟨[.ref x.1],[]⟩
 pre x:=[(x.1,aj xs x.2)]
 r _ μ:=.ok (.ret (.int xs.length (μ.1 0)))
 post x _:=[aj xs x.2]
def fS(xs:List Value)(hz:xs.length<1000000):aJ w:=(zb xs).sm<|aD.old fun _ _ _ _ _ _ _ _ h=>
 cQ (Cq hz h) fun _ _ ⟨t,e,d⟩=>⟨(fun _=>t,fun _=>[]),e,rfl,d⟩
theorem pV{l:Addr}{ep:Nat}(hz:xs.length<1000000)(h:Sat (TW w) s [(l,aj xs ep)]):
  codeAny (Mo w) A (.builtin "len" ⟨[.ref l],[]⟩) (fun r s'=>∃t,.ok (.ret (.int xs.length t))=r/\Done (T:=TW w) s s' [(l,aj xs ep)] [(l,aj xs ep)]) s:=by
 have ho:s.heap.get? l=some (aj xs ep):=h.at (.head _) (ar _ _)
 exact rR (n:=(xs.length:Int)) ⟨_,ho,rfl⟩ F.slot_list_len F.entry_list_len (F.args_list_len_1 _) (AutoListH.list___len___list_0 l xs.toArray ep) (by lia) (by lia) (fun Q' E hq=>⟨ho,by simpa using hq⟩) ⟨_,rfl,ck h _⟩
section
variable(xs:List Value)
def vG:aD w (Addr×Nat)where
 find _ pre _:=some ((az pre 0).1,(cK (az pre 0).2))
 code x:=.builtin "len" ⟨[.ref x.1],[]⟩
 pre x:=[(x.1,aj xs x.2)]
 r _ μ:=.ok (.ret (.int xs.length (μ.1 0)))
 post x _:=[aj xs x.2]
def eZ(hz:xs.length<1000000):aJ w:=(vG xs).sm<|aD.old fun _ _ _ _ _ _ _ _ h=>
 cQ (pV hz h) fun _ _ ⟨t,e,d⟩=>⟨(fun _=>t,fun _=>[]),e,rfl,d⟩
def vH(k:Nat)(v:Value):aD w (Addr×Addr×Nat)where
 find c pre _:=some ((gM (aN c 0)),(az pre 1).1,(cK (az pre 1).2))
 code x:=.call (.builtin "list_iterator.__next__") ⟨[.ref x.1],[]⟩
 pre x:=[(x.1,aZ (.ref x.2.1) k),(x.2.1,aj xs x.2.2)]
 r _ _:=.ok (.ret v)
 post x _:=[aZ (.ref x.2.1) (k+1),aj xs x.2.2]
def cu(k:Nat)(v:Value)(hv:xs[k]? =some v):aJ w:=(vH xs k v).sm<|aD.old fun _ _ _ _ _ _ _ _ h=>
 cQ (gv rfl hv h) fun _ _ ⟨e,d⟩=>⟨eQ,e,rfl,d⟩
def zc(k:Nat):aD w (Addr×Addr×Nat)where
 bare:=true
 find c pre _:=some ((gM (aN c 0)),(az pre 1).1,(cK (az pre 1).2))
 code x:=.call (.builtin "list_iterator.__next__") ⟨[.ref x.1],[]⟩
 pre x:=[(x.1,aZ (.ref x.2.1) k),(x.2.1,aj xs x.2.2)]
 r _ μ:=.error (.ref (μ.1 1))
 post x _:=[aZ .none k,aj xs x.2.2]
 new _ μ:=[(μ.1 1,cS (μ.1 0)),(μ.1 0,ae #[] 0)]
def da(k:Nat)(hv:xs[k]? =none):aJ w:=(zc xs k).sm<|aD.old fun _ _ _ _ _ _ hb _ h=>
 cQ (hQ (hb rfl) rfl hv h) fun _ _ ⟨a,b,e,d⟩=>⟨(fun i=>if i=0 then a else b,fun _=>[]),e,rfl,d.perm (dy (l₁:=[_,_]) (l₂:=[_,_]))⟩
end
theorem fT(h:xs.length<1000000):xs.toArray.size<=sizeLine:=by
 have e:sizeLine=16777216:=by decide
 rw[List.size_toArray,e];lia
theorem list_append{l:Addr}{ep:Nat}{v:Value}(hz:xs.length<1000000)(h:Sat (TW w) s [(l,aj xs ep)]):
  codeAny (Mo w) A (.call (.builtin "list.append") ⟨[.ref l,v],[]⟩) (fun r s'=>.ok (.ret .none)=r/\Done (T:=TW w) s s' [(l,aj xs ep)] [(l,aj (xs++[v]) (ep+1))]) s:=by
 have ho:s.heap.get? l=some (aj xs ep):=h.at (.head _) (ar _ _)
 refine aS slot_list_append ⟨_,ho,rfl⟩ entry_list_append (args_list_append _ _) (AutoListH.list_append_list_val_0 l xs.toArray ep v (fT hz)) ⟨ho,rfl,?_⟩
 have d:=bN (f:=Obj.mapSeq fun x=>x.push v) h (ar _ _) rfl rfl (ar _ _) s.toks
 have e:Obj.mapSeq (fun x=>x.push v) (aj xs ep)=aj (xs++[v]) (ep+1):=by
  try unfold aj
  unfold ah Obj.mapSeq
  simp only[List.push_toArray]
  simp
 rw[e]at d
 exact d
def D6(xs:List Value):aD w (Addr×Value×Nat)where
 find c pre _:=some ((az pre 0).1,(aN c 1),(cK (az pre 0).2))
 code x:=.call (.builtin "list.append") ⟨[.ref x.1,x.2.1],[]⟩
 pre x:=[(x.1,aj xs x.2.2)]
 r _ _:=.ok (.ret .none)
 post x _:=[aj (xs++[x.2.1]) (x.2.2+1)]
def av(xs:List Value)(hz:xs.length<1000000):aJ w:=(D6 xs).sm<|aD.old fun _ _ _ _ _ _ _ _ h=>
 cQ (list_append hz h) fun _ _ ⟨e,d⟩=>⟨eQ,e,rfl,d⟩
theorem xr(w:World):((TW w).at_ 323).isSome=true:=by kernel_rfl
section
variable{h':Heap}{L:Led}
theorem BD{k:Nat}(h:Sat (TW w) s L)(hk:∀b o',s.heap.get? b=some o'->h'.get? b=some o'):Sat (TW w) {s with heap:=h',toks:=k} L:=by
 refine⟨fun p hp=>by obtain⟨x,ex,lx⟩:=h.get p hp;exact⟨x,hk _ _ ex,lx⟩,h.nd,h.low,fun a o e=>⟨hk _ _ (h.top a o e).1,(h.top a o e).2⟩,?_⟩
 obtain⟨o,ho⟩:=Option.isSome_iff_exists.mp (xr w)
 exact Heap.lt_size (hk _ _ (h.top 323 o ho).1)
theorem il{k:Nat}(h:Sat (TW w) s L)(hk:∀b o',s.heap.get? b=some o'->h'.get? b=some o'):Done (T:=TW w) s {s with heap:=h',toks:=k} L L:=
 ⟨BD h hk,iE.of_keep hk rfl rfl rfl,fun p hp=>.inl (gN hp)⟩
theorem gw{o:Obj}{k:Nat}(h:Sat (TW w) s L)(hk:∀b o',s.heap.get? b=some o'->h'.get? b=some o')(hf:o.isFreed=false)(hb:bq o=false)(hn:¬bh o):Done (T:=TW w) s {s with heap:=h'.push o,toks:=k} L ((h'.objs.size,o)::L):=by
 have d1:Done (T:=TW w) s {s with heap:=h',toks:=k} L L:=il h hk
 exact d1.trans (bk (o:=o) d1.sat hf hb hn)
end
theorem lN{l:Addr}{ep:Nat}(hz:xs.length<1000000)(h:Sat (TW w) s [(l,aj xs ep)]):
  codeAny (Mo w) A (.call (.builtin "tuple.__new__") ⟨[.type "tuple",.ref l],[]⟩) (fun r s'=>∃a,.ok (.ret (.ref a))=r/\Done (T:=TW w) s s' [(l,aj xs ep)] [(a,ae xs.toArray 0),(l,aj xs ep)]) s:=by
 have ho:s.heap.get? l=some (aj xs ep):=h.at (.head _) (ar _ _)
 refine codeAny_of_tree ?_
 show wpAny _ A.in1 (do checkBuiltinCall "tuple.__new__" ⟨[.type "tuple",.ref l],[]⟩;again (.builtin "tuple.__new__" ⟨[.type "tuple",.ref l],[]⟩)) _ _ s
 refine aw (wpAny_of_eq (F.newCall_tuple_1 _) (aX ⟨plainId_quiet F.plain_tuple_new _,codeAny_builtin F.entry_tuple_new ?_⟩))
 rw[Around.under_plainId F.plain_tuple_new _]
 exact meets_tuple_new_list l _ xs.toArray ep rfl rfl (fT hz) pw w A (fun r s'=>∃a,.ok (.ret (.ref a))=r/\Done (T:=TW w) s s' [(l,aj xs ep)] [(a,ae xs.toArray 0),(l,aj xs ep)]) s ⟨ho,fun h' hk=>⟨_,rfl,gw h hk rfl rfl (cf _ _)⟩⟩
def xl(xs:List Value):aD w (Addr×Nat)where
 find _ pre _:=some ((az pre 0).1,(cK (az pre 0).2))
 code x:=.call (.builtin "tuple.__new__") ⟨[.type "tuple",.ref x.1],[]⟩
 pre x:=[(x.1,aj xs x.2)]
 r _ μ:=.ok (.ret (.ref (μ.1 0)))
 post x _:=[aj xs x.2]
 new _ μ:=[(μ.1 0,ae xs.toArray 0)]
def mw(xs:List Value)(hz:xs.length<1000000):aJ w:=(xl xs).sm<|aD.old fun _ _ _ _ _ _ _ _ h=>
 cQ (lN hz h) fun _ _ ⟨a,e,d⟩=>⟨(fun _=>a,fun _=>[]),e,rfl,d.perm (dy (l₁:=[_]) (l₂:=[_]))⟩
section
variable(x:Str)(es:Array DictEntry)
def Nw(v:Value):aD w (Addr×Tok×Nat)where
 find c pre _:=some ((az pre 0).1,(bV (aN c 1)),(cK (az pre 0).2))
 code y:=.call (.builtin "dict.__getitem__") ⟨[.ref y.1,.str x y.2.1],[]⟩
 pre y:=[(y.1,U es y.2.2)]
 r _ _:=.ok (.ret v)
 post y _:=[U es y.2.2]
def cT(v:Value)(hk:KeysOf (kS w) es)(hv:bo es x=some v):aJ w:=(Nw x es v).sm<|aD.old fun _ _ _ _ _ _ _ _ h=>
 cQ (wF h hk hv) fun _ _ ⟨e,d⟩=>⟨eQ,e.symm,rfl,d⟩
def TF(b:Bool):aD w (Addr×Tok×Nat)where
 find c pre _:=some ((az pre 0).1,(bV (aN c 1)),(cK (az pre 0).2))
 code y:=.call (.builtin "dict.__contains__") ⟨[.ref y.1,.str x y.2.1],[]⟩
 pre y:=[(y.1,U es y.2.2)]
 r _ _:=.ok (.ret (.bool b))
 post y _:=[U es y.2.2]
def EG(b:Bool)(hk:KeysOf (kS w) es)(hv:(bo es x).isSome=b):aJ w:=(TF x es b).sm<|aD.old fun _ _ _ _ _ _ _ _ h=>
 cQ (Ak h hk) fun _ _ ⟨e,d⟩=>⟨eQ,by rw[e,hv];rfl,rfl,d⟩
end
def wK(xs:List Value)(ep:Nat):Nat:=if xs.length=0 then ep else ep+1
theorem rO{l:Addr}{ep:Nat}(hz:xs.length<1000000)(h:Sat (TW w) s [(l,aj xs ep)]):
  codeAny (Mo w) A (.call (.builtin "list.clear") ⟨[.ref l],[]⟩) (fun r s'=>.ok (.ret .none)=r/\Done (T:=TW w) s s' [(l,aj xs ep)] [(l,ah #[] (wK xs ep))]) s:=by
 have ho:s.heap.get? l=some (aj xs ep):=h.at (.head _) (ar _ _)
 refine aS F.slot_list_clear ⟨_,ho,rfl⟩ F.entry_list_clear (F.args_list_clear_1 _) (AutoSeq1.list_clear_list_0 l xs.toArray ep (fT hz)) ⟨ho,rfl,?_⟩
 have d:=bN (f:=Obj.mapSeq fun _=> #[]) h (ar _ _) rfl rfl (ar _ _) s.toks
 have e:Obj.mapSeq (fun _=> #[]) (aj xs ep)=ah #[] (wK xs ep):=by
  try unfold aj
  unfold ah Obj.mapSeq wK
  cases xs<;>simp
 rw[e]at d
 exact d
def Jd(xs:List Value):aD w (Addr×Nat)where
 find _ pre _:=some ((az pre 0).1,(cK (az pre 0).2))
 code x:=.call (.builtin "list.clear") ⟨[.ref x.1],[]⟩
 pre x:=[(x.1,aj xs x.2)]
 r _ _:=.ok (.ret .none)
 post x _:=[ah #[] (wK xs x.2)]
def Bu(xs:List Value)(hz:xs.length<1000000):aJ w:=(Jd xs).sm<|aD.old fun _ _ _ _ _ _ _ _ h=>
 cQ (rO hz h) fun _ _ ⟨e,d⟩=>⟨eQ,e,rfl,d⟩
noncomputable def bZ(T:String)(d:Value)(i n ep:Nat):Obj:={cls:=.type T,data:=.fields #[d,.int i 0,.int n 0,.int ep 0]}
section
variable{it d:Addr}{i n ep:Nat}
theorem wx{e:DictEntry}(hn:es.size=n)(hx:es[i]? =some e)(h:Sat (TW w) s [(it,bZ "dict_valueiterator" (.ref d) i n ep),(d,U es ep)]):
  codeAny (Mo w) A (.call (.builtin "dict_valueiterator.__next__") ⟨[.ref it],[]⟩) (fun r s'=>.ok (.ret e.val)=r/\Done (T:=TW w) s s' [(it,bZ "dict_valueiterator" (.ref d) i n ep),(d,U es ep)] [(it,bZ "dict_valueiterator" (.ref d) (i+1) n ep),(d,U es ep)]) s:=by
 have ho:s.heap.get? it=some (bZ "dict_valueiterator" (.ref d) i n ep):=h.at (.head _) (aa rfl)
 have zt:s.heap.get? d=some (U es ep):=h.at (.tail _ (.head _)) (aO _ _)
 have hT:s.TypeIs (.ref it) "dict_valueiterator":=⟨_,ho,rfl⟩
 have hd:(bZ "dict_valueiterator" (.ref d) i n ep).data=.fields #[.ref d,.int i 0,.int n 0,.int ep 0]:=rfl
 have vW:(U es ep).data=.dict es ep:=rfl
 refine aB F.slot_dict_valueiterator_next hT F.entry_dict_valueiterator_next (F.args_dict_valueiterator_next_1 _) ?_
 refine aw (aX ?_)
 refine aw ?_
 refine aw ?_
 first|refine aw (wpAny_typeNameOfWhole_valiter hT (aX ?_))|refine aw (wpAny_typeNameOf_valiter hT (aX ?_))
 refine aw (wpAny_fieldsOf ho hd ?_)
 have n5:Builtin.Dict_items.ownsTuple "dict_valueiterator"=false:=by decide
 rw[n5]
 show wpAny _ _ (if(Value.ref d==Value.none)=true then _ else _) _ _ s
 rw[if_neg (show¬((Value.ref d==Value.none)=true)from Bool.false_ne_true)]
 refine aw (aX ?_)
 refine aw (wpAny_dictEntries zt vW ?_)
 rw[if_neg (by rw[hn];simp)]
 refine aw (aX ?_)
 refine aw (wpAny_dictEpoch zt vW ?_)
 rw[if_neg (by simp)]
 refine aX ?_
 dsimp only
 rw[if_neg (Int.not_lt.mpr (Int.natCast_nonneg i)),Int.toNat_natCast,hx]
 dsimp only
 refine aw ?_
 first|refine aw (wpAny_typeNameOfWhole_valiter hT (aX ?_))|refine aw (wpAny_typeNameOf_valiter hT (aX ?_))
 refine aw (wpAny_isOneOf_valiter hT ?_)
 show wpAny _ _ (setField (.ref it) 1 (rawInt ((i:Int)+1))>>=_) _ _ s
 refine aw (wpAny_setField ho hd (by simp) ?_)
 have d1:=cH (f:=Obj.mapFields (·.setIfInBounds 1 (rawInt ((i:Int)+1)))) h (aa rfl) rfl rfl (aa rfl)
 have P5:({s with heap:=s.heap.update it (Obj.mapFields (·.setIfInBounds 1 (rawInt ((i:Int)+1))))}:Shared).TypeIs (.ref it) "dict_valueiterator":=⟨_,d1.sat.at (.head _) (aa rfl),rfl⟩
 refine aw (wpAny_holding ?_)
 refine aw (wpAny_isOneOf_valiter (s:={s with heap:=s.heap.update it (Obj.mapFields (·.setIfInBounds 1 (rawInt ((i:Int)+1))))}) P5 ?_)
 refine aw (wpAny_isOneOf_valiter (s:={s with heap:=s.heap.update it (Obj.mapFields (·.setIfInBounds 1 (rawInt ((i:Int)+1))))}) P5 ?_)
 show wpAny _ _ (pure e.val) _ _ _
 exact aX (aX ⟨rfl,d1⟩)
theorem Aa(hh:A.handled=none)(hn:es.size=n)(hx:es[i]? =none)(h:Sat (TW w) s [(it,bZ "dict_valueiterator" (.ref d) i n ep),(d,U es ep)]):
  codeAny (Mo w) A (.call (.builtin "dict_valueiterator.__next__") ⟨[.ref it],[]⟩) (fun r s'=>E2 fun a b=>.error (.ref b)=r/\Done (T:=TW w) s s' [(it,bZ "dict_valueiterator" (.ref d) i n ep),(d,U es ep)] [(b,cS a),(a,ae #[] 0),(it,bZ "dict_valueiterator" .none i n ep),(d,U es ep)]) s:=by
 have ho:s.heap.get? it=some (bZ "dict_valueiterator" (.ref d) i n ep):=h.at (.head _) (aa rfl)
 have zt:s.heap.get? d=some (U es ep):=h.at (.tail _ (.head _)) (aO _ _)
 have hT:s.TypeIs (.ref it) "dict_valueiterator":=⟨_,ho,rfl⟩
 have hd:(bZ "dict_valueiterator" (.ref d) i n ep).data=.fields #[.ref d,.int i 0,.int n 0,.int ep 0]:=rfl
 have vW:(U es ep).data=.dict es ep:=rfl
 refine aB F.slot_dict_valueiterator_next hT F.entry_dict_valueiterator_next (F.args_dict_valueiterator_next_1 _) ?_
 refine aw (aX ?_)
 refine aw ?_
 refine aw ?_
 first|refine aw (wpAny_typeNameOfWhole_valiter hT (aX ?_))|refine aw (wpAny_typeNameOf_valiter hT (aX ?_))
 refine aw (wpAny_fieldsOf ho hd ?_)
 have n5:Builtin.Dict_items.ownsTuple "dict_valueiterator"=false:=by decide
 rw[n5]
 show wpAny _ _ (if(Value.ref d==Value.none)=true then _ else _) _ _ s
 rw[if_neg (show¬((Value.ref d==Value.none)=true)from Bool.false_ne_true)]
 refine aw (aX ?_)
 refine aw (wpAny_dictEntries zt vW ?_)
 rw[if_neg (by rw[hn];simp)]
 refine aw (aX ?_)
 refine aw (wpAny_dictEpoch zt vW ?_)
 rw[if_neg (by simp)]
 refine aX ?_
 dsimp only
 rw[if_neg (Int.not_lt.mpr (Int.natCast_nonneg i)),Int.toNat_natCast,hx]
 dsimp only
 refine aw ?_
 first|refine aw (wpAny_typeNameOfWhole_valiter hT (aX ?_))|refine aw (wpAny_typeNameOf_valiter hT (aX ?_))
 show wpAny _ _ (setField (.ref it) 0 .none>>=_) _ _ s
 refine aw (wpAny_setField ho hd (by simp) ?_)
 have d1:=cH (f:=Obj.mapFields (·.setIfInBounds 0 Value.none)) h (aa rfl) rfl rfl (aa rfl)
 show wpAny _ _ (newExc (.type "StopIteration") []>>=_) _ _ _
 exact cv hh d1
end
section
variable(es:Array DictEntry)(i n:Nat)
def wy(v:Value):aD w (Addr×Addr×Nat)where
 find c pre _:=some ((gM (aN c 0)),(az pre 1).1,(cK (az pre 1).2))
 code x:=.call (.builtin "dict_valueiterator.__next__") ⟨[.ref x.1],[]⟩
 pre x:=[(x.1,bZ "dict_valueiterator" (.ref x.2.1) i n x.2.2),(x.2.1,U es x.2.2)]
 r _ _:=.ok (.ret v)
 post x _:=[bZ "dict_valueiterator" (.ref x.2.1) (i+1) n x.2.2,U es x.2.2]
def rn(v:Value)(e:DictEntry)(hn:es.size=n)(hx:es[i]? =some e)(hv:e.val=v):aJ w:=(wy es i n v).sm<|aD.old fun _ _ _ _ _ _ _ _ h=>
 cQ (wx hn hx h) fun _ _ ⟨q,d⟩=>⟨eQ,by rw[<-q,hv];rfl,rfl,d⟩
def Ab:aD w (Addr×Addr×Nat)where
 bare:=true
 find c pre _:=some ((gM (aN c 0)),(az pre 1).1,(cK (az pre 1).2))
 code x:=.call (.builtin "dict_valueiterator.__next__") ⟨[.ref x.1],[]⟩
 pre x:=[(x.1,bZ "dict_valueiterator" (.ref x.2.1) i n x.2.2),(x.2.1,U es x.2.2)]
 r _ m:=.error (.ref (m.1 1))
 post x _:=[bZ "dict_valueiterator" .none i n x.2.2,U es x.2.2]
 new _ m:=[(m.1 1,cS (m.1 0)),(m.1 0,ae #[] 0)]
def vi(hn:es.size=n)(hx:es[i]? =none):aJ w:=(Ab es i n).sm<|aD.old fun _ _ _ _ _ _ hb _ h=>
 cQ (Aa (hb rfl) hn hx h) fun _ _ ⟨a,b,e,d⟩=>⟨(fun i=>if i=0 then a else b,fun _=>[]),e,rfl,d.perm (dy (l₁:=[_,_]) (l₂:=[_,_]))⟩
end
section
variable{it d:Addr}{i n ep:Nat}
theorem wB{e:DictEntry}(hn:es.size=n)(hx:es[i]? =some e)(h:Sat (TW w) s [(it,bZ "dict_keyiterator" (.ref d) i n ep),(d,U es ep)]):
  codeAny (Mo w) A (.call (.builtin "dict_keyiterator.__next__") ⟨[.ref it],[]⟩) (fun r s'=>.ok (.ret e.key)=r/\Done (T:=TW w) s s' [(it,bZ "dict_keyiterator" (.ref d) i n ep),(d,U es ep)] [(it,bZ "dict_keyiterator" (.ref d) (i+1) n ep),(d,U es ep)]) s:=by
 have ho:s.heap.get? it=some (bZ "dict_keyiterator" (.ref d) i n ep):=h.at (.head _) (aa rfl)
 have zt:s.heap.get? d=some (U es ep):=h.at (.tail _ (.head _)) (aO _ _)
 have hT:s.TypeIs (.ref it) "dict_keyiterator":=⟨_,ho,rfl⟩
 have hd:(bZ "dict_keyiterator" (.ref d) i n ep).data=.fields #[.ref d,.int i 0,.int n 0,.int ep 0]:=rfl
 have vW:(U es ep).data=.dict es ep:=rfl
 refine aB F.slot_dict_keyiterator_next hT F.entry_dict_keyiterator_next (F.args_dict_keyiterator_next_1 _) ?_
 refine aw (aX ?_)
 refine aw ?_
 refine aw ?_
 first|refine aw (wpAny_typeNameOfWhole_keyiter hT (aX ?_))|refine aw (wpAny_typeNameOf_keyiter hT (aX ?_))
 refine aw (wpAny_fieldsOf ho hd ?_)
 have n5:Builtin.Dict_items.ownsTuple "dict_keyiterator"=false:=by decide
 rw[n5]
 show wpAny _ _ (if(Value.ref d==Value.none)=true then _ else _) _ _ s
 rw[if_neg (show¬((Value.ref d==Value.none)=true)from Bool.false_ne_true)]
 refine aw (aX ?_)
 refine aw (wpAny_dictEntries zt vW ?_)
 rw[if_neg (by rw[hn];simp)]
 refine aw (aX ?_)
 refine aw (wpAny_dictEpoch zt vW ?_)
 rw[if_neg (by simp)]
 refine aX ?_
 dsimp only
 rw[if_neg (Int.not_lt.mpr (Int.natCast_nonneg i)),Int.toNat_natCast,hx]
 dsimp only
 refine aw ?_
 first|refine aw (wpAny_typeNameOfWhole_keyiter hT (aX ?_))|refine aw (wpAny_typeNameOf_keyiter hT (aX ?_))
 refine aw (wpAny_isOneOf_keyiter hT ?_)
 show wpAny _ _ (setField (.ref it) 1 (rawInt ((i:Int)+1))>>=_) _ _ s
 refine aw (wpAny_setField ho hd (by simp) ?_)
 have d1:=cH (f:=Obj.mapFields (·.setIfInBounds 1 (rawInt ((i:Int)+1)))) h (aa rfl) rfl rfl (aa rfl)
 have P5:({s with heap:=s.heap.update it (Obj.mapFields (·.setIfInBounds 1 (rawInt ((i:Int)+1))))}:Shared).TypeIs (.ref it) "dict_keyiterator":=⟨_,d1.sat.at (.head _) (aa rfl),rfl⟩
 refine aw (wpAny_holding ?_)
 refine aw (wpAny_isOneOf_keyiter (s:={s with heap:=s.heap.update it (Obj.mapFields (·.setIfInBounds 1 (rawInt ((i:Int)+1))))}) P5 ?_)
 show wpAny _ _ (pure e.key) _ _ _
 exact aX (aX ⟨rfl,d1⟩)
theorem Ag(hh:A.handled=none)(hn:es.size=n)(hx:es[i]? =none)(h:Sat (TW w) s [(it,bZ "dict_keyiterator" (.ref d) i n ep),(d,U es ep)]):
  codeAny (Mo w) A (.call (.builtin "dict_keyiterator.__next__") ⟨[.ref it],[]⟩) (fun r s'=>E2 fun a b=>.error (.ref b)=r/\Done (T:=TW w) s s' [(it,bZ "dict_keyiterator" (.ref d) i n ep),(d,U es ep)] [(b,cS a),(a,ae #[] 0),(it,bZ "dict_keyiterator" .none i n ep),(d,U es ep)]) s:=by
 have ho:s.heap.get? it=some (bZ "dict_keyiterator" (.ref d) i n ep):=h.at (.head _) (aa rfl)
 have zt:s.heap.get? d=some (U es ep):=h.at (.tail _ (.head _)) (aO _ _)
 have hT:s.TypeIs (.ref it) "dict_keyiterator":=⟨_,ho,rfl⟩
 have hd:(bZ "dict_keyiterator" (.ref d) i n ep).data=.fields #[.ref d,.int i 0,.int n 0,.int ep 0]:=rfl
 have vW:(U es ep).data=.dict es ep:=rfl
 refine aB F.slot_dict_keyiterator_next hT F.entry_dict_keyiterator_next (F.args_dict_keyiterator_next_1 _) ?_
 refine aw (aX ?_)
 refine aw ?_
 refine aw ?_
 first|refine aw (wpAny_typeNameOfWhole_keyiter hT (aX ?_))|refine aw (wpAny_typeNameOf_keyiter hT (aX ?_))
 refine aw (wpAny_fieldsOf ho hd ?_)
 have n5:Builtin.Dict_items.ownsTuple "dict_keyiterator"=false:=by decide
 rw[n5]
 show wpAny _ _ (if(Value.ref d==Value.none)=true then _ else _) _ _ s
 rw[if_neg (show¬((Value.ref d==Value.none)=true)from Bool.false_ne_true)]
 refine aw (aX ?_)
 refine aw (wpAny_dictEntries zt vW ?_)
 rw[if_neg (by rw[hn];simp)]
 refine aw (aX ?_)
 refine aw (wpAny_dictEpoch zt vW ?_)
 rw[if_neg (by simp)]
 refine aX ?_
 dsimp only
 rw[if_neg (Int.not_lt.mpr (Int.natCast_nonneg i)),Int.toNat_natCast,hx]
 dsimp only
 refine aw ?_
 first|refine aw (wpAny_typeNameOfWhole_keyiter hT (aX ?_))|refine aw (wpAny_typeNameOf_keyiter hT (aX ?_))
 show wpAny _ _ (setField (.ref it) 0 .none>>=_) _ _ s
 refine aw (wpAny_setField ho hd (by simp) ?_)
 have d1:=cH (f:=Obj.mapFields (·.setIfInBounds 0 Value.none)) h (aa rfl) rfl rfl (aa rfl)
 show wpAny _ _ (newExc (.type "StopIteration") []>>=_) _ _ _
 exact cv hh d1
end
section
variable(es:Array DictEntry)(i n:Nat)
def wC(v:Value):aD w (Addr×Addr×Nat)where
 find c pre _:=some ((gM (aN c 0)),(az pre 1).1,(cK (az pre 1).2))
 code x:=.call (.builtin "dict_keyiterator.__next__") ⟨[.ref x.1],[]⟩
 pre x:=[(x.1,bZ "dict_keyiterator" (.ref x.2.1) i n x.2.2),(x.2.1,U es x.2.2)]
 r _ _:=.ok (.ret v)
 post x _:=[bZ "dict_keyiterator" (.ref x.2.1) (i+1) n x.2.2,U es x.2.2]
def ku(v:Value)(e:DictEntry)(hn:es.size=n)(hx:es[i]? =some e)(hv:e.key=v):aJ w:=(wC es i n v).sm<|aD.old fun _ _ _ _ _ _ _ _ h=>
 cQ (wB hn hx h) fun _ _ ⟨q,d⟩=>⟨eQ,by rw[<-q,hv];rfl,rfl,d⟩
def Ah:aD w (Addr×Addr×Nat)where
 bare:=true
 find c pre _:=some ((gM (aN c 0)),(az pre 1).1,(cK (az pre 1).2))
 code x:=.call (.builtin "dict_keyiterator.__next__") ⟨[.ref x.1],[]⟩
 pre x:=[(x.1,bZ "dict_keyiterator" (.ref x.2.1) i n x.2.2),(x.2.1,U es x.2.2)]
 r _ m:=.error (.ref (m.1 1))
 post x _:=[bZ "dict_keyiterator" .none i n x.2.2,U es x.2.2]
 new _ m:=[(m.1 1,cS (m.1 0)),(m.1 0,ae #[] 0)]
def vj(hn:es.size=n)(hx:es[i]? =none):aJ w:=(Ah es i n).sm<|aD.old fun _ _ _ _ _ _ hb _ h=>
 cQ (Ag (hb rfl) hn hx h) fun _ _ ⟨a,b,e,d⟩=>⟨(fun i=>if i=0 then a else b,fun _=>[]),e,rfl,d.perm (dy (l₁:=[_,_]) (l₂:=[_,_]))⟩
end
noncomputable def e7(d:Addr):Obj:={cls:=.type "dict_values",data:=.fields #[.ref d]}
theorem qz{d:Addr}{ep:Nat}(h:Sat (TW w) s [(d,U es ep)]):
  codeAny (Mo w) A (.call (.builtin "dict.values") ⟨[.ref d],[]⟩) (fun r s'=>∃a,.ok (.ret (.ref a))=r/\Done (T:=TW w) s s' [(d,U es ep)] [(a,e7 d),(d,U es ep)]) s:=by
 have ho:s.heap.get? d=some (U es ep):=h.at (.head _) (aO _ _)
 have hT:s.TypeIs (.ref d) "dict":=⟨_,ho,rfl⟩
 have hd:=jU h (by show 20<=324;decide)
 refine aB F.slot_dict_values hT F.entry_dict_values (F.args_dict_values_1 _) ?_
 refine aw ?_
 unfold Builtin.Dict.noArgs
 refine aw (wpAny_notOrdered_dict hT ?_)
 show wpAny _ _ (pure d) _ _ s
 refine aX ?_
 show wpAny _ _ (Builtin.Dict.showsAll d>>=_) _ _ s
 unfold Builtin.Dict.showsAll
 rw[if_neg (by rw[hd];exact Bool.false_ne_true)]
 refine aw (aX ?_)
 refine aw (wpAny_newObj_type (aX ?_))
 exact⟨_,rfl,bk (o:=e7 d) h rfl rfl (aa rfl)⟩
section
variable(es:Array DictEntry)
def z9:aD w (Addr×Nat)where
 find _ pre _:=some ((az pre 0).1,(cK (az pre 0).2))
 code x:=.call (.builtin "dict.values") ⟨[.ref x.1],[]⟩
 pre x:=[(x.1,U es x.2)]
 r _ m:=.ok (.ret (.ref (m.1 0)))
 post x _:=[U es x.2]
 new x m:=[(m.1 0,e7 x.1)]
def gZ:aJ w:=(z9 es).sm<|aD.old fun _ _ _ _ _ _ _ _ h=>
 cQ (qz h) fun _ _ ⟨a,e,d⟩=>⟨(fun _=>a,fun _=>[]),e,rfl,d.perm (dy (l₁:=[_]) (l₂:=[_]))⟩
end
theorem wD{d:Addr}{ep:Nat}(h:Sat (TW w) s [(d,U es ep)]):
  codeAny (Mo w) A (.call (.builtin "dict.__iter__") ⟨[.ref d],[]⟩) (fun r s'=>∃a,.ok (.ret (.ref a))=r/\Done (T:=TW w) s s' [(d,U es ep)] [(a,bZ "dict_keyiterator" (.ref d) 0 es.size ep),(d,U es ep)]) s:=by
 have ho:s.heap.get? d=some (U es ep):=h.at (.head _) (aO _ _)
 have hT:s.TypeIs (.ref d) "dict":=⟨_,ho,rfl⟩
 have hd:=jU h (by show 20<=324;decide)
 have zu:(U es ep).data=.dict es ep:=rfl
 refine aB F.slot_dict_iter hT F.entry_dict_iter (F.args_dict_iter_1 _) ?_
 unfold Builtin.«dict.__iter__»
 refine aw ?_
 unfold Builtin.Dict.dictSlotNone
 refine aw (wpAny_notOrdered_dict hT ?_)
 show wpAny _ _ (pure (Value.ref d)) _ _ s
 refine aX ?_
 show wpAny _ _ (Builtin.Dict.showsAll d>>=_) _ _ s
 unfold Builtin.Dict.showsAll
 rw[if_neg (by rw[hd];exact Bool.false_ne_true)]
 refine aw (aX ?_)
 refine aw (wpAny_dictEntries ho zu ?_)
 refine aw (wpAny_dictEpoch ho zu ?_)
 refine aw (wpAny_newObj_type (aX ?_))
 exact⟨_,rfl,bk (o:=bZ "dict_keyiterator" (.ref d) 0 es.size ep) h rfl rfl (aa rfl)⟩
section
variable(es:Array DictEntry)(n:Nat)
def I3:aD w (Addr×Nat)where
 find _ pre _:=some ((az pre 0).1,(cK (az pre 0).2))
 code x:=.call (.builtin "dict.__iter__") ⟨[.ref x.1],[]⟩
 pre x:=[(x.1,U es x.2)]
 r _ m:=.ok (.ret (.ref (m.1 0)))
 post x _:=[U es x.2]
 new x m:=[(m.1 0,bZ "dict_keyiterator" (.ref x.1) 0 n x.2)]
def kx(hn:es.size=n):aJ w:=(I3 es n).sm<|aD.old fun _ _ _ _ _ _ _ _ h=>
 cQ (wD h) fun _ _ ⟨a,e,d⟩=>⟨(fun _=>a,fun _=>[]),e,rfl,by subst hn;exact d.perm (dy (l₁:=[_]) (l₂:=[_]))⟩
end
theorem sj{v d:Addr}{ep:Nat}(h:Sat (TW w) s [(v,e7 d),(d,U es ep)]):
  codeAny (Mo w) A (.call (.builtin "dict_values.__iter__") ⟨[.ref v],[]⟩) (fun r s'=>∃a,.ok (.ret (.ref a))=r/\Done (T:=TW w) s s' [(v,e7 d),(d,U es ep)] [(a,bZ "dict_valueiterator" (.ref d) 0 es.size ep),(v,e7 d),(d,U es ep)]) s:=by
 have WM:s.heap.get? v=some (e7 d):=h.at (.head _) (aa rfl)
 have ho:s.heap.get? d=some (U es ep):=h.at (.tail _ (.head _)) (aO _ _)
 have hT:s.TypeIs (.ref v) "dict_values":=⟨_,WM,rfl⟩
 have zu:(U es ep).data=.dict es ep:=rfl
 refine aB F.slot_dict_values_iter hT F.entry_dict_values_iter (F.args_dict_values_iter_1 _) ?_
 unfold Builtin.«dict_values.__iter__»
 refine aw (aX ?_)
 refine aw ?_
 unfold Builtin.Dict_items.dictOf
 refine aw (gj WM rfl (x:=.ref d) rfl (aX ?_))
 refine aw ?_
 unfold Builtin.Dict_items.newIterator
 refine aw (wpAny_dictEntries ho zu ?_)
 refine aw (wpAny_dictEpoch ho zu ?_)
 have n5:Builtin.Dict_items.ownsTuple "dict_valueiterator"=false:=by decide
 simp only[n5,Bool.false_eq_true,if_false]
 refine wpAny_newObj_type (aX ?_)
 exact⟨_,rfl,bk (o:=bZ "dict_valueiterator" (.ref d) 0 es.size ep) h rfl rfl (aa rfl)⟩
section
variable(es:Array DictEntry)(n:Nat)
def so:aD w (Addr×Addr×Nat)where
 find _ pre _:=some ((az pre 0).1,(az pre 1).1,(cK (az pre 1).2))
 code x:=.call (.builtin "dict_values.__iter__") ⟨[.ref x.1],[]⟩
 pre x:=[(x.1,e7 x.2.1),(x.2.1,U es x.2.2)]
 r _ m:=.ok (.ret (.ref (m.1 0)))
 post x _:=[e7 x.2.1,U es x.2.2]
 new x m:=[(m.1 0,bZ "dict_valueiterator" (.ref x.2.1) 0 n x.2.2)]
def je(hn:es.size=n):aJ w:=(so es n).sm<|aD.old fun _ _ _ _ _ _ _ _ h=>
 cQ (sj h) fun _ _ ⟨a,e,d⟩=>⟨(fun _=>a,fun _=>[]),e,rfl,by subst hn;exact d.perm (dy (l₁:=[_,_]) (l₂:=[_]))⟩
end
noncomputable def IP(C t:Addr):Obj:={cls:=.ref C,data:=.fields #[.ref t,.none,.none,.none,.bool false,.none]}
theorem ot{nm q:Str}{C N:Addr}{bs bm XO:List Value}{Tv:Bool}{sn:List Str}{sub:List Value}{ab:Bool}{col:Option Bool}{dd:Option Addr}{k0 k1 k2 k3 k5:Option Value}{B newId HV:String}
  (hC:(TW w).at_ C=some (excClassObj nm q C N bs bm Tv sn sub ab col dd k0 k1 k2 k3 k5 newId))(F:ExcBaseFacts B newId HV XO)
  (T:∀h:Heap,(∀a o,(TW w).at_ a=some o->h.get? a=some o)->OwnTail h XO bm)(rest:List Value)(hr:rest.length<=sizeLine)
  (hq:(Code.builtin newId ⟨.ref C::rest,[]⟩).quiet=true)(h:Sat (TW w) s []):
  codeAny (Mo w) A (.call (.builtin newId) ⟨.ref C::rest,[]⟩) (fun r s'=>E2 fun e t=>.ok (.ret (.ref e))=r/\Done (T:=TW w) s s' [] [(e,IP C t),(t,ae rest.toArray 0)]) s:=by
 obtain⟨hp,g,d,t,os⟩:=s
 have tp:∀a o,(TW w).at_ a=some o->hp.get? a=some o:=fun a o e=>(h.top a o e).1
 refine codeAny_of_tree ?_
 show wpAny _ A.in1 (do checkBuiltinCall newId ⟨.ref C::rest,[]⟩;again (.builtin newId ⟨.ref C::rest,[]⟩)) _ _ _
 refine aw (wpAny_check_new_subU F F.hasB (T hp tp) (tp _ _ hC) (aX ⟨hq,codeAny_exc_new_subU F F.hasB F (T hp tp) (tp _ _ hC) ?_ hr⟩))
 refine⟨_,hp.objs.size,rfl,?_⟩
 have d1:Done (T:=TW w) ⟨hp,g,d,t,os⟩ ⟨hp.push (ae rest.toArray 0),g,d,t,os⟩ [] [(hp.objs.size,ae rest.toArray 0)]:=bk h rfl rfl (cf _ _)
 have d2:=bk (o:=IP C hp.objs.size) d1.sat rfl rfl (aa rfl)
 have d3:=d1.trans d2
 have e:(hp.push (ae rest.toArray 0)).objs.size=hp.objs.size+1:=by rw[Heap.size_push]
 rw[e]at d3
 exact d3
noncomputable def f6(C:Addr)(newId:String)(rest:List Value):aD w Unit where
 find _ _ _:=some ()
 code _:=.call (.builtin newId) ⟨.ref C::rest,[]⟩
 pre _:=[]
 r _ m:=.ok (.ret (.ref (m.1 0)))
 post _ _:=[]
 new _ m:=[(m.1 0,IP C (m.1 1)),(m.1 1,ae rest.toArray 0)]
theorem Ja(rest:List Value)(hr:rest.length<=sizeLine):(f6 (w:=w) 106 "ValueError.__new__" rest).Ok:=by
 intro x fs A s Rz ii _ kk
 refine cQ (ot (w:=w) (C:=106) (by kernel_rfl:(TW w).at_ 106=some (HC w.params)) F.excBase_ValueError (fun _ _=>.base) rest hr (by kernel_rfl) ii.hs) fun r s' q=> ?_
 obtain⟨e,t,z,d⟩:=q
 exact wo z (kk ((fun k=>match k with|0=>e|_=>t,fun _=>[])) s' rfl d)
noncomputable def KI(rest:List Value)(hr:rest.length<=sizeLine):aJ w:=(f6 106 "ValueError.__new__" rest).sm (Ja rest hr)
def cD(w:World)(o:Obj)(l:List Str):Prop:=E3 fun es ep t=>o.ExactSet/\o.data=.set es ep t/\ElemsOf (kS w) es.toList/\(∀k,k∈l↔∃e∈es.toList,(kS w).is k e.2=true)/\es.size<scanBound/\t.fits es.size=true/\es.size=l.length
theorem cD.of{h:Heap}{a:Addr}{o:Obj}{l:List Str}(ho:h.get? a=some o)(x:cD w o l):h.SetOf (kS w) a (fun k=>decide (k∈l)) l.length:=by
 obtain⟨es,ep,t,h1,h2,h3,h4,h5,h6,h7⟩:=x
 exact⟨o,es,ep,t,ho,h1,h2,h3,fun k=>by rw[decide_eq_true_iff];exact h4 k,h5,h6,h7⟩
noncomputable def HU:Value->Int
 | .int i _=>i
 |_=>0
def yq:Value->Nat
 | .ref a=>a
 |_=>0
def nH(m:Mu):Data:=.set (List.zipWith (fun h v=>(HU h,v)) (m.2 1) (m.2 0)).toArray (m.1 0) ⟨m.1 1,((m.2 2).map yq).toArray,((m.2 3).map yq).toArray,m.1 2,m.1 3==1,m.1 4,m.1 5==1⟩
theorem xa(es:List (Int×Value)):List.zipWith (fun h v=>(HU h,v)) (es.map fun e=>Value.int e.1 0) (es.map (·.2))=es:=by
 induction es with
 |nil=>rfl
 |cons e es ih=>rw[List.map_cons,List.map_cons,List.zipWith_cons_cons,ih];rfl
theorem pB(l:List Nat):(l.map Value.ref).map yq=l:=by
 induction l with
 |nil=>rfl
 |cons e es ih=>rw[List.map_cons,List.map_cons,ih];rfl
theorem qE(b:Bool):((if b then 1 else 0:Nat)==1)=b:=by cases b<;>rfl
theorem pk(es:Array (Int×Value))(ep:Nat)(t:SetTable):∃m:Mu,nH m=.set es ep t:=by
 refine⟨(fun k=>match k with|0=>ep|1=>t.mask|2=>t.finger|3=>if t.led then 1 else 0|4=>t.moves|_=>if t.plain then 1 else 0,
  fun k=>match k with|0=>es.toList.map (·.2)|1=>es.toList.map fun e=>Value.int e.1 0|2=>t.place.toList.map Value.ref|_=>t.dummies.toList.map Value.ref),?_⟩
 show Data.set (List.zipWith (fun h v=>(HU h,v)) (es.toList.map fun e=>Value.int e.1 0) (es.toList.map (·.2))).toArray ep ⟨t.mask,((t.place.toList.map Value.ref).map yq).toArray,((t.dummies.toList.map Value.ref).map yq).toArray,t.finger,(if t.led then 1 else 0:Nat)==1,t.moves,(if t.plain then 1 else 0:Nat)==1⟩=_
 rw[xa,pB,pB,qE,qE]
def tB(w:World)(l:List Str):Data:=.set (l.map fun k=>((kS w).hash k,Value.str k 0)).toArray 0 ((SetTable.fresh 0 0 false).standIn l.length)
noncomputable def eN(d:Data):Obj:={cls:=.type "set",data:=d}
open Classical in
noncomputable def g7(w:World)(l:List Str)(m:Mu):Data:=if cD w (eN (nH m)) l then nH m else tB w l
theorem nY(k:Str)(t:Tok):(kS w).is k (.str k t)=true:=by show Value.isStrOf k (.str k t)=true;simp[Value.isStrOf]
theorem ru(l:List Str)(hl:l.length<scanBound):cD w (eN (tB w l)) l:=by
 refine⟨_,_,_,⟨rfl,rfl,rfl⟩,rfl,?_,?_,?_,?_,?_⟩
 ·intro e he
  obtain⟨k,hk,rfl⟩:=cz he
  exact⟨⟨k,nY k 0,rfl⟩,rfl⟩
 ·intro k
  constructor
  ·intro hk
   exact⟨_,List.mem_map.mpr ⟨k,hk,rfl⟩,nY k 0⟩
  ·rintro⟨e,he,hi⟩
   obtain⟨k',CL,rfl⟩:=cz he
   have:k=k':=(kS w).inj _ _ _ hi (nY k' 0)
   exact this▸CL
 ·rw[List.size_toArray,List.length_map];exact hl
 ·rw[List.size_toArray,List.length_map]
  simp[SetTable.fits,SetTable.standIn,SetTable.fill]
  try lia
 ·rw[List.size_toArray,List.length_map]
theorem rt(l:List Str)(hl:l.length<scanBound)(m:Mu):cD w (eN (g7 w l m)) l:=by
 unfold g7
 split
 ·assumption
 ·exact ru l hl
theorem yc{o:Obj}{l:List Str}(x:cD w o l):∃m,eN (g7 w l m)=o:=by
 have x0:=x
 obtain⟨es,ep,t,h1,h2,-⟩:=x
 obtain⟨m,hm⟩:=pk es ep t
 refine⟨m,?_⟩
 obtain⟨c,d,dt,sl⟩:=o
 obtain⟨e1,e2,e3⟩:=h1
 dsimp only at e1 e2 e3 h2
 subst e1 e2 e3
 have e:eN (nH m)=⟨.type "set",none,dt,#[]⟩:=by rw[hm,h2];rfl
 unfold g7
 rw[if_pos (by rw[e];exact x0)]
 exact e
theorem iL(w:World):∃f:List Str->Mu->Data,(∀l m,l.length<scanBound->cD w (eN (f l m)) l)/\(∀o l,cD w o l->∃m,eN (f l m)=o):=
 ⟨g7 w,fun l m hl=>rt l hl m,fun _ _ x=>yc x⟩
noncomputable def fA(w:World):List Str->Mu->Data:=Classical.choose (iL w)
theorem my(l:List Str)(hl:l.length<scanBound)(m:Mu):cD w (eN (fA w l m)) l:=(Classical.choose_spec (iL w)).1 l m hl
theorem tA{o:Obj}{l:List Str}(x:cD w o l):∃m,eN (fA w l m)=o:=(Classical.choose_spec (iL w)).2 o l x
theorem Bx{a:Addr}{o:Obj}{l:List Str}{x:Str}{t:Tok}(ho:s.heap.get? a=some o)(hS:cD w o l)(h:Sat (TW w) s [(a,o)]):
  codeAny (Mo w) A (.call (.builtin "set.__contains__") ⟨[.ref a,.str x t],[]⟩) (fun r s'=>r=.ok (.ret (.bool (decide (x∈l))))/\Done (T:=TW w) s s' [(a,o)] [(a,o)]) s:=by
 have hm:=cD.of ho hS
 refine aB F.slot_set_contains hm.typeIs entry_set_contains (F.args_set_contains_2 _ _) ?_
 unfold Builtin.«frozenset.__contains__» Builtin.Frozenset.oneOther
 simp only[List.isEmpty_nil,bind_assoc]
 unfold Builtin.Frozenset.addrOf Builtin.Frozenset.withSetAsKey setContains
 refine aw (aX ?_)
 try dsimp only
 refine aw (aX ?_)
 try dsimp only
 refine aw (wpAny_tryCatch ?_)
 refine wpAny_holding ?_
 refine aw ((kS w).pyHash (strKind_is pw w x t) ?_)
 refine aw (wpAny_setFind_of (s:={s with toks:=s.toks+1}) (strKind_is pw w x t) rfl hm fun r hr=> ?_)
 refine aX ?_
 show wpAny _ _ (ret (Value.bool r.isSome)) _ _ _
 rw[hr]
 exact aX ⟨rfl,ck h _⟩
theorem Ae{h':Heap}{a:Addr}{o o':Obj}{k:Nat}(h:Sat (TW w) s [(a,o)])(vT:Heap.SameBut a s.heap h')(hn:¬bh o)(e:h'.get? a=some o')(hb:bq o'=false)(qg:¬bh o'):
  Done (T:=TW w) s {s with heap:=h',toks:=k} [(a,o)] [(a,o')]:=by
 have lo:=h.low (a,o) (.head _)
 have ne:∀b x,s.heap.get? b=some x->b≠a->h'.get? b=some x:=fun b x eb hZ=>by rw[vT.2 b hZ];exact eb
 refine⟨⟨?_,?_,?_,?_,?_⟩,⟨?_,?_,rfl,rfl,rfl⟩,?_⟩
 ·intro p hp
  cases lZ hp
  exact⟨o',e,bU.dp hb qg⟩
 ·exact List.nodup_cons.mpr ⟨dS,List.nodup_nil⟩
 ·intro p hp
  cases lZ hp
  exact lo
 ·intro b x eb
  have tb:=h.top b x eb
  exact⟨ne b x tb.1 (Nat.ne_of_lt (oE tb.2 lo)),tb.2⟩
 ·show _<=h'.objs.size
  rw[vT.1];exact h.size
 ·intro b x eb nb
  exact .inl (ne b x eb fun z=>nb (List.mem_singleton.mpr z))
 ·intro b x eb fb
  by_cases z:b=a
  ·subst z
   have:=h.at (.head _) hn
   rw[this]at eb
   cases eb
   exact absurd fb hn
  ·exact⟨x,ne b x eb z,fb⟩
 ·intro p hp
  cases lZ hp
  exact .inl (List.mem_singleton.mpr rfl)
theorem fX(d:Data):¬bh (eN d):=mG fun h=>by
 have h:Value.type "set"=.type "frame":=h
 injection h with h
 exact absurd h (by decide)
theorem By{a:Addr}{d:Data}{l:List Str}{x:Str}{t:Tok}(hS:cD w (eN d) l)(hx:x∉l)(hl:l.length+1<scanBound)(h:Sat (TW w) s [(a,eN d)]):
  codeAny (Mo w) A (.call (.builtin "set.add") ⟨[.ref a,.str x t],[]⟩) (fun r s'=>∃m,r=.ok (.ret .none)/\Done (T:=TW w) s s' [(a,eN d)] [(a,eN (fA w (l++[x]) m))]) s:=by
 have ho:s.heap.get? a=some (eN d):=h.at (.head _) (fX _)
 have hm:=cD.of ho hS
 refine aB F.slot_set_add hm.typeIs F.entry_set_add (F.args_set_add_2 _ _) ?_
 unfold Builtin.«set.add» Builtin.Frozenset.oneOther
 simp only[List.isEmpty_nil,bind_assoc]
 unfold Builtin.Frozenset.addrOf setAdd
 refine aw (aX ?_)
 try dsimp only
 refine aw (aX ?_)
 try dsimp only
 refine aw ?_
 refine wpAny_holding ?_
 refine aw ((kS w).pyHash (strKind_is pw w x t) ?_)
 refine wpAny_setAddHashed_of (s:={s with toks:=s.toks+1}) (strKind_is pw w x t) rfl hm hl fun h' vT TH=> ?_
 show wpAny _ _ (ret Value.none) _ _ _
 obtain⟨o',es,ep,tt,PY,h1,h2,h3,h4,h5,h6,h7⟩:=TH
 have JO:cD w o' (l++[x]):=by
  refine⟨es,ep,tt,h1,h2,h3,fun k=> ?_,h5,h6,?_⟩
  ·rw[<-h4 k,Bool.or_eq_true,decide_eq_true_iff,decide_eq_true_iff,List.mem_append,List.mem_singleton]
  ·rw[h7,if_neg (by rw[decide_eq_true_iff];exact hx),List.length_append];rfl
 obtain⟨m,rfl⟩:=tA JO
 exact aX ⟨m,rfl,Ae h vT (fX _) PY rfl (fX _)⟩
section
variable(l:List Str)
noncomputable def Bz(m:Mu)(x:Str)(b:Bool):aD w (Addr×Tok)where
 find c pre _:=some ((az pre 0).1,(bV (aN c 1)))
 code y:=.call (.builtin "set.__contains__") ⟨[.ref y.1,.str x y.2],[]⟩
 pre y:=[(y.1,eN (fA w l m))]
 r _ _:=.ok (.ret (.bool b))
 post _ _:=[eN (fA w l m)]
noncomputable def eK(hl:l.length<scanBound)(m:Mu)(x:Str)(b:Bool)(hb:decide (x∈l)=b):aJ w:=(Bz l m x b).sm<|aD.old fun _ _ _ _ _ _ _ _ h=>by
 subst hb
 exact cQ (Bx (h.at (.head _) (fX _)) (my l hl m) h) fun _ _ ⟨e,d⟩=>⟨eQ,e.symm,rfl,d⟩
noncomputable def BB(m:Mu)(x:Str):aD w (Addr×Tok)where
 find c pre _:=some ((az pre 0).1,(bV (aN c 1)))
 code y:=.call (.builtin "set.add") ⟨[.ref y.1,.str x y.2],[]⟩
 pre y:=[(y.1,eN (fA w l m))]
 r _ _:=.ok (.ret .none)
 post _ μ:=[eN (fA w (l++[x]) μ)]
noncomputable def oZ(hl:l.length+1<scanBound)(m:Mu)(x:Str)(hx:x∉l):aJ w:=(BB l m x).sm<|aD.old fun _ _ _ _ _ _ _ _ h=>
 cQ (By (my l (sE hl) m) hx hl h) fun _ _ ⟨μ,e,d⟩=>⟨μ,e.symm,rfl,d⟩
end
theorem vE{l:Addr}{v:Value}{ep:Nat}{t:Tok}(h:Sat (TW w) s [(l,aj (xs++[v]) ep)]):
  codeAny (Mo w) A (.call (.builtin "list.__getitem__") ⟨[.ref l,.int (-1) t],[]⟩) (fun r s'=>.ok (.ret v)=r/\Done (T:=TW w) s s' [(l,aj (xs++[v]) ep)] [(l,aj (xs++[v]) ep)]) s:=by
 have ho:s.heap.get? l=some (aj (xs++[v]) ep):=h.at (.head _) (ar _ _)
 refine aB F.slot_list_getitem ⟨_,ho,rfl⟩ F.entry_list_getitem (F.args_list_getitem_2 _ _) ?_
 show wpAny _ _ (Builtin.List.listSubscript? (.int (-1) t)>>=_) _ _ s
 refine aw (wpAny_listSubscript_int (fitsIndex_neg (by decide) (by decide)) ?_)
 have Tp:seqIndex? (-1) (xs++[v]).toArray.size=some xs.length:=by
  rw[seqIndex_neg (by lia) (by simp;lia)];congr 1;simp;lia
 show wpAny _ _ ((Builtin.List.listItems (.ref l)>>=fun xs=>pure ((seqIndex? (Int.negSucc 0) xs.size).bind fun i=>xs[i]?.map (i,·)))>>=_) _ _ s
 refine aw (aw ?_)
 show wpAny _ _ (seqItems? (.ref l)>>=_) _ _ s
 refine aw (wpAny_seqItems ho rfl (aX (aX ?_)))
 rw[show Int.negSucc 0= -1 from rfl,Tp]
 have hx:(xs++[v]).toArray[xs.length]? =some v:=by simp
 simp only[Option.bind_some,hx,Option.map_some]
 exact aw (aX (aX ⟨rfl,Done.refl h⟩))
section
variable(xs:List Value)(v:Value)
def Nl:aD w (Addr×Tok×Nat)where
 find c pre _:=some ((az pre 0).1,(bV (aN c 1)),(cK (az pre 0).2))
 code x:=.call (.builtin "list.__getitem__") ⟨[.ref x.1,.int (-1) x.2.1],[]⟩
 pre x:=[(x.1,aj (xs++[v]) x.2.2)]
 r _ _:=.ok (.ret v)
 post x _:=[aj (xs++[v]) x.2.2]
def rh:aJ w:=(Nl xs v).sm<|aD.old fun _ _ _ _ _ _ _ _ h=>
 cQ (vE h) fun _ _ ⟨e,d⟩=>⟨eQ,e,rfl,d⟩
end
theorem y9{l:Addr}{v:Value}{ep:Nat}(hz:xs.length<999999)(h:Sat (TW w) s [(l,aj (xs++[v]) ep)]):
  codeAny (Mo w) A (.call (.builtin "list.pop") ⟨[.ref l],[]⟩) (fun r s'=>.ok (.ret v)=r/\Done (T:=TW w) s s' [(l,aj (xs++[v]) ep)] [(l,aj xs (ep+1))]) s:=by
 have ho:s.heap.get? l=some (aj (xs++[v]) ep):=h.at (.head _) (ar _ _)
 refine aS F.slot_list_pop ⟨_,ho,rfl⟩ F.entry_list_pop (F.args_list_pop_1 _) (MeetsSeq.list_pop_last l (xs++[v]).toArray ep v (by simp) (fT (by simp;lia))) ⟨ho,rfl,?_⟩
 have d:=bN (f:=Obj.mapSeq fun x=>x.eraseIdxIfInBounds ((xs++[v]).toArray.size-1)) h (ar _ _) rfl rfl (ar _ _) s.toks
 have e:Obj.mapSeq (fun x=>x.eraseIdxIfInBounds ((xs++[v]).toArray.size-1)) (aj (xs++[v]) ep)=aj xs (ep+1):=by
  have q:((xs++[v]).toArray.eraseIdxIfInBounds ((xs++[v]).toArray.size-1))=xs.toArray:=by
   simp[Array.eraseIdxIfInBounds,List.eraseIdx_append_of_length_le]
  try unfold aj
  unfold ah Obj.mapSeq
  simp only[q]
  simp
 rw[e]at d
 exact d
section
variable(xs:List Value)(v:Value)
def R0:aD w (Addr×Nat)where
 find _ pre _:=some ((az pre 0).1,(cK (az pre 0).2))
 code x:=.call (.builtin "list.pop") ⟨[.ref x.1],[]⟩
 pre x:=[(x.1,aj (xs++[v]) x.2)]
 r _ _:=.ok (.ret v)
 post x _:=[aj xs (x.2+1)]
def EF(hz:xs.length<999999):aJ w:=(R0 xs v).sm<|aD.old fun _ _ _ _ _ _ _ _ h=>
 cQ (y9 hz h) fun _ _ ⟨e,d⟩=>⟨eQ,e,rfl,d⟩
end
theorem Am{d:Addr}{n:Nat}{x:Str}{t u:Tok}{v:Value}(h:Sat (TW w) s [(d,U (bI w es x u v) n)])(hk:KeysOf (kS w) (bI w es x u v))(hz:es.size<1000)(hi:es.findIdx? (fun e=>(kS w).is x e.key)=none):
  codeAny (Mo w) A (.call (.builtin "dict.__delitem__") ⟨[.ref d,.str x t],[]⟩) (fun r s'=>.ok (.ret .none)=r/\Done (T:=TW w) s s' [(d,U (bI w es x u v) n)] [(d,U es (n+1))]) s:=by
 have ho:s.heap.get? d=some (U (bI w es x u v) n):=h.at (.head _) (aO _ _)
 have hm:=mapOf ho hk
 have Zd:(bI w es x u v).findIdx? (fun e=>(kS w).is x e.key)=some es.size:=by
  unfold bI
  rw[Array.findIdx?_push,hi]
  simp[strKind_is pw w x u]
 refine aB F.slot_dict_delitem hm.typeIs F.entry_dict_delitem (F.args_dict_delitem_2 _ _) ?_
 unfold Builtin.«dict.__delitem__»
 refine aw ?_
 unfold Builtin.Dict.dictSlotArgs
 refine aw (wpAny_notOrdered_dict hm.typeIs ?_)
 show wpAny _ _ (pure (Value.ref d,Value.str x t)) _ _ s
 refine aX ?_
 show wpAny _ _ (Builtin.Dict.takeOut d (.str x t)>>=_) _ _ s
 refine aw ?_
 unfold Builtin.Dict.takeOut
 try with_reducible refine wpAny_holding ?_
 refine aw ((kS w).pyHash (strKind_is pw w x t) ?_)
 refine aw (wpAny_dictFind_of (s:={s with toks:=s.toks+1}) (strKind_is pw w x t) ho rfl hk ?_)
 rw[Zd]
 refine aw (wpAny_dictEntries (s:={s with toks:=s.toks+1}) ho rfl ?_)
 have he:(bI w es x u v)[es.size]? =some ⟨hashStr w x,.str x u,v⟩:=by unfold bI;simp
 rw[he]
 refine aw (wpAny_updateDictKeys (hz:=by unfold bI;rw[Array.size_push];show es.size+1<=2^24;lia) (s:={s with toks:=s.toks+1}) ho rfl (aX ?_))
 refine aw (wpAny_letGo (aX ⟨rfl,?_⟩))
 have q:(bI w es x u v).eraseIdxIfInBounds es.size=es:=by
  obtain⟨l⟩:=es
  unfold bI
  simp[Array.eraseIdxIfInBounds,List.eraseIdx_append_of_length_le]
 have d:=bN (f:=fun o=>o.mapDictKeys (·.eraseIdxIfInBounds es.size)) h (aO _ _) rfl rfl (aO _ _) (s.toks+1)
 have e:(U (bI w es x u v) n).mapDictKeys (·.eraseIdxIfInBounds es.size)=U es (n+1):=by
  unfold U Obj.mapDictKeys;simp only[q]
 rw[e]at d
 exact d
section
variable(es:Array DictEntry)(x:Str)(u:Tok)(v:Value)
def Vg:aD w (Addr×Tok×Nat)where
 find c pre _:=some ((az pre 0).1,(bV (aN c 1)),(cK (az pre 0).2))
 code y:=.call (.builtin "dict.__delitem__") ⟨[.ref y.1,.str x y.2.1],[]⟩
 pre y:=[(y.1,U (bI w es x u v) y.2.2)]
 r _ _:=.ok (.ret .none)
 post y _:=[U es (y.2.2+1)]
def KH(hk:KeysOf (kS w) (bI w es x u v))(hz:es.size<1000)(hi:es.findIdx? (fun e=>(kS w).is x e.key)=none):aJ w:=(Vg es x u v).sm<|aD.old fun _ _ _ _ _ _ _ _ h=>
 cQ (Am h hk hz hi) fun _ _ ⟨e,d⟩=>⟨eQ,e,rfl,d⟩
end
theorem za{l b:Addr}{ys:List Value}{e1 e2:Nat}(hz:xs.length+ys.length<1000000)(h:Sat (TW w) s [(l,aj xs e1),(b,aj ys e2)]):
  codeAny (Mo w) A (.call (.builtin "list.__add__") ⟨[.ref l,.ref b],[]⟩) (fun r s'=>∃a,.ok (.ret (.ref a))=r/\Done (T:=TW w) s s' [(l,aj xs e1),(b,aj ys e2)] [(a,aj (xs++ys) 0),(l,aj xs e1),(b,aj ys e2)]) s:=by
 have ho:s.heap.get? l=some (aj xs e1):=h.at (.head _) (ar _ _)
 have hb:s.heap.get? b=some (aj ys e2):=h.at (.tail _ (.head _)) (ar _ _)
 have hs:xs.toArray.size+ys.toArray.size<=sizeLine:=by
  have e:sizeLine=16777216:=by decide
  simp only[List.size_toArray,e];lia
 refine aS F.slot_list_add ⟨_,ho,rfl⟩ F.entry_list_add (F.args_list_add_2 _ _) (AutoSeq1.list___add___list_list_0 l xs.toArray e1 b ys.toArray e2 hs) ⟨ho,hb,_,rfl,?_⟩
 have d:=bk (o:=aj (xs++ys) 0) h rfl rfl (ar _ _)
 rw[List.append_toArray]
 exact d
def O3(xs ys:List Value):aD w (Addr×Addr×Nat×Nat)where
 find _ pre _:=some ((az pre 0).1,(az pre 1).1,(cK (az pre 0).2),(cK (az pre 1).2))
 code x:=.call (.builtin "list.__add__") ⟨[.ref x.1,.ref x.2.1],[]⟩
 pre x:=[(x.1,aj xs x.2.2.1),(x.2.1,aj ys x.2.2.2)]
 r _ m:=.ok (.ret (.ref (m.1 0)))
 post x _:=[aj xs x.2.2.1,aj ys x.2.2.2]
 new _ m:=[(m.1 0,aj (xs++ys) 0)]
def ro(xs ys:List Value)(hz:xs.length+ys.length<1000000):aJ w:=(O3 xs ys).sm<|aD.old fun _ _ _ _ _ _ _ _ h=>
 cQ (za hz h) fun _ _ ⟨a,e,d⟩=>⟨(fun _=>a,fun _=>[]),e,rfl,d.perm (dy (l₁:=[_,_]) (l₂:=[_]))⟩
noncomputable def iJ(a:Value):Obj:={cls:=.type "slice",data:=.fields #[a,.none,.none]}
theorem vF{l sl:Addr}{ep:Nat}{a:Nat}{t:Tok}(hz:xs.length<1000000)(ha:a<=xs.length)(h:Sat (TW w) s [(l,aj xs ep),(sl,iJ (.int a t))]):
  codeAny (Mo w) A (.call (.builtin "list.__getitem__") ⟨[.ref l,.ref sl],[]⟩) (fun r s'=>∃b,.ok (.ret (.ref b))=r/\Done (T:=TW w) s s' [(l,aj xs ep),(sl,iJ (.int a t))] [(b,aj (xs.drop a) 0),(l,aj xs ep),(sl,iJ (.int a t))]) s:=by
 have ho:s.heap.get? l=some (aj xs ep):=h.at (.head _) (ar _ _)
 have CJ:s.heap.get? sl=some (iJ (.int a t)):=h.at (.tail _ (.head _)) (aa rfl)
 have NR:s.TypeIs (.ref sl) "slice":=⟨_,CJ,rfl⟩
 refine aB F.slot_list_getitem ⟨_,ho,rfl⟩ F.entry_list_getitem (F.args_list_getitem_2 _ _) ?_
 show wpAny _ _ (Builtin.List.listSubscript? (.ref sl)>>=_) _ _ s
 refine aw ?_
 unfold Builtin.List.listSubscript?
 refine aw (wpAny_specialOf NR slice_no_index ?_)
 simp only[Option.isNone_none,if_true]
 refine aX ?_
 show wpAny _ _ (typeOf (.ref sl)>>=_) _ _ s
 refine aw (wpAny_typeOf NR ?_)
 rw[if_neg (by decide)]
 rw[listSliceParts_eq]
 refine aw (aw (gj CJ rfl (x:=.none) rfl (aw (wpAny_listPart .none ?_))))
 rw[if_neg (show¬((rawPart none==rawInt 0)=true)from Bool.false_ne_true)]
 refine aw (gj CJ rfl (x:=.int a t) rfl (aw (wpAny_listPart (.int _ _) ?_)))
 refine aw (gj CJ rfl (x:=.none) rfl (aw (wpAny_listPart .none (aX ?_))))
 refine aw (m:=Builtin.List.listItems (.ref l)) ?_
 unfold Builtin.List.listItems
 refine aw (wpAny_seqItems ho rfl (aX ?_))
 refine aw (wpAny_of_eq (sliceIndices_raw (some (a:Int)) none none xs.toArray.size (by simp)) ?_)
 have q:=slicePick_from xs.toArray a (by simpa using ha)
 refine aw (wpAny_newObj_type (aX ⟨_,rfl,?_⟩) (bP (slicePick_size_le xs.toArray (some (a:Int)) none none) (fT hz)))
 have d:=bk (o:=aj (xs.drop a) 0) h rfl rfl (ar _ _)
 have q2:aj (xs.drop a) 0={cls:=.type "list",data:=.seq (slicePick xs.toArray (some (a:Int)) none none)}:=by rw[q];rfl
 rw[q2]at d⊢
 exact d
section
variable(xs:List Value)
def N3(a:Nat):aD w (Addr×Addr×Nat×Tok)where
 find _ pre _:=match pre with
  |[(l,⟨_,_,.seq _ ep,_⟩),(sl,⟨_,_,.fields ⟨.int _ t::_⟩,_⟩)]=>some (l,sl,ep,t)
  |_=>none
 code x:=.call (.builtin "list.__getitem__") ⟨[.ref x.1,.ref x.2.1],[]⟩
 pre x:=[(x.1,aj xs x.2.2.1),(x.2.1,iJ (.int a x.2.2.2))]
 r _ m:=.ok (.ret (.ref (m.1 0)))
 post x _:=[aj xs x.2.2.1,iJ (.int a x.2.2.2)]
 new _ m:=[(m.1 0,aj (xs.drop a) 0)]
def nE(a:Nat)(hz:xs.length<1000000)(ha:a<=xs.length):aJ w:=(N3 xs a).sm<|aD.old fun _ _ _ _ _ _ _ _ h=>
 cQ (vF hz ha h) fun _ _ ⟨a,e,d⟩=>⟨(fun _=>a,fun _=>[]),e,rfl,d.perm (dy (l₁:=[_,_]) (l₂:=[_]))⟩
def Nj(k:Nat):aD w (Addr×Nat)where
 find _ pre _:=some ((az pre 0).1,(cK (az pre 0).2))
 code x:=.builtin "len" ⟨[.ref x.1],[]⟩
 pre x:=[(x.1,aj xs x.2)]
 r _ μ:=.ok (.ret (.int (Int.ofNat (Nat.succ k)) (μ.1 0)))
 post x _:=[aj xs x.2]
def nC(k:Nat)(hk:xs.length=k+1)(hz:xs.length<1000000):aJ w:=(Nj xs k).sm<|aD.old fun _ _ _ _ _ _ _ _ h=>
 cQ (pV hz h) fun _ _ ⟨t,e,d⟩=>⟨(fun _=>t,fun _=>[]),by rw[<-e,hk];rfl,rfl,d⟩
end
section
variable{it l:Addr}{ol:Obj}{k ep:Nat}
theorem kO{v:Value}(hl:ol.data=.seq xs.toArray ep)(hv:xs[k]? =some v)(h:Sat (TW w) s [(it,aZ (.ref l) k),(l,ol)]):
  codeAny (Mo w) A (.builtin "list_iterator.__next__" ⟨[.ref it],[]⟩) (fun r s'=>.ok (.ret v)=r/\Done (T:=TW w) s s' [(it,aZ (.ref l) k),(l,ol)] [(it,aZ (.ref l) (k+1)),(l,ol)]) s:=by
 have nf:∀v k,¬bh (aZ v k):=fun _ _=>aa rfl
 have ho:s.heap.get? it=some (aZ (.ref l) k):=h.at (.head _) (nf _ _)
 have uA:s.heap.get? l=some ol:=h.at (.tail _ (.head _)) (bb fun es n q=>by rw[hl]at q;cases q)
 refine codeAny_builtin entry_listiter_next ?_
 rw[Around.under_plainId slot_listiter_next.plain _]
 show wpAny _ _ (field (.ref it) 0>>=_) _ _ s
 refine aw (gj ho rfl (x:=.ref l) rfl ?_)
 show wpAny _ _ (if(Value.ref l==Value.none)=true then _ else _) _ _ s
 rw[if_neg (show¬((Value.ref l==Value.none)=true)from Bool.false_ne_true)]
 show wpAny _ _ (field (.ref it) 1>>=_) _ _ s
 refine aw (gj ho rfl (x:=.int k 0) rfl ?_)
 show wpAny _ _ (seqItems? (.ref l)>>=_) _ _ s
 refine aw (wpAny_seqItems uA hl ?_)
 have hx:xs.toArray[k]? =some v:=by rw[List.getElem?_toArray];exact hv
 simp only[Int.toNat_natCast,hx]
 exact aw (wpAny_setField ho rfl (by simp) (aX ⟨rfl,cH h (nf _ _) rfl rfl (aa rfl)⟩))
theorem lT(hh:A.handled=none)(hl:ol.data=.seq xs.toArray ep)(hv:xs[k]? =none)(h:Sat (TW w) s [(it,aZ (.ref l) k),(l,ol)]):
  codeAny (Mo w) A (.builtin "list_iterator.__next__" ⟨[.ref it],[]⟩) (fun r s'=>E2 fun a b=>.error (.ref b)=r/\Done (T:=TW w) s s' [(it,aZ (.ref l) k),(l,ol)] [(b,cS a),(a,ae #[] 0),(it,aZ .none k),(l,ol)]) s:=by
 have nf:∀v k,¬bh (aZ v k):=fun _ _=>aa rfl
 have ho:s.heap.get? it=some (aZ (.ref l) k):=h.at (.head _) (nf _ _)
 have uA:s.heap.get? l=some ol:=h.at (.tail _ (.head _)) (bb fun es n q=>by rw[hl]at q;cases q)
 refine codeAny_builtin entry_listiter_next ?_
 rw[Around.under_plainId slot_listiter_next.plain _]
 show wpAny _ _ (field (.ref it) 0>>=_) _ _ s
 refine aw (gj ho rfl (x:=.ref l) rfl ?_)
 show wpAny _ _ (if(Value.ref l==Value.none)=true then _ else _) _ _ s
 rw[if_neg (show¬((Value.ref l==Value.none)=true)from Bool.false_ne_true)]
 show wpAny _ _ (field (.ref it) 1>>=_) _ _ s
 refine aw (gj ho rfl (x:=.int k 0) rfl ?_)
 show wpAny _ _ (seqItems? (.ref l)>>=_) _ _ s
 refine aw (wpAny_seqItems uA hl ?_)
 have hx:xs.toArray[k]? =none:=by rw[List.getElem?_toArray];exact hv
 simp only[Int.toNat_natCast,hx]
 refine aw (wpAny_rule (aw (wpAny_setField ho rfl (by simp) ?_)))
 have d1:=cH (f:=fun o=>o.mapFields (·.setIfInBounds 0 .none)) h (nf _ _) rfl rfl (aa rfl)
 show wpAny _ _ (newExc (.type "StopIteration") []>>=_) _ _ _
 exact cv hh d1
end
section
variable(xs:List Value)(k:Nat)
def rQ(v:Value):aD w (Addr×Addr×Nat)where
 find c pre _:=some ((gM (aN c 0)),(az pre 1).1,(cK (az pre 1).2))
 code x:=.builtin "list_iterator.__next__" ⟨[.ref x.1],[]⟩
 pre x:=[(x.1,aZ (.ref x.2.1) k),(x.2.1,aj xs x.2.2)]
 r _ _:=.ok (.ret v)
 post x _:=[aZ (.ref x.2.1) (k+1),aj xs x.2.2]
def jd(v:Value)(hv:xs[k]? =some v):aJ w:=(rQ xs k v).sm<|aD.old fun _ _ _ _ _ _ _ _ h=>
 cQ (kO rfl hv h) fun _ _ ⟨e,d⟩=>⟨eQ,e,rfl,d⟩
def vJ:aD w (Addr×Addr×Nat)where
 bare:=true
 find c pre _:=some ((gM (aN c 0)),(az pre 1).1,(cK (az pre 1).2))
 code x:=.builtin "list_iterator.__next__" ⟨[.ref x.1],[]⟩
 pre x:=[(x.1,aZ (.ref x.2.1) k),(x.2.1,aj xs x.2.2)]
 r _ μ:=.error (.ref (μ.1 1))
 post x _:=[aZ .none k,aj xs x.2.2]
 new _ μ:=[(μ.1 1,cS (μ.1 0)),(μ.1 0,ae #[] 0)]
def rf(hv:xs[k]? =none):aJ w:=(vJ xs k).sm<|aD.old fun _ _ _ _ _ _ hb _ h=>
 cQ (lT (hb rfl) rfl hv h) fun _ _ ⟨a,b,e,d⟩=>⟨(fun i=>if i=0 then a else b,fun _=>[]),e,rfl,d.perm (dy (l₁:=[_,_]) (l₂:=[_,_]))⟩
end
def wt(P:α->Nat):List α->Nat
 |[]=>0
 |a::l=>P a+wt P l
theorem fP(P:α->Nat):∀l m:List α,wt P (l++m)=wt P l+wt P m
 |[],m=>by simp[wt]
 |a::l,m=>by simp only[List.cons_append,wt,fP P l m];lia
theorem sM(P:α->Nat)(a:α)(l:List α):wt P (a::l)=P a+wt P l:=rfl
theorem xb(P:α->Nat):wt P []=0:=rfl
open Classical in
theorem xc(a:α):∀l:List α,0<wt (fun x=>if x=a then 1 else 0) l->E2 fun s t=>l=s++a::t
 |[],h=>absurd h (by simp[wt])
 |b::l,h=>by
  by_cases e:b=a
  ·exact⟨[],l,by rw[e];rfl⟩
  ·simp only[wt,if_neg e]at h
   obtain⟨s,t,q⟩:=xc a l (by lia)
   exact⟨b::s,t,by rw[q];rfl⟩
open Classical in
theorem gG:∀{l m:List α},(∀P:α->Nat,wt P l=wt P m)->l.Perm m
 |[],m,h=>by
  cases m with
  |nil=>exact .nil
  |cons b m=>have:=h (fun _=>1);simp only[wt]at this;lia
 |a::l,m,h=>by
  have h1:=h (fun x=>if x=a then 1 else 0)
  simp only[wt,if_true]at h1
  obtain⟨s,t,rfl⟩:=xc a m (by lia)
  have:l.Perm (s++t):=gG fun P=>by
   have:=h P
   simp only[wt,fP]at this⊢
   lia
  exact(this.cons a).trans List.perm_middle.symm
structure sF(w:World)(X:Type)extends aD w X where
 Ir:X->List Env
 qq:List Env->Code->Led->Led->Option X
section
variable{X:Type}(P:sF w X)
def sF.Ok:Prop:=∀(x:X) (A:Around) (s:Shared) (R:Result->Shared->Prop),In w P.lv P.bare (P.Ir x) A s (P.pre x++P.tail x)->dD (P.obs x)->
 (∀μ s',(P.post x μ).length=(P.pre x).length->Done (T:=TW w) s s' (P.pre x++P.tail x) (P.toaD.fin x μ)->R (P.r x μ) s')->codeAny (Mo w) A (P.code x) R s
def sF.sm(ok:P.Ok):aJ w:=P.VK P.qq (fun fs x=>[⟨List Env,fs,P.Ir x⟩]) fun x fs A s R o i ho k=>by
 have e:fs=P.Ir x:=o _ (.head _)
 subst e
 exact ok x A s R i ho k
end
end
section
open PySem PySem.W PySem.W.X PyProof.Rows PySem.Builtin.Str
noncomputable def tokOf:Value->Tok
 | .str _ t=>t
 | .int _ t=>t
 |_=>0
def uH(id:String)(args:(Nat->Tok)->List Value)(res:Tok->Value):aD w (Nat->Tok)where
 find c _ _:=match c with
  | .call _ ⟨as,_⟩=>some fun k=>tokOf (as.getD k .none)
  |_=>none
 code f:=.call (.builtin id) ⟨args f,[]⟩
 pre _:=[]
 r _ m:=.ok (.ret (res (m.1 0)))
 post _ _:=[]
theorem dm{k:Nat}{L:Led}(h:Sat (TW w) s L):Done (T:=TW w) s {s with toks:=k} L L:=il (k:=k) h fun _ _ e=>e
theorem sA{T:String}{name:Str}{id:String}{B:Builtin}{self:Value}{rest:List Value}{m:Made}(slot:Slot T name id)(hT:s.TypeIs self T)
  (entry:entryFor table id=some B)(args:argsOk id ⟨self::rest,[]⟩)(g:Gives (B ⟨self::rest,[]⟩) m)(h:m.post (fun v s'=>R (.ok (.ret v)) s') s):codeAny (Mo w) A (.call (.builtin id) ⟨self::rest,[]⟩) R s:=
 aB slot hT entry args (g pw w A R s h)
section
variable{T:String}{name:Str}{id:String}{B:Builtin}{self:(Nat->Tok)->Value}{rest:(Nat->Tok)->List Value}{res:Tok->Value}
theorem CY(slot:Slot T name id)(entry:entryFor table id=some B)(args:∀f,argsOk id ⟨self f::rest f,[]⟩)(hT:∀f (s:Shared),s.TypeIs (self f) T)(g:∀f,∃m,Gives (B ⟨self f::rest f,[]⟩) m/\∀(Q:Value->Shared->Prop) (s:Shared),(∀t k,Q (res t) {s with toks:=k})->m.post Q s):
  (uH (w:=w) id (fun f=>self f::rest f) res).Ok:=by
 refine aD.old fun f fs A s _ _ _ _ h=> ?_
 obtain⟨m,g1,g2⟩:=g f
 refine sA slot (hT f s) entry (args f) g1 (g2 _ s fun t k=> ?_)
 exact⟨(fun _=>t,fun _=>[]),rfl,rfl,dm h⟩
def ew(slot:Slot T name id)(entry:entryFor table id=some B)(args:∀f,argsOk id ⟨self f::rest f,[]⟩)(hT:∀f (s:Shared),s.TypeIs (self f) T)(g:∀f,∃m,Gives (B ⟨self f::rest f,[]⟩) m/\∀(Q:Value->Shared->Prop) (s:Shared),(∀t k,Q (res t) {s with toks:=k})->m.post Q s):aJ w:=
 (uH id (fun f=>self f::rest f) res).sm (CY slot entry args hT g)
end
abbrev bK(z:Str):Prop:=z.length<=sizeLine
def bz(x y z:Str)(h:x++y=z)(hz:bK z):aJ w:=
 ew (self:=fun f=>.str x (f 0)) (rest:=fun f=>[.str y (f 1)]) (res:=fun t=>.str z t) F.slot_str_add F.entry_str_add (fun _=>F.args_str_add_2 _ _) (fun _ s=>typeIs_str s _ _)
  fun f=>⟨_,gives_str_add x y (f 0) (f 1),fun Q s k=>by
   subst h
   by_cases hx:x.length=0
   ·rw[if_pos (by simpa using hx)]
    have:x++y=y:=by
     obtain⟨xs⟩:=x
     have:xs= #[]:=by simpa[Str.length]using hx
     subst this
     show(⟨#[]++y.cps⟩:Str)=y
     simp
    rw[this]at k
    exact k (f 1) s.toks
   ·rw[if_neg (by simpa using hx)]
    by_cases hy:y.length=0
    ·rw[if_pos (by simpa using hy)]
     have:x++y=x:=by
      obtain⟨ys⟩:=y
      have:ys= #[]:=by simpa[Str.length]using hy
      subst this
      show(⟨x.cps++ #[]⟩:Str)=x
      simp
     rw[this]at k
     exact k (f 0) s.toks
    ·rw[if_neg (by simpa using hy)]
     exact⟨hz,k _ _⟩⟩
def c9(x:Str)(i:Int)(c:Nat)(hr:(decide (i< -(2^63:Int))||decide (i>=2^63))=false)(h:(seqIndex? i x.length).bind (x.cps[·]?)=some c):aJ w:=
 ew (self:=fun f=>.str x (f 0)) (rest:=fun f=>[.int i (f 1)]) (res:=fun t=>.str ⟨#[c]⟩ t) F.slot_str_getitem F.entry_str_getitem (fun _=>F.args_str_getitem_2 _ _) (fun _ s=>typeIs_str s _ _)
  fun f=>⟨_,gives_str_getitem x i (f 0) (f 1) c hr h,fun Q s k=>⟨by show 1<=sizeLine;decide,k _ _⟩⟩
section
variable(x y:Str)
def ko(b:Bool)(h:decide (x=y)=b):aJ w:=
 ew (self:=fun f=>.str x (f 0)) (rest:=fun f=>[.str y (f 1)]) (res:=fun _=>.bool b) F.slot_str_eq F.entry_str_eq (fun _=>F.args_str_eq_2 _ _) (fun _ s=>typeIs_str s _ _)
  fun f=>⟨_,gives_str_eq x y (f 0) (f 1),fun Q s k=>by
   have e:(x.cps.toList==y.cps.toList)=b:=by
    rw[<-h]
    obtain⟨xs⟩:=x;obtain⟨ys⟩:=y
    rw[Bool.eq_iff_iff]
    simp
   rw[e]
   exact k 0 s.toks⟩
def s7(b:Bool)(h:(!decide (x=y))=b):aJ w:=
 ew (self:=fun f=>.str x (f 0)) (rest:=fun f=>[.str y (f 1)]) (res:=fun _=>.bool b) F.slot_str_ne F.entry_str_ne (fun _=>F.args_str_ne_2 _ _) (fun _ s=>typeIs_str s _ _)
  fun f=>⟨_,gives_str_ne x y (f 0) (f 1),fun Q s k=>by
   have e:(x.cps.toList !=y.cps.toList)=b:=by
    rw[<-h]
    obtain⟨xs⟩:=x;obtain⟨ys⟩:=y
    rw[Bool.eq_iff_iff]
    simp[bne]
   rw[e]
   exact k 0 s.toks⟩
def s8(n:Int)(h:(match occurrences x y 0 x.length 1 with|i::_=>(i:Int)|[]=> -1)=n):aJ w:=
 ew (self:=fun f=>.str x (f 0)) (rest:=fun f=>[.str y (f 1)]) (res:=fun t=>.int n t) F.slot_str_find F.entry_str_find (fun _=>F.args_str_find_2 _ _) (fun _ s=>typeIs_str s _ _)
  fun f=>⟨.int n,by rw[<-h];exact gives_str_find x y (f 0) (f 1),fun Q s k=>k _ _⟩
def o4(i n:Int)(h:(match occurrences x y (fromIndex x.length i) x.length 1 with|k::_=>(k:Int)|[]=> -1)=n):aJ w:=
 ew (self:=fun f=>.str x (f 0)) (rest:=fun f=>[.str y (f 1),.int i (f 2)]) (res:=fun t=>.int n t) F.slot_str_find F.entry_str_find (fun _=>F.args_str_find_3 _ _ _) (fun _ s=>typeIs_str s _ _)
  fun f=>⟨.int n,by rw[<-h];exact gives_str_find_from x y i (f 0) (f 1) (f 2),fun Q s k=>k _ _⟩
end
noncomputable def hA(l:Option Int)(t:Tok):Value:=match l with
 |none=>.none
 |some i=>.int i t
def G7(l u:Option Int)(t1 t2:Tok):Obj:={cls:=.type "slice",data:=.fields #[hA l t1,hA u t2,.none]}
section
variable(x:Str)(l u:Option Int)(z:Str)
def KO:aD w (Tok×Addr×Tok×Tok)where
 find c pre _:=match c,pre with
  | .call _ ⟨[.str _ t,_],_⟩,[(a,⟨_,_,.fields vs,_⟩)]=>match vs.toList with
   |[p,q,_]=>some (t,a,tokOf p,tokOf q)
   |_=>none
  |_,_=>none
 code y:=.call (.builtin "str.__getitem__") ⟨[.str x y.1,.ref y.2.1],[]⟩
 pre y:=[(y.2.1,G7 l u y.2.2.1 y.2.2.2)]
 r _ m:=.ok (.ret (.str z (m.1 0)))
 post y _:=[G7 l u y.2.2.1 y.2.2.2]
theorem Ha(h:Txt.slice x l u=z)(hz:bK z):(KO (w:=w) x l u z).Ok:=by
 refine aD.old fun y fs A s _ _ _ _ hs=> ?_
 obtain⟨t,a,t1,t2⟩:=y
 have ho:s.heap.get? a=some (G7 l u t1 t2):=hs.at (.head _) (aa rfl)
 refine aS F.slot_str_getitem (typeIs_str s x t) F.entry_str_getitem (F.args_str_getitem_2 _ _) (meets_str_getitem_slice x t a (l.map fun i=>(i,t1)) (u.map fun i=>(i,t2)) none rfl) ⟨⟨_,ho,rfl,?_⟩,?_⟩
 ·cases l<;>cases u<;>rfl
 ·have e1:(l.map fun i=>(i,t1)).map (·.1)=l:=by cases l<;>rfl
  have e2:(u.map fun i=>(i,t2)).map (·.1)=u:=by cases u<;>rfl
  have hc:((((none:Option (Int×Tok)).map (·.1)).getD 1==1)&&(slicePicked x (l.map fun i=>(i,t1)) (u.map fun i=>(i,t2)) none).length==x.length)=((1:Int)==1&&(strSliceIndices l u 1 x.length).length==x.length):=by
   unfold slicePicked;rw[e1,e2];rfl
  unfold sliceMade
  rw[hc]
  unfold Txt.slice at h
  split
  ·rename_i hc
   rw[if_pos hc]at h
   subst h
   exact⟨(fun _=>t,fun _=>[]),rfl,rfl,Done.refl hs⟩
  ·rename_i hc
   rw[if_neg hc]at h
   have ez:(⟨((slicePicked x (l.map fun i=>(i,t1)) (u.map fun i=>(i,t2)) none).filterMap (x.cps[·]?)).toArray⟩:Str)=z:=by
    unfold slicePicked;rw[e1,e2];exact h
   rw[ez]
   exact⟨hz,(fun _=>s.toks,fun _=>[]),rfl,rfl,dm hs⟩
def km(h:Txt.slice x l u=z)(hz:bK z):aJ w:=(KO x l u z).sm (Ha x l u z h hz)
end
theorem u7(x:Str)(n:Int)(hn:(x.length:Int)=n)(hx:bK x):(uH (w:=w) "len" (fun f=>[.str x (f 0)]) fun t=>.int n t).Ok:=by
 refine aD.old fun f fs A s _ _ _ _ h=> ?_
 subst hn
 have e:sizeLine=16777216:=by decide
 have YX:x.length<=16777216:=e▸hx
 exact iU (n:=(x.length:Int)) (S:=fun _ R s=>(Made.int x.length).post (fun v s'=>R (.ok (.ret v)) s') s) (typeIs_str s x (f 0)) F.slot_str_len F.entry_str_len (F.args_str_len_1 _) (fun prog w A R s h=>gives_str_len x (f 0) prog w A R s h) (by lia) (by lia) (fun Q' E hq=>hq)
  ⟨(fun _=>s.toks+1,fun _=>[]),rfl,rfl,dm h⟩
def GQ(x:Str)(n:Int)(hn:(x.length:Int)=n)(hx:bK x):aJ w:=(uH "len" (fun f=>[.str x (f 0)]) fun t=>.int n t).sm (u7 x n hn hx)
theorem EZ(h:Heap)(k:∀a o,(TW w).at_ a=some o->h.get? a=some o):OwnTail h [.type "Exception",.type "BaseException",.type "object"] [.ref 31,.type "Exception",.type "BaseException",.type "object"]:=by
 have e:=k 30 (Sj w.params) (by kernel_rfl)
 exact OwnTail.own (k 31 (Si w.params) (by kernel_rfl)) (Heap.Ns.of_isNs (h:=h) (a:=30) (by unfold Heap.isNs;rw[e];kernel_rfl)) (by unfold Heap.nsMap;rw[e];kernel_rfl) .base
section
variable(rest:List Value)
theorem He(hr:rest.length<=sizeLine):(f6 (w:=w) 44 "Exception.__new__" rest).Ok:=by
 intro x fs A s Rz ii _ kk
 refine cQ (ot (w:=w) (C:=44) (by kernel_rfl:(TW w).at_ 44=some (Sh w.params)) F.excBase_Exception EZ rest hr (by kernel_rfl) ii.hs) fun r s' q=> ?_
 obtain⟨e,t,z,d⟩:=q
 exact wo z (kk ((fun k=>match k with|0=>e|_=>t,fun _=>[])) s' rfl d)
theorem Hm(hr:rest.length<=sizeLine):(f6 (w:=w) 56 "Exception.__new__" rest).Ok:=by
 intro x fs A s Rz ii _ kk
 refine cQ (ot (w:=w) (C:=56) (by kernel_rfl:(TW w).at_ 56=some (Sg w.params)) F.excBase_Exception EZ rest hr (by kernel_rfl) ii.hs) fun r s' q=> ?_
 obtain⟨e,t,z,d⟩:=q
 exact wo z (kk ((fun k=>match k with|0=>e|_=>t,fun _=>[])) s' rfl d)
noncomputable def EC(hr:rest.length<=sizeLine):aJ w:=(f6 44 "Exception.__new__" rest).sm (He rest hr)
noncomputable def Kv(hr:rest.length<=sizeLine):aJ w:=(f6 56 "Exception.__new__" rest).sm (Hm rest hr)
end
theorem HN(a:Value):[a].length<=sizeLine:=by show 1<=sizeLine;decide
section
variable(w:World)(k:Nat->Tok)(x:Str)(t:Tok)(d:Str)(td:Tok)(i:Int)(ti:Tok)(n:Int)(tn:Tok)
noncomputable def Xh:Obj:=aW #[aH w "resp" (k 0) (.str x t),aH w "dirname" (k 1) (.str d td),aH w "i" (k 2) (.int i ti),aH w "n" (k 3) (.int n tn)] 4
noncomputable def rZ(c:Str)(tc:Tok):Obj:=aW #[aH w "resp" (k 0) (.str x t),aH w "dirname" (k 1) (.str d td),aH w "i" (k 2) (.int i ti),aH w "n" (k 3) (.int n tn),aH w "c" (k 4) (.str c tc)] 5
end
noncomputable abbrev BY(w:World)(fr:Addr):Code:=cw (aK w 72 [5]) .none (dj w 72 fr)
abbrev du(i:Int):Prop:=(decide (i< -(2^63:Int))||decide (i>=2^63))=false
abbrev oJ(x:Str)(i:Int)(c:Nat):Prop:=(seqIndex? i x.length).bind (x.cps[·]?)=some c
section
variable(k:Nat->Tok)(x:Str)(t:Tok)(d:Str)(td:Tok)(i:Int)(ti:Tok)(n:Int)(tn:Tok)
theorem R5(fr:Addr)(n8:decide (i<n)=true)(c:Nat)(ho:du i)(hc:oJ x i c)(hq:decide ((⟨#[c]⟩:Str)=S "\"")=false)(d':Str)(qP:d++⟨#[c]⟩=d')(hz:bK d')(fs:List Env)(ν:Nu):
  aT 3 (.ok (.again (BY w fr))) [(fr,aW #[aH w "resp" (k 0) (.str x t),aH w "dirname" (k 1) (.str d' ((pr (ν 8)).fst 0)),aH w "i" (k 2) (.int (i+1) ((ν 4).fst 0)),aH w "n" (k 3) (.int n tn),aH w "c" ((ν 2).fst 0) (.str (Str.mk #[c]) ((pr (ν 1)).fst 0))] 5)]
   (bW w ν 100 none (some (10,fs)) (BY w fr) [(fr,Xh w k x t d td i ti n tn)] NO [K (kp i n true n8),K (c9 x i c ho hc),K (ko ⟨#[c]⟩ (S "\"") false hq),K (bz d ⟨#[c]⟩ d' qP hz)]):=by kernel_rfl
theorem R4(c0:Str)(wU:Tok)(fr:Addr)(n8:decide (i<n)=true)(c:Nat)(ho:du i)(hc:oJ x i c)(hq:decide ((⟨#[c]⟩:Str)=S "\"")=false)(d':Str)(qP:d++⟨#[c]⟩=d')(hz:bK d')(fs:List Env)(ν:Nu):
  aT 3 (.ok (.again (BY w fr))) [(fr,aW #[aH w "resp" (k 0) (.str x t),aH w "dirname" (k 1) (.str d' ((pr (ν 8)).fst 0)),aH w "i" (k 2) (.int (i+1) ((ν 4).fst 0)),aH w "n" (k 3) (.int n tn),aH w "c" (k 4) (.str (Str.mk #[c]) ((pr (ν 1)).fst 0))] 5)]
   (bW w ν 100 none (some (10,fs)) (BY w fr) [(fr,rZ w k x t d td i ti n tn c0 wU)] NO [K (kp i n true n8),K (c9 x i c ho hc),K (ko ⟨#[c]⟩ (S "\"") false hq),K (bz d ⟨#[c]⟩ d' qP hz)]):=by kernel_rfl
end
section
variable(k:Nat->Tok)(x:Str)(t:Tok)(d:Str)(td:Tok)(i:Int)(ti:Tok)(n:Int)(tn:Tok)(c0:Str)(wU:Tok)(fr:Addr)(n8:decide (i<n)=true)(c:Nat)(ho:du i)(hc:oJ x i c)(hq:decide ((⟨#[c]⟩:Str)=S "\"")=true)(h2:decide (i+1>=n)=false)(c2:Nat)(PW:du (i+1))(W4:oJ x (i+1) c2)
theorem R6(Tc:(!decide ((⟨#[c2]⟩:Str)=S "\""))=false)(d':Str)(qP:d++⟨#[c]⟩=d')(hz:bK d')(fs:List Env)(ν:Nu):
  aT 3 (.ok (.again (BY w fr))) [(fr,aW #[aH w "resp" (k 0) (.str x t),aH w "dirname" (k 1) (.str d' ((pr (ν 15)).fst 0)),aH w "i" (k 2) (.int (i+1+1) ((ν 13).fst 0)),aH w "n" (k 3) (.int n tn),aH w "c" (k 4) (.str (Str.mk #[c]) ((pr (ν 1)).fst 0))] 5)]
   (bW w ν 134 none (some (10,fs)) (BY w fr) [(fr,rZ w k x t d td i ti n tn c0 wU)] 0x41000041041040001001040041040041041001041041000041040001041001041040 [K (kp i n true n8),K (c9 x i c ho hc),K (ko ⟨#[c]⟩ (S "\"") true hq),K (KC (i+1) n false h2),K (c9 x (i+1) c2 PW W4),K (s7 ⟨#[c2]⟩ (S "\"") false Tc),K (bz d ⟨#[c]⟩ d' qP hz)]):=by kernel_rfl
theorem R7(Tc:(!decide ((⟨#[c2]⟩:Str)=S "\""))=true)(fs:List Env)(ν:Nu):
  aT 3 (.ok .next) [(fr,aW #[aH w "resp" (k 0) (.str x t),aH w "dirname" (k 1) (.str d td),aH w "i" (k 2) (.int (i+1) ((ν 4).fst 0)),aH w "n" (k 3) (.int n tn),aH w "c" (k 4) (.str (Str.mk #[c]) ((pr (ν 1)).fst 0))] 5)]
   (runC w ν 104 none (some (10,fs)) (BY w fr) [(fr,rZ w k x t d td i ti n tn c0 wU)] 0x1040041040041041001041041000041040001041001041040 [K (kp i n true n8),K (c9 x i c ho hc),K (ko ⟨#[c]⟩ (S "\"") true hq),K (KC (i+1) n false h2),K (c9 x (i+1) c2 PW W4),K (s7 ⟨#[c2]⟩ (S "\"") true Tc)]):=by kernel_rfl
end
def z0(o:Obj):List DictEntry:=match o.data with
 | .dict es _=>es.toList
 |_=>[]
noncomputable def z7:List DictEntry->Nat->DictEntry
 |[],_=>⟨0,.none,.none⟩
 |e::l,n=>match Nat.beq n 0 with
  |true=>e
  |false=>z7 l (Nat.pred n)
section
variable(o:Obj)(j:Nat)
def Cx:Tok:=tokOf (z7 (z0 o) j).key
def Yd:Value:=(z7 (z0 o) j).val
def jA:Tok:=tokOf (Yd o j)
end
def VH(k:Nat->Tok)(n:Nat)(x:Tok)(j:Nat):Tok:=match Nat.beq j n with
 |true=>x
 |false=>k j
theorem gn:sizeLine=16777216:=by decide
theorem f7{x:Str}{i c:Nat}{r:List Nat}(h:x.cps.toList.drop i=c::r):i<x.length/\oJ x (i:Int) c/\x.cps.toList.drop (i+1)=r:=by
 have hl:i<x.cps.toList.length:=by
  rcases Nat.lt_or_ge i x.cps.toList.length with q|q
  ·exact q
  ·rw[List.drop_eq_nil_of_le q]at h;cases h
 have WT:i<x.length:=by simpa[Str.length]using hl
 have hg:x.cps.toList[i]? =some c:=by
  have:=congrArg (fun l=>l[0]?) h
  simpa using this
 refine⟨WT,?_,?_⟩
 ·unfold oJ
  rw[seqIndex_of (by lia) (by lia)]
  simpa using hg
 ·have:=congrArg List.tail h
  simpa using this
theorem kW{x:Str}{i:Nat}(hx:bK x)(h:i<x.length+1):du (i:Int):=by
 have YX:x.length<=16777216:=gn▸(hx:x.length<=sizeLine)
 unfold du
 simp only[Bool.or_eq_false_iff,decide_eq_false_iff_not]
 lia
def quote(l:List Nat):List Nat:=l.flatMap fun c=>if c=34 then [34,34]else [c]
theorem Z8:S ""=⟨[].toArray⟩:=by decide
theorem Z7:S "\""=⟨#[34]⟩:=by decide
theorem jg(c:Nat):decide ((⟨#[c]⟩:Str)=S "\"")=decide (c=34):=by
 rw[Z7]
 congr 1
 simp
theorem ny(a b:List Nat):(⟨a.toArray⟩:Str)++(⟨b.toArray⟩:Str)=⟨(a++b).toArray⟩:=by
 show(⟨a.toArray++b.toArray⟩:Str)=_
 simp
theorem kA(d:List Nat)(c:Nat){n:Nat}(h:d.length<n)(hn:n<=16777216):bK ⟨(d++[c]).toArray⟩:=by
 show(d++[c]).toArray.size<=sizeLine
 rw[gn,List.size_toArray,List.length_append,List.length_singleton];lia
section
variable(x:Str)
theorem BX(hx:bK x)(t:Tok)(tn:Tok)(fr:Addr)(c2:Nat)(h2:c2≠34)(rest:List Nat)(fs:List Env)(A:Around)(k:Nat->Tok)(Q:Result->Shared->Prop):∀(l d:List Nat) (i:Nat) (td ti:Tok) (c0:Str) (wU:Tok) (s:Shared),
  x.cps.toList.drop i=quote l++34::c2::rest->d.length<=i->In w (some 10) true fs A s [(fr,rZ w k x t ⟨d.toArray⟩ td i ti x.length tn c0 wU)]->
  (∀(Yj tj Yk:Tok) (j:Nat) s',Done (T:=TW w) s s' [(fr,rZ w k x t ⟨d.toArray⟩ td i ti x.length tn c0 wU)] [(fr,rZ w k x t ⟨(d++l).toArray⟩ Yj j tj x.length tn ⟨#[34]⟩ Yk)]->Q (.ok .next) s')->codeAny (Mo w) A (BY w fr) Q s:=by
 have hz:x.length<=16777216:=gn▸(hx:x.length<=sizeLine)
 intro l
 induction l with
 |nil=>
  intro d i td ti c0 wU s h hd ii kk
  obtain⟨h1,hc,h⟩:=f7 (h:x.cps.toList.drop i=34::c2::rest)
  obtain⟨Zv,TC,_⟩:=f7 h
  exact ii.code (fun ν=>R7 k x t ⟨d.toArray⟩ td i ti x.length tn c0 wU fr (iu (by lia)) 34 (kW hx (by lia)) hc (by rw[jg];rfl) (iw (by lia)) c2 (kW (i:=i+1) hx (by lia)) TC (by rw[jg,decide_eq_false h2];rfl) fs ν) fun ν s' dd=>kk td ((ν 4).1 0) ((pr (ν 1)).1 0) (i+1) s' ((List.append_nil d).symm▸dd)
 |cons c l ih=>
  intro d i td ti c0 wU s h hd ii kk
  by_cases hq:c=34
  ·obtain⟨h1,hc,h⟩:=f7 (show x.cps.toList.drop i=34::34::(quote l++34::c2::rest) by rw[h,hq];rfl)
   obtain⟨Zv,TC,h⟩:=f7 h
   exact ii.turn (by kernel_rfl) (fun ν=>R6 k x t ⟨d.toArray⟩ td i ti x.length tn c0 wU fr (iu (by lia)) 34 (kW hx (by lia)) hc (by rw[jg];rfl) (iw (by lia)) 34 (kW (i:=i+1) hx (by lia)) TC (by rw[jg];rfl) ⟨(d++[34]).toArray⟩ (ny d [34]) (kA d 34 (cW hd h1) hz) fs ν)
    fun ν s' dd=>ih (d++[34]) (i+2) _ _ _ _ s' h (by rw[List.length_append];exact jJ (jK hd)) (ii.go dd) fun a b e j dB q=>kk a b e j dB (((List.append_assoc d [34] l).trans (congrArg (fun z=>d++z::l) hq.symm))▸dd.trans q)
  ·have Tb:quote (c::l)=c::quote l:=(List.flatMap_cons ..).trans (congrArg (·++_) (if_neg hq))
   obtain⟨h1,hc,h⟩:=f7 (show x.cps.toList.drop i=c::(quote l++34::c2::rest) by rw[h,Tb];rfl)
   exact ii.turn (by kernel_rfl) (fun ν=>R4 k x t ⟨d.toArray⟩ td i ti x.length tn c0 wU fr (iu (by lia)) c (kW hx (by lia)) hc (by rw[jg,decide_eq_false hq]) ⟨(d++[c]).toArray⟩ (ny d [c]) (kA d c (cW hd h1) hz) fs ν)
    fun ν s' dd=>ih (d++[c]) (i+1) _ _ _ _ s' h (by rw[List.length_append];exact jJ hd) (ii.go dd) fun a b e j dB q=>kk a b e j dB ((List.append_assoc d [c] l:_=d++c::l)▸dd.trans q)
noncomputable def PA(name:List Nat):aD w (Addr×Obj)where
 lv:=some 10
 bare:=true
 find _ pre _:=some (az pre 0)
 code y:=BY w y.1
 pre y:=[(y.1,Xh w (Cx y.2) x (jA y.2 0) (S "") (jA y.2 1) 5 (jA y.2 2) x.length (jA y.2 3))]
 r _ _:=.ok .next
 post y m:=[rZ w (VH (Cx y.2) 4 (m.1 4)) x (jA y.2 0) ⟨name.toArray⟩ (m.1 0) (m.1 1) (m.1 2) x.length (jA y.2 3) ⟨#[34]⟩ (m.1 3)]
theorem Lp(hx:bK x)(c:Nat)(l:List Nat)(hq:c≠34)(c2:Nat)(h2:c2≠34)(rest:List Nat)(h:x.cps.toList.drop 5=quote (c::l)++34::c2::rest):(PA (w:=w) x (c::l)).Ok:=by
 intro y fs A s Rz ii _ kk
 have Tb:quote (c::l)=c::quote l:=(List.flatMap_cons ..).trans (congrArg (·++_) (if_neg hq))
 rw[Tb]at h
 obtain⟨h1,hc,h⟩:=f7 (h:x.cps.toList.drop 5=c::(quote l++34::c2::rest))
 have hz:x.length<=16777216:=gn▸(hx:x.length<=sizeLine)
 exact ii.turn (by kernel_rfl) (fun ν=>R5 (Cx y.2) x (jA y.2 0) (S "") (jA y.2 1) 5 (jA y.2 2) x.length (jA y.2 3) y.1 (iu (by lia)) c (by decide) hc (by rw[jg,decide_eq_false hq]) ⟨([]++[c]).toArray⟩ (by rw[Z8];exact ny [] [c]) (kA [] c (n:=x.length) (cW (cY 5) h1) hz) fs ν)
  fun ν s' dd=>BX x hx (jA y.2 0) (jA y.2 3) y.1 c2 h2 rest fs A (VH (Cx y.2) 4 ((ν 2).1 0)) Rz l ([]++[c]) 6 _ _ _ _ s' h (by show 1<=6;decide) (In.go ii dd) fun a b e j dB q=>kk (fun k=>match k with|0=>a|1=>j|2=>b|3=>e|_=>(ν 2).1 0,fun _=>[]) dB rfl (dd.trans q)
def d5(n:Int):aD w Tok where
 find c _ _:=some (bV (aN c 1))
 code t:=.call (.builtin "int.__new__") ⟨[.type "int",.str x t],[]⟩
 pre _:=[]
 r _ m:=.ok (.ret (.int n (m.1 0)))
 post _ _:=[]
theorem vP(n:Int)(hl:x.length<=640)(hn:PySem.intText? x=some n):(d5 (w:=w) x n).Ok:=by
 refine aD.old fun t fs A s _ _ _ _ h=> ?_
 refine codeAny_call_builtin (by kernel_rfl) F.entry_int_new ?_
 rw[F.newCall_int_1]
 have g:Gives (PySem.Builtin.«int.__new__» ⟨[.type "int",.str x t],[]⟩) (.int n):=PySem.W.KIN.gives_text hl hn
 exact aX (g pw w A (fun r s'=>∃μ,(d5 (w:=w) x n).r t μ=r/\((d5 (w:=w) x n).post t μ).length=((d5 (w:=w) x n).pre t).length/\Done (T:=TW w) s s' ((d5 (w:=w) x n).pre t++(d5 (w:=w) x n).tail t) ((d5 (w:=w) x n).fin t μ)) s ⟨(fun _=>s.toks,fun _=>[]),rfl,rfl,dm h⟩)
def Bt(n:Int)(hl:x.length<=640)(hn:PySem.intText? x=some n):aJ w:=(d5 x n).sm (vP x n hl hn)
end
section
variable(x y p0 p1 p2 p3 p4:Str)
def xF:aD w (Tok×Tok)where
 find c _ _:=some ((bV (aN c 0)),(bV (aN c 1)))
 code t:=.call (.builtin "str.split") ⟨[.str x t.1,.str y t.2],[]⟩
 pre _:=[]
 r _ m:=.ok (.ret (.ref (m.1 0)))
 post _ _:=[]
 new _ m:=[(m.1 0,ah #[.str p0 (m.1 1),.str p1 (m.1 1+1),.str p2 (m.1 1+1+1),.str p3 (m.1 1+1+1+1),.str p4 (m.1 1+1+1+1+1)] 0)]
theorem xE(h1:(decide (x.length<y.length)||decide (PySem.Builtin.Str.strKind x<PySem.Builtin.Str.strKind y))=false)(hy:(y.length==0)=false)(hf:(occurrences x y 0 x.length (x.length+1)).isEmpty=false)(hx:bK x)(hp:partsBetween x (occurrences x y 0 x.length (x.length+1)) y.length=[p0,p1,p2,p3,p4]):(xF (w:=w) x y p0 p1 p2 p3 p4).Ok:=by
 refine aD.old fun t fs A s _ _ _ _ h=> ?_
 refine aS F.slot_str_split (typeIs_str s x _) F.entry_str_split (F.args_str_split_2 _ _) (meets_str_split_sep x y t.1 t.2 h1 hy hf hx (by rw[hp,gn];simp)) ?_
 rw[hp]
 refine⟨(fun k=>match k with|0=>s.heap.objs.size|_=>s.toks,fun _=>[]),rfl,rfl,?_⟩
 exact gw (k:=s.toks+5) h (fun _ _ e=>e) (o:=ah _ 0) rfl rfl (ar _ _)
def Bp(h1:(decide (x.length<y.length)||decide (PySem.Builtin.Str.strKind x<PySem.Builtin.Str.strKind y))=false)(hy:(y.length==0)=false)(hf:(occurrences x y 0 x.length (x.length+1)).isEmpty=false)(hx:bK x)(hp:partsBetween x (occurrences x y 0 x.length (x.length+1)) y.length=[p0,p1,p2,p3,p4]):aJ w:=(xF x y p0 p1 p2 p3 p4).sm (xE x y p0 p1 p2 p3 p4 h1 hy hf hx hp)
end
theorem Jy(a:String)(h:(S a).length<=100:=by decide):bK (S a):=bP h (by decide)
theorem BZ(x:Str)(hx:bK x)(t:Tok)(h3:Txt.slice x none (some 3)=S "257")(h5:Txt.slice x (some 3) (some 5)=S " \"")(name:List Nat)(ok:(PA (w:=w) x name).Ok)(fs:List Env)(ν:Nu):
  aT 0 (.ok (.ret (.str (Str.mk name.toArray) ((pr (ν 17)).fst 0)))) []
   (bX w ν 115 none (some (12,fs)) 72 [.str x t] [] 0xc20020c30000430000c30030c0001000082001000081001040 [K (km x none (some 3) (S "257") h3 (Jy "257")),K (km x (some 3) (some 5) (S " \"") h5 (Jy " \"")),K (GQ x x.length rfl hx),K ((PA x name).sm ok)]):=by kernel_rfl
theorem B0(x:Str)(t:Tok)(h3:Txt.slice x none (some 3)=S "229")(fs:List Env)(ν:Nu):
  aT 21 (.error (.ref ((pr (ν 6)).fst 0))) [((ν 8).fst 0,⟨(.type "traceback"),none,(.fields (.none::(.ref ((ν 0).fst 0)):: .none:: .none:: .none::((ν 8).snd.fst 0)).toArray),#[]⟩),((ν 7).fst 0,ae #[(.str x t)] 0),((pr (ν 6)).fst 0,⟨(.ref 44),none,(.fields #[(.ref ((ν 7).fst 0)),(.ref ((ν 8).fst 0)),.none,.none,(.bool false),.none]),#[]⟩)]
   (bX w ν 110 none (some (12,fs)) 72 [.str x t] [] 0x2080082002082082001001000000000040040040000000000000002000040002040041040 [K (km x none (some 3) (S "229") h3 (Jy "229")),K (EC [.str x t] (HN _))]):=by kernel_rfl
abbrev qn(x y:Str)(n:Int):Prop:=(match occurrences x y 0 x.length 1 with|i::_=>(i:Int)|[]=> -1)=n
abbrev qm(x y:Str)(i n:Int):Prop:=(match occurrences x y (fromIndex x.length i) x.length 1 with|k::_=>(k:Int)|[]=> -1)=n
section
variable(x:Str)(t:Tok)(pe:Addr)
theorem B3(h3:Txt.slice x none (some 3)=S "257")(fs:List Env)(ν:Nu):
  aT 21 (.error (.ref ((pr (ν 7)).fst 0))) [((ν 9).fst 0,⟨(.type "traceback"),none,(.fields (.none::(.ref ((ν 0).fst 0)):: .none:: .none:: .none::((ν 9).snd.fst 0)).toArray),#[]⟩),((ν 8).fst 0,ae #[(.str x t)] 0),((pr (ν 7)).fst 0,⟨(.ref 44),none,(.fields #[(.ref ((ν 8).fst 0)),(.ref ((ν 9).fst 0)),.none,.none,(.bool false),.none]),#[]⟩)]
   (bX w ν 114 none (some (12,fs)) 65 [.str x t,.ref pe] [] 0x82002080082082080040040000000001001001000000000000000080001000081001041001040 [K (km x none (some 3) (S "257") h3 (Jy "257")),K (EC [.str x t] (HN _))]):=by kernel_rfl
theorem B1(h3:Txt.slice x none (some 3)=S "229")(l:Int)(hl:qn x (S "(") l)(JQ:decide (l<0)=false)(r:Int)(hr:qm x (S ")") (l+1) r)(S9:decide (r<0)=false)(c d:Nat)(io:du (l+1))(ic:oJ x (l+1) c)(jo:du (r-1))(jc:oJ x (r-1) d)(hZ:(!decide ((⟨#[c]⟩:Str)=⟨#[d]⟩))=true)(fs:List Env)(ν:Nu):
  aT 21 (.error (.ref ((pr (ν 26)).fst 0))) [((ν 28).fst 0,⟨(.type "traceback"),none,(.fields (.none::(.ref ((ν 0).fst 0)):: .none:: .none:: .none::((ν 28).snd.fst 0)).toArray),#[]⟩),((ν 27).fst 0,ae #[(.str x t)] 0),((pr (ν 26)).fst 0,⟨(.ref 56),none,(.fields #[(.ref ((ν 27).fst 0)),(.ref ((ν 28).fst 0)),.none,.none,(.bool false),.none]),#[]⟩)]
   (bX w ν 198 none (some (12,fs)) 65 [.str x t,.ref pe] [] 0x2080082002082082001001000000000040040040000000000000002000041001002080040082001042082000040082001042082080001080001000081001041001040 [K (km x none (some 3) (S "229") h3 (Jy "229")),K (s8 x (S "(") l hl),K (kp l 0 false JQ),K (o4 x (S ")") (l+1) r hr),K (kp r 0 false S9),K (c9 x (l+1) c io ic),K (c9 x (r-1) d jo jc),K (s7 ⟨#[c]⟩ ⟨#[d]⟩ true hZ),K (Kv [.str x t] (HN _))]):=by kernel_rfl
theorem B2(h:Str)(th:Tok)(k:Int)(tk:Tok)(pn:Nat)(h3:Txt.slice x none (some 3)=S "229")(l:Int)(hl:qn x (S "(") l)(JQ:decide (l<0)=false)(r:Int)(hr:qm x (S ")") (l+1) r)(S9:decide (r<0)=false)(c:Nat)(io:du (l+1))(ic:oJ x (l+1) c)(jo:du (r-1))(jc:oJ x (r-1) c)(hZ:(!decide ((⟨#[c]⟩:Str)=⟨#[c]⟩))=false)(y:Str)(hy:Txt.slice x (some (l+1)) (some r)=y)(HW:bK y)(p0 p1 p2 p3 p4:Str)(h1:(decide (y.length<(⟨#[c]⟩:Str).length)||decide (PySem.Builtin.Str.strKind y<PySem.Builtin.Str.strKind ⟨#[c]⟩))=false)(YV:((⟨#[c]⟩:Str).length==0)=false)(hf:(occurrences y ⟨#[c]⟩ 0 y.length (y.length+1)).isEmpty=false)(hp:partsBetween y (occurrences y ⟨#[c]⟩ 0 y.length (y.length+1)) (⟨#[c]⟩:Str).length=[p0,p1,p2,p3,p4])(n:Int)(Ia:p3.length<=640)(hn:PySem.intText? p3=some n)(fs:List Env)(ν:Nu):
  aT 1705 (.ok (.ret (.ref ((ν 43).fst 0)))) [((ν 43).fst 0,ae #[(.str h th),(.int n ((pr (ν 41)).fst 0))] 0),(pe,ae #[.str h th,.int k tk] pn)]
   (bX w ν 273 none (some (12,fs)) 65 [.str x t,.ref pe] [(pe,ae #[.str h th,.int k tk] pn)] 0x41041000000400410010411000041001450051451000410400401000041000010010030c0002080082001040040082001002080041082080001002080041082080001080040002040041001040 [K (km x none (some 3) (S "229") h3 (Jy "229")),K (s8 x (S "(") l hl),K (kp l 0 false JQ),K (o4 x (S ")") (l+1) r hr),K (kp r 0 false S9),K (c9 x (l+1) c io ic),K (c9 x (r-1) c jo jc),K (s7 ⟨#[c]⟩ ⟨#[c]⟩ false hZ),K (km x (some (l+1)) (some r) y hy HW),K (c9 x (l+1) c io ic),K (Bp y ⟨#[c]⟩ p0 p1 p2 p3 p4 h1 YV hf HW hp),K (Bt p3 n Ia hn)]):=by kernel_rfl
end
def IM(C tb args e L:Addr)(xs:List Value)(pl:List Value):Led:=[(tb,Bk .none L pl),(args,ae xs.toArray 0),(e,{cls:=.ref C,data:=.fields #[.ref args,.ref tb,.none,.none,.bool false,.none]})]
def cR(i:Nat)(c:Code):Tok:=match c with
 | .call _ ⟨as,_⟩=>tokOf (as.getD i .none)
 |_=>0
def yr(i:Nat)(c:Code):Addr:=match c with
 | .call _ ⟨as,_⟩=>match as.getD i .none with
  | .ref a=>a
  |_=>0
 |_=>0
noncomputable def p7:List Value->Nat->Value
 |[],_=>.none
 |e::l,n=>match Nat.beq n 0 with
  |true=>e
  |false=>p7 l (Nat.pred n)
def Q3(o:Obj)(i:Nat):Value:=match o.data with
 | .seq xs _=>p7 xs.toList i
 |_=>.none
def bG(o:Obj)(i:Nat):Tok:=tokOf (Q3 o i)
noncomputable def bp(o:Obj):Nat:=match o.data with
 | .seq _ n=>n
 |_=>0
structure qL(w:World)(x:Str)(name:List Nat):Prop where
 hx:bK x
 h3:Txt.slice x none (some 3)=S "257"
 h5:Txt.slice x (some 3) (some 5)=S " \""
 ok:(PA (w:=w) x name).Ok
section
variable(x:Str)(name:List Nat)
def EX:aD w Tok where
 lv:=some 12
 bare:=true
 find c _ _:=some (cR 0 c)
 code t:=.call (.ref 72) ⟨[.str x t],[]⟩
 pre _:=[]
 r _ m:=.ok (.ret (.str ⟨name.toArray⟩ (m.1 0)))
 post _ _:=[]
theorem yF(q:qL w x name):(EX (w:=w) x name).Ok:=by
 intro t fs A s Rz ii _ kk
 exact aV (rm:=some (12,fs)) (fun ν=>BZ x q.hx t q.h3 q.h5 name q.ok fs ν) (ii.hh rfl) ii.hr ii.hf ii.hs fun ν s' d=>kk ((fun _=>(pr (ν 17)).1 0,fun _=>[])) s' rfl d
def kz(q:qL w x name):aJ w:=(EX x name).sm (yF x name q)
end
section
variable(x:Str)
def yE:aD w Tok where
 lv:=some 12
 bare:=true
 find c _ _:=some (cR 0 c)
 code t:=.call (.ref 72) ⟨[.str x t],[]⟩
 pre _:=[]
 r _ m:=.error (.ref (m.1 0))
 post _ _:=[]
 new t m:=IM 44 (m.1 2) (m.1 1) (m.1 0) (m.1 3) [.str x t] (m.2 0)
theorem yD(h3:Txt.slice x none (some 3)=S "229"):(yE (w:=w) x).Ok:=by
 intro t fs A s Rz ii _ kk
 exact aV (rm:=some (12,fs)) (fun ν=>B0 x t h3 fs ν) (ii.hh rfl) ii.hr ii.hf ii.hs fun ν s' d=>kk ((fun k=>match k with|0=>(pr (ν 6)).1 0|1=>(ν 7).1 0|2=>(ν 8).1 0|_=>(ν 0).1 0,fun _=>(ν 8).2.1 0)) s' rfl d
def xW(h3:Txt.slice x none (some 3)=S "229"):aJ w:=(yE x).sm (yD x h3)
def yJ:aD w (Tok×Addr)where
 lv:=some 12
 bare:=true
 find c _ _:=some (cR 0 c,yr 1 c)
 code t:=.call (.ref 65) ⟨[.str x t.1,.ref t.2],[]⟩
 pre _:=[]
 r _ m:=.error (.ref (m.1 0))
 post _ _:=[]
 new t m:=IM 44 (m.1 2) (m.1 1) (m.1 0) (m.1 3) [.str x t.1] (m.2 0)
theorem yI(h3:Txt.slice x none (some 3)=S "257"):(yJ (w:=w) x).Ok:=by
 intro t fs A s Rz ii _ kk
 exact aV (rm:=some (12,fs)) (fun ν=>B3 x t.1 t.2 h3 fs ν) (ii.hh rfl) ii.hr ii.hf ii.hs fun ν s' d=>kk ((fun k=>match k with|0=>(pr (ν 7)).1 0|1=>(ν 8).1 0|2=>(ν 9).1 0|_=>(ν 0).1 0,fun _=>(ν 9).2.1 0)) s' rfl d
def G6(h3:Txt.slice x none (some 3)=S "257"):aJ w:=(yJ x).sm (yI x h3)
end
structure mf(x:Str):Prop where
 h3:Txt.slice x none (some 3)=S "229"
 more:E4 fun l r c d=>qn x (S "(") l/\decide (l<0)=false/\qm x (S ")") (l+1) r/\decide (r<0)=false/\du (l+1)/\oJ x (l+1) c/\du (r-1)/\oJ x (r-1) d/\(!decide ((⟨#[c]⟩:Str)=⟨#[d]⟩))=true
def yH(x:Str):aD w (Tok×Addr)where
 lv:=some 12
 bare:=true
 find c _ _:=some (cR 0 c,yr 1 c)
 code t:=.call (.ref 65) ⟨[.str x t.1,.ref t.2],[]⟩
 pre _:=[]
 r _ m:=.error (.ref (m.1 0))
 post _ _:=[]
 new t m:=IM 56 (m.1 2) (m.1 1) (m.1 0) (m.1 3) [.str x t.1] (m.2 0)
theorem yG(x:Str)(q:mf x):(yH (w:=w) x).Ok:=by
 intro t fs A s Rz ii _ kk
 obtain⟨l,r,c,d,a1,a2,a3,a4,a5,a6,a7,a8,a9⟩:=q.more
 exact aV (rm:=some (12,fs)) (fun ν=>B1 x t.1 t.2 q.h3 l a1 a2 r a3 a4 c d a5 a6 a7 a8 a9 fs ν) (ii.hh rfl) ii.hr ii.hf ii.hs fun ν s' d=>kk ((fun k=>match k with|0=>(pr (ν 26)).1 0|1=>(ν 27).1 0|2=>(ν 28).1 0|_=>(ν 0).1 0,fun _=>(ν 28).2.1 0)) s' rfl d
def xX(x:Str)(q:mf x):aJ w:=(yH x).sm (yG x q)
structure iA(x:Str)(n:Int):Prop where
 h3:Txt.slice x none (some 3)=S "229"
 more:E9 fun l r c y p0 p1 p2 p3 p4=>qn x (S "(") l/\decide (l<0)=false/\qm x (S ")") (l+1) r/\decide (r<0)=false/\du (l+1)/\oJ x (l+1) c/\du (r-1)/\oJ x (r-1) c/\
  Txt.slice x (some (l+1)) (some r)=y/\bK y/\(decide (y.length<(⟨#[c]⟩:Str).length)||decide (PySem.Builtin.Str.strKind y<PySem.Builtin.Str.strKind ⟨#[c]⟩))=false/\(occurrences y ⟨#[c]⟩ 0 y.length (y.length+1)).isEmpty=false/\
  partsBetween y (occurrences y ⟨#[c]⟩ 0 y.length (y.length+1)) (⟨#[c]⟩:Str).length=[p0,p1,p2,p3,p4]/\p3.length<=640/\PySem.intText? p3=some n
section
variable(x:Str)(h:Str)(k n:Int)
def EY:aD w (Tok×Addr×Obj)where
 lv:=some 12
 bare:=true
 find c pre _:=some (cR 0 c,(az pre 0))
 code t:=.call (.ref 65) ⟨[.str x t.1,.ref t.2.1],[]⟩
 pre t:=[(t.2.1,ae #[.str h (bG t.2.2 0),.int k (bG t.2.2 1)] (bp t.2.2))]
 r _ m:=.ok (.ret (.ref (m.1 0)))
 post t _:=[ae #[.str h (bG t.2.2 0),.int k (bG t.2.2 1)] (bp t.2.2)]
 new t m:=[(m.1 0,ae #[.str h (bG t.2.2 0),.int n (m.1 1)] 0)]
theorem yK(q:iA x n):(EY (w:=w) x h k n).Ok:=by
 intro t fs A s Rz ii _ kk
 obtain⟨l,r,c,y,p0,p1,p2,p3,p4,a1,a2,a3,a4,a5,a6,a7,a8,b1,b2,b3,b4,b5,b6,b7⟩:=q.more
 exact aV (rm:=some (12,fs)) (fun ν=>B2 x t.1 t.2.1 h _ k _ _ q.h3 l a1 a2 r a3 a4 c a5 a6 a7 a8 (by simp) y b1 b2 p0 p1 p2 p3 p4 b3 (by rfl) b4 b5 n b6 b7 fs ν) (ii.hh rfl) ii.hr ii.hf ii.hs fun ν s' d=>kk ((fun k=>match k with|0=>(ν 43).1 0|_=>(pr (ν 41)).1 0,fun _=>[])) s' rfl (d.perm (List.Perm.swap _ _ _))
def xY(q:iA x n):aJ w:=(EY x h k n).sm (yK x h k n q)
end
section
set_option backward.match.sparseCases true
section
variable(v:Value)
noncomputable def kf:Sem Value:=do
 let some r<-callSpecial? v "__str__"|unsupported "internal:no-__str__"
 if(<-asStr? r).isNone then
  rule "str-of.not-a-str";raiseError "TypeError" s!"__str__ returned non-string (type {← typeNameOf r})"
 pure r
noncomputable def gY:Sem Value:=do
 let some r<-PySem.W.Fast.tw9201129301070521445 v "__str__" []|unsupported "internal:no-__str__"
 if(<-asStr? r).isNone then
  rule "str-of.not-a-str";raiseError "TypeError" s!"__str__ returned non-string (type {← typeNameOf r})"
 pure r
theorem q7:kf v=gY v:=by
 unfold kf gY
 rw[PySem.W.Fast.te9201129301070521445]
end
theorem u6(e:Addr):PySem.Builtin.Str.strOf (.ref e)=(cRoomFor "str" [.ref e]>>=fun _=>kf (.ref e)):=rfl
section
variable(e args:Addr)(x:Str)(t:Tok)(b c d:Value)(b1:Bool)(f:Value)(hd:Option Value)
theorem QZ(fs:List Env)(ν:Nu):
  aT 3 (.ok (.str x t)) [(e,{cls:=.ref 44,data:=.fields #[.ref args,b,c,d,.bool b1,f]}),(args,ae #[.str x t] 0)]
   (gh w ν 55 hd none (gY (.ref e)) [(e,{cls:=.ref 44,data:=.fields #[.ref args,b,c,d,.bool b1,f]}),(args,ae #[.str x t] 0)] 0x2040040000000001 []):=by kernel_rfl
theorem Q0(fs:List Env)(ν:Nu):
  aT 3 (.ok (.str x t)) [(e,{cls:=.ref 56,data:=.fields #[.ref args,b,c,d,.bool b1,f]}),(args,ae #[.str x t] 0)]
   (gh w ν 55 hd none (gY (.ref e)) [(e,{cls:=.ref 56,data:=.fields #[.ref args,b,c,d,.bool b1,f]}),(args,ae #[.str x t] 0)] 0x2040040000000001 []):=by kernel_rfl
end
noncomputable def Du(C args:Addr)(b c d:Value)(b1:Bool)(f:Value):Obj:={cls:=.ref C,data:=.fields #[.ref args,b,c,d,.bool b1,f]}
def bH(o:Obj)(i:Nat):Value:=match o.data with
 | .fields xs=>p7 xs.toList i
 |_=>.none
def boolOf:Value->Bool
 | .bool b=>b
 |_=>false
def nA(C:Addr)(x:Str):aD w ((Addr×Obj)×(Addr×Obj))where
 lv:=some 1
 find _ pre _:=some ((az pre 0),(az pre 1))
 code y:=.call (.builtin "str.__new__") ⟨[.type "str",.ref y.1.1],[]⟩
 pre y:=[(y.1.1,Du C y.2.1 (bH y.1.2 1) (bH y.1.2 2) (bH y.1.2 3) (boolOf (bH y.1.2 4)) (bH y.1.2 5)),(y.2.1,ae #[.str x (bG y.2.2 0)] 0)]
 r y _:=.ok (.ret (.str x (bG y.2.2 0)))
 post y _:=[Du C y.2.1 (bH y.1.2 1) (bH y.1.2 2) (bH y.1.2 3) (boolOf (bH y.1.2 4)) (bH y.1.2 5),ae #[.str x (bG y.2.2 0)] 0]
theorem mu(C:Addr)(x:Str){n hs:Nat}(S7:∀(e args:Addr) (t:Tok) (b c d:Value) (b1:Bool) (f:Value) (hd:Option Value) (ν:Nu),aT 3 (.ok (.str x t)) [(e,Du C args b c d b1 f),(args,ae #[.str x t] 0)] (gh w ν n hd none (gY (.ref e)) [(e,Du C args b c d b1 f),(args,ae #[.str x t] 0)] hs [])):(nA (w:=w) C x).Ok:=by
 refine aD.old fun y fs A s hr hf _ _ h=> ?_
 have hu:A.in1.units<cLine:=by
  have:=hr.1.units
  show A.units+1<9900
  lia
 refine codeAny_call_builtin (by kernel_rfl) F.entry_str_new ?_
 rw[F.newCall_str_1]
 refine aX ?_
 rw[str_new_tree]
 refine aw (aX ?_)
 refine aw (wpAny_of_eq isSubtype_str_str ?_)
 refine aw ?_
 rw[u6]
 refine aw (wpAny_cRoomFor hu ?_)
 rw[q7]
 refine fg (ym (rm:=none) (fun ν=>S7 y.1.1 y.2.1 (bG y.2.2 0) _ _ _ _ _ A.in1.handled ν) rfl trivial (Frames.nil _ _) h) (fun v s' q=> ?_) (fun e s' q=> ?_)
 ·obtain⟨ν,q,d⟩:=q
  cases q
  exact aX ⟨eQ,rfl,rfl,d⟩
 ·obtain⟨_,q,_⟩:=q;cases q
def kl(x:Str):aJ w:=(nA 44 x).sm (mu 44 x fun e args t b c d b1 f hd ν=>QZ e args x t b c d b1 f hd [] ν)
def xK(x:Str):aJ w:=(nA 56 x).sm (mu 56 x fun e args t b c d b1 f hd ν=>Q0 e args x t b c d b1 f hd [] ν)
end
theorem ij{G:Ground}{a:Addr}{o:Obj}{f:Obj->Obj}(h:Sat G s [(a,o)])(hn:¬bh o)(hf:(f o).isFreed=false)(hb:bq (f o)=false)(qg:¬bh (f o))(k:Nat):Done (T:=G) s {s with heap:=s.heap.update a f,toks:=k} [(a,o)] [(a,f o)]:=bN h hn hf hb qg k
section
variable{it:Addr}{x:Str}{t:Tok}
theorem Ed{k c:Nat}(hx:x.cps[k]? =some c)(h:Sat (TW w) s [(it,bc "str_ascii_iterator" (.str x t) k)]):
  codeAny (Mo w) A (.call (.builtin "str_ascii_iterator.__next__") ⟨[.ref it],[]⟩) (fun r s'=>∃u,.ok (.ret (.str ⟨#[c]⟩ u))=r/\Done (T:=TW w) s s' [(it,bc "str_ascii_iterator" (.str x t) k)] [(it,bc "str_ascii_iterator" (.str x t) (k+1))]) s:=by
 have nf:∀v k,¬bh (bc "str_ascii_iterator" v k):=fun _ _=>aa rfl
 have ho:s.heap.get? it=some (bc "str_ascii_iterator" (.str x t) k):=h.at (.head _) (nf _ _)
 refine aB F.slot_str_ascii_iterator_next ⟨_,ho,rfl⟩ F.entry_str_ascii_iterator_next (F.args_str_ascii_iterator_next_1 _) ?_
 show wpAny _ _ (field (.ref it) 0>>=_) _ _ s
 refine aw (gj ho rfl (x:=.str x t) rfl ?_)
 show wpAny _ _ (field (.ref it) 1>>=_) _ _ s
 refine aw (gj ho rfl (x:=.int k 0) rfl ?_)
 simp only[Int.toNat_natCast,hx]
 exact aw (wpAny_setField ho rfl (by simp) (aw (wpAny_mkStr (aX ⟨_,rfl,ij h (nf _ _) rfl rfl (aa rfl) _⟩))))
theorem Jm{k:Nat}(hh:A.handled=none)(hx:x.cps[k]? =none)(h:Sat (TW w) s [(it,bc "str_ascii_iterator" (.str x t) k)]):
  codeAny (Mo w) A (.call (.builtin "str_ascii_iterator.__next__") ⟨[.ref it],[]⟩) (fun r s'=>E2 fun a b=>.error (.ref b)=r/\Done (T:=TW w) s s' [(it,bc "str_ascii_iterator" (.str x t) k)] [(b,cS a),(a,ae #[] 0),(it,bc "str_ascii_iterator" .none k)]) s:=by
 have nf:∀v k,¬bh (bc "str_ascii_iterator" v k):=fun _ _=>aa rfl
 have ho:s.heap.get? it=some (bc "str_ascii_iterator" (.str x t) k):=h.at (.head _) (nf _ _)
 refine aB F.slot_str_ascii_iterator_next ⟨_,ho,rfl⟩ F.entry_str_ascii_iterator_next (F.args_str_ascii_iterator_next_1 _) ?_
 show wpAny _ _ (field (.ref it) 0>>=_) _ _ s
 refine aw (gj ho rfl (x:=.str x t) rfl ?_)
 show wpAny _ _ (field (.ref it) 1>>=_) _ _ s
 refine aw (gj ho rfl (x:=.int k 0) rfl ?_)
 simp only[Int.toNat_natCast,hx]
 refine aw (wpAny_rule (aw (wpAny_setField ho rfl (by simp) (aw (wpAny_letGo ?_)))))
 have d1:=ij (f:=fun o=>o.mapFields (·.setIfInBounds 0 .none)) h (nf _ _) rfl rfl (aa rfl) s.toks
 show wpAny _ _ (newExc (.type "StopIteration") []>>=_) _ _ _
 exact cv hh d1
end
section
variable(x:Str)
def Ee(k c:Nat):aD w (Addr×Tok)where
 find _ pre _:=match pre with
  |[(it,⟨_,_,.fields vs,_⟩)]=>some (it,tokOf (p7 vs.toList 0))
  |_=>none
 code y:=.call (.builtin "str_ascii_iterator.__next__") ⟨[.ref y.1],[]⟩
 pre y:=[(y.1,bc "str_ascii_iterator" (.str x y.2) k)]
 r _ m:=.ok (.ret (.str ⟨#[c]⟩ (m.1 0)))
 post y _:=[bc "str_ascii_iterator" (.str x y.2) (k+1)]
def xP(k c:Nat)(hx:x.cps[k]? =some c):aJ w:=(Ee x k c).sm<|aD.old fun _ _ _ _ _ _ _ _ h=>
 cQ (Ed hx h) fun _ _ ⟨u,e,d⟩=>⟨(fun _=>u,fun _=>[]),e,rfl,d⟩
def Jn(k:Nat):aD w (Addr×Tok)where
 bare:=true
 find _ pre _:=match pre with
  |[(it,⟨_,_,.fields vs,_⟩)]=>some (it,tokOf (p7 vs.toList 0))
  |_=>none
 code y:=.call (.builtin "str_ascii_iterator.__next__") ⟨[.ref y.1],[]⟩
 pre y:=[(y.1,bc "str_ascii_iterator" (.str x y.2) k)]
 r _ μ:=.error (.ref (μ.1 1))
 post y _:=[bc "str_ascii_iterator" .none k]
 new _ μ:=[(μ.1 1,cS (μ.1 0)),(μ.1 0,ae #[] 0)]
def Br(k:Nat)(hx:x.cps[k]? =none):aJ w:=(Jn x k).sm<|aD.old fun _ _ _ _ _ _ hb _ h=>
 cQ (Jm (hb rfl) hx h) fun _ _ ⟨a,b,e,d⟩=>⟨(fun i=>if i=0 then a else b,fun _=>[]),e,rfl,d.perm (dy (l₁:=[_]) (l₂:=[_,_]))⟩
def uV:aD w Tok where
 find c _ _:=some (cR 0 c)
 code t:=.call (.builtin "str.__iter__") ⟨[.str x t],[]⟩
 pre _:=[]
 r _ m:=.ok (.ret (.ref (m.1 0)))
 post _ _:=[]
 new t m:=[(m.1 0,bc "str_ascii_iterator" (.str x t) 0)]
theorem wN(hx:x.cps.all (·<128)=true):(uV (w:=w) x).Ok:=by
 refine aD.old fun t fs A s _ _ _ _ h=> ?_
 refine aB F.slot_str_iter (typeIs_str s x t) F.entry_str_iter (F.args_str_iter_1 _) ?_
 show wpAny _ _ (newFields (if(true&&x.cps.all (·<128))=true then"str_ascii_iterator"else"str_iterator") [.str x t,rawInt 0]>>=_) _ _ s
 rw[hx]
 refine aw (m:=newFields "str_ascii_iterator" [.str x t,rawInt 0]) (wpAny_newObj_type (aX ?_) (by size_fits))
 exact⟨(fun _=>s.heap.objs.size,fun _=>[]),rfl,rfl,bk (o:=bc "str_ascii_iterator" (.str x t) 0) h rfl rfl (aa rfl)⟩
def xO(hx:x.cps.all (·<128)=true):aJ w:=(uV x).sm (wN x hx)
end
section
variable{it:Addr}{x:Str}{t:Tok}
theorem Eb{k c:Nat}(hx:x.cps[k]? =some c)(h:Sat (TW w) s [(it,bc "str_iterator" (.str x t) k)]):
  codeAny (Mo w) A (.call (.builtin "str_iterator.__next__") ⟨[.ref it],[]⟩) (fun r s'=>∃u,.ok (.ret (.str ⟨#[c]⟩ u))=r/\Done (T:=TW w) s s' [(it,bc "str_iterator" (.str x t) k)] [(it,bc "str_iterator" (.str x t) (k+1))]) s:=by
 have nf:∀v k,¬bh (bc "str_iterator" v k):=fun _ _=>aa rfl
 have ho:s.heap.get? it=some (bc "str_iterator" (.str x t) k):=h.at (.head _) (nf _ _)
 refine aB F.slot_str_iterator_next ⟨_,ho,rfl⟩ F.entry_str_iterator_next (F.args_str_iterator_next_1 _) ?_
 show wpAny _ _ (field (.ref it) 0>>=_) _ _ s
 refine aw (gj ho rfl (x:=.str x t) rfl ?_)
 show wpAny _ _ (field (.ref it) 1>>=_) _ _ s
 refine aw (gj ho rfl (x:=.int k 0) rfl ?_)
 simp only[Int.toNat_natCast,hx]
 exact aw (wpAny_setField ho rfl (by simp) (aw (wpAny_mkStr (aX ⟨_,rfl,ij h (nf _ _) rfl rfl (aa rfl) _⟩))))
theorem Jk{k:Nat}(hh:A.handled=none)(hx:x.cps[k]? =none)(h:Sat (TW w) s [(it,bc "str_iterator" (.str x t) k)]):
  codeAny (Mo w) A (.call (.builtin "str_iterator.__next__") ⟨[.ref it],[]⟩) (fun r s'=>E2 fun a b=>.error (.ref b)=r/\Done (T:=TW w) s s' [(it,bc "str_iterator" (.str x t) k)] [(b,cS a),(a,ae #[] 0),(it,bc "str_iterator" .none k)]) s:=by
 have nf:∀v k,¬bh (bc "str_iterator" v k):=fun _ _=>aa rfl
 have ho:s.heap.get? it=some (bc "str_iterator" (.str x t) k):=h.at (.head _) (nf _ _)
 refine aB F.slot_str_iterator_next ⟨_,ho,rfl⟩ F.entry_str_iterator_next (F.args_str_iterator_next_1 _) ?_
 show wpAny _ _ (field (.ref it) 0>>=_) _ _ s
 refine aw (gj ho rfl (x:=.str x t) rfl ?_)
 show wpAny _ _ (field (.ref it) 1>>=_) _ _ s
 refine aw (gj ho rfl (x:=.int k 0) rfl ?_)
 simp only[Int.toNat_natCast,hx]
 refine aw (wpAny_rule (aw (wpAny_setField ho rfl (by simp) (aw (wpAny_letGo ?_)))))
 have d1:=ij (f:=fun o=>o.mapFields (·.setIfInBounds 0 .none)) h (nf _ _) rfl rfl (aa rfl) s.toks
 show wpAny _ _ (newExc (.type "StopIteration") []>>=_) _ _ _
 exact cv hh d1
end
section
variable(x:Str)
def Ec(k c:Nat):aD w (Addr×Tok)where
 find _ pre _:=match pre with
  |[(it,⟨_,_,.fields vs,_⟩)]=>some (it,tokOf (p7 vs.toList 0))
  |_=>none
 code y:=.call (.builtin "str_iterator.__next__") ⟨[.ref y.1],[]⟩
 pre y:=[(y.1,bc "str_iterator" (.str x y.2) k)]
 r _ m:=.ok (.ret (.str ⟨#[c]⟩ (m.1 0)))
 post y _:=[bc "str_iterator" (.str x y.2) (k+1)]
def xN(k c:Nat)(hx:x.cps[k]? =some c):aJ w:=(Ec x k c).sm<|aD.old fun _ _ _ _ _ _ _ _ h=>
 cQ (Eb hx h) fun _ _ ⟨u,e,d⟩=>⟨(fun _=>u,fun _=>[]),e,rfl,d⟩
def Jl(k:Nat):aD w (Addr×Tok)where
 bare:=true
 find _ pre _:=match pre with
  |[(it,⟨_,_,.fields vs,_⟩)]=>some (it,tokOf (p7 vs.toList 0))
  |_=>none
 code y:=.call (.builtin "str_iterator.__next__") ⟨[.ref y.1],[]⟩
 pre y:=[(y.1,bc "str_iterator" (.str x y.2) k)]
 r _ μ:=.error (.ref (μ.1 1))
 post y _:=[bc "str_iterator" .none k]
 new _ μ:=[(μ.1 1,cS (μ.1 0)),(μ.1 0,ae #[] 0)]
def Bq(k:Nat)(hx:x.cps[k]? =none):aJ w:=(Jl x k).sm<|aD.old fun _ _ _ _ _ _ hb _ h=>
 cQ (Jk (hb rfl) hx h) fun _ _ ⟨a,b,e,d⟩=>⟨(fun i=>if i=0 then a else b,fun _=>[]),e,rfl,d.perm (dy (l₁:=[_]) (l₂:=[_,_]))⟩
def uU:aD w Tok where
 find c _ _:=some (cR 0 c)
 code t:=.call (.builtin "str.__iter__") ⟨[.str x t],[]⟩
 pre _:=[]
 r _ m:=.ok (.ret (.ref (m.1 0)))
 post _ _:=[]
 new t m:=[(m.1 0,bc "str_iterator" (.str x t) 0)]
theorem wM(hx:x.cps.all (·<128)=false):(uU (w:=w) x).Ok:=by
 refine aD.old fun t fs A s _ _ _ _ h=> ?_
 refine aB F.slot_str_iter (typeIs_str s x t) F.entry_str_iter (F.args_str_iter_1 _) ?_
 show wpAny _ _ (newFields (if(true&&x.cps.all (·<128))=true then"str_ascii_iterator"else"str_iterator") [.str x t,rawInt 0]>>=_) _ _ s
 rw[hx]
 refine aw (m:=newFields "str_iterator" [.str x t,rawInt 0]) (wpAny_newObj_type (aX ?_) (by size_fits))
 exact⟨(fun _=>s.heap.objs.size,fun _=>[]),rfl,rfl,bk (o:=bc "str_iterator" (.str x t) 0) h rfl rfl (aa rfl)⟩
def xM(hx:x.cps.all (·<128)=false):aJ w:=(uU x).sm (wM x hx)
end
def b8:List Str->(Nat->Tok)->Nat->List Value
 |[],_,_=>[]
 |x::l,f,k=>.str x (f k)::b8 l f (Nat.succ k)
def jf:List Str->(Nat->Tok)->Nat->List (Str×Tok)
 |[],_,_=>[]
 |x::l,f,k=>(x,f k)::jf l f (Nat.succ k)
theorem mq(f:Nat->Tok):∀(l:List Str) (k:Nat),b8 l f k=strValues (jf l f k)
 |[],_=>rfl
 |x::l,k=>by rw[b8,jf,mq f l];rfl
theorem iP(f:Nat->Tok):∀(l:List Str) (k:Nat),(jf l f k).map (·.1)=l
 |[],_=>rfl
 |x::l,k=>by rw[jf,List.map_cons,iP f l]
theorem fz(f:Nat->Tok):∀(l:List Str) (k:Nat),(b8 l f k).length=l.length
 |[],_=>rfl
 |x::l,k=>by rw[b8,List.length_cons,fz f l,List.length_cons]
theorem kh{f g:Nat->Tok}:∀(l:List Str) (k:Nat),(∀i,k<=i->i<k+l.length->f i=g i)->b8 l f k=b8 l g k
 |[],_,_=>rfl
 |x::l,k,h=>by
  rw[b8,b8,h k (Nat.le_refl k) (by simp),kh l (Nat.succ k) fun i hi hj=>h i (by lia) (by simp;lia)]
theorem iF(x:Str)(t:Tok)(f:Nat->Tok):∀(l:List Str) (k:Nat),b8 l f k++[.str x t]=b8 (l++[x]) (fun i=>if i=k+l.length then t else f i) k
 |[],k=>by simp[b8]
 |y::l,k=>by
  rw[List.cons_append,b8,b8,List.cons_append,iF x t f l (Nat.succ k)]
  congr 1
  ·rw[if_neg (by simp)]
  ·refine kh _ _ fun i hi hj=> ?_
   have e:(i=Nat.succ k+l.length)=(i=k+(y::l).length):=by
    simp only[List.length_cons,eq_iff_iff];lia
   simp only[e]
section
variable(sep:Str)(parts:List Str)(f:Nat->Tok)(z:Str)
def Fo:aD w (Tok×Addr×Nat)where
 find c pre _:=some (cR 0 c,(az pre 0).1,(cK (az pre 0).2))
 code y:=.call (.builtin "str.join") ⟨[.str sep y.1,.ref y.2.1],[]⟩
 pre y:=[(y.2.1,aj (b8 parts f 0) y.2.2)]
 r _ m:=.ok (.ret (.str z (m.1 0)))
 post y _:=[aj (b8 parts f 0) y.2.2]
theorem Cy(hz:glued sep parts=z)(hl:tooLong (parts.toArray.foldl (·+·.length+sep.length) 0)=false)(hs:bK z):(Fo (w:=w) sep parts f z).Ok:=by
 refine aD.old fun y fs A s _ _ _ _ h=> ?_
 have ho:s.heap.get? y.2.1=some (aj (b8 parts f 0) y.2.2):=h.at (.head _) (ar _ _)
 refine aS F.slot_str_join (typeIs_str s sep y.1) F.entry_str_join (F.args_str_join_2 _ _) (meets_str_join_list sep y.1 y.2.1 (jf parts f 0) (by rw[iP];exact hl)) ?_
 refine⟨⟨_,ho,rfl,_,by rw[mq];rfl⟩,?_⟩
 have e:((jf parts f 0).map (·.1))=parts:=iP f parts 0
 match hp:jf parts f 0 with
 |[]=>
  rw[hp]at e
  show(Made.str (glued sep _)).post _ s
  rw[e,hz]
  exact⟨hs,(fun _=>s.toks,fun _=>[]),rfl,rfl,dm h⟩
 |[p]=>
  rw[hp]at e
  have:p.1=z:=by rw[<-hz,<-e];simp[glued]
  show(Made.val (.str p.1 p.2)).post _ s
  rw[this]
  exact⟨(fun _=>p.2,fun _=>[]),rfl,rfl,Done.refl h⟩
 |p::q::r=>
  rw[hp]at e
  show(Made.str (glued sep _)).post _ s
  rw[e,hz]
  exact⟨hs,(fun _=>s.toks,fun _=>[]),rfl,rfl,dm h⟩
def rj(hz:glued sep parts=z)(hl:tooLong (parts.toArray.foldl (·+·.length+sep.length) 0)=false)(hs:bK z):aJ w:=(Fo sep parts f z).sm (Cy sep parts f z hz hl hs)
end
theorem nT{l:Addr}{v:Value}{ep:Nat}{i:Int}{t:Tok}(h0:0<=i)(hz:xs.length<1000000)(hv:xs[i.toNat]? =some v)(h:Sat (TW w) s [(l,aj xs ep)]):
  codeAny (Mo w) A (.call (.builtin "list.__getitem__") ⟨[.ref l,.int i t],[]⟩) (fun r s'=>.ok (.ret v)=r/\Done (T:=TW w) s s' [(l,aj xs ep)] [(l,aj xs ep)]) s:=by
 have ho:s.heap.get? l=some (aj xs ep):=h.at (.head _) (ar _ _)
 have n8:i.toNat<xs.length:=by
  rcases Nat.lt_or_ge i.toNat xs.length with q|q
  ·exact q
  ·rw[List.getElem?_eq_none q]at hv;cases hv
 refine aB F.slot_list_getitem ⟨_,ho,rfl⟩ F.entry_list_getitem (F.args_list_getitem_2 _ _) ?_
 show wpAny _ _ (Builtin.List.listSubscript? (.int i t)>>=_) _ _ s
 refine aw (wpAny_listSubscript_int (fitsIndex_of h0 (by lia)) ?_)
 obtain⟨j,rfl⟩:=Int.eq_ofNat_of_zero_le h0
 have hx:xs.toArray[j]? =some v:=by rw[List.getElem?_toArray];exact hv
 show wpAny _ _ ((seqItemAt l j>>=fun r=>pure (r.map (j,·)))>>=_) _ _ s
 refine aw (aw (wpAny_seqItemAt ho rfl (aX ?_)))
 rw[hx]
 exact aw (aX (aX ⟨rfl,Done.refl h⟩))
def Nf(ss:List Str)(i:Int)(x:Str):aD w (Tok×Addr×Obj)where
 find c pre _:=some (cR 1 c,(az pre 0).1,(az pre 0).2)
 code y:=.call (.builtin "list.__getitem__") ⟨[.ref y.2.1,.int i y.1],[]⟩
 pre y:=[(y.2.1,y.2.2)]
 r y m:=.ok (.ret (.str x (m.1 0)))
 post y _:=[y.2.2]
 obs y:=[⟨Obj,y.2.2,aj (b8 ss (bG y.2.2) 0) (bp y.2.2)⟩]
theorem sX(f:Nat->Tok){x:Str}:∀(l:List Str) (k j:Nat),l[j]? =some x->(b8 l f k)[j]? =some (.str x (f (k+j)))
 |[],_,_,h=>by simp at h
 |y::l,k,0,h=>by
  simp at h;subst h;rfl
 |y::l,k,j+1,h=>by
  rw[b8,List.getElem?_cons_succ,sX f l (Nat.succ k) j (by simpa using h)]
  congr 3;lia
def GV(ss:List Str)(i:Int)(x:Str)(h0:0<=i)(hz:ss.length<1000000)(hv:ss[i.toNat]? =some x):aJ w:=(Nf ss i x).sm<|aD.old fun y _ A s _ _ _ ho h=>by
 obtain⟨t,l,o⟩:=y
 have e:o=aj (b8 ss (bG o) 0) (bp o):=(dD.cons.mp ho).1
 have h':Sat (TW w) s [(l,aj (b8 ss (bG o) 0) (bp o))]:=by rw[<-e];exact h
 refine cQ (nT (t:=t) h0 (by rw[fz];exact hz) (sX (bG o) ss 0 i.toNat hv) h') fun _ _ ⟨e1,d⟩=>⟨(fun _=>bG o (0+i.toNat),fun _=>[]),e1,rfl,?_⟩
 rw[<-e]at d
 exact d
section
variable(xs:List Value)(i:Int)(v:Value)
def HL:aD w (Tok×Addr×Nat)where
 find c pre _:=some (cR 1 c,(az pre 0).1,(cK (az pre 0).2))
 code y:=.call (.builtin "list.__getitem__") ⟨[.ref y.2.1,.int i y.1],[]⟩
 pre y:=[(y.2.1,aj xs y.2.2)]
 r _ _:=.ok (.ret v)
 post y _:=[aj xs y.2.2]
def bQ(h0:0<=i)(hz:xs.length<1000000)(hv:xs[i.toNat]? =some v):aJ w:=(HL xs i v).sm<|aD.old fun _ _ _ _ _ _ _ _ h=>
 cQ (nT h0 hz hv h) fun _ _ ⟨e,d⟩=>⟨eQ,e,rfl,d⟩
end
def jD(c:Nat)(n:Int):Str:=⟨(List.replicate n.toNat c).toArray⟩
theorem pA(c:Nat):∀(n:Nat) (a:List Nat),(List.replicate n (#[c]:Array Nat)).foldl (·++·) a.toArray=(a++List.replicate n c).toArray
 |0,a=>by simp
 |n+1,a=>by
  rw[List.replicate_succ,List.foldl_cons]
  have:a.toArray++ #[c]=(a++[c]).toArray:=by simp
  rw[this,pA c n,List.replicate_succ,List.append_assoc]
  rfl
def q9(c:Nat)(n:Int)(hn:n<100)(h0:0<=n):aJ w:=
 ew (self:=fun f=>.str ⟨#[c]⟩ (f 0)) (rest:=fun f=>[.int n (f 1)]) (res:=fun t=>.str (jD c n) t) F.slot_str_mul F.entry_str_mul (fun _=>F.args_str_mul_2 _ _) (fun _ s=>typeIs_str s _ _)
  fun f=>⟨_,gives_str_mul ⟨#[c]⟩ n (f 0) (f 1) (by simp only[Bool.or_eq_false_iff,decide_eq_false_iff_not];lia) (fun h1 _=>by
   show¬((1:Int)>(2^63-1)/n)
   have:(1:Int)<=(2^63-1)/n:=by rw[Int.le_ediv_iff_mul_le (by lia)];lia
   lia) (fun _ _=>by
   unfold tooLong
   rw[gn]
   show decide (1*n.toNat>16777216)=false
   simp;lia),fun Q s k=>by
   by_cases h1:n<1
   ·rw[if_pos h1]
    have:n=0:=by lia
    subst this
    exact⟨by decide,k _ _⟩
   ·rw[if_neg h1]
    by_cases h2:n=1
    ·subst h2
     exact k _ s.toks
    ·rw[if_neg (by simp[h2,Str.length])]
     have e:=pA c n.toNat []
     refine⟨?_,?_⟩
     ·show((List.replicate n.toNat (#[c]:Array Nat)).foldl (·++·) (#[]:Array Nat)).size<=sizeLine
      rw[show(#[]:Array Nat)=([]:List Nat).toArray from rfl,e,gn]
      simp;lia
     ·have e2:(⟨(List.replicate n.toNat (#[c]:Array Nat)).foldl (·++·) #[]⟩:Str)=jD c n:=by
       rw[show(#[]:Array Nat)=([]:List Nat).toArray from rfl,e];rfl
      rw[e2]
      exact k _ _⟩
section
variable(n:Int)(z:Str)
def sY:aD w Tok where
 find c _ _:=some (cR 1 c)
 code t:=.call (.builtin "str.__new__") ⟨[.type "str",.int n t],[]⟩
 pre _:=[]
 r _ m:=.ok (.ret (.str z (m.1 0)))
 post _ _:=[]
theorem u9(hz:Str.ofString (toString n)=z)(hn:n.natAbs.log2<1920):(sY (w:=w) n z).Ok:=by
 refine aD.old fun t fs A s _ _ _ _ h=> ?_
 subst hz
 refine codeAny_call_builtin (by kernel_rfl) F.entry_str_new ?_
 rw[F.newCall_str_1]
 refine aX ?_
 rw[str_new_tree]
 refine aw (aX ?_)
 refine aw (wpAny_of_eq isSubtype_str_str ?_)
 refine aw (wpAny_strOf_gives rfl (typeIs_int s n t) F.slot_int_str F.slot_int_repr F.entry_int_repr (F.args_int_repr_1 _) (gives_int_repr n t hn) (aX ?_) (hsz:=int_text_fits hn))
 exact⟨(fun _=>s.toks,fun _=>[]),rfl,rfl,dm h⟩
def bS(hz:Str.ofString (toString n)=z)(hn:n.natAbs.log2<1920):aJ w:=(sY n z).sm (u9 n z hz hn)
end
def dU(n:Int)(b:Bool)(h:(n !=0)=b):aJ w:=
 ew (self:=fun f=>.int n (f 0)) (rest:=fun _=>[]) (res:=fun _=>.bool b) F.slot_int_bool F.entry_int_bool (fun _=>F.args_int_bool_1 _) (fun _ s=>typeIs_int s _ _)
  fun f=>⟨.val (.bool b),by rw[<-h];exact .of_eq rfl,fun Q s k=>k 0 s.toks⟩
end
section
open PySem PySem.W PySem.W.X PyProof.Rows
noncomputable def aG(d:Addr):Obj:=⟨.ref 188,some d,.plain,#[]⟩
def aI(P:Params)(t1 t2 t3 t4:Tok)(YL:Addr)(ready po nf:Value)(n:Nat):Obj:=U #[E P "_node2info" t1 (.ref YL),E P "_ready_nodes" t2 ready,E P "_npassedout" t3 po,E P "_nfinished" t4 nf] n
noncomputable def M1(d:Addr)(node np succ:Value):Obj:=⟨.ref 91,some d,.plain,#[some node,some np,some succ]⟩
structure ND where
 na:Addr
 nd:Addr
 np:Int
 tn:Tok
 sa:Addr
 su:List Value
 ep:Nat
structure NM where
 nm:Nat->Str
 tk:Nat->Tok
 inj:∀i j,nm i=nm j->i=j
def NM.hv(N:NM)(i:Nat):Value:=.str (N.nm i) (N.tk i)
def iS(v:Value)(r:ND):Obj:=M1 r.nd v (.int r.np r.tn) (.ref r.sa)
def gr(r:ND):Obj:=aj r.su r.ep
def aA(N:NM)(f:Nat->ND)(ns:List Nat):Led:=ns.flatMap fun i=>[((f i).sa,gr (f i)),((f i).na,iS (N.hv i) (f i))]
def ents(w:World)(N:NM)(f:Nat->ND)(ns:List Nat):Array DictEntry:=(ns.map fun i=>⟨hashStr w (N.nm i),.str (N.nm i) (N.tk i),.ref (f i).na⟩).toArray
theorem cO(N:NM)(f:Nat->ND)(ns:List Nat):KeysOf (kS w) (ents w N f ns):=by
 intro e he
 obtain⟨i,_,rfl⟩:=cz (List.mem_toArray.mp he)
 exact⟨N.nm i,strKind_is pw w _ _,rfl⟩
theorem fH(N:NM)(i j:Nat):Value.isStrOf (N.nm i) (.str (N.nm j) (N.tk j))=decide (j=i):=by
 show(N.nm j==N.nm i)=_
 by_cases h:j=i
 ·subst h;simp
 ·rw[decide_eq_false h]
  exact beq_eq_false_iff_ne.mpr fun e=>h (N.inj _ _ e)
theorem cL(N:NM)(f:Nat->ND)(i:Nat):∀ns:List Nat,bo (ents w N f ns) (N.nm i)=if i∈ns then some (.ref (f i).na)else none
 |[]=>rfl
 |j::ns=>by
  have ih:=cL N f i ns
  unfold bo findBy ents at ih⊢
  rw[List.find?_toArray]at ih⊢
  rw[List.map_cons,List.find?_cons]
  dsimp only
  rw[fH]
  by_cases h:j=i
  ·subst h;simp
  ·rw[decide_eq_false h]
   dsimp only
   rw[ih]
   have:(i∈j::ns)↔i∈ns:=by simp[Ne.symm h]
   simp only[this]
section
variable(N:NM)(f:Nat->ND)
theorem wk(i:Nat){ns:List Nat}(h:i∉ns):(ents w N f ns).findIdx? (fun e=>(kS w).is (N.nm i) e.key)=none:=by
 unfold ents
 rw[List.findIdx?_toArray,List.findIdx?_eq_none_iff]
 intro e he
 obtain⟨j,hj,rfl⟩:=cz he
 show Value.isStrOf (N.nm i) (.str (N.nm j) (N.tk j))=false
 rw[fH,decide_eq_false]
 rintro rfl
 exact h hj
theorem cj(ns:List Nat):(ents w N f ns).size=ns.length:=by simp[ents]
theorem sq(ns:List Nat)(i:Nat)(r:ND)(h:i∉ns):bI w (ents w N f ns) (N.nm i) (N.tk i) (.ref r.na)=ents w N (fun j=>if j=i then r else f j) (ns++[i]):=by
 unfold bI ents
 have:∀j∈ns,(if j=i then r else f j)=f j:=fun j hj=>if_neg (by rintro rfl;exact h hj)
 rw[List.push_toArray,List.map_append]
 congr 1
 congr 1
 ·exact List.map_congr_left fun j hj=>by simp only[this j hj]
 ·simp
end
theorem gH(N:NM){f g:Nat->ND}{ns:List Nat}(h:∀j∈ns,f j=g j):aA N f ns=aA N g ns:=by
 unfold aA
 induction ns with
 |nil=>rfl
 |cons j ns ih=>
  rw[List.flatMap_cons,List.flatMap_cons,h j (.head _),ih fun k hk=>h k (.tail _ hk)]
section
variable(N:NM)(f:Nat->ND)
theorem mH{ns ms:List Nat}(h:ns.Perm ms):(aA N f ns).Perm (aA N f ms):=h.flatMap_right _
theorem kL{ns:List Nat}{i:Nat}(h:i∈ns):(((f i).sa,gr (f i))::((f i).na,iS (N.hv i) (f i))::aA N f (ns.erase i)).Perm (aA N f ns):=
 (mH N f (List.perm_cons_erase h)).symm
end
structure SO where
 sf:Addr
 d:Addr
 n2:Addr
 t1:Tok
 t2:Tok
 t3:Tok
 t4:Tok
 rv:Value
 po:Value
 nf:Value
 ea:Nat
 eb:Nat
def cX(w:World)(N:NM)(S:SO)(f:Nat->ND)(ns:List Nat):Led:=[(S.sf,aG S.d),(S.d,aI w.params S.t1 S.t2 S.t3 S.t4 S.n2 S.rv S.po S.nf S.ea),(S.n2,U (ents w N f ns) S.eb)]
section
variable(N:NM)(S:SO)(f:Nat->ND)(ns:List Nat)(i:Nat)(hd:Option Value)
theorem rY(hz:(ents w N f ns).size<1000)(hi:(ents w N f ns).findIdx? (fun e=>(kS w).is (N.nm i) e.key)=none)(hg:(bo (ents w N f ns) (N.nm i)).getD .none=.none)(fs:List Env)(ν:Nu):
  aT 22169 (.ok (.ret (.ref ((ν 7).fst 0)))) [((ν 14).fst 0,ah #[] 0),((ν 7).fst 0,⟨(.ref 91),(some ((ν 6).fst 0)),.plain,#[some (.str (N.nm i) (N.tk i)),some (.int 0 ((ν 12).fst 0)),some (.ref ((ν 14).fst 0))]⟩),(S.sf,aG S.d),(S.d,aI w.params S.t1 S.t2 S.t3 S.t4 S.n2 S.rv S.po S.nf S.ea),(S.n2,U (bI w (ents w N f ns) (N.nm i) (N.tk i) (Value.ref ((ν 7).fst 0))) (S.eb+1))]
   (bX w ν 319 hd (some (20,fs)) 131 [.ref S.sf,N.hv i] [(S.sf,aG S.d),(S.d,aI w.params S.t1 S.t2 S.t3 S.t4 S.n2 S.rv S.po S.nf S.ea),(S.n2,U (ents w N f ns) S.eb)] 0x1451401c00882051c01860000060000001850c00c00000000c00000000000000c00c00c000000308200200000000200000000000000200200200000008108008000000008000000000000008008008000000204100104004103f000000040040000000000000000000000000000000000000000000000040041003002044104103002080000080000002040041001040 [K (xV (N.nm i) (ents w N f ns) .none (cO N f ns) hg),K (xR (N.nm i) (ents w N f ns) (cO N f ns) hz hi)]):=by kernel_rfl
theorem rX(hg:(bo (ents w N f ns) (N.nm i)).getD .none=.ref (f i).na)(fs:List Env)(ν:Nu):
  aT 86 (.ok (.ret (.ref ((f i).na)))) [(S.sf,aG S.d),(S.d,aI w.params S.t1 S.t2 S.t3 S.t4 S.n2 S.rv S.po S.nf S.ea),(S.n2,U (ents w N f ns) S.eb)]
   (bX w ν 95 hd (some (20,fs)) 131 [.ref S.sf,N.hv i] [(S.sf,aG S.d),(S.d,aI w.params S.t1 S.t2 S.t3 S.t4 S.n2 S.rv S.po S.nf S.ea),(S.n2,U (ents w N f ns) S.eb)] 0x1041003002044104103002080000080000002040041001040 [K (xV (N.nm i) (ents w N f ns) (.ref (f i).na) (cO N f ns) hg)]):=by kernel_rfl
end
section
variable(f:Nat->α)
noncomputable def aY(i:Nat)(a:α):Nat->α:=fun j=>if j=i then a else f j
theorem aC(i:Nat)(a:α):aY f i a i=a:=if_pos rfl
theorem aL{i j:Nat}(a:α)(h:j≠i):aY f i a j=f j:=if_neg h
theorem nr(i:Nat):aY f i (f i)=f:=by
 funext j
 by_cases h:j=i
 ·subst h;exact aC _ _ _
 ·exact aL _ _ h
end
noncomputable def cn(f:Nat->ND)(ns:List Nat)(i:Nat)(μ:Mu):ND where
 na:=if i∈ns then(f i).na else μ.1 0
 nd:=if i∈ns then(f i).nd else μ.1 1
 np:=if i∈ns then(f i).np else 0
 tn:=if i∈ns then(f i).tn else μ.1 2
 sa:=if i∈ns then(f i).sa else μ.1 3
 su:=if i∈ns then(f i).su else []
 ep:=if i∈ns then(f i).ep else 0
section
variable{f:Nat->ND}{ns:List Nat}{i:Nat}
theorem ib(h:i∈ns)(μ:Mu):cn f ns i μ=f i:=by
 unfold cn;simp only[if_pos h]
theorem oa(h:i∉ns)(μ:Mu):cn f ns i μ=⟨μ.1 0,μ.1 1,0,μ.1 2,μ.1 3,[],0⟩:=by
 unfold cn;simp only[if_neg h]
end
def eE(ns:List Nat)(i:Nat):List Nat:=if i∈ns then ns else ns++[i]
def kZ(S:SO)(ns:List Nat)(i:Nat):SO:={S with eb:=if i∈ns then S.eb else S.eb+1}
section
variable(N:NM)(S:SO)(f:Nat->ND)(ns:List Nat)(i:Nat)
theorem CR(fs:List Env)(A:Around)(s:Shared)(hz:ns.length<1000)(hr:qI (some 20) fs A)(hf:Frames (TW w) s fs)(h:Sat (TW w) s (cX w N S f ns++aA N f ns)):
  codeAny (Mo w) A (.call (.ref 131) ⟨[.ref S.sf,N.hv i],[]⟩) (fun r s'=>∃μ,.ok (.ret (.ref (cn f ns i μ).na))=r/\
   Done (T:=TW w) s s' (cX w N S f ns++aA N f ns) (((cn f ns i μ).sa,gr (cn f ns i μ))::((cn f ns i μ).na,iS (N.hv i) (cn f ns i μ))::(cX w N (kZ S ns i) (aY f i (cn f ns i μ)) (eE ns i)++aA N f (ns.erase i)))) s:=by
 have hs:=h.sub (jO _ _)
 have hr:cP (some (20,fs)) A:=hr
 by_cases hi:i∈ns
 ·have hg:(bo (ents w N f ns) (N.nm i)).getD .none=.ref (f i).na:=by rw[cL,if_pos hi];rfl
  refine cQ (kC (fun ν=>rX N S f ns i A.handled hg fs ν) rfl hr hf hs) fun r s' ⟨ν,q,d⟩=>⟨eQ,?_,?_⟩
  ·rw[<-q,ib hi]
  ·have e2:eE ns i=ns:=if_pos hi
   have e3:kZ S ns i=S:=by unfold kZ;rw[if_pos hi]
   rw[ib hi,nr,e2,e3]
   refine(d.frame h).perm ?_
   refine(dy (l₁:=[((f i).sa,gr (f i)),((f i).na,iS (N.hv i) (f i))]) (l₂:=cX w N S f ns++aA N f (ns.erase i))).trans ?_
   rw[List.append_assoc]
   refine List.Perm.append_left _ ?_
   exact dy.trans (kL N f hi)
 ·have hg:(bo (ents w N f ns) (N.nm i)).getD .none=.none:=by rw[cL,if_neg hi];rfl
  have YU:(ents w N f ns).size<1000:=by rw[cj];exact hz
  have key:=kC (fun ν=>rY N S f ns i A.handled YU (wk N f i hi) hg fs ν) rfl hr hf hs
  refine cQ key fun r s' ⟨ν,q,d⟩=>⟨(fun k=>match k with|0=>(ν 7).1 0|1=>(ν 6).1 0|2=>(ν 12).1 0|_=>(ν 14).1 0,fun _=>[]),?_,?_⟩
  ·rw[<-q,oa hi];rfl
  ·have e0:ns.erase i=ns:=List.erase_of_not_mem hi
   have e2:eE ns i=ns++[i]:=if_neg hi
   have e3:kZ S ns i={S with eb:=S.eb+1}:=by unfold kZ;rw[if_neg hi]
   rw[e0,e2,e3,oa hi]
   have d':=d.frame h
   rw[show Value.ref ((ν 7).1 0)=.ref (ND.mk ((ν 7).1 0) ((ν 6).1 0) 0 ((ν 12).1 0) ((ν 14).1 0) [] 0).na from rfl,sq N f ns i _ hi]at d'
   exact d'
def Xb:aD w Unit where
 lv:=some 20
 find _ _ _:=some ()
 code _:=.call (.ref 131) ⟨[.ref S.sf,N.hv i],[]⟩
 pre _:=cX w N S f ns
 tail _:=aA N f ns
 r _ μ:=.ok (.ret (.ref (cn f ns i μ).na))
 post _ μ:=[aG S.d,aI w.params S.t1 S.t2 S.t3 S.t4 S.n2 S.rv S.po S.nf S.ea,U (ents w N (aY f i (cn f ns i μ)) (eE ns i)) (kZ S ns i).eb]
 new _ μ:=[((cn f ns i μ).sa,gr (cn f ns i μ)),((cn f ns i μ).na,iS (N.hv i) (cn f ns i μ))]
 rest _ _:=aA N f (ns.erase i)
theorem Ig(hz:ns.length<1000):(Xb (w:=w) N S f ns i).Ok:=aD.old fun _ fs A s hr hf _ _ h=>
 cQ (CR N S f ns i fs A s hz hr hf h) fun r s' ⟨μ,e,d⟩=>⟨μ,e,rfl,d.perm (by
  refine(dy (l₁:=cX w N (kZ S ns i) (aY f i (cn f ns i μ)) (eE ns i)) (l₂:=_)).trans ?_
  rw[List.append_assoc]
  exact(dy (l₁:=aA N f (ns.erase i)) (l₂:=cX w N (kZ S ns i) (aY f i (cn f ns i μ)) (eE ns i))).cons _|>.cons _)⟩
def KA(hz:ns.length<1000):aJ w:=(Xb N S f ns i).sm (Ig N S f ns i hz)
end
structure GG where
 ns:List Nat
 np:Nat->Int
 su:Nat->List Nat
def Impl(N:NM)(g:GG)(f:Nat->ND):Prop:=∀j∈g.ns,(f j).np=g.np j/\(f j).su=(g.su j).map N.hv
def cb(g:GG)(i:Nat):GG:=if i∈g.ns then g else⟨g.ns++[i],aY g.np i 0,aY g.su i []⟩
def dW(i:Nat)(g:GG)(p:Nat):GG:={cb g p with su:=aY (cb g p).su p ((cb g p).su p++[i])}
def fc(g:GG)(i:Nat)(ps:List Nat):GG:=ps.foldl (dW i) {cb g i with np:=aY (cb g i).np i ((cb g i).np i+ps.length)}
theorem fZ(g:GG)(i:Nat):(cb g i).ns=eE g.ns i:=by unfold cb eE;split<;>rfl
theorem uE{N:NM}{g:GG}{f:Nat->ND}(h:Impl N g f)(i:Nat)(μ:Mu):Impl N (cb g i) (aY f i (cn f g.ns i μ)):=by
 unfold cb
 by_cases hi:i∈g.ns
 ·rw[if_pos hi,ib hi,nr];exact h
 ·rw[if_neg hi,oa hi]
  intro j hj
  dsimp only at hj⊢
  by_cases e:j=i
  ·subst e
   rw[aC,aC,aC]
   exact⟨rfl,rfl⟩
  ·rw[aL _ _ e,aL _ _ e,aL _ _ e]
   refine h j ?_
   rcases bw hj with q|q
   ·exact q
   ·exact absurd (lZ q) e
theorem zy(ns:List Nat)(i:Nat):i∈eE ns i:=by unfold eE;split<;>simp_all
theorem qj{ns:List Nat}(h:ns.Nodup)(i:Nat):(eE ns i).Nodup:=by
 unfold eE
 split
 ·exact h
 ·rename_i hi
  rw[List.nodup_append]
  exact⟨h,by simp,fun a ha b hb=>by rw[List.mem_singleton.mp hb];rintro rfl;exact hi ha⟩
theorem CS{ns:List Nat}(i:Nat):(i::ns.erase i).Perm (eE ns i):=by
 unfold eE
 split
 ·rename_i hi;exact(List.perm_cons_erase hi).symm
 ·rename_i hi
  rw[List.erase_of_not_mem hi]
  exact(dy (l₁:=[i]) (l₂:=ns))
section
variable(N:NM)(f:Nat->ND)(i:Nat)(r:ND)
theorem zZ(h:r.na=(f i).na)(ns:List Nat):ents w N (aY f i r) ns=ents w N f ns:=by
 unfold ents
 congr 1
 refine List.map_congr_left fun j _=> ?_
 by_cases e:j=i
 ·subst e;rw[aC,h]
 ·rw[aL _ _ e]
theorem yS{ns:List Nat}(h:i∉ns):aA N (aY f i r) ns=aA N f ns:=
 gH N fun j hj=>aL _ _ (by rintro rfl;exact h hj)
theorem iR{ns:List Nat}(nd:ns.Nodup)(X:Led):
  ((r.sa,gr r)::(r.na,iS (N.hv i) r)::(X++aA N f (ns.erase i))).Perm (X++aA N (aY f i r) (eE ns i)):=by
 have e:aA N f (ns.erase i)=aA N (aY f i r) (ns.erase i):=(yS N f i r fun m=>(List.Nodup.mem_erase_iff nd).mp m|>.1 rfl).symm
 rw[e]
 have p:((r.sa,gr r)::(r.na,iS (N.hv i) r)::aA N (aY f i r) (ns.erase i)).Perm (aA N (aY f i r) (eE ns i)):=by
  have:=mH N (aY f i r) (CS (ns:=ns) i)
  simpa[aA,aC]using this
 refine List.Perm.trans ?_ (p.append_left X)
 refine(dy (l₁:=[(r.sa,gr r),(r.na,iS (N.hv i) r)]) (l₂:=X++aA N (aY f i r) (ns.erase i))).trans ?_
 rw[List.append_assoc]
 exact List.Perm.append_left _ (dy)
end
structure jx(g:GG)(b:Nat):Prop where
 nd:g.ns.Nodup
 len:g.ns.length<=b
 su:∀j∈g.ns,(g.su j).length<=b
theorem jx.le{g:GG}{b c:Nat}(h:jx g b)(l:b<=c):jx g c:=⟨h.nd,bP h.len l,fun j hj=>bP (h.su j hj) l⟩
theorem oe{g:GG}{b:Nat}(h:jx g b)(i:Nat):(cb g i).ns.Nodup/\(cb g i).ns.length<=b+1/\∀j∈(cb g i).ns,((cb g i).su j).length<=b:=by
 unfold cb
 by_cases hi:i∈g.ns
 ·rw[if_pos hi];exact⟨h.nd,jK h.len,h.su⟩
 ·rw[if_neg hi]
  refine⟨?_,?_,fun j hj=> ?_⟩
  ·show(g.ns++[i]).Nodup
   rw[List.nodup_append]
   exact⟨h.nd,by simp,fun a ha b hb=>by rw[List.mem_singleton.mp hb];rintro rfl;exact hi ha⟩
  ·show(g.ns++[i]).length<=b+1
   rw[List.length_append];exact Nat.add_le_add_right h.len 1
  ·dsimp only
   by_cases e:j=i
   ·subst e;rw[aC];exact cY _
   ·rw[aL _ _ e]
    rcases bw hj with q|q
    ·exact h.su j q
    ·exact absurd (lZ q) e
theorem g9{g:GG}{b:Nat}(h:jx g b)(i p:Nat):jx (dW i g p) (b+1):=by
 obtain⟨h1,h2,h3⟩:=oe h p
 refine⟨h1,h2,fun j hj=> ?_⟩
 show(aY (cb g p).su p ((cb g p).su p++[i]) j).length<=b+1
 by_cases e:j=p
 ·subst e
  rw[aC,List.length_append]
  exact Nat.add_le_add_right (h3 j hj) 1
 ·rw[aL _ _ e];exact jK (h3 j hj)
theorem qw(N:NM)(f:Nat->ND)(i:Nat){r r':ND}(h:r.na=r'.na)(ns:List Nat):ents w N (aY f i r) ns=ents w N (aY f i r') ns:=by
 unfold ents
 congr 1
 refine List.map_congr_left fun j _=> ?_
 by_cases e:j=i
 ·subst e;rw[aC,aC,h]
 ·rw[aL _ _ e,aL _ _ e]
def lQ(r:ND)(v:Value):ND:={r with su:=r.su++[v],ep:=r.ep+1}
theorem vu{N:NM}{g:GG}{f:Nat->ND}(h:Impl N g f)(i p:Nat)(μ:Mu):
  Impl N (dW i g p) (aY f p (lQ (cn f g.ns p μ) (N.hv i))):=by
 have hg:=uE h p μ
 intro j hj
 have q:=hg j hj
 show _=(cb g p).np j/\_=(aY (cb g p).su p ((cb g p).su p++[i]) j).map N.hv
 by_cases e:j=p
 ·subst e
  rw[aC]at q
  rw[aC,aC,List.map_append,<-q.2]
  exact⟨q.1,rfl⟩
 ·rw[aL _ _ e]at q
  rw[aL _ _ e,aL _ _ e]
  exact q
def aE(N:NM)(g:GG)(ρ:Nat->Nat)(j:Nat):ND:=⟨ρ (8*j),ρ (8*j+1),g.np j,ρ (8*j+2),ρ (8*j+3),(g.su j).map N.hv,ρ (8*j+4)⟩
def qY(f:Nat->ND)(k:Nat):Nat:=match k%8 with
 |0=>(f (k/8)).na
 |1=>(f (k/8)).nd
 |2=>(f (k/8)).tn
 |3=>(f (k/8)).sa
 |_=>(f (k/8)).ep
theorem rM{N:NM}{g:GG}{f:Nat->ND}(h:Impl N g f){j:Nat}(hj:j∈g.ns):aE N g (qY f) j=f j:=by
 obtain⟨h1,h2⟩:=h j hj
 unfold aE qY
 have a0:8*j%8=0:=by lia
 have a1:(8*j+1)%8=1:=by lia
 have a2:(8*j+2)%8=2:=by lia
 have a3:(8*j+3)%8=3:=by lia
 have a4:(8*j+4)%8=4:=by lia
 have b0:8*j/8=j:=by lia
 have b1:(8*j+1)/8=j:=by lia
 have b2:(8*j+2)/8=j:=by lia
 have b3:(8*j+3)/8=j:=by lia
 have b4:(8*j+4)/8=j:=by lia
 simp only[a0,a1,a2,a3,a4,b0,b1,b2,b3,b4,<-h1,<-h2]
theorem yY(N:NM)(g:GG)(ρ:Nat->Nat):Impl N g (aE N g ρ):=fun _ _=>⟨rfl,rfl⟩
theorem sg(N:NM){f f':Nat->ND}{ns:List Nat}(h:∀j∈ns,f j=f' j):ents w N f ns=ents w N f' ns:=by
 unfold ents
 congr 1
 exact List.map_congr_left fun j hj=>by rw[h j hj]
def CW(w:World)(N:NM)(S:SO)(f:Nat->ND)(ns:List Nat):Led:=cX w N S f ns++aA N f ns
theorem CV{N:NM}{g:GG}{f:Nat->ND}(h:Impl N g f)(S:SO):CW w N S f g.ns=CW w N S (aE N g (qY f)) g.ns:=by
 unfold CW cX
 rw[sg N (f':=aE N g (qY f)) fun j hj=>(rM h hj).symm,gH N (g:=aE N g (qY f)) fun j hj=>(rM h hj).symm]
def dec(w:World):List Value->List DictEntry
 | .str x t::v::l=>⟨PyData.keyHash w.params x,.str x t,v⟩::dec w l
 |_=>[]
def lF(w:World)(t1 t2 t3:Tok)(sf:Addr)(v:Value)(tp:Addr)(more:List DictEntry)(n:Nat):Obj:=aW (aH w "self" t1 (.ref sf)::aH w "node" t2 v::aH w "predecessors" t3 (.ref tp)::more).toArray n
noncomputable abbrev gc(w:World)(fr it:Addr):Code:=cw (aK w 138 [3]) (.ref it) (dj w 138 fr)
theorem eB.sw{k:Nat}{fs:List Env}{c:Code}{K L:Led}{M M':Nu->Led}(t:eB w k fs c L M)(hp:L.Perm K)(hq:∀ν,(M ν).Perm (M' ν)):eB w k fs c K M':=fun A s R i kk=>
 t A s R ⟨i.hr,i.hf,i.hh,i.hs.perm hp⟩ fun ν s' d=>kk ν s' ((d.perm (hq ν).symm).pre fun _ ha=>(hp.map _).subset ha)
structure AO where
 t5:Tok
 t6:Tok
 pv:Value
 pi:Value
structure AC where
 it:Addr
 fr:Addr
 tp:Addr
 t1:Tok
 t2:Tok
 t3:Tok
 t4:Tok
 ni:Value
def Vn(w:World)(c:AC):Option AO->List DictEntry
 |none=>[aH w "nodeinfo" c.t4 c.ni]
 |some o=>[aH w "nodeinfo" c.t4 c.ni,aH w "pred" o.t5 o.pv,aH w "pred_info" o.t6 o.pi]
def O0:Option AO->Nat
 |none=>4
 |some _=>6
def XT(v pi:Value)(ν:Nu):Option AO->AO
 |none=>⟨(ν 1).1 0,(ν 3).1 0,v,pi⟩
 |some o=>⟨o.t5,o.t6,v,pi⟩
section
variable(N:NM)(S:SO)(c:AC)(f:Nat->ND)(ns:List Nat)(i p:Nat)(ps:List Value)(o:Option AO)(k:Nat)(hk:ps[k]? =some (N.hv p))(hz:ns.length<1000)(hq:(if p∈ns then(f p).su else []).length<1000000)(fs:List Env)(ν:Nu)
section
variable(w:World)(mK:Value)(k:Nat)(o:Option AO)
def Jh:Led:=[(c.it,cN mK k),(c.fr,lF w c.t1 c.t2 c.t3 S.sf (N.hv i) c.tp (Vn w c o) (O0 o)),(c.tp,ae ps.toArray 0)]
def Ji:Led:=Jh N S c i ps w mK k o++(cX w N S f ns++aA N f ns)
end
theorem add_eq:aT 3 (.ok (.again (gc w c.fr c.it))) (((cn f ns p (pr (ν 2))).sa,gr (lQ (cn f ns p (pr (ν 2))) (N.hv i)))::((cn f ns p (pr (ν 2))).na,iS (N.hv p) (cn f ns p (pr (ν 2))))::(Jh N S c i ps w (.ref c.tp) (k+1) (some (XT (N.hv p) (.ref (cn f ns p (pr (ν 2))).na) ν o))++(cX w N (kZ S ns p) (aY f p (cn f ns p (pr (ν 2)))) (eE ns p)++aA N f (ns.erase p))))
  (bW w ν 133 none (some (28,fs)) (gc w c.fr c.it) (Ji N S c f ns i ps w (.ref c.tp) k o) 0x21010410420020000000020000000000000000000800000021041001440c7100085100000004000004000004082080080003040 [K (ct ps k (N.hv p) hk),K (KA N S f ns p hz),K (av (if p∈ns then(f p).su else []) hq)]):=by
 cases o<;>kernel_rfl
end
theorem O1(N:NM)(S:SO)(f:Nat->ND)(ns:List Nat)(i:Nat)(ps:List Value)(it fr tp:Addr)(t1 t2 t3:Tok)(more:List DictEntry)(n k:Nat)(hk:ps[k]? =none)(fs:List Env)(ν:Nu):
  aT 218458 (.ok .next) ((it,⟨(.type "tuple_iterator"),none,(.fields #[.none,(.int ↑k 0)]),#[]⟩)::(fr,lF w t1 t2 t3 S.sf (N.hv i) tp more n)::(tp,ae ps.toArray 0)::(S.sf,aG S.d)::(S.d,aI w.params S.t1 S.t2 S.t3 S.t4 S.n2 S.rv S.po S.nf S.ea)::(S.n2,U (ents w N f ns) S.eb)::(aA N f ns))
   (runC w ν 46 none (some (28,fs)) (gc w fr it) ((it,cN (.ref tp) k)::(fr,lF w t1 t2 t3 S.sf (N.hv i) tp more n)::(tp,ae ps.toArray 0)::(S.sf,aG S.d)::(S.d,aI w.params S.t1 S.t2 S.t3 S.t4 S.n2 S.rv S.po S.nf S.ea)::(S.n2,U (ents w N f ns) S.eb)::(aA N f ns)) 70866972736 [K (dI ps k hk)]):=by kernel_rfl
theorem Ax{N:NM}{S:SO}{f:Nat->ND}{g:GG}{i p:Nat}{μ:Mu}{X:Led}(ho:g.ns.Nodup):
  ((((cn f g.ns p μ).sa,gr (lQ (cn f g.ns p μ) (N.hv i)))::((cn f g.ns p μ).na,iS (N.hv p) (cn f g.ns p μ))::(X++(cX w N (kZ S g.ns p) (aY f p (cn f g.ns p μ)) (eE g.ns p)++aA N f (g.ns.erase p))))).Perm
   (X++(cX w N {S with eb:=(kZ S g.ns p).eb} (aY f p (lQ (cn f g.ns p μ) (N.hv i))) (dW i g p).ns++aA N (aY f p (lQ (cn f g.ns p μ) (N.hv i))) (dW i g p).ns)):=by
 have pm:=iR N f p (lQ (cn f g.ns p μ) (N.hv i)) ho (X++cX w N (kZ S g.ns p) (aY f p (cn f g.ns p μ)) (eE g.ns p))
 have e2:cX w N (kZ S g.ns p) (aY f p (cn f g.ns p μ)) (eE g.ns p)=cX w N {S with eb:=(kZ S g.ns p).eb} (aY f p (lQ (cn f g.ns p μ) (N.hv i))) (dW i g p).ns:=by
  show cX w N (kZ S g.ns p) _ _=cX w N _ _ (cb g p).ns
  rw[fZ]
  unfold cX
  rw[qw N f p (r:=cn f g.ns p μ) (r':=lQ (cn f g.ns p μ) (N.hv i)) rfl]
  rfl
 rw[List.append_assoc,List.append_assoc]at pm
 refine pm.trans ?_
 rw[e2]
 show List.Perm _ (X++(_++aA N _ (cb g p).ns))
 rw[fZ]
def Ea(i:Nat)(a b:Addr)(g:GG)(f:Nat->ND):Prop:=i∈g.ns/\(f i).sa=a/\(f i).na=b
theorem vd{i:Nat}{a b:Addr}{g:GG}{f:Nat->ND}(h:Ea i a b g f)(N:NM)(p:Nat)(μ:Mu)(v:Value):Ea i a b (dW i g p) (aY f p (lQ (cn f g.ns p μ) v)):=by
 obtain⟨h1,h2,h3⟩:=h
 refine⟨?_,?_,?_⟩
 ·show i∈(cb g p).ns
  rw[fZ]
  unfold eE
  split
  ·exact h1
  ·exact jH _ h1
 ·by_cases e:i=p
  ·subst e;rw[aC,ib h1];exact h2
  ·rw[aL _ _ e];exact h2
 ·by_cases e:i=p
  ·subst e;rw[aC,ib h1];exact h3
  ·rw[aL _ _ e];exact h3
theorem GB{N:NM}{g:GG}{f:Nat->ND}(hi:Impl N g f){b:Nat}(ho:jx g b)(hb:b<=900)(p:Nat):(if p∈g.ns then(f p).su else []).length<1000000:=by
 split
 ·rename_i m
  rw[(hi p m).2,List.length_map]
  have:=ho.su p m
  lia
 ·exact Nat.zero_lt_succ _
theorem pH(i:Nat):∀(l:List Nat) {g:GG} {b:Nat},jx g b->jx (l.foldl (dW i) g) (b+l.length)
 |[],_,_,h=>h
 |p::l,_,b,h=>Nat.succ_add_eq_add_succ b l.length▸pH i l (g9 h i p)
structure AY where
 f:Nat->ND
 e:Nat
 o:Option AO
section
variable(N:NM)(S:SO)(c:AC)(i:Nat)(ps:List Nat)(g:GG)(a0 b0:Addr)(fs:List Env)
def yv(j:Nat):GG:=(ps.take j).foldl (dW i) g
def lX(w:World)(mK:Value)(j:Nat)(y:AY):Led:=Ji N {S with eb:=y.e} c y.f (yv i ps g j).ns i (ps.map N.hv) w mK j y.o
def sJ(j:Nat)(y:AY):Prop:=Impl N (yv i ps g j) y.f/\Ea i a0 b0 (yv i ps g j) y.f
theorem Ay{b:Nat}(ho:jx g b)(hb:b+ps.length<=900)(j:Nat)(y:AY)(hj:j<ps.length)(hy:sJ N i ps g a0 b0 j y):∃z:Nu->AY,(∀ν,sJ N i ps g a0 b0 (j+1) (z ν))/\eB w 28 fs (gc w c.fr c.it) (lX N S c i ps g w (.ref c.tp) j y) fun ν=>lX N S c i ps g w (.ref c.tp) (j+1) (z ν):=by
 have hr:ps[j]? =some ps[j]:=jN hj
 have e:yv i ps g (j+1)=dW i (yv i ps g j) ps[j]:=by
  unfold yv
  rw[List.take_succ,hr,List.foldl_append];rfl
 have hv:(ps.map N.hv)[j]? =some (N.hv ps[j]):=by rw[List.getElem?_map,hr];rfl
 have h2:jx (yv i ps g j) (b+(ps.take j).length):=pH i (ps.take j) ho
 rw[List.length_take]at h2
 obtain⟨hi,rV⟩:=hy
 unfold sJ lX
 rw[e]
 generalize ps[j]=p at hv⊢
 generalize yv i ps g j=G at h2 hi rV⊢
 have hl:=h2.len
 have z:=eB.of (w:=w) (by kernel_rfl) fun ν=>add_eq N {S with eb:=y.e} c y.f G.ns i p (ps.map N.hv) y.o j hv (by lia) (GB hi h2 (by lia) p) fs ν
 exact⟨fun ν=>⟨aY y.f p (lQ (cn y.f G.ns p (pr (ν 2))) (N.hv i)),(kZ {S with eb:=y.e} G.ns p).eb,some (XT (N.hv p) (.ref (cn y.f G.ns p (pr (ν 2))).na) ν y.o)⟩,fun ν=>⟨vu hi i p (pr (ν 2)),vd rV N p _ _⟩,z.sw (.refl _) fun ν=>Ax h2.nd⟩
theorem Az{b:Nat}(ho:jx g b)(hb:b+ps.length<=900){Q:Result->Shared->Prop}{y:AY}(hy:sJ N i ps g a0 b0 0 y)(ii:In w (some 28) true fs A s (lX N S c i ps g w (.ref c.tp) 0 y))
  (kk:∀u s',sJ N i ps g a0 b0 ps.length u->Done (T:=TW w) s s' (lX N S c i ps g w (.ref c.tp) 0 y) (lX N S c i ps g w .none ps.length u)->Q (.ok .next) s'):codeAny (Mo w) A (gc w c.fr c.it) Q s:=
 forL (N:=ps.length) (L:=lX N S c i ps g w (.ref c.tp)) (I:=sJ N i ps g a0 b0) (E:=lX N S c i ps g w .none ps.length) (fun j u hj hu=>Ay N S c i ps g a0 b0 fs ho hb j u hj hu)
  (fun u _=>ng.of (w:=w) (k:=28) fun ν=>O1 N {S with eb:=u.e} u.f (yv i ps g ps.length).ns i (ps.map N.hv) c.it c.fr c.tp c.t1 c.t2 c.t3 (Vn w c u.o) (O0 u.o) ps.length (by rw[List.getElem?_map,List.getElem?_eq_none (Nat.le_refl _)];rfl) fs ν) ps.length 0 y s Q (Nat.zero_add _).symm hy ii kk
theorem D7(o:Option AO):∃l,Vn w c o=dec w l:=by
 cases o with
 |none=>exact⟨[.str (aaq.S "nodeinfo") c.t4,c.ni],rfl⟩
 |some o=>exact⟨[.str (aaq.S "nodeinfo") c.t4,c.ni,.str (aaq.S "pred") o.t5,o.pv,.str (aaq.S "pred_info") o.t6,o.pi],rfl⟩
end
theorem pull(N:NM)(f:Nat->ND){ns:List Nat}{i:Nat}(hi:i∈ns)(X:Led):(((f i).sa,gr (f i))::((f i).na,iS (N.hv i) (f i))::(X++aA N f (ns.erase i))).Perm (X++aA N f ns):=by
 refine List.Perm.trans ?_ ((kL N f hi).append_left X)
 refine(dy (l₁:=[((f i).sa,gr (f i)),((f i).na,iS (N.hv i) (f i))]) (l₂:=X++aA N f (ns.erase i))).trans ?_
 rw[List.append_assoc]
 exact List.Perm.append_left _ dy
theorem yu{i j:Nat}(ps:List Nat):∀g:GG,j∈g.ns->j∈(ps.foldl (dW i) g).ns:=by
 induction ps with
 |nil=>exact fun _ h=>h
 |cons p ps ih=>
  intro g h
  refine ih _ ?_
  show j∈(cb g p).ns
  rw[fZ]
  unfold eE
  split
  ·exact h
  ·exact jH _ h
section
variable(g:GG)(i:Nat)(n:Int)
def fN:GG:={cb g i with np:=aY (cb g i).np i ((cb g i).np i+n)}
theorem oD:(fN g i n).ns=eE g.ns i:=fZ g i
end
theorem Ce{N:NM}{g:GG}{f:Nat->ND}(h:Impl N g f)(i:Nat)(μ:Mu)(x:Int)(t:Tok):
  Impl N (fN g i x) (aY f i {cn f g.ns i μ with np:=(cn f g.ns i μ).np+x,tn:=t}):=by
 have hg:=uE h i μ
 intro j hj
 have q:=hg j hj
 show _=(aY (cb g i).np i ((cb g i).np i+x)) j/\_=((cb g i).su j).map N.hv
 by_cases e:j=i
 ·subst e
  rw[aC]at q
  rw[aC,aC,<-q.1]
  exact⟨rfl,q.2⟩
 ·rw[aL _ _ e]at q
  rw[aL _ _ e,aL _ _ e]
  exact q
theorem D9{g:GG}{b:Nat}(h:jx g b)(i:Nat)(x:Int):jx (fN g i x) (b+1):=by
 have gk:=oe h i
 exact⟨gk.1,gk.2.1,fun j hj=>jK (gk.2.2 j hj)⟩
def wV(i:Nat)(a b:Addr)(ρ:Nat->Nat):Nat->Nat:=fun k=>if k=8*i+3 then a else if k=8*i then b else ρ k
section
variable(N:NM)(g:GG)(i:Nat)(a b:Addr)(ρ:Nat->Nat)
theorem Hv:(aE N g (wV i a b ρ) i).sa=a:=if_pos rfl
theorem Hw:(aE N g (wV i a b ρ) i).na=b:=by
 show wV i a b ρ (8*i)=b
 unfold wV
 rw[if_neg (by lia),if_pos rfl]
end
theorem Hu{f:Nat->ND}{i:Nat}{a b:Addr}(h1:(f i).sa=a)(h2:(f i).na=b):wV i a b (qY f)=qY f:=by
 funext k
 unfold wV
 by_cases e1:k=8*i+3
 ·rw[if_pos e1,e1,<-h1]
  unfold qY
  have:(8*i+3)%8=3:=by lia
  have:(8*i+3)/8=i:=by lia
  simp only[*]
 ·rw[if_neg e1]
  by_cases e2:k=8*i
  ·rw[if_pos e2,e2,<-h2]
   unfold qY
   have:8*i%8=0:=by lia
   have:8*i/8=i:=by lia
   simp only[*]
  ·rw[if_neg e2]
structure ALX where
 fr:Addr
 it:Addr
 tp:Addr
 t1:Tok
 t2:Tok
 t3:Tok
 t4:Tok
 tn:Tok
def oC(f:Nat->ND)(ns:List Nat)(i:Nat)(μ:Mu)(n:Int)(tn:Tok):ND:={cn f ns i μ with np:=(cn f ns i μ).np+n,tn:=tn}
section
variable(N:NM)(S:SO)(f:Nat->ND)(g:GG)(i:Nat)(ps:List Nat)(gf:GG)
noncomputable def dR(μ:Mu):aD w ALX where
 lv:=some 28
 bare:=true
 find c pre _:=match c with
  | .forLoop _ it _ _ _=>
   let f:=(az pre 1).2
   some ⟨(az pre 1).1,gM it,(az pre 2).1,lI f 0,lI f 1,lI f 2,lI f 3,bV ((az pre 7).2.slots[1]?.join.getD .none)⟩
  |_=>none
 code x:=gc w x.fr x.it
 pre x:=[(x.it,cN (.ref x.tp) 0),(x.fr,lF w x.t1 x.t2 x.t3 S.sf (N.hv i) x.tp [aH w "nodeinfo" x.t4 (.ref (cn f g.ns i μ).na)] 4),(x.tp,ae (ps.map N.hv).toArray 0),
  (S.sf,aG S.d),(S.d,aI w.params S.t1 S.t2 S.t3 S.t4 S.n2 S.rv S.po S.nf S.ea),(S.n2,U (ents w N (aY f i (cn f g.ns i μ)) (eE g.ns i)) (kZ S g.ns i).eb),
  ((cn f g.ns i μ).sa,gr (cn f g.ns i μ)),((cn f g.ns i μ).na,iS (N.hv i) (oC f g.ns i μ ps.length x.tn))]
 tail _:=aA N f (g.ns.erase i)
 r _ _:=.ok .next
 post x m:=[cN .none ps.length,lF w x.t1 x.t2 x.t3 S.sf (N.hv i) x.tp (dec w (m.2 0)) (m.1 0),ae (ps.map N.hv).toArray 0,
  aG S.d,aI w.params S.t1 S.t2 S.t3 S.t4 S.n2 S.rv S.po S.nf S.ea,U (ents w N (aE N gf (wV i (cn f g.ns i μ).sa (cn f g.ns i μ).na fun k=>m.1 (k+2))) gf.ns) (m.1 1),
  gr (aE N gf (wV i (cn f g.ns i μ).sa (cn f g.ns i μ).na fun k=>m.1 (k+2)) i),iS (N.hv i) (aE N gf (wV i (cn f g.ns i μ).sa (cn f g.ns i μ).na fun k=>m.1 (k+2)) i)]
 rest _ m:=aA N (aE N gf (wV i (cn f g.ns i μ).sa (cn f g.ns i μ).na fun k=>m.1 (k+2))) (gf.ns.erase i)
theorem sD(eC:fc g i ps=gf)(μ:Mu)(hi:Impl N g f)(b:Nat)(ho:jx g b)(hb:b+1+ps.length<=900):(dR (w:=w) N S f g i ps gf μ).Ok:=by
 intro x fs A s Rz ii _ kk
 have im:=Ce hi i μ ps.length x.tn
 have mi:i∈eE g.ns i:=zy _ _
 have st:Ea i (cn f g.ns i μ).sa (cn f g.ns i μ).na (fN g i ps.length) (aY f i (oC f g.ns i μ ps.length x.tn)):=by
  refine⟨by rw[oD];exact mi,?_,?_⟩
  ·rw[aC];rfl
  ·rw[aC];rfl
 have e2:cX w N {S with eb:=(kZ S g.ns i).eb} (aY f i (oC f g.ns i μ ps.length x.tn)) (fN g i ps.length).ns=[(S.sf,aG S.d),(S.d,aI w.params S.t1 S.t2 S.t3 S.t4 S.n2 S.rv S.po S.nf S.ea),(S.n2,U (ents w N (aY f i (cn f g.ns i μ)) (eE g.ns i)) (kZ S g.ns i).eb)]:=by
  unfold cX
  rw[oD,qw N f i (r:=oC f g.ns i μ ps.length x.tn) (r':=cn f g.ns i μ) rfl]
 have pm:=iR N f i (oC f g.ns i μ ps.length x.tn) ho.nd ([(x.it,cN (.ref x.tp) 0),(x.fr,lF w x.t1 x.t2 x.t3 S.sf (N.hv i) x.tp [aH w "nodeinfo" x.t4 (.ref (cn f g.ns i μ).na)] 4),(x.tp,ae (ps.map N.hv).toArray 0)]++cX w N {S with eb:=(kZ S g.ns i).eb} (aY f i (oC f g.ns i μ ps.length x.tn)) (fN g i ps.length).ns)
 have p0:(lX N S ⟨x.it,x.fr,x.tp,x.t1,x.t2,x.t3,x.t4,.ref (cn f g.ns i μ).na⟩ i ps (fN g i ps.length) w (.ref x.tp) 0 ⟨aY f i (oC f g.ns i μ ps.length x.tn),(kZ S g.ns i).eb,none⟩).Perm ((dR (w:=w) N S f g i ps gf μ).pre x++(dR (w:=w) N S f g i ps gf μ).tail x):=by
  rw[e2]at pm
  show List.Perm (_++(cX w N {S with eb:=(kZ S g.ns i).eb} (aY f i (oC f g.ns i μ ps.length x.tn)) (fN g i ps.length).ns++aA N _ (fN g i ps.length).ns)) _
  rw[e2,oD]
  refine pm.symm.trans ?_
  exact(dy (l₁:=[_,_]) (l₂:=[_,_,_,_,_,_])).append_right (aA N f (g.ns.erase i))
 refine Az N S ⟨x.it,x.fr,x.tp,x.t1,x.t2,x.t3,x.t4,.ref (cn f g.ns i μ).na⟩ i ps (fN g i ps.length) (cn f g.ns i μ).sa (cn f g.ns i μ).na fs (D9 ho i _) hb (y:=⟨aY f i (oC f g.ns i μ ps.length x.tn),(kZ S g.ns i).eb,none⟩) ⟨im,st⟩ ⟨ii.hr,ii.hf,ii.hh,ii.hs.perm p0⟩ fun u s' hu d=> ?_
 obtain⟨l,el⟩:=D7 (w:=w) ⟨x.it,x.fr,x.tp,x.t1,x.t2,x.t3,x.t4,.ref (cn f g.ns i μ).na⟩ u.o
 have eg:yv i ps (fN g i ps.length) ps.length=gf:=by
  unfold yv
  rw[List.take_length];exact eC
 unfold sJ at hu
 rw[eg]at hu
 obtain⟨q2,q3,q4,q5⟩:=hu
 have d2:=d.pre (K:=(dR (w:=w) N S f g i ps gf μ).pre x++(dR (w:=w) N S f g i ps gf μ).tail x) fun a ha=>(p0.map _).subset ha
 refine kk (fun k=>match k with|0=>O0 u.o|1=>u.e|k+2=>qY u.f k,fun _=>l) s' rfl (d2.perm ?_)
 unfold aD.fin dR
 dsimp only
 rw[show wV i (cn f g.ns i μ).sa (cn f g.ns i μ).na (fun k=>(fun k=>match k with|0=>O0 u.o|1=>u.e|k+2=>qY u.f k:Nat->Nat) (k+2))=qY u.f from Hu q4 q5]
 have gu:=CV (w:=w) q2 {S with eb:=u.e}
 unfold CW at gu
 unfold lX Ji Jh
 rw[eg,el,gu]
 have mk:=rM q2 q3
 have pl:=pull N (aE N gf (qY u.f)) q3 ([(x.it,cN .none ps.length),(x.fr,lF w x.t1 x.t2 x.t3 S.sf (N.hv i) x.tp (dec w l) (O0 u.o)),(x.tp,ae (ps.map N.hv).toArray 0)]++cX w N {S with eb:=u.e} (aE N gf (qY u.f)) gf.ns)
 refine List.Perm.trans ?_ pl
 rw[mk,q4,q5,<-mk]
 exact(dy (l₁:=[_,_,_,_,_,_]) (l₂:=[_,_])).append_right (aA N (aE N gf (qY u.f)) (gf.ns.erase i))
noncomputable def vm(eC:fc g i ps=gf)(μ:Mu)(hi:Impl N g f)(b:Nat)(ho:jx g b)(hb:b+1+ps.length<=900):aJ w:=(dR N S f g i ps gf μ).sm (sD N S f g i ps gf eC μ hi b ho hb)
end
section
variable(N:NM)(S:SO)(f:Nat->ND)(g:GG)(i:Nat)(gf:GG)(hz:g.ns.length<1000)(hi:Impl N g f)(bd:Nat)(ho:jx g bd)(fs:List Env)(ν:Nu)(ps:List Nat)(eC:fc g i ps=gf)(hb:bd+1+ps.length<=900)
def XU:Out pw w (TW w) Flow:=bX w ν 225 none (some (30,fs)) 138 (.ref S.sf::N.hv i::ps.map N.hv) (cX w N {S with rv:=.none} f g.ns++aA N f g.ns) 0x811c61440c02490440011040c20020000000020000000000000020020020000000801040040030000800800000000800000000000000000020000000830c30040c21840011030000000c00000c00000c11000c30000030000000c1001040041001040
 [K (KA N {S with rv:=.none} f g.ns i hz),fun ν=>vm N {S with rv:=.none} f g i ps gf eC (pr (ν 6)) hi bd ho hb]
def J1:ND:=cn f g.ns i (pr (ν 6))
def oB:Nat->Nat:=wV i (J1 f g i ν).sa (J1 f g i ν).na fun k=>(pr (ν 14)).1 (k+2)
def Z3(w:World):Led:=((J1 f g i ν).sa,gr (aE N gf (oB f g i ν) i))::((J1 f g i ν).na,iS (N.hv i) (aE N gf (oB f g i ν) i))::(cX w N {S with rv:=.none,eb:=(pr (ν 14)).1 1} (aE N gf (oB f g i ν)) gf.ns++aA N (aE N gf (oB f g i ν)) (gf.ns.erase i))
def Z2:=dJ 218774 (XU (w:=w) N S f g i gf hz hi bd ho fs ν ps eC hb)
def Z1:=asked (.ok (.ret .none)) (Z3 N S f g i gf ν w) (XU (w:=w) N S f g i gf hz hi bd ho fs ν ps eC hb)
theorem O4(hl:ps.length<=2):Z2 (w:=w) N S f g i gf hz hi bd ho fs ν ps eC hb=Z1 (w:=w) N S f g i gf hz hi bd ho fs ν ps eC hb:=by
 cases ps with
 |nil=>kernel_rfl
 |cons a ps=>
  cases ps with
  |nil=>kernel_rfl
  |cons b ps=>
   cases ps with
   |nil=>kernel_rfl
   |cons c ps=>exact absurd hl (Nat.not_le.mpr (Nat.le_add_left 3 ps.length))
end
section
variable(N:NM)(S:SO)(g:GG)(ρ:Nat->Nat)(i:Nat)(ps:List Nat)
noncomputable def O2(gf:GG):aD w Unit where
 lv:=some 30
 bare:=true
 find _ _ _:=some ()
 code _:=.call (.ref 138) ⟨.ref S.sf::N.hv i::ps.map N.hv,[]⟩
 pre _:=cX w N {S with rv:=.none} (aE N g ρ) g.ns
 tail _:=aA N (aE N g ρ) g.ns
 r _ _:=.ok (.ret .none)
 post _ m:=[aG S.d,aI w.params S.t1 S.t2 S.t3 S.t4 S.n2 .none S.po S.nf S.ea,U (ents w N (aE N gf fun k=>m.1 (k+1)) gf.ns) (m.1 0)]
 rest _ m:=aA N (aE N gf fun k=>m.1 (k+1)) gf.ns
theorem Jg(hp:ps.length<=2)(gf:GG)(eC:fc g i ps=gf)(b:Nat)(ho:jx g b)(hb:b+3<=900):(O2 (w:=w) N S g ρ i ps gf).Ok:=by
 intro x fs A s Rz ii _ kk
 have hz:g.ns.length<1000:=by have:=ho.len;lia
 have Zc:i∈gf.ns:=by
  rw[<-eC]
  exact yu ps _ (by show i∈(cb g i).ns;rw[fZ];exact zy _ _)
 have Zp:b+1+ps.length<=900:=by lia
 refine aV (rm:=some (30,fs)) (fun ν=>O4 N S (aE N g ρ) g i gf hz (yY N g ρ) b ho fs ν ps eC Zp hp) (ii.hh rfl) ii.hr ii.hf ii.hs fun ν s' d=> ?_
 refine kk (fun k=>match k with|0=>(pr (ν 14)).1 1|k+1=>oB (aE N g ρ) g i ν k,fun _=>[]) s' rfl (d.perm ?_)
 have p:=(pull N (aE N gf (oB (aE N g ρ) g i ν)) Zc (cX w N {S with rv:=.none,eb:=(pr (ν 14)).1 1} (aE N gf (oB (aE N g ρ) g i ν)) gf.ns)).symm
 rw[show(aE N gf (oB (aE N g ρ) g i ν) i).sa=(J1 (aE N g ρ) g i ν).sa from Hv ..,show(aE N gf (oB (aE N g ρ) g i ν) i).na=(J1 (aE N g ρ) g i ν).na from Hw ..]at p
 exact p
noncomputable def KJ(hp:ps.length<=2)(gf:GG)(eC:fc g i ps=gf)(b:Nat)(ho:jx g b)(hb:b+3<=900):aJ w:=(O2 N S g ρ i ps gf).sm (Jg N S g ρ i ps hp gf eC b ho hb)
end
section
variable(w:World)
def wc(t1:Tok)(sf:Addr)(more:List DictEntry)(n:Nat):Obj:=aW (aH w "self" t1 (.ref sf)::more).toArray n
noncomputable abbrev i4(fr it:Addr):Code:=cw (aK w 150 [3]) (.ref it) (dj w 150 fr)
def iZ(t2 t3:Tok)(tp n2:Addr)(more:List DictEntry):List DictEntry:=aH w "result" t2 (.ref tp)::aH w "n2i" t3 (.ref n2)::more
end
structure O9 where
 it:Addr
 fr:Addr
 tp:Addr
 n2:Addr
 sf:Addr
 t1:Tok
 t2:Tok
 t3:Tok
 eb:Nat
def TO(w:World)(x:O9):Option (Tok×Value)->Obj
 |none=>wc w x.t1 x.sf (iZ w x.t2 x.t3 x.tp x.n2 []) 3
 |some (t,v)=>wc w x.t1 x.sf (iZ w x.t2 x.t3 x.tp x.n2 [aH w "node" t v]) 4
def W9(t:Tok):Option (Tok×Value)->Tok
 |none=>t
 |some (t,_)=>t
def NV(w:World)(x:O9)(es:Array DictEntry)(rs:List Value)(mK:Value)(k:Nat)(o:Option (Tok×Value)):Led:=[(x.it,cN mK k),(x.fr,TO w x o),(x.tp,ae rs.toArray 0),(x.n2,U es x.eb)]
section
variable(N:NM)(x:O9)(es:Array DictEntry)(cG:KeysOf (kS w) es)(R:Led)(i:Nat)(r:ND)(rs:List Value)(o:Option (Tok×Value))(k:Nat)(hk:rs[k]? =some (N.hv i))(hi:bo es (N.nm i)=some (.ref r.na))(fs:List Env)(ν:Nu)
def W8(w:World)(r:ND)(k:Nat)(o:Option (Tok×Value)):Led:=(r.sa,gr r)::(r.na,iS (N.hv i) r)::(NV w x es rs (.ref x.tp) k o++R)
theorem NT:aT 3 (.ok (.again (i4 w x.fr x.it))) (W8 N x es R i rs w {r with np:= -1,tn:=275} (k+1) (some (W9 ((ν 1).1 0) o,N.hv i))) (bW w ν 100 none (some (28,fs)) (i4 w x.fr x.it) (W8 N x es R i rs w r k o) 0x800800000000800000000000000800800800000021400861861040041001020030c0 [K (ct rs k (N.hv i) hk),K (cT (N.nm i) es (.ref r.na) cG hi)]):=by
 cases o<;>kernel_rfl
end
theorem NU(sf n2:Addr)(R:Led)(rs:List Value)(it fr tp:Addr)(t1 t2 t3:Tok)(more:List DictEntry)(n k:Nat)(hk:rs[k]? =none)(fs:List Env)(ν:Nu):
  aT 3418 (.ok .next) ((it,⟨(.type "tuple_iterator"),none,(.fields #[.none,(.int ↑k 0)]),#[]⟩)::(fr,wc w t1 sf (iZ w t2 t3 tp n2 more) n)::(tp,ae rs.toArray 0)::(R))
   (runC w ν 46 none (some (28,fs)) (i4 w fr it) ((it,cN (.ref tp) k)::(fr,wc w t1 sf (iZ w t2 t3 tp n2 more) n)::(tp,ae rs.toArray 0)::(R)) 70866972736 [K (dI rs k hk)]):=by kernel_rfl
def bT(g:GG)(i:Nat):GG:={g with np:=aY g.np i (-1)}
def setG(g:GG)(i:Nat)(x:Int):GG:={g with np:=aY g.np i x}
noncomputable def lS(ρ:Nat->Nat)(i t:Nat):Nat->Nat:=fun k=>if k=8*i+2 then t else ρ k
section
variable(N:NM)(g:GG)(ρ:Nat->Nat)(i:Nat)(x:Int)(t:Nat)
theorem nS:aE N (setG g i x) (lS ρ i t)=aY (aE N g ρ) i {aE N g ρ i with np:=x,tn:=t}:=by
 funext j
 have h:∀c,c<8->c≠2->lS ρ i t (8*j+c)=ρ (8*j+c):=fun c h1 h2=>if_neg (by lia)
 have h0:lS ρ i t (8*j)=ρ (8*j):=if_neg (by lia)
 by_cases e:j=i
 ·subst e
  rw[aC]
  unfold aE
  rw[h0,h 1 (by lia) (by lia),h 3 (by lia) (by lia),h 4 (by lia) (by lia)]
  have h2:lS ρ j t (8*j+2)=t:=if_pos rfl
  rw[h2]
  show ND.mk _ _ (aY g.np j x j) _ _ _ _=_
  rw[aC]
  rfl
 ·rw[aL _ _ e]
  unfold aE
  have h2:lS ρ i t (8*j+2)=ρ (8*j+2):=if_neg (by lia)
  rw[h0,h 1 (by lia) (by lia),h 3 (by lia) (by lia),h 4 (by lia) (by lia),h2]
  show ND.mk _ _ (aY g.np i x j) _ _ _ _=_
  rw[aL _ _ e]
  rfl
theorem wq(ns:List Nat):ents w N (aE N (setG g i x) (lS ρ i t)) ns=ents w N (aE N g ρ) ns:=by
 rw[nS];exact zZ N (aE N g ρ) i {aE N g ρ i with np:=x,tn:=t} rfl ns
end
theorem mB(N:NM)(f:Nat->ND){ns:List Nat}{i:Nat}(nd:ns.Nodup)(hi:i∈ns)(r:ND)(X:Led):((r.sa,gr r)::(r.na,iS (N.hv i) r)::(X++aA N f (ns.erase i))).Perm (X++aA N (aY f i r) ns):=by
 have p:=iR N f i r nd X
 rw[show eE ns i=ns from if_pos hi]at p
 exact p
def df(ρ:Nat->Nat)(i:Nat):Nat->Nat:=lS ρ i 275
theorem tN(rs:List Nat):∀g:GG,(rs.foldl bT g).ns=g.ns:=by
 induction rs with
 |nil=>intro g;rfl
 |cons i rs ih=>intro g;exact ih (bT g i)
theorem mE(N:NM)(rs:List Nat)(ns:List Nat):∀(g:GG) (ρ:Nat->Nat),ents w N (aE N (rs.foldl bT g) (rs.foldl df ρ)) ns=ents w N (aE N g ρ) ns:=by
 induction rs with
 |nil=>intro g ρ;rfl
 |cons i rs ih=>intro g ρ;exact(ih (bT g i) (df ρ i)).trans (wq N g ρ i (-1) 275 ns)
theorem CN(N:NM)(g:GG)(ρ:Nat->Nat){i:Nat}(nd:g.ns.Nodup)(hi:i∈g.ns)(X:Led):
  (((aE N g ρ i).sa,gr (aE N g ρ i))::((aE N g ρ i).na,iS (N.hv i) {aE N g ρ i with np:= -1,tn:=275})::(X++aA N (aE N g ρ) (g.ns.erase i))).Perm (X++aA N (aE N (bT g i) (df ρ i)) g.ns):=by
 have p:=mB N (aE N g ρ) nd hi {aE N g ρ i with np:= -1,tn:=275} X
 have e:aY (aE N g ρ) i {aE N g ρ i with np:= -1,tn:=275}=aE N (bT g i) (df ρ i):=(nS N g ρ i (-1) 275).symm
 rw[e]at p
 exact p
section
variable(N:NM)(x:O9)(g:GG)(ρ:Nat->Nat)(rs:List Nat)(fs:List Env)
def JT(t:Tok):Nat->Option (Tok×Value)
 |0=>none
 |j+1=>some (t,rs[j]?.elim .none N.hv)
def AU(w:World)(mK:Value)(j:Nat)(t:Tok):Led:=NV w x (ents w N (aE N g ρ) g.ns) (rs.map N.hv) mK j (JT N rs t j)++aA N (aE N ((rs.take j).foldl bT g) ((rs.take j).foldl df ρ)) g.ns
theorem CO(nd:g.ns.Nodup)(c5:∀i∈rs,i∈g.ns)(j:Nat)(t:Tok)(hj:j<rs.length):∃z:Nu->Tok,(∀_:Nu,True)/\eB w 28 fs (i4 w x.fr x.it) (AU N x g ρ rs w (.ref x.tp) j t) fun ν=>AU N x g ρ rs w (.ref x.tp) (j+1) (z ν):=by
 have hr:rs[j]? =some rs[j]:=jN hj
 have et:rs.take (j+1)=rs.take j++[rs[j]]:=by rw[List.take_succ,hr];rfl
 have hv:(rs.map N.hv)[j]? =some (N.hv rs[j]):=by rw[List.getElem?_map,hr];rfl
 have hm:=c5 _ (List.getElem_mem hj)
 have ho:=mE (w:=w) N (rs.take j) g.ns g ρ
 have hn:=tN (rs.take j) g
 refine⟨fun ν=>W9 ((ν 1).1 0) (JT N rs t j),fun _=>trivial,?_⟩
 unfold AU
 have ej (u:Tok):JT N rs u (j+1)=some (u,N.hv rs[j]):=by show some (u,rs[j]?.elim Value.none N.hv)=_;rw[hr];rfl
 simp only[ej]
 rw[et,List.foldl_append,List.foldl_append]
 generalize rs[j]=i at hv hm⊢
 generalize (rs.take j).foldl bT g=G at ho hn⊢
 generalize (rs.take j).foldl df ρ=Gk at ho⊢
 have z:=eB.of (w:=w) (by kernel_rfl) fun ν=>NT N x (ents w N (aE N g ρ) g.ns) (cO N _ _) (aA N (aE N G Gk) (g.ns.erase i)) i (aE N G Gk i) (rs.map N.hv) (JT N rs t j) j hv (by rw[<-ho,cL,if_pos hm]) fs ν
 exact z.sw (pull N (aE N G Gk) hm _) fun ν=>hn▸CN N G Gk (hn▸nd) (hn▸hm) _
theorem CP(nd:g.ns.Nodup)(c5:∀i∈rs,i∈g.ns){Q:Result->Shared->Prop}(ii:In w (some 28) true fs A s (AU N x g ρ rs w (.ref x.tp) 0 0))
  (kk:∀u s',Done (T:=TW w) s s' (AU N x g ρ rs w (.ref x.tp) 0 0) (AU N x g ρ rs w .none rs.length u)->Q (.ok .next) s'):codeAny (Mo w) A (i4 w x.fr x.it) Q s:=
 forL (N:=rs.length) (L:=AU N x g ρ rs w (.ref x.tp)) (I:=fun _ _=>True) (E:=AU N x g ρ rs w .none rs.length) (fun j u hj _=>CO N x g ρ rs fs nd c5 j u hj)
  (fun u _=>by
   have hv:(rs.map N.hv)[rs.length]? =none:=by rw[List.getElem?_map,List.getElem?_eq_none (Nat.le_refl _)];rfl
   unfold AU NV TO
   cases JT N rs u rs.length with
   |none=>
    have z:=ng.of (w:=w) (k:=28) fun ν=>NU x.sf x.n2 [] (rs.map N.hv) x.it x.fr x.tp x.t1 x.t2 x.t3 [] 3 rs.length hv fs ν
    exact z.sw (.refl _) (.refl _)
   |some o=>
    have z:=ng.of (w:=w) (k:=28) fun ν=>NU x.sf x.n2 [] (rs.map N.hv) x.it x.fr x.tp x.t1 x.t2 x.t3 [aH w "node" o.1 o.2] 4 rs.length hv fs ν
    exact z.sw (.refl _) (.refl _)) rs.length 0 0 s Q (Nat.zero_add _).symm trivial ii fun u s' _ d=>kk u s' d
theorem CQ(o:Option (Tok×Value)):E2 fun l n=>TO w x o=wc w x.t1 x.sf (iZ w x.t2 x.t3 x.tp x.n2 (dec w l)) n:=by
 cases o with
 |none=>exact⟨[],3,rfl⟩
 |some o=>exact⟨[.str (aaq.S "node") o.1,o.2],4,rfl⟩
end
section
variable(N:NM)(g:GG)(ρ:Nat->Nat)
noncomputable def n9(rs:List Nat)(gf:GG)(lH:Nat->Nat):aD w O9 where
 lv:=some 28
 bare:=true
 find c pre _:=match c with
  | .forLoop _ it _ _ _=>
   let f:=(az pre 1).2
   some ⟨gM it,(az pre 1).1,(az pre 2).1,(az pre 3).1,gM (wR f 0),lI f 0,lI f 1,lI f 2,cK (az pre 3).2⟩
  |_=>none
 code x:=i4 w x.fr x.it
 pre x:=NV w x (ents w N (aE N g ρ) g.ns) (rs.map N.hv) (.ref x.tp) 0 none
 tail _:=aA N (aE N g ρ) g.ns
 r _ _:=.ok .next
 post x m:=[cN .none rs.length,wc w x.t1 x.sf (iZ w x.t2 x.t3 x.tp x.n2 (dec w (m.2 0))) (m.1 0),ae (rs.map N.hv).toArray 0,U (ents w N (aE N gf lH) g.ns) x.eb]
 rest _ _:=aA N (aE N gf lH) g.ns
theorem wb(nd:g.ns.Nodup)(rs:List Nat)(c5:∀i∈rs,i∈g.ns)(gf:GG)(eC:rs.foldl bT g=gf)(lH:Nat->Nat)(qe:rs.foldl df ρ=lH):(n9 (w:=w) N g ρ rs gf lH).Ok:=by
 intro x fs A s Rz ii _ kk
 refine CP N x g ρ rs fs nd c5 ii fun u s' d=> ?_
 obtain⟨l,m,e⟩:=CQ (w:=w) x (JT N rs u rs.length)
 unfold AU NV at d
 rw[e,List.take_length,eC,qe]at d
 have e:ents w N (aE N g ρ) g.ns=ents w N (aE N gf lH) g.ns:=by rw[<-eC,<-qe];exact(mE N rs g.ns g ρ).symm
 refine kk (fun _=>m,fun _=>l) s' rfl ?_
 unfold aD.fin n9
 dsimp only
 rw[<-e]
 exact d
noncomputable def xU(nd:g.ns.Nodup)(rs:List Nat)(c5:∀i∈rs,i∈g.ns)(gf:GG)(eC:rs.foldl bT g=gf)(lH:Nat->Nat)(qe:rs.foldl df ρ=lH):aJ w:=(n9 N g ρ rs gf lH).sm (wb N g ρ nd rs c5 gf eC lH qe)
end
theorem Ib(N:NM)(S:SO)(p:Int)(u:Tok)(g:GG)(ρ:Nat->Nat)(nd:g.ns.Nodup)(rs:List Nat)(c5:∀i∈rs,i∈g.ns)(gf:GG)(eC:rs.foldl bT g=gf)(lH:Nat->Nat)(qe:rs.foldl df ρ=lH)(ra:Addr)(er:Nat)(hz:(rs.map N.hv).length<1000000)(fs:List Env)(ν:Nu):
  aT 54630 (.ok (.ret (.ref ((pr (ν 4)).fst 0)))) (((pr (ν 4)).fst 0,ae ((List.map N.hv rs).toArray) 0)::(S.sf,aG S.d)::(S.d,U #[aH w "_node2info" S.t1 (.ref S.n2),aH w "_ready_nodes" S.t2 (.ref ra),aH w "_npassedout" S.t3 (.int (p+↑(List.map N.hv rs).length) ((ν 14).fst 0)),aH w "_nfinished" S.t4 S.nf] S.ea)::(S.n2,U (ents w N (aE N gf lH) g.ns) S.eb)::(ra,ah #[] (wK (List.map N.hv rs) er))::(aA N (aE N gf lH) g.ns))
   (bX w ν 243 none (some (30,fs)) 150 [.ref S.sf] ((S.sf,aG S.d)::(S.d,aI w.params S.t1 S.t2 S.t3 S.t4 S.n2 (.ref ra) (.int p u) S.nf S.ea)::(S.n2,U (ents w N (aE N g ρ) g.ns) S.eb)::(ra,aj (rs.map N.hv) er)::(aA N (aE N g ρ) g.ns)) 0xc51450001000001001001000000040010020c00050041000001000000040c60021c71c71401040000040000001031410802050410010410820801000c30000030000000c20820010400411000800c00820000020000000810000c0082000002000000081001040 [K (mw (rs.map N.hv) hz),K (xU N g ρ nd rs c5 gf eC lH qe),K (Bu (rs.map N.hv) hz),K (q8 (rs.map N.hv) hz)]):=by kernel_rfl
def EJ(w:World)(N:NM)(S:SO)(p q:Int)(u v:Tok)(f:Nat->ND)(ns:List Nat)(ra:Addr)(rs:List Value)(er:Nat):Led:=
 [(S.sf,aG S.d),(S.d,aI w.params S.t1 S.t2 S.t3 S.t4 S.n2 (.ref ra) (.int p u) (.int q v) S.ea),(S.n2,U (ents w N f ns) S.eb),(ra,aj rs er)]
section
variable(N:NM)(S:SO)(p q:Int)(u v:Tok)(g:GG)(ρ:Nat->Nat)
noncomputable def JS(rs:List Nat)(gf:GG)(lH:Nat->Nat)(ra:Addr)(er:Nat):aD w Unit where
 lv:=some 30
 bare:=true
 find _ _ _:=some ()
 code _:=.call (.ref 150) ⟨[.ref S.sf],[]⟩
 pre _:=EJ w N S p q u v (aE N g ρ) g.ns ra (rs.map N.hv) er
 tail _:=aA N (aE N g ρ) g.ns
 r _ m:=.ok (.ret (.ref (m.1 0)))
 post _ m:=[aG S.d,aI w.params S.t1 S.t2 S.t3 S.t4 S.n2 (.ref ra) (.int (p+rs.length) (m.1 1)) (.int q v) S.ea,U (ents w N (aE N gf lH) g.ns) S.eb,ah #[] (m.1 2)]
 new _ m:=[(m.1 0,ae (rs.map N.hv).toArray 0)]
 rest _ _:=aA N (aE N gf lH) g.ns
theorem NS(nd:g.ns.Nodup)(rs:List Nat)(c5:∀i∈rs,i∈g.ns)(hz:rs.length<1000000)(gf:GG)(eC:rs.foldl bT g=gf)(lH:Nat->Nat)(qe:rs.foldl df ρ=lH)(ra:Addr)(er:Nat):(JS (w:=w) N S p q u v g ρ rs gf lH ra er).Ok:=by
 intro x fs A s Rz ii _ kk
 refine cQ (kC (rm:=some (30,fs)) (fun ν=>Ib N {S with nf:=.int q v} p u g ρ nd rs c5 gf eC lH qe ra er (by rw[List.length_map];exact hz) fs ν) (ii.hh rfl) ii.hr ii.hf ii.hs) fun r s' z=> ?_
 obtain⟨ν,z,d⟩:=z
 rw[List.length_map]at d
 refine wo z (kk ((fun k=>match k with|0=>(pr (ν 4)).1 0|1=>(ν 14).1 0|_=>wK (rs.map N.hv) er,fun _=>[])) s' rfl (d.perm ?_))
 exact lY (l₁:=[_,_,_,_])
end
section
variable(S:SO)(p q:Int)(u v:Tok)(ra:Addr)
theorem SY(rs:List Value)(er:Nat)(hq:decide (q<p)=true)(fs:List Env)(ν:Nu):
  aT 86 (.ok (.ret (.bool true))) [(S.sf,aG S.d),(S.d,aI w.params S.t1 S.t2 S.t3 S.t4 S.n2 (.ref ra) (.int p u) (.int q v) S.ea),(ra,aj rs er)]
   (bX w ν 113 none (some (30,fs)) 157 [.ref S.sf] [(S.sf,aG S.d),(S.d,aI w.params S.t1 S.t2 S.t3 S.t4 S.n2 (.ref ra) (.int p u) (.int q v) S.ea),(ra,aj rs er)] 0x410c00820000020000000810c00820000020000000810c0082000002000000081001040 [K (kp q p true hq)]):=by kernel_rfl
theorem SX(a:Value)(rs:List Value)(hz:(a::rs).length<1000000)(er:Nat)(hq:decide (q<p)=false)(fs:List Env)(ν:Nu):
  aT 86 (.ok (.ret (.bool true))) [(S.sf,aG S.d),(S.d,aI w.params S.t1 S.t2 S.t3 S.t4 S.n2 (.ref ra) (.int p u) (.int q v) S.ea),(ra,aj (a::rs) er)]
   (bX w ν 149 none (some (30,fs)) 157 [.ref S.sf] [(S.sf,aG S.d),(S.d,aI w.params S.t1 S.t2 S.t3 S.t4 S.n2 (.ref ra) (.int p u) (.int q v) S.ea),(ra,aj (a::rs) er)] NN [K (kp q p false hq),K (eZ (a::rs) hz)]):=by kernel_rfl
theorem SW(er:Nat)(hq:decide (q<p)=false)(fs:List Env)(ν:Nu):
  aT 86 (.ok (.ret (.bool false))) [(S.sf,aG S.d),(S.d,aI w.params S.t1 S.t2 S.t3 S.t4 S.n2 (.ref ra) (.int p u) (.int q v) S.ea),(ra,ah #[] er)]
   (bX w ν 149 none (some (30,fs)) 157 [.ref S.sf] [(S.sf,aG S.d),(S.d,aI w.params S.t1 S.t2 S.t3 S.t4 S.n2 (.ref ra) (.int p u) (.int q v) S.ea),(ra,ah #[] er)] NN [K (kp q p false hq),K (eZ [] (by decide))]):=by kernel_rfl
noncomputable def WD(rs:List Value)(er:Nat)(b:Bool):aD w Unit where
 lv:=some 30
 bare:=true
 find _ _ _:=some ()
 code _:=.call (.ref 157) ⟨[.ref S.sf],[]⟩
 pre _:=[(S.sf,aG S.d),(S.d,aI w.params S.t1 S.t2 S.t3 S.t4 S.n2 (.ref ra) (.int p u) (.int q v) S.ea),(ra,aj rs er)]
 r _ _:=.ok (.ret (.bool b))
 post _ _:=[aG S.d,aI w.params S.t1 S.t2 S.t3 S.t4 S.n2 (.ref ra) (.int p u) (.int q v) S.ea,aj rs er]
theorem Nz(rs:List Value)(hz:rs.length<1000000)(er:Nat)(b:Bool)(hb:(decide (q<p)|| !rs.isEmpty)=b):(WD (w:=w) S p q u v ra rs er b).Ok:=by
 intro x fs A s Rz ii _ kk
 cases hq:decide (q<p)with
 |true=>
  rw[hq,Bool.true_or]at hb
  subst hb
  exact aV (rm:=some (30,fs)) (fun ν=>SY S p q u v ra rs er hq fs ν) (ii.hh rfl) ii.hr ii.hf ii.hs fun ν s' d=>kk eQ s' rfl d
 |false=>
  cases rs with
  |nil=>
   rw[hq]at hb
   subst hb
   exact aV (rm:=some (30,fs)) (fun ν=>SW S p q u v ra er hq fs ν) (ii.hh rfl) ii.hr ii.hf ii.hs fun ν s' d=>kk eQ s' rfl d
  |cons a rs=>
   rw[hq]at hb
   subst hb
   exact aV (rm:=some (30,fs)) (fun ν=>SX S p q u v ra a rs hz er hq fs ν) (ii.hh rfl) ii.hr ii.hf ii.hs fun ν s' d=>kk eQ s' rfl d
noncomputable def Ky(rs:List Value)(hz:rs.length<1000000)(er:Nat)(b:Bool)(hb:(decide (q<p)|| !rs.isEmpty)=b):aJ w:=(WD S p q u v ra rs er b).sm (Nz S p q u v ra rs hz er b hb)
end
section
variable(w:World)
def I1(t1 t2 t3 t4 t5 t6:Tok)(sf tp n2:Addr)(nv iv st:Value)(more:List DictEntry)(n:Nat):Obj:=
 aW (aH w "self" t1 (.ref sf)::aH w "nodes" t2 (.ref tp)::aH w "n2i" t3 (.ref n2)::aH w "node" t4 nv::aH w "nodeinfo" t5 iv::aH w "stat" t6 st::more).toArray n
def IZ(t7 t8:Tok)(a b:Value):List DictEntry:=[aH w "successor" t7 a,aH w "successor_info" t8 b]
noncomputable abbrev wA(fr it:Addr):Code:=cw (aK w 171 [2,4]) (.ref it) (dj w 171 fr)
end
structure DI where
 t7:Tok
 t8:Tok
 a:Value
 b:Value
def Sx(w:World):Option DI->List DictEntry
 |none=>[]
 |some d=>IZ w d.t7 d.t8 d.a d.b
def Sw:Option DI->Nat
 |none=>6
 |some _=>8
structure DC where
 p:Int
 q:Int
 u:Tok
 v:Tok
 la:Addr
 el:Nat
 ra:Addr
 it:Addr
 fr:Addr
 tp:Addr
 t1:Tok
 t2:Tok
 t3:Tok
 t4:Tok
 t5:Tok
 t6:Tok
 nv:Value
 iv:Value
 st:Value
def Qm(w:World)(S:SO)(c:DC)(es:Array DictEntry)(su:List Value)(mK:Value)(k:Nat)(f:Option DI)(rs:List Value)(er:Nat):Led:=
 [(c.it,aZ mK k),(c.la,aj su c.el),(c.fr,I1 w c.t1 c.t2 c.t3 c.t4 c.t5 c.t6 S.sf c.tp S.n2 c.nv c.iv c.st (Sx w f) (Sw f)),(S.sf,aG S.d),(S.d,aI w.params S.t1 S.t2 S.t3 S.t4 S.n2 (.ref c.ra) (.int c.p c.u) (.int c.q c.v) S.ea),(S.n2,U es S.eb),(c.ra,aj rs er)]
def XH(N:NM)(s:Nat)(r:ND)(ν:Nu):Option DI->DI
 |none=>⟨(ν 1).1 0,(ν 3).1 0,N.hv s,.ref r.na⟩
 |some d=>⟨d.t7,d.t8,N.hv s,.ref r.na⟩
section
variable(N:NM)(S:SO)(c:DC)(es:Array DictEntry)(cG:KeysOf (kS w) es)(R:Led)(s:Nat)(r:ND)(su rs:List Value)(hz:rs.length<1000000)(er:Nat)(f:Option DI)(k:Nat)(hk:su[k]? =some (N.hv s))(hi:bo es (N.nm s)=some (.ref r.na))(b:Bool)(hn:decide (r.np-1=0)=b)(fs:List Env)(ν:Nu)
def OI(w:World)(r:ND)(k:Nat)(f:Option DI)(rs:List Value)(er:Nat):Led:=(r.sa,gr r)::(r.na,iS (N.hv s) r)::(Qm w S c es su (.ref c.la) k f rs er++R)
noncomputable def Vd:=bW w ν 222 none (some (26,fs)) (wA w c.fr c.it) (OI N S c es R s su w r k f rs er) 0x2000852492491c01860000060000001850010420020000000020000000000000000000800000021420020000000020000000000000020020020000000800800800000000800000000000000000020000000851450070022082051451400c20030c0 [K (cu su k (N.hv s) hk),K (cT (N.nm s) es (.ref r.na) cG hi),K (aF (r.np-1) 0 b hn),K (av rs hz)]
theorem I0:aT 3 (.ok (.again (wA w c.fr c.it))) (OI N S c es R s su w {r with np:=r.np-1,tn:=(ν 6).1 0} (k+1) (some (XH N s r ν f)) (bif b then rs++[N.hv s]else rs) (bif b then er+1 else er)) (Vd (w:=w) N S c es cG R s r su rs hz er f k hk hi b hn fs ν):=by
 cases f<;>cases b<;>kernel_rfl
end
theorem OH(R:Led)(su:List Value)(la:Addr)(el:Nat)(it fr:Addr)(k:Nat)(hk:su[k]? =none)(fs:List Env)(ν:Nu):
  aT 858 (.ok .next) ((it,⟨(.type "list_iterator"),none,(.fields #[.none,(.int ↑k 0)]),#[]⟩)::(la,aj su el)::(R))
   (runC w ν 46 none (some (26,fs)) (wA w fr it) ((it,aZ (.ref la) k)::(la,aj su el)::(R)) 69793230912 [K (da su k hk)]):=by kernel_rfl
def aR(ρ τ:Nat->Nat):Nat->Nat:=fun k=>if k%8=2 then τ k else ρ k
theorem yd(ρ τ:Nat->Nat)(i t:Nat):lS (aR ρ τ) i t=aR ρ (fun k=>if k=8*i+2 then t else τ k):=by
 funext k
 unfold lS aR
 by_cases h:k=8*i+2
 ·have:k%8=2:=by lia
  rw[if_pos h,if_pos this];exact(if_pos h).symm
 ·rw[if_neg h]
  by_cases h2:k%8=2
  ·rw[if_pos h2,if_pos h2];exact(if_neg h).symm
  ·rw[if_neg h2,if_neg h2]
def fq(x:GG×List Nat)(s:Nat):GG×List Nat:=(setG x.1 s (x.1.np s-1),if x.1.np s-1=0 then x.2++[s]else x.2)
theorem DU(l:List Nat):∀x:GG×List Nat,(l.foldl fq x).2.length<=x.2.length+l.length:=by
 induction l with
 |nil=>exact fun x=>bC _
 |cons s l ih=>
  intro x
  have h:(fq x s).2.length<=x.2.length+1:=by
   unfold fq
   split
   ·exact Nat.le_of_eq List.length_append
   ·exact Nat.le_succ _
  have:=ih (fq x s)
  rw[List.foldl_cons,List.length_cons];lia
theorem map_if{β:Type}(f:α->β)(p:Prop) [Decidable p](l:List α)(a:α):(if p then l++[a]else l).map f=bif decide p then l.map f++[f a]else l.map f:=by
 by_cases h:p
 ·rw[if_pos h,decide_eq_true h,List.map_append];rfl
 ·rw[if_neg h,decide_eq_false h];rfl
structure DZ where
 τ:Nat->Nat
 e:Nat
 f:Option DI
section
variable(N:NM)(S:SO)(c:DC)(ns:List Nat)(i:Nat)(ρ:Nat->Nat)(es:Array DictEntry)(su:List Nat)(x:GG×List Nat)(fs:List Env)
def DP(w:World)(mK:Value)(j:Nat)(y:DZ):Led:=Qm w S c es (su.map N.hv) mK j y.f (((su.take j).foldl fq x).2.map N.hv) y.e++aA N (aE N ((su.take j).foldl fq x).1 (aR ρ y.τ)) (ns.erase i)
theorem DN(nd:ns.Nodup)(cG:∀g τ,es=ents w N (aE N g (aR ρ τ)) ns)(c5:∀s∈su,s∈ns.erase i)(hb:x.2.length+su.length<=1000)(j:Nat)(y:DZ)(hj:j<su.length):∃z:Nu->DZ,(∀_:Nu,True)/\eB w 26 fs (wA w c.fr c.it) (DP N S c ns i ρ es su x w (.ref c.la) j y) fun ν=>DP N S c ns i ρ es su x w (.ref c.la) (j+1) (z ν):=by
 have hr:su[j]? =some su[j]:=jN hj
 have et:su.take (j+1)=su.take j++[su[j]]:=by rw[List.take_succ,hr];rfl
 have hv:(su.map N.hv)[j]? =some (N.hv su[j]):=by rw[List.getElem?_map,hr];rfl
 have hm:=c5 _ (List.getElem_mem hj)
 have hz:=DU (su.take j) x
 rw[List.length_take]at hz
 unfold DP
 rw[et,List.foldl_append]
 generalize su[j]=k at hv hm⊢
 generalize (su.take j).foldl fq x=X at hz⊢
 have z:=eB.of (w:=w) (by kernel_rfl) fun ν=>I0 N S c es (cG X.1 y.τ▸cO N _ _) (aA N (aE N X.1 (aR ρ y.τ)) ((ns.erase i).erase k)) k (aE N X.1 (aR ρ y.τ) k) (su.map N.hv) (X.2.map N.hv) (by rw[List.length_map];lia) y.e y.f j hv (by rw[cG X.1 y.τ,cL,if_pos (List.mem_of_mem_erase hm)]) _ rfl fs ν
 refine⟨fun ν=>⟨fun n=>if n=8*k+2 then(ν 6).1 0 else y.τ n,bif decide (X.1.np k-1=0)then y.e+1 else y.e,some (XH N k (aE N X.1 (aR ρ y.τ) k) ν y.f)⟩,fun _=>trivial,z.sw (pull N (aE N X.1 (aR ρ y.τ)) hm _) fun ν=> ?_⟩
 have p2:=mB N (aE N X.1 (aR ρ y.τ)) (nd.erase i) hm {aE N X.1 (aR ρ y.τ) k with np:=X.1.np k-1,tn:=(ν 6).1 0}
 rw[<-nS N X.1 (aR ρ y.τ) k (X.1.np k-1) ((ν 6).1 0),yd]at p2
 show List.Perm _ (Qm w S c es (su.map N.hv) (.ref c.la) (j+1) _ ((if X.1.np k-1=0 then X.2++[k]else X.2).map N.hv) _++_)
 rw[map_if]
 exact p2 _
theorem Af(nd:ns.Nodup)(cG:∀g τ,es=ents w N (aE N g (aR ρ τ)) ns)(c5:∀s∈su,s∈ns.erase i)(hb:x.2.length+su.length<=1000){Q:Result->Shared->Prop}{y:DZ}(ii:In w (some 26) true fs A s (DP N S c ns i ρ es su x w (.ref c.la) 0 y))
  (kk:∀u s',Done (T:=TW w) s s' (DP N S c ns i ρ es su x w (.ref c.la) 0 y) (DP N S c ns i ρ es su x w .none su.length u)->Q (.ok .next) s'):codeAny (Mo w) A (wA w c.fr c.it) Q s:=
 forL (N:=su.length) (L:=DP N S c ns i ρ es su x w (.ref c.la)) (I:=fun _ _=>True) (E:=DP N S c ns i ρ es su x w .none su.length) (fun j u hj _=>DN N S c ns i ρ es su x fs nd cG c5 hb j u hj)
  (fun u _=>by
   have z:=ng.of (w:=w) (k:=26) fun ν=>OH [] (su.map N.hv) c.la c.el c.it c.fr su.length (by rw[List.getElem?_map,List.getElem?_eq_none (Nat.le_refl _)];rfl) fs ν
   exact z.sw (.refl _) (.refl _)) su.length 0 y s Q (Nat.zero_add _).symm trivial ii fun u s' _ d=>kk u s' d
end
def Qn(m:Mu):Option DI:=match m.1 0 with
 |0=>none
 |_=>some ⟨m.1 1,m.1 2,(m.2 0).headD .none,(m.2 1).headD .none⟩
noncomputable def ZR(y:DZ):Mu:=match y.f with
 |none=>(fun k=>match k with|0=>0|1=>0|2=>0|3=>y.e|k+4=>y.τ k,fun _=>[])
 |some d=>(fun k=>match k with|0=>1|1=>d.t7|2=>d.t8|3=>y.e|k+4=>y.τ k,fun k=>match k with|0=>[d.a]|_=>[d.b])
noncomputable def FZ(N:NM)(S:SO)(ns:List Nat)(i:Nat)(ρ τ:Nat->Nat)(g:GG)(es:Array DictEntry)(su rs:List Nat)(f:Option DI)(gf:GG)(yo:List Nat):aD w (DC×Nat)where
 lv:=some 26
 bare:=true
 find c pre _:=match c with
  | .forLoop _ it _ _ _=>
   let f:=(az pre 2).2
   let d:=(az pre 4).2
   some (⟨rS (wR d 2),rS (wR d 3),bV (wR d 2),bV (wR d 3),(az pre 1).1,cK (az pre 1).2,(az pre 6).1,gM it,(az pre 2).1,gM (wR f 1),lI f 0,lI f 1,lI f 2,lI f 3,lI f 4,lI f 5,wR f 3,wR f 4,wR f 5⟩,cK (az pre 6).2)
  |_=>none
 code x:=wA w x.1.fr x.1.it
 pre x:=Qm w S x.1 es (su.map N.hv) (.ref x.1.la) 0 f (rs.map N.hv) x.2
 tail _:=aA N (aE N g (aR ρ τ)) (ns.erase i)
 r _ _:=.ok .next
 post x m:=[aZ .none su.length,aj (su.map N.hv) x.1.el,I1 w x.1.t1 x.1.t2 x.1.t3 x.1.t4 x.1.t5 x.1.t6 S.sf x.1.tp S.n2 x.1.nv x.1.iv x.1.st (Sx w (Qn m)) (Sw (Qn m)),aG S.d,aI w.params S.t1 S.t2 S.t3 S.t4 S.n2 (.ref x.1.ra) (.int x.1.p x.1.u) (.int x.1.q x.1.v) S.ea,U es S.eb,aj (yo.map N.hv) (m.1 3)]
 rest _ m:=aA N (aE N gf (aR ρ fun k=>m.1 (k+4))) (ns.erase i)
section
variable(N:NM)(S:SO)(ns:List Nat)(nd:ns.Nodup)(i:Nat)(ρ τ:Nat->Nat)(g:GG)(es:Array DictEntry)(cG:∀g τ,es=ents w N (aE N g (aR ρ τ)) ns)(su rs:List Nat)(c5:∀s∈su,s∈ns.erase i)(hb:rs.length+su.length<=1000)(f:Option DI)(gf:GG)(yo:List Nat)(hg:su.foldl fq (g,rs)=(gf,yo))
include nd cG c5 hb hg in
theorem DQ:(FZ (w:=w) N S ns i ρ τ g es su rs f gf yo).Ok:=by
 intro x fs A s Rz ii _ kk
 refine Af N S x.1 ns i ρ es su (g,rs) fs nd cG c5 hb (y:=⟨τ,x.2,f⟩) ii fun u s' d=>kk (ZR u) s' rfl ?_
 unfold DP at d
 rw[List.take_length,hg]at d
 obtain⟨nh,e,f'⟩:=u
 cases f'<;>exact d
noncomputable def G5:aJ w:=(FZ N S ns i ρ τ g es su rs f gf yo).sm (DQ N S ns nd i ρ τ g es cG su rs c5 hb f gf yo hg)
end
noncomputable abbrev mX(w:World)(fr it:Addr):Code:=cw (aK w 171 [2]) (.ref it) (dj w 171 fr)
def F0(w:World)(t1 t2 t3:Tok)(sf tp n2:Addr):Obj:=aW (aH w "self" t1 (.ref sf)::aH w "nodes" t2 (.ref tp)::aH w "n2i" t3 (.ref n2)::[]).toArray 3
structure DO where
 p:Int
 u:Tok
 ra:Addr
 it:Addr
 fr:Addr
 tp:Addr
 t1:Tok
 t2:Tok
 t3:Tok
structure DF where
 t4:Tok
 t5:Tok
 t6:Tok
 nv:Value
 iv:Value
 st:Value
 o:Option DI
section
variable(w:World)(S:SO)(c:DO)
def Va(es:Array DictEntry)(nodes:List Value)(mK:Value)(k:Nat)(F:Obj)(q:Int)(v:Tok)(rs:List Value)(er:Nat):Led:=
 [(c.it,cN mK k),(c.fr,F),(c.tp,ae nodes.toArray 0),(S.sf,aG S.d),(S.d,aI w.params S.t1 S.t2 S.t3 S.t4 S.n2 (.ref c.ra) (.int c.p c.u) (.int q v) S.ea),(S.n2,U es S.eb),(c.ra,aj rs er)]
def Vb:Option DF->Obj
 |none=>F0 w c.t1 c.t2 c.t3 S.sf c.tp S.n2
 |some f=>I1 w c.t1 c.t2 c.t3 f.t4 f.t5 f.t6 S.sf c.tp S.n2 f.nv f.iv f.st (Sx w f.o) (Sw f.o)
end
def ZP:Option DF->Option DI
 |none=>none
 |some f=>f.o
def XG(N:NM)(i:Nat)(r:ND)(ν:Nu)(f:Option DF):DF:=match f with
 |none=>⟨(ν 1).1 0,(ν 3).1 0,(ν 5).1 0,N.hv i,.ref r.na,.int r.np r.tn,Qn (pr (ν 10))⟩
 |some f=>⟨f.t4,f.t5,f.t6,N.hv i,.ref r.na,.int r.np r.tn,Qn (pr (ν 10))⟩
section
variable(N:NM)(S:SO)(c:DO)(q:Int)(v:Tok)(ns:List Nat)(nd:ns.Nodup)(i:Nat)(ρ τ:Nat->Nat)(g:GG)(es:Array DictEntry)(cG:∀g τ,es=ents w N (aE N g (aR ρ τ)) ns)(WU:KeysOf (kS w) es)(r:ND)(su rs:List Nat)(c5:∀s∈su,s∈ns.erase i)(hb:rs.length+su.length<=1000)(gf:GG)(yo:List Nat)(hg:su.foldl fq (g,rs)=(gf,yo))(er:Nat)(nodes:List Value)(f:Option DF)(k:Nat)(hk:nodes[k]? =some (N.hv i))(hi:(bo es (N.nm i)).getD .none=.ref r.na)(hn:(!(decide (r.np= -1)))=false)(fs:List Env)(ν:Nu)
def Vc(w:World)(r:ND)(k:Nat)(f:Option DF)(q:Int)(v:Tok)(rs:List Nat)(er:Nat)(g:GG)(τ:Nat->Nat):Led:=(r.sa,aj (su.map N.hv) r.ep)::(r.na,iS (N.hv i) r)::(Va w S c es nodes (.ref c.tp) k (Vb w S c f) q v (rs.map N.hv) er++aA N (aE N g (aR ρ τ)) (ns.erase i))
noncomputable def ZQ:=bW w ν 267 none (some (28,fs)) (mX w c.fr c.it) (Vc N S c ns i ρ es su nodes w r k f q v rs er g τ) 0x2082000070000070070070000001c02001c70000070000001c52481c610100b2010400410420020000000020000000000000000000800000021020020000000020000000000000020020020000000840000410041040020020000000020000000000000000000800000021041001c00842082081041001020030c0 [K (ct nodes k (N.hv i) hk),K (xV (N.nm i) es (.ref r.na) WU hi),K (Rc r.np (-1) false hn),K (G5 N S ns nd i ρ τ g es cG su rs c5 hb (ZP f) gf yo hg)]
theorem OF(WH:r.su=su.map N.hv):aT 3495254 (.ok (.again (mX w c.fr c.it))) (Vc N S c ns i ρ es su nodes w {r with np:= -2,tn:=278} (k+1) (some (XG N i r ν f)) (q+1) ((ν 13).1 0) yo ((pr (ν 10)).1 3) gf fun k=>(pr (ν 10)).1 (k+4)) (ZQ (w:=w) N S c q v ns nd i ρ τ g es cG WU r su rs c5 hb gf yo hg er nodes f k hk hi hn fs ν):=by
 cases f<;>kernel_rfl
end
theorem OG(S:SO)(R:Led)(nodes:List Value)(it fr tp:Addr)(k:Nat)(hk:nodes[k]? =none)(fs:List Env)(ν:Nu):
  aT 858 (.ok .next) ((it,⟨(.type "tuple_iterator"),none,(.fields #[.none,(.int ↑k 0)]),#[]⟩)::(tp,ae nodes.toArray 0)::(R))
   (runC w ν 46 none (some (28,fs)) (mX w fr it) ((it,cN (.ref tp) k)::(tp,ae nodes.toArray 0)::(R)) 69793230912 [K (dI nodes k hk)]):=by kernel_rfl
def gb(x:GG×List Nat)(i:Nat):GG×List Nat:=(x.1.su i).foldl fq (setG x.1 i (-2),x.2)
def qT(ns:List Nat):List Nat->GG×List Nat->Prop
 |[],_=>True
 |i::l,x=>i∈ns/\x.1.np i= -1/\(∀s∈x.1.su i,s∈ns/\s≠i)/\x.2.length+(x.1.su i).length<=1000/\qT ns l (gb x i)
theorem I6(l:List Nat):∀x:GG×List Nat,(l.foldl fq x).1.ns=x.1.ns/\(l.foldl fq x).1.su=x.1.su:=by
 induction l with
 |nil=>intro x;exact⟨rfl,rfl⟩
 |cons s l ih=>intro x;exact ih (fq x s)
theorem I7(i:Nat)(l:List Nat):∀x:GG×List Nat,i∉l->(l.foldl fq x).1.np i=x.1.np i:=by
 induction l with
 |nil=>intro x _;rfl
 |cons s l ih=>
  intro x h
  rw[List.foldl_cons,ih (fq x s) fun m=>h (.tail _ m)]
  show aY x.1.np s (x.1.np s-1) i=x.1.np i
  exact aL _ _ fun e=>h (e▸ .head _)
theorem FY(x:GG×List Nat)(i:Nat):(gb x i).1.ns=x.1.ns/\(gb x i).1.su=x.1.su:=I6 _ _
theorem pU(N:NM){g g':GG}{ρ Gk:Nat->Nat}{i:Nat}{l:List Nat}(hi:i∉l)(h1:∀j,j≠i->g.np j=g'.np j/\g.su j=g'.su j)(h2:∀k,k/8≠i->ρ k=Gk k):aA N (aE N g ρ) l=aA N (aE N g' Gk) l:=
 gH N fun j hj=>by
  have ne:j≠i:=fun e=>hi (e▸hj)
  unfold aE
  rw[(h1 j ne).1,(h1 j ne).2,h2 (8*j) (by lia),h2 (8*j+1) (by lia),h2 (8*j+2) (by lia),h2 (8*j+3) (by lia),h2 (8*j+4) (by lia)]
theorem DK(N:NM)(S:SO)(c:DO)(ns:List Nat)(nd:ns.Nodup)(ρ τ nh:Nat->Nat)(x:GG×List Nat)(i:Nat)(hi:i∈ns)(hx:x.1.ns=ns)(WH:∀s∈x.1.su i,s≠i)(X:Led):
  (((aE N x.1 (aR ρ τ) i).sa,aj ((x.1.su i).map N.hv) (aE N x.1 (aR ρ τ) i).ep)::((aE N x.1 (aR ρ τ) i).na,iS (N.hv i) {aE N x.1 (aR ρ τ) i with np:= -2,tn:=278})::(X++aA N (aE N (gb x i).1 (aR ρ nh)) (ns.erase i))).Perm
   (X++aA N (aE N (gb x i).1 (aR ρ fun k=>if k=8*i+2 then 278 else nh k)) ns):=by
 have p:=pull N (aE N (gb x i).1 (aR ρ fun k=>if k=8*i+2 then 278 else nh k)) hi X
 have e1:aE N (gb x i).1 (aR ρ fun k=>if k=8*i+2 then 278 else nh k) i={aE N x.1 (aR ρ τ) i with np:= -2,tn:=278}:=by
  unfold aE aR
  have a0:¬(8*i%8=2):=by lia
  have a1:¬((8*i+1)%8=2):=by lia
  have a2:(8*i+2)%8=2:=by lia
  have a3:¬((8*i+3)%8=2):=by lia
  have a4:¬((8*i+4)%8=2):=by lia
  have np:(gb x i).1.np i= -2:=by
   unfold gb
   rw[I7 i _ _ fun m=>WH i m rfl]
   exact aC _ _ _
  have su:(gb x i).1.su i=x.1.su i:=by rw[(FY x i).2]
  simp only[a0,a1,a2,a3,a4,if_true,if_false,np,su]
 have e2:aA N (aE N (gb x i).1 (aR ρ nh)) (ns.erase i)=aA N (aE N (gb x i).1 (aR ρ fun k=>if k=8*i+2 then 278 else nh k)) (ns.erase i):=by
  refine pU N (i:=i) (fun m=>(List.Nodup.mem_erase_iff nd).mp m|>.1 rfl) (fun _ _=>⟨rfl,rfl⟩) fun k hk=> ?_
  unfold aR
  split
  ·have:k≠8*i+2:=by lia
   exact(if_neg this).symm
  ·rfl
 rw[e2]
 rw[e1]at p
 exact p
theorem DH(N:NM)(ns:List Nat)(nd:ns.Nodup)(ρ:Nat->Nat)(x:GG×List Nat)(i:Nat):aA N (aE N x.1 ρ) (ns.erase i)=aA N (aE N (setG x.1 i (-2)) ρ) (ns.erase i):=
 pU N (i:=i) (fun m=>(List.Nodup.mem_erase_iff nd).mp m|>.1 rfl) (fun j hj=>⟨(aL _ _ hj).symm,rfl⟩) fun _ _=>rfl
theorem yP{ns:List Nat}:∀(j:Nat) (nodes:List Nat) (x:GG×List Nat),qT ns nodes x->x.1.ns=ns->qT ns (nodes.drop j) ((nodes.take j).foldl gb x)/\((nodes.take j).foldl gb x).1.ns=ns
 |0,_,_,h,e=>⟨h,e⟩
 |_+1,[],_,h,e=>⟨h,e⟩
 |j+1,i::l,x,h,e=>yP j l (gb x i) h.2.2.2.2 ((FY x i).1.trans e)
noncomputable def qJ(q:Int):Nat->Int
 |0=>q
 |j+1=>qJ q j+1
theorem EU(q:Int):∀n:Nat,qJ q n=q+n
 |0=>(Int.add_zero q).symm
 |n+1=>(congrArg (·+1) (EU q n)).trans (Int.add_assoc q n 1)
structure DY where
 τ:Nat->Nat
 e:Nat
 v:Tok
 f:Option DF
section
variable(N:NM)(S:SO)(c:DO)(ns:List Nat)(ρ:Nat->Nat)(es:Array DictEntry)(nodes:List Nat)(fs:List Env)(x:GG×List Nat)(q:Int)
def DL(w:World)(mK:Value)(j:Nat)(y:DY):Led:=Va w S c es (nodes.map N.hv) mK j (Vb w S c y.f) (qJ q j) y.v (((nodes.take j).foldl gb x).2.map N.hv) y.e++aA N (aE N ((nodes.take j).foldl gb x).1 (aR ρ y.τ)) ns
theorem DG(nd:ns.Nodup)(cG:∀g τ,es=ents w N (aE N g (aR ρ τ)) ns)(gU:x.1.ns=ns)(eW:qT ns nodes x)(j:Nat)(y:DY)(hj:j<nodes.length):∃z:Nu->DY,(∀_:Nu,True)/\eB w 28 fs (mX w c.fr c.it) (DL N S c ns ρ es nodes x q w (.ref c.tp) j y) fun ν=>DL N S c ns ρ es nodes x q w (.ref c.tp) (j+1) (z ν):=by
 obtain⟨ho,hx⟩:=yP j nodes x eW gU
 have hr:nodes[j]? =some nodes[j]:=jN hj
 have et:nodes.take (j+1)=nodes.take j++[nodes[j]]:=by rw[List.take_succ,hr];rfl
 rw[List.drop_eq_getElem_cons hj]at ho
 have hv:(nodes.map N.hv)[j]? =some (N.hv nodes[j]):=by rw[List.getElem?_map,hr];rfl
 unfold DL
 rw[et,List.foldl_append]
 generalize nodes[j]=i at ho hv⊢
 generalize (nodes.take j).foldl gb x=X at ho hx⊢
 obtain⟨k1,k2,k3,k4,_⟩:=ho
 have z:=eB.of (w:=w) (by kernel_rfl) fun ν=>OF N S c (qJ q j) y.v ns nd i ρ y.τ (setG X.1 i (-2)) es cG (cG X.1 y.τ▸cO N _ _) (aE N X.1 (aR ρ y.τ) i) (X.1.su i) X.2 (fun s hs=>(List.Nodup.mem_erase_iff nd).mpr ⟨(k3 s hs).2,(k3 s hs).1⟩) k4 (gb X i).1 (gb X i).2 rfl y.e (nodes.map N.hv) y.f j hv (by rw[cG X.1 y.τ,cL,if_pos k1];rfl) (by show(!(decide (X.1.np i= -1)))=false;rw[k2];rfl) fs ν rfl
 refine⟨fun ν=>⟨fun k=>if k=8*i+2 then 278 else(fun k=>(pr (ν 10)).1 (k+4)) k,(pr (ν 10)).1 3,(ν 13).1 0,some (XG N i (aE N X.1 (aR ρ y.τ) i) ν y.f)⟩,fun _=>trivial,z.sw ?_ fun ν=> ?_⟩
 ·unfold Vc
  rw[<-DH N ns nd (aR ρ y.τ) X i]
  exact pull N (aE N X.1 (aR ρ y.τ)) k1 _
 ·exact DK N S c ns nd ρ y.τ (fun k=>(pr (ν 10)).1 (k+4)) X i k1 hx (fun s hs=>(k3 s hs).2) _
theorem DJ(nd:ns.Nodup)(cG:∀g τ,es=ents w N (aE N g (aR ρ τ)) ns)(gU:x.1.ns=ns)(eW:qT ns nodes x){Q:Result->Shared->Prop}{y:DY}(ii:In w (some 28) true fs A s (DL N S c ns ρ es nodes x q w (.ref c.tp) 0 y))
  (kk:∀u s',Done (T:=TW w) s s' (DL N S c ns ρ es nodes x q w (.ref c.tp) 0 y) (DL N S c ns ρ es nodes x q w .none nodes.length u)->Q (.ok .next) s'):codeAny (Mo w) A (mX w c.fr c.it) Q s:=
 forL (N:=nodes.length) (L:=DL N S c ns ρ es nodes x q w (.ref c.tp)) (I:=fun _ _=>True) (E:=DL N S c ns ρ es nodes x q w .none nodes.length) (fun j u hj _=>DG N S c ns ρ es nodes fs x q nd cG gU eW j u hj)
  (fun u _=>(ng.of (w:=w) (k:=28) fun ν=>OG S [] (nodes.map N.hv) c.it c.fr c.tp nodes.length (by rw[List.getElem?_map,List.getElem?_eq_none (Nat.le_refl _)];rfl) fs ν).sw ((List.Perm.swap _ _ _).cons _) ((List.Perm.swap _ _ _).cons _)) nodes.length 0 y s Q (Nat.zero_add _).symm trivial ii fun u s' _ d=>kk u s' d
theorem DM(f:Option DF):E2 fun l n=>Vb w S c f=aW (dec w l).toArray n:=by
 cases f with
 |none=>exact⟨[.str (aaq.S "self") c.t1,.ref S.sf,.str (aaq.S "nodes") c.t2,.ref c.tp,.str (aaq.S "n2i") c.t3,.ref S.n2],3,rfl⟩
 |some f=>
  obtain⟨t4,t5,t6,nv,iv,st,o⟩:=f
  cases o with
  |none=>exact⟨[.str (aaq.S "self") c.t1,.ref S.sf,.str (aaq.S "nodes") c.t2,.ref c.tp,.str (aaq.S "n2i") c.t3,.ref S.n2,.str (aaq.S "node") t4,nv,.str (aaq.S "nodeinfo") t5,iv,.str (aaq.S "stat") t6,st],6,rfl⟩
  |some d=>exact⟨[.str (aaq.S "self") c.t1,.ref S.sf,.str (aaq.S "nodes") c.t2,.ref c.tp,.str (aaq.S "n2i") c.t3,.ref S.n2,.str (aaq.S "node") t4,nv,.str (aaq.S "nodeinfo") t5,iv,.str (aaq.S "stat") t6,st,.str (aaq.S "successor") d.t7,d.a,.str (aaq.S "successor_info") d.t8,d.b],8,rfl⟩
end
section
variable(N:NM)(S:SO)(ns:List Nat)
noncomputable def XF(ρ τ:Nat->Nat)(es:Array DictEntry)(nodes:List Nat)(x xf:GG×List Nat)(q qf:Int):aD w (DO×Tok×Nat)where
 lv:=some 28
 bare:=true
 find c pre _:=match c with
  | .forLoop _ it _ _ _=>
   let f:=(az pre 1).2
   let d:=(az pre 4).2
   some (⟨rS (wR d 2),bV (wR d 2),(az pre 6).1,gM it,(az pre 1).1,(az pre 2).1,lI f 0,lI f 1,lI f 2⟩,bV (wR d 3),cK (az pre 6).2)
  |_=>none
 code y:=mX w y.1.fr y.1.it
 pre y:=Va w S y.1 es (nodes.map N.hv) (.ref y.1.tp) 0 (F0 w y.1.t1 y.1.t2 y.1.t3 S.sf y.1.tp S.n2) q y.2.1 (x.2.map N.hv) y.2.2
 tail _:=aA N (aE N x.1 (aR ρ τ)) ns
 r _ _:=.ok .next
 post y m:=[cN .none nodes.length,aW (dec w (m.2 0)).toArray (m.1 0),ae (nodes.map N.hv).toArray 0,aG S.d,aI w.params S.t1 S.t2 S.t3 S.t4 S.n2 (.ref y.1.ra) (.int y.1.p y.1.u) (.int qf (m.1 1)) S.ea,U es S.eb,aj (xf.2.map N.hv) (m.1 2)]
 rest _ m:=aA N (aE N xf.1 (aR ρ fun k=>m.1 (k+3))) ns
theorem OE(nd:ns.Nodup)(ρ τ:Nat->Nat)(es:Array DictEntry)(cG:∀g τ,es=ents w N (aE N g (aR ρ τ)) ns)(nodes:List Nat)(x xf:GG×List Nat)(q qf:Int)(gU:x.1.ns=ns)(eW:qT ns nodes x)(hg:nodes.foldl gb x=xf)(hq:q+nodes.length=qf):(XF (w:=w) N S ns ρ τ es nodes x xf q qf).Ok:=by
 intro y fs A s Rz ii _ kk
 refine DJ N S y.1 ns ρ es nodes fs x q nd cG gU eW (y:=⟨τ,y.2.2,y.2.1,none⟩) ii fun u s' d=> ?_
 obtain⟨l,m,e⟩:=DM (w:=w) S y.1 u.f
 unfold DL at d
 rw[e,List.take_length,hg,(EU q nodes.length).trans hq]at d
 exact kk (fun k=>match k with|0=>m|1=>u.v|2=>u.e|k+3=>u.τ k,fun _=>l) s' rfl d
noncomputable def Rt(nd:ns.Nodup)(ρ τ:Nat->Nat)(es:Array DictEntry)(cG:∀g τ,es=ents w N (aE N g (aR ρ τ)) ns)(nodes:List Nat)(x xf:GG×List Nat)(q qf:Int)(gU:x.1.ns=ns)(eW:qT ns nodes x)(hg:nodes.foldl gb x=xf)(hq:q+nodes.length=qf):aJ w:=(XF N S ns ρ τ es nodes x xf q qf).sm (OE N S ns nd ρ τ es cG nodes x xf q qf gU eW hg hq)
end
section
variable(N:NM)(S:SO)(p q qf:Int)(u v:Tok)(ns:List Nat)(nd:ns.Nodup)(ρ τ:Nat->Nat)(es:Array DictEntry)(cG:∀g τ,es=ents w N (aE N g (aR ρ τ)) ns)(x xf:GG×List Nat)(gU:x.1.ns=ns)(ra:Addr)(er:Nat)(fs:List Env)(ν:Nu)(nodes:List Nat)(eW:qT ns nodes x)(hg:nodes.foldl gb x=xf)(hq:q+nodes.length=qf)
def Oy:Out pw w (TW w) Flow:=bX w ν 116 none (some (30,fs)) 171 (.ref S.sf::nodes.map N.hv) ((S.sf,aG S.d)::(S.d,aI w.params S.t1 S.t2 S.t3 S.t4 S.n2 (.ref ra) (.int p u) (.int q v) S.ea)::(S.n2,U es S.eb)::(ra,aj (x.2.map N.hv) er)::(aA N (aE N x.1 (aR ρ τ)) ns)) 0x1851030810082010800420810410040030c00000c00000030440030c00000c0000003040041001040
 [K (Rt N S ns nd ρ τ es cG nodes x xf q qf gU eW hg hq)]
def U7(w:World):Led:=(S.sf,aG S.d)::(S.d,aI w.params S.t1 S.t2 S.t3 S.t4 S.n2 (.ref ra) (.int p u) (.int qf ((pr (ν 8)).1 1)) S.ea)::(S.n2,U es S.eb)::(ra,aj (xf.2.map N.hv) ((pr (ν 8)).1 2))::(aA N (aE N xf.1 (aR ρ fun k=>(pr (ν 8)).1 (k+3))) ns)
def OA:=dJ 54634 (Oy (w:=w) N S p q qf u v ns nd ρ τ es cG x xf gU ra er fs ν nodes eW hg hq)
def Oz:=asked (.ok (.ret .none)) (U7 N S p qf u ns ρ es xf ra ν w) (Oy (w:=w) N S p q qf u v ns nd ρ τ es cG x xf gU ra er fs ν nodes eW hg hq)
theorem IU(hl:nodes.length<=6):OA (w:=w) N S p q qf u v ns nd ρ τ es cG x xf gU ra er fs ν nodes eW hg hq=Oz (w:=w) N S p q qf u v ns nd ρ τ es cG x xf gU ra er fs ν nodes eW hg hq:=by
 revert eW hg hq
 refine zd (P:=fun nodes=>∀eW hg hq,OA (w:=w) N S p q qf u v ns nd ρ τ es cG x xf gU ra er fs ν nodes eW hg hq=Oz (w:=w) N S p q qf u v ns nd ρ τ es cG x xf gU ra er fs ν nodes eW hg hq) ?_ ?_ ?_ ?_ ?_ ?_ ?_ nodes hl<;>intros<;>kernel_rfl
end
section
variable(N:NM)(S:SO)(p q qf:Int)(u v:Tok)(ns:List Nat)
noncomputable def FW(ρ τ:Nat->Nat)(es:Array DictEntry)(nodes:List Nat)(x xf:GG×List Nat)(ra:Addr)(er:Nat):aD w Unit where
 lv:=some 30
 bare:=true
 find _ _ _:=some ()
 code _:=.call (.ref 171) ⟨.ref S.sf::nodes.map N.hv,[]⟩
 pre _:=[(S.sf,aG S.d),(S.d,aI w.params S.t1 S.t2 S.t3 S.t4 S.n2 (.ref ra) (.int p u) (.int q v) S.ea),(S.n2,U es S.eb),(ra,aj (x.2.map N.hv) er)]
 tail _:=aA N (aE N x.1 (aR ρ τ)) ns
 r _ _:=.ok (.ret .none)
 post _ m:=[aG S.d,aI w.params S.t1 S.t2 S.t3 S.t4 S.n2 (.ref ra) (.int p u) (.int qf (m.1 1)) S.ea,U es S.eb,aj (xf.2.map N.hv) (m.1 2)]
 rest _ m:=aA N (aE N xf.1 (aR ρ fun k=>m.1 (k+3))) ns
theorem DE(nd:ns.Nodup)(ρ τ:Nat->Nat)(es:Array DictEntry)(cG:∀g τ,es=ents w N (aE N g (aR ρ τ)) ns)(nodes:List Nat)(hl:nodes.length<=6)(x xf:GG×List Nat)(gU:x.1.ns=ns)(eW:qT ns nodes x)(hg:nodes.foldl gb x=xf)(hq:q+nodes.length=qf)(ra:Addr)(er:Nat):(FW (w:=w) N S p q qf u v ns ρ τ es nodes x xf ra er).Ok:=
 fun y fs A s Rz ii _ kk=>aV (rm:=some (30,fs)) (fun ν=>IU N S p q qf u v ns nd ρ τ es cG x xf gU ra er fs ν nodes eW hg hq hl) (ii.hh rfl) ii.hr ii.hf ii.hs fun ν s' d=>kk (fun k=>(pr (ν 8)).1 k,fun _=>[]) s' rfl d
noncomputable def G4(nd:ns.Nodup)(ρ τ:Nat->Nat)(es:Array DictEntry)(cG:∀g τ,es=ents w N (aE N g (aR ρ τ)) ns)(nodes:List Nat)(hl:nodes.length<=6)(x xf:GG×List Nat)(gU:x.1.ns=ns)(eW:qT ns nodes x)(hg:nodes.foldl gb x=xf)(hq:q+nodes.length=qf)(ra:Addr)(er:Nat):aJ w:=(FW N S p q qf u v ns ρ τ es nodes x xf ra er).sm (DE N S p q qf u v ns nd ρ τ es cG nodes hl x xf gU eW hg hq ra er)
end
noncomputable def sy(e:Expr):Scope:=match e with
 | .ListComp _ _ s _=>s
 | .DictComp _ _ _ s _=>s
 |_=>default
def compEnv(env:Env)(loc:Addr)(cells:List (Str×Addr))(e:Expr):Env:={scope:={sy e with names:=(sy e).names.map fun p=>match p with|(n,k)=>if k==.free&&env.scope.kind==.function&&env.kindOf n==some .cell then(n,.cell)else(n,k)},locals:=loc,globals:=env.globals,cells:=cells,qual:=env.qual,func:=none,code:=env.code,frame:=env.frame,builtins:=env.builtins}
noncomputable abbrev Ll(w:World)(fr it acc loc:Addr):Code:=.compLoop (valOf (aK w 143 [1])) 0 (.ref it) (.ref acc) (compEnv (dj w 143 fr) loc [] (valOf (aK w 143 [1])))
structure Vs where
 it:Addr
 fr:Addr
 acc:Addr
 loc:Addr
 n2:Addr
 eb:Nat
def YA(w:World):Option (Tok×Value)->Obj
 |none=>U #[] 0
 |some (t,v)=>U #[aH w "i" t v] 1
def VY(t:Tok):Option (Tok×Value)->Tok
 |none=>t
 |some (t,_)=>t
section
variable(N:NM)(x:Vs)(es:Array DictEntry)(nn:Nat)(hn:es.size=nn)(k:Nat)(ent:DictEntry)(hx:es[k]? =some ent)(r:ND)(hv:ent.val=.ref r.na)(j:Nat)(xs:List Value)(hz:xs.length<1000000)(ea:Nat)(o:Option (Tok×Value))(b:Bool)(hq:decide (r.np=0)=b)(fs:List Env)(ν:Nu)
def Pz(w:World)(mK:Value)(k:Nat)(xs:List Value)(ea:Nat)(o:Option (Tok×Value)):Led:=
 [(x.it,bZ "dict_valueiterator" mK k nn x.eb),(x.acc,aj xs ea),(x.loc,YA w o),(x.n2,U es x.eb)]
theorem Li:aT 3 (.ok (.again (Ll w x.fr x.it x.acc x.loc))) ((r.na,iS (N.hv j) r)::Pz x es nn w (.ref x.n2) (k+1) (bif b then xs++[N.hv j]else xs) (bif b then ea+1 else ea) (some (VY ((ν 1).1 0) o,.ref r.na)))
  (bW w ν 130 none (some (30,fs)) (Ll w x.fr x.it x.acc x.loc) ((r.na,iS (N.hv j) r)::Pz x es nn w (.ref x.n2) k xs ea o) 0x2002040040000000040000000000000000001000000044001041001000000001000000000000000000040000001104100101003080 [K (rn es k nn (.ref r.na) ent hn hx hv),K (aF r.np 0 b hq),K (av xs hz)]):=by
 cases o<;>cases b<;>kernel_rfl
end
theorem RZ(n2:Addr)(es:Array DictEntry)(eb nn:Nat)(hn:es.size=nn)(k:Nat)(hx:es[k]? =none)(fr it acc loc:Addr)(fs:List Env)(ν:Nu):
  aT 90 (.ok .next) [(it,⟨(.type "dict_valueiterator"),none,(.fields #[.none,(.int ↑k 0),(.int ↑nn 0),(.int ↑eb 0)]),#[]⟩),(n2,U es eb)]
   (runC w ν 45 none (some (30,fs)) (Ll w fr it acc loc) [(it,bZ "dict_valueiterator" (.ref n2) k nn eb),(n2,U es eb)] 69793230912 [K (vi es k nn hn hx)]):=by kernel_rfl
def SG(w:World)(m:Mu):Obj:=U #[aH w "i" (m.1 0) ((m.2 0).headD .none)] 1
section
variable(N:NM)(f:Nat->ND)(ns:List Nat)(k:Nat)
theorem Dx(hk:k<ns.length):(ents w N f ns)[k]? =some ⟨hashStr w (N.nm ns[k]),.str (N.nm ns[k]) (N.tk ns[k]),.ref (f ns[k]).na⟩:=by
 unfold ents
 rw[List.getElem?_toArray,List.getElem?_map,List.getElem?_eq_getElem hk]
 rfl
theorem wu(hk:ns.length<=k):(ents w N f ns)[k]? =none:=by
 unfold ents
 rw[List.getElem?_toArray,List.getElem?_map,List.getElem?_eq_none hk]
 rfl
end
section
variable(N:NM)(x:Vs)(g:GG)(ρ:Nat->Nat)(fs:List Env)
def Lj(j:Nat):Value:=g.ns[j]?.elim .none fun i=>.ref (aE N g ρ i).na
def Lk(t:Tok):Nat->Option (Tok×Value)
 |0=>none
 |j+1=>some (t,Lj N g ρ j)
def BV(w:World)(mK:Value)(j:Nat)(y:Nat×Tok):Led:=Pz x (ents w N (aE N g ρ) g.ns) g.ns.length w mK j (((g.ns.take j).filter fun j=>decide (g.np j=0)).map N.hv) y.1 (Lk N g ρ y.2 j)++aA N (aE N g ρ) g.ns
theorem BQ(hb:g.ns.length<=1000)(j:Nat)(y:Nat×Tok)(hj:j<g.ns.length):∃z:Nu->Nat×Tok,(∀_:Nu,True)/\eB w 30 fs (Ll w x.fr x.it x.acc x.loc) (BV N x g ρ w (.ref x.n2) j y) fun ν=>BV N x g ρ w (.ref x.n2) (j+1) (z ν):=by
 have hr:g.ns[j]? =some g.ns[j]:=jN hj
 have et:g.ns.take (j+1)=g.ns.take j++[g.ns[j]]:=by rw[List.take_succ,hr];rfl
 have ej (u:Tok):Lk N g ρ u (j+1)=some (u,.ref (aE N g ρ g.ns[j]).na):=by show some (u,Lj N g ρ j)=_;unfold Lj;rw[hr];rfl
 have NH:=Dx (w:=w) N (aE N g ρ) g.ns j hj
 have hm:=List.getElem_mem hj
 have hl:((g.ns.take j).filter fun j=>decide (g.np j=0)).length<=g.ns.length:=bP (List.length_filter_le _ _) (List.length_take_le' _ _)
 refine⟨fun ν=>(bif decide (g.np g.ns[j]=0)then y.1+1 else y.1,VY ((ν 1).1 0) (Lk N g ρ y.2 j)),fun _=>trivial,?_⟩
 unfold BV
 simp only[ej]
 rw[et,List.filter_append]
 generalize g.ns[j]=i at NH hm⊢
 generalize (g.ns.take j).filter (fun j=>decide (g.np j=0))=X at hl⊢
 have z:=eB.of (w:=w) (by kernel_rfl) fun ν=>Li N x (ents w N (aE N g ρ) g.ns) g.ns.length (cj ..) j _ NH (aE N g ρ i) rfl i (X.map N.hv) (by rw[List.length_map];lia) y.1 (Lk N g ρ y.2 j) _ rfl fs ν
 have pm (Y:Led):((((aE N g ρ i).na,iS (N.hv i) (aE N g ρ i))::Y)++(((aE N g ρ i).sa,gr (aE N g ρ i))::aA N (aE N g ρ) (g.ns.erase i))).Perm (Y++aA N (aE N g ρ) g.ns):=(lY (l₁:=_::Y)).trans (pull N (aE N g ρ) hm Y)
 have e:(X++[i].filter fun j=>decide (g.np j=0)).map N.hv=bif decide (g.np i=0)then X.map N.hv++[N.hv i]else X.map N.hv:=by
  rw[List.map_append,List.filter_cons,List.filter_nil]
  cases decide (g.np i=0)
  ·exact List.append_nil _
  ·rfl
 rw[e]
 exact(eB.at (pm _) z).sw (.refl _) fun ν=>pm _
theorem BU(hb:g.ns.length<=1000){Q:Result->Shared->Prop}(ii:In w (some 30) true fs A s (BV N x g ρ w (.ref x.n2) 0 (0,0)))
  (kk:∀u s',Done (T:=TW w) s s' (BV N x g ρ w (.ref x.n2) 0 (0,0)) (BV N x g ρ w .none g.ns.length u)->Q (.ok .next) s'):codeAny (Mo w) A (Ll w x.fr x.it x.acc x.loc) Q s:=
 forL (N:=g.ns.length) (L:=BV N x g ρ w (.ref x.n2)) (I:=fun _ _=>True) (E:=BV N x g ρ w .none g.ns.length) (fun j u hj _=>BQ N x g ρ fs hb j u hj)
  (fun u _=>by
   have z:=ng.of (w:=w) (k:=30) fun ν=>RZ x.n2 (ents w N (aE N g ρ) g.ns) x.eb g.ns.length (cj ..) g.ns.length (wu N _ g.ns _ (bC _)) x.fr x.it x.acc x.loc fs ν
   exact z.sw (B:=[_,_]++aA N (aE N g ρ) g.ns) ((lY (l₁:=[_,_])).symm.cons _) ((lY (l₁:=[_,_])).symm.cons _)) g.ns.length 0 (0,0) s Q (Nat.zero_add _).symm trivial ii fun u s' _ d=>kk u s' d
end
noncomputable abbrev Yz(w:World)(fr it acc loc:Addr):Code:=.compStart (valOf (aK w 143 [1])) 0 (.ref it) (.ref acc) (compEnv (dj w 143 fr) loc [] (valOf (aK w 143 [1])))
noncomputable def SM(e:Expr):Bool:=match e with
 | .ListComp _ gs _ _=>gs.head?.elim false fun g=>decide (g.is_async=0)
 |_=>false
theorem bO{e:Expr}(he:SM e=true){it acc:Value}{env:Env}(h0:codeAny (Mo w) A (.compLoop e 0 it acc env) R s)
  (h:∀(E:Value->Shared->Prop),wpAny (Mo w) A (pyIter it) (fun SR s'=>SR=it/\s'=s) E s):codeAny (Mo w) A (.compStart e 0 it acc env) R s:=by
 cases e with
 |ListComp elt gs sc pos=>
  cases gs with
  |nil=>nomatch he
  |cons g gs=>
   obtain⟨x,y,z,a⟩:=g
   cases of_decide_eq_true he
   exact codeAny_compStart_list h0 (fg (h _) (fun SR s' q=>q.1.symm▸q.2.symm▸h0) fun _ _ q=>q)
 |_=>nomatch he
section
variable(N:NM)(g:GG)(ρ:Nat->Nat)
noncomputable def tL(xf:List Nat):aD w Vs where
 lv:=some 30
 bare:=true
 find c pre _:=match c,pre with
  | .compStart _ _ (.ref it) (.ref acc) env,[_,_,_,(n2,⟨_,_,.dict _ eb,_⟩)]=>some ⟨it,env.frame.getD 0,acc,env.locals,n2,eb⟩
  |_,_=>none
 code x:=Yz w x.fr x.it x.acc x.loc
 pre x:=Pz x (ents w N (aE N g ρ) g.ns) g.ns.length w (.ref x.n2) 0 [] 0 none
 tail _:=aA N (aE N g ρ) g.ns
 r _ _:=.ok .next
 post x m:=[bZ "dict_valueiterator" .none g.ns.length g.ns.length x.eb,aj (xf.map N.hv) (m.1 1),SG w m,U (ents w N (aE N g ρ) g.ns) x.eb]
 rest _ _:=aA N (aE N g ρ) g.ns
theorem vw(hb:g.ns.length<=1000)(h0:g.ns.length≠0)(xf:List Nat)(wY:g.ns.filter (fun j=>decide (g.np j=0))=xf):(tL (w:=w) N g ρ xf).Ok:=by
 intro x fs A s Rz ii _ kk
 have ho:s.heap.get? x.it=some (bZ "dict_valueiterator" (.ref x.n2) 0 g.ns.length x.eb):=ii.hs.at (.head _) (aa rfl)
 refine bO (by kernel_rfl) ?_ fun E=>wpAny_pyIter_valiter (d:=x.n2) (i:=0) (n:=g.ns.length) (ep:=x.eb) ⟨_,ho,rfl,rfl⟩ ⟨rfl,rfl⟩
 refine BU N x g ρ fs hb ii fun u s' d=>kk (fun k=>match k with|0=>u.2|_=>u.1,fun _=>[Lj N g ρ (g.ns.length-1)]) s' rfl ?_
 obtain⟨n,hn⟩:=Nat.exists_eq_succ_of_ne_zero h0
 have e:Lk N g ρ u.2 g.ns.length=some (u.2,Lj N g ρ (g.ns.length-1)):=by rw[hn];rfl
 unfold BV at d
 rw[e,List.take_length,wY]at d
 exact d
noncomputable def o5(hb:g.ns.length<=1000)(h0:g.ns.length≠0)(xf:List Nat)(wY:g.ns.filter (fun j=>decide (g.np j=0))=xf):aJ w:=(tL N g ρ xf).sm (vw N g ρ hb h0 xf wY)
end
end
section
open PySem PySem.W PySem.W.X PyProof.Rows PySem.Builtin.Str
section
variable(w:World)
noncomputable abbrev Px:Expr:=bf (valOf (aK w 277 [2])) [0,0,1,0]
noncomputable abbrev JD(fr it acc loc:Addr):Code:=.compLoop (Px w) 0 (.ref it) (.ref acc) (compEnv (dj w 277 fr) loc [] (Px w))
noncomputable abbrev Yx(fr it acc loc:Addr):Code:=.compStart (Px w) 0 (.ref it) (.ref acc) (compEnv (dj w 277 fr) loc [] (Px w))
noncomputable def bD(x:String)(t:Tok)(v:Value):Obj:=U #[aH w x t v] 1
noncomputable def Cn(x:String)(o:Option (Tok×Value)):Obj:=o.elim (U #[] 0) fun p=>bD w x p.1 p.2
end
noncomputable def JC(wd:Bool):String:=bif wd then"str_iterator"else"str_ascii_iterator"
section
variable(wd:Bool)(x:Str)(t:Tok)(k c:Nat)(xs:List Value)(ea:Nat)(o:Option (Tok×Value))(fr it acc loc:Addr)(fs:List Env)(ν:Nu)(hx:x.cps[k]? =some c)(hz:xs.length<1000000)
noncomputable def VP:aJ w:=cond wd (xN x k c hx) (xP x k c hx)
noncomputable def Hk(w:World):Led:=[(it,bc (JC wd) (.str x t) k),(acc,aj xs ea),(loc,Cn w "sign" o)]
theorem RU(hq:decide ((⟨#[c]⟩:Str)=S "\"")=false):
  aT 3 (.ok (.again (JD w fr it acc loc))) (Hk wd x t (k+1) (xs++[.str ⟨#[c]⟩ ((pr (ν 0)).1 0)]) (ea+1) (some (o.elim ((ν 1).1 0) (·.1),.str ⟨#[c]⟩ ((pr (ν 0)).1 0))) it acc loc w)
   (bW w ν 60 none (some (16,fs)) (JD w fr it acc loc) (Hk wd x t k xs ea o it acc loc w) 0x400830010430c3000002040 [K (VP wd x k c hx),K (ko ⟨#[c]⟩ (S "\"") false hq),K (av xs hz)]):=by cases wd<;>cases o<;>kernel_rfl
theorem RV(hq:decide ((⟨#[c]⟩:Str)=S "\"")=true):
  aT 3 (.ok (.again (JD w fr it acc loc))) (Hk wd x t (k+1) (xs++[.str (S "\"\"") ((ν 4).1 0)]) (ea+1) (some (o.elim ((ν 1).1 0) (·.1),.str ⟨#[c]⟩ ((pr (ν 0)).1 0))) it acc loc w)
   (bW w ν 59 none (some (16,fs)) (JD w fr it acc loc) (Hk wd x t k xs ea o it acc loc w) 0x10020010430c3000002040 [K (VP wd x k c hx),K (ko ⟨#[c]⟩ (S "\"") true hq),K (av xs hz)]):=by cases wd<;>cases o<;>kernel_rfl
theorem RT(hx:x.cps[k]? =none):
  aT 26 (.ok .next) [(it,bc (JC wd) .none k)]
   (runC w ν 45 none (some (16,fs)) (JD w fr it acc loc) [(it,bc (JC wd) (.str x t) k)] 1073750080 [K (cond wd (Bq x k hx) (Br x k hx))]):=by cases wd<;>kernel_rfl
end
def cZ(c:Nat):Str:=if c=34 then S "\"\""else⟨#[c]⟩
theorem Ac{x:Str}{k c:Nat}{r:List Nat}(h:x.cps.toList.drop k=c::r):x.cps[k]? =some c/\x.cps.toList.drop (k+1)=r:=by
 constructor
 ·have:=congrArg (fun l=>l[0]?) h
  simpa using this
 ·have:=congrArg List.tail h
  simpa using this
section
variable(wd:Bool)(x:Str)(hz:x.length<900000)(t:Tok)(fr it acc loc:Addr)(fs:List Env)
include hz
theorem BO(l:List Nat):∀(k:Nat) (ps:List Str) (f:Nat->Tok) (ea:Nat) (o:Option (Tok×Value)) (s:Shared),x.cps.toList.drop k=l->ps.length<=k->k<=x.length->In w (some 16) true fs A s (Hk wd x t k (b8 ps f 0) ea o it acc loc w)->
  (∀f' qQ o' s',(o.isSome=true\/l≠[]->o'.isSome=true)->Done (T:=TW w) s s' (Hk wd x t k (b8 ps f 0) ea o it acc loc w) [(it,bc (JC wd) .none x.length),(acc,aj (b8 (ps++l.map cZ) f' 0) qQ),(loc,Cn w "sign" o')]->R (.ok .next) s')->codeAny (Mo w) A (JD w fr it acc loc) R s:=by
 induction l with
 |nil=>
  intro k ps f ea o s h _ hk ii kk
  rw[List.map_nil,List.append_nil]at kk
  have hl:x.length<=k:=List.drop_eq_nil_iff.mp h
  cases Nat.le_antisymm hk hl
  exact(ii.sub (jO [_] _)).code (fun ν=>RT wd x t _ fr it acc loc fs ν (Array.getElem?_eq_none hl)) fun ν s' d=>kk f ea o s' (fun h=>h.resolve_right (absurd rfl)) (Done.frame (R:=[_,_]) ii.hs d)
 |cons c l ih=>
  intro k ps f ea o s h hp _ ii kk
  rw[List.map_cons,List.append_cons]at kk
  obtain⟨hc,h⟩:=Ac h
  have Tn:k<x.length:=(Array.getElem?_eq_some_iff.mp hc).1
  have JL:(b8 ps f 0).length<1000000:=by rw[fz];exact cW hp (Nat.lt_trans Tn (Nat.lt_trans hz (by decide)))
  have AQ:(ps++[cZ c]).length<=k+1:=by rw[List.length_append];exact jJ hp
  cases hq:decide (c=34)with
  |true=>
   have e:cZ c=S "\"\"":=if_pos (of_decide_eq_true hq)
   refine ii.turn (by kernel_rfl) (fun ν=>RV wd x t k c (b8 ps f 0) ea o fr it acc loc fs ν hc JL ((jg c).trans hq)) fun ν s' d=> ?_
   rw[iF,<-e]at d
   exact ih (k+1) _ _ _ _ s' h AQ Tn (ii.go d) fun f' qQ o' dB ho d2=>kk f' qQ o' dB (fun _=>ho (.inl rfl)) (d.trans d2)
  |false=>
   have e:cZ c=⟨#[c]⟩:=if_neg (of_decide_eq_false hq)
   refine ii.turn (by kernel_rfl) (fun ν=>RU wd x t k c (b8 ps f 0) ea o fr it acc loc fs ν hc JL ((jg c).trans hq)) fun ν s' d=> ?_
   rw[iF]at d
   rw[e]at kk AQ
   exact ih (k+1) _ _ _ _ s' h AQ Tn (ii.go d) fun f' qQ o' dB ho d2=>kk f' qQ o' dB (fun _=>ho (.inl rfl)) (d.trans d2)
end
structure CX where
 it:Addr
 fr:Addr
 acc:Addr
 loc:Addr
def gK(c:Code):Option CX:=match c with
 | .compStart _ _ (.ref it) (.ref acc) env=>some ⟨it,env.frame.getD 0,acc,env.locals⟩
 |_=>none
section
variable(wd:Bool)(x:Str)
def VO(t:Tok):aD w CX where
 lv:=some 16
 bare:=true
 find c _ _:=gK c
 code y:=Yx w y.fr y.it y.acc y.loc
 pre y:=Hk wd x t 0 [] 0 none y.it y.acc y.loc w
 r _ _:=.ok .next
 post y m:=[bc (JC wd) .none x.length,aj (b8 (x.cps.toList.map cZ) (fun i=>m.1 (i+2)) 0) (m.1 0),bD w "sign" (m.1 1) ((m.2 0).headD .none)]
theorem Lc(hz:x.length<900000)(t:Tok)(hZ:x.cps.toList≠[]):(VO (w:=w) wd x t).Ok:=by
 intro y fs A s Rz ii _ kk
 have ho:s.heap.get? y.it=some (bc (JC wd) (.str x t) 0):=ii.hs.at (.head _) (aa rfl)
 refine bO (by kernel_rfl) ?_ fun E=> ?_
 ·exact BO wd x hz t y.fr y.it y.acc y.loc fs x.cps.toList 0 [] (fun _=>0) 0 none s rfl (bC _) (cY _) ii fun f ea o s' ho d=>by
   obtain⟨p,e⟩:=Option.isSome_iff_exists.mp (ho (.inr hZ))
   subst e
   exact kk (fun k=>match k with|0=>ea|1=>p.1|k+2=>f k,fun _=>[p.2]) s' rfl d
 ·cases wd
  ·exact wpAny_pyIter_striter_ascii ⟨_,ho,rfl,rfl⟩ ⟨rfl,rfl⟩
  ·exact wpAny_pyIter_striter_wide ⟨_,ho,rfl,rfl⟩ ⟨rfl,rfl⟩
def Q9(t:Tok)(hz:x.length<900000)(hZ:x.cps.toList≠[]):aJ w:=(VO wd x t).sm (Lc wd x hz t hZ)
end
def marks:List Str:=[S "|",S "!",S "x",S "(",S " ",S "-"]
def Po(c:Nat):Str:=S "229 Size ("++jD c 3
def U6(c:Nat):Str:=S "229 ("++(⟨#[c]⟩:Str)++S "1"++(⟨#[c]⟩:Str)++S "2"++(⟨#[c]⟩:Str)
structure AD(x:Str)(v m k:Int)(c:Nat)(D:Nat->Str)(b2 a4 e4:Str):Prop where
 h0:0<=Int.fmod (Int.fdiv v 5) 6
 hc:marks[(Int.fmod (Int.fdiv v 5) 6).toNat]? =some ⟨#[c]⟩
 WG:x.length<900000
 ne:x.cps.toList≠[]
 k0:0<=k
 k1:k<100
 hz:Str.ofString (toString v)=D 0
 hn:v.natAbs.log2<1920
 h1:Po c++D 0=D 1
 z1:bK (D 1)
 h2:D 1++(bif Int.fmod v 5 !=0 then⟨#[c]⟩else S "?")=D 2
 z2:bK (D 2)
 h3:D 2++S ") of "=D 3
 z3:bK (D 3)
 h4:D 3++x=a4
 z4:bK a4
 hj:glued (S "") (x.cps.toList.map cZ)=D 4
 To:tooLong ((x.cps.toList.map cZ).toArray.foldl (·+·.length+(S "").length) 0)=false
 zj:bK (D 4)
 h5:S "257 \""++D 4=D 5
 z5:bK (D 5)
 h6:D 5++S "\" is here"=b2
 z6:bK b2
 WE:Str.ofString (toString m)=D 6
 hm:m.natAbs.log2<1920
 g1:U6 c++jD 48 k=D 7
 y1:bK (D 7)
 g2:D 7++D 6=D 8
 y2:bK (D 8)
 g3:D 8++⟨#[c]⟩=D 9
 y3:bK (D 9)
 g4:D 9++S ")"=e4
 y4:bK e4
section
variable(x:Str)(tn:Tok)(v:Int)(tv:Tok)(m:Int)(tm:Tok)(k:Int)(tk:Tok)(c:Nat)(D:Nat->Str)(b2 a4 e4:Str)(q:AD x v m k c D b2 a4 e4)(wd:Bool)(HX:x.cps.all (·<128)= !wd)(fs:List Env)(ν:Nu)
noncomputable def RO:aJ w:=match wd,HX with
 |true,h=>xM x h
 |false,h=>xO x h
noncomputable def K7(b:Bool)(h2:D 1++(bif b then⟨#[c]⟩else S "?")=D 2)(CH:(Int.fmod v 5 !=0)=b):List (Nu->aJ w):=[K (GV marks (Int.fmod (Int.fdiv v 5) 6) ⟨#[c]⟩ q.h0 (by decide) q.hc),K (q9 c 3 (by decide) (by decide)),K (bS v (D 0) q.hz q.hn),K (bz (Po c) (D 0) (D 1) q.h1 q.z1),K (dU (Int.fmod v 5) b CH),K (bz (D 1) (bif b then⟨#[c]⟩else S "?") (D 2) h2 q.z2),K (bz (D 2) (S ") of ") (D 3) q.h3 q.z3),K (bz (D 3) x a4 q.h4 q.z4),K (RO x wd HX),K (Q9 wd x tn q.WG q.ne)]
noncomputable def K6:List (Nu->aJ w):=[K (bz (S "257 \"") (D 4) (D 5) q.h5 q.z5),K (bz (D 5) (S "\" is here") b2 q.h6 q.z6),K (q9 48 k q.k1 q.k0),K (bz (U6 c) (jD 48 k) (D 7) q.g1 q.y1),K (bS m (D 6) q.WE q.hm),K (bz (D 7) (D 6) (D 8) q.g2 q.y2),K (bz (D 8) ⟨#[c]⟩ (D 9) q.g3 q.y3),K (bz (D 9) (S ")") e4 q.g4 q.y4)]
theorem K3(h2:D 1++⟨#[c]⟩=D 2)(CH:(Int.fmod v 5 !=0)=true):
  aT 1 (.ok (.ret (.ref ((ν 58).1 0)))) [((ν 58).1 0,ah #[.str b2 ((pr (ν 41)).1 0),.str a4 ((pr (ν 30)).1 0),.str e4 ((pr (ν 57)).1 0)] 0)]
   (bX w ν 275 none (some (20,fs)) 277 [.str x tn,.int v tv,.int m tm,.int k tk] [] 0x1001140040001005000001001005005000140005140040041002041040042004040041082080001080040042001002001000040080000001002082000000081041000080041001040041001040 (K7 x tn v m k c D b2 a4 e4 q wd HX true h2 CH++((fun ν=>rj (S "") (x.cps.toList.map cZ) (fun i=>(pr (ν 37)).1 (i+2)) (D 4) q.hj q.To q.zj)::K6 x v m k c D b2 a4 e4 q))):=by cases wd<;>kernel_rfl
theorem K4(h2:D 1++S "?"=D 2)(CH:(Int.fmod v 5 !=0)=false):
  aT 1 (.ok (.ret (.ref ((ν 59).1 0)))) [((ν 59).1 0,ah #[.str b2 ((pr (ν 42)).1 0),.str a4 ((pr (ν 31)).1 0),.str e4 ((pr (ν 58)).1 0)] 0)]
   (bX w ν 274 none (some (20,fs)) 277 [.str x tn,.int v tv,.int m tm,.int k tk] [] 0x40045001000040140000040040140140005000145001001040081041001080101001042082000042001001001002001000040080000001002082000000081041000080041001040041001040 (K7 x tn v m k c D b2 a4 e4 q wd HX false h2 CH++((fun ν=>rj (S "") (x.cps.toList.map cZ) (fun i=>(pr (ν 38)).1 (i+2)) (D 4) q.hj q.To q.zj)::K6 x v m k c D b2 a4 e4 q))):=by cases wd<;>kernel_rfl
end
section
variable(x:Str)(t:Tok)(pe:Addr)
theorem RS(name:List Nat)(q:qL w x name)(fs:List Env)(ν:Nu):
  aT 1705 (.ok (.ret (.ref ((ν 3).fst 0)))) [((ν 11).fst 0,ae #[(.str (S "refused") ((ν 9).fst 0)),(.str x t)] 0),((ν 3).fst 0,ah #[(.str (Str.mk name.toArray) ((pr (ν 5)).fst 0)),(.ref ((ν 11).fst 0))] 2)]
   (bX w ν 181 none (some (16,fs)) 291 [.str x t,.ref pe] [] 0x70871c71c01861860000830030060001451451861800411000040000000010c0040082001041042081041041000040080041041082042080001041001040 [K (kz x name q),K (G6 x q.h3),K (kl x)]):=by kernel_rfl
theorem RR(h:Str)(th:Tok)(k n:Int)(tk:Tok)(pn:Nat)(q:iA x n)(fs:List Env)(ν:Nu):
  aT 105125 (.ok (.ret (.ref ((ν 3).fst 0)))) [((pr (ν 12)).fst 0,ae #[(.str h (bG (ae #[Value.str h th,Value.int k tk] pn) 0)),(.int n ((pr (ν 12)).fst 1))] 0),((ν 10).fst 0,ae #[(.str (S "refused") ((ν 8).fst 0)),(.str x t)] 0),((ν 3).fst 0,ah #[(.ref ((ν 10).fst 0)),(.ref ((pr (ν 12)).fst 0))] 2),(pe,ae #[.str h th,.int k tk] pn)]
   (bX w ν 181 none (some (16,fs)) 291 [.str x t,.ref pe] [(pe,ae #[.str h th,.int k tk] pn)] 0x2021c71c70070020071c01861861c20471c71c01861860000830030060001451451861800411000040000000010c0040080041041082042080001041001040 [K (xW x q.h3),K (kl x),K (xY x h k n q)]):=by kernel_rfl
theorem RQ(q:mf x)(fs:List Env)(ν:Nu):
  aT 1746601 (.ok (.ret (.ref ((ν 3).fst 0)))) [((ν 17).fst 0,ae #[(.str (S "spoilt") ((ν 15).fst 0)),(.str x t)] 0),((ν 10).fst 0,ae #[(.str (S "refused") ((ν 8).fst 0)),(.str x t)] 0),((ν 3).fst 0,ah #[(.ref ((ν 10).fst 0)),(.ref ((ν 17).fst 0))] 2)]
   (bX w ν 251 none (some (16,fs)) 291 [.str x t,.ref pe] [] 0xc08c30c3002cb2cb00008300300b00028a28a2cb2c00411000040000000001000000000430010071c01861861c20471c71c01861860000830030060001451451861800411000040000000010c0040080041041082042080001041001040 [K (xW x q.h3),K (kl x),K (xX x q),K (xK x)]):=by kernel_rfl
end
section
variable(x:Str)(v m k:Int)
def K5(b2 a4 e4:Str):aD w (Tok×Tok×Tok×Tok)where
 lv:=some 20
 bare:=true
 find c _ _:=some ((bV (aN c 0)),(bV (aN c 1)),(bV (aN c 2)),(bV (aN c 3)))
 code t:=.call (.ref 277) ⟨[.str x t.1,.int v t.2.1,.int m t.2.2.1,.int k t.2.2.2],[]⟩
 pre _:=[]
 r _ μ:=.ok (.ret (.ref (μ.1 0)))
 post _ _:=[]
 new _ μ:=[(μ.1 0,ah #[.str b2 (μ.1 1),.str a4 (μ.1 2),.str e4 (μ.1 3)] 0)]
theorem BM(c:Nat)(D:Nat->Str)(b2 a4 e4:Str)(q:AD x v m k c D b2 a4 e4):(K5 (w:=w) x v m k b2 a4 e4).Ok:=by
 intro t fs A s Rz ii _ kk
 have HX:x.cps.all (·<128)= !!x.cps.all (·<128):=(Bool.not_not _).symm
 have h2:=q.h2
 cases hv:(Int.fmod v 5 !=0)with
 |true=>
  rw[hv]at h2
  exact ii.fn (fun ν=>K3 x t.1 v t.2.1 m t.2.2.1 k t.2.2.2 c D b2 a4 e4 q _ HX fs ν h2 hv) fun ν s' d=>kk (fun k=>[(ν 58).1 0,(pr (ν 41)).1 0,(pr (ν 30)).1 0,(pr (ν 57)).1 0].getD k 0,fun _=>[]) s' rfl d
 |false=>
  rw[hv]at h2
  exact ii.fn (fun ν=>K4 x t.1 v t.2.1 m t.2.2.1 k t.2.2.2 c D b2 a4 e4 q _ HX fs ν h2 hv) fun ν s' d=>kk (fun k=>[(ν 59).1 0,(pr (ν 42)).1 0,(pr (ν 31)).1 0,(pr (ν 58)).1 0].getD k 0,fun _=>[]) s' rfl d
def rd(c:Nat){D:Nat->Str}(b2 a4 e4:Str)(q:AD x v m k c D b2 a4 e4):aJ w:=(K5 x v m k b2 a4 e4).sm (BM x v m k c D b2 a4 e4 q)
end
section
variable(x:Str)(name:List Nat)
def Lb:aD w (Tok×Addr)where
 lv:=some 16
 bare:=true
 find c _ _:=some ((bV (aN c 0)),(gM (aN c 1)))
 code y:=.call (.ref 291) ⟨[.str x y.1,.ref y.2],[]⟩
 pre _:=[]
 r _ m:=.ok (.ret (.ref (m.1 0)))
 post _ _:=[]
 new _ m:=[(m.1 1,ae #[.str (S "refused") (m.1 2),.str x (m.1 3)] 0),(m.1 0,ah #[.str ⟨name.toArray⟩ (m.1 4),.ref (m.1 1)] 2)]
theorem Hj(q:qL w x name):(Lb (w:=w) x name).Ok:=by
 intro t fs A s Rz ii _ kk
 exact aV (rm:=some (16,fs)) (fun ν=>RS x t.1 t.2 name q fs ν) (ii.hh rfl) ii.hr ii.hf ii.hs fun ν s' d=>kk ((fun k=>match k with|0=>(ν 3).1 0|1=>(ν 11).1 0|2=>(ν 9).1 0|3=>t.1|_=>(pr (ν 5)).1 0,fun _=>[])) s' rfl d
def EE(q:qL w x name):aJ w:=(Lb x name).sm (Hj x name q)
end
section
variable(x:Str)(h:Str)(k n:Int)
def La:aD w (Tok×Addr×Obj)where
 lv:=some 16
 bare:=true
 find c pre _:=some ((bV (aN c 0)),(az pre 0))
 code y:=.call (.ref 291) ⟨[.str x y.1,.ref y.2.1],[]⟩
 pre t:=[(t.2.1,ae #[.str h (bG t.2.2 0),.int k (bG t.2.2 1)] (bp t.2.2))]
 r _ m:=.ok (.ret (.ref (m.1 0)))
 post t _:=[ae #[.str h (bG t.2.2 0),.int k (bG t.2.2 1)] (bp t.2.2)]
 new _ m:=[(m.1 5,ae #[.str h (m.1 6),.int n (m.1 4)] 0),(m.1 1,ae #[.str (S "refused") (m.1 2),.str x (m.1 3)] 0),(m.1 0,ah #[.ref (m.1 1),.ref (m.1 5)] 2)]
theorem Hi(q:iA x n):(La (w:=w) x h k n).Ok:=by
 intro t fs A s Rz ii _ kk
 refine cQ (kC (rm:=some (16,fs)) (fun ν=>RR x t.1 t.2.1 h _ k n _ _ q fs ν) (ii.hh rfl) ii.hr ii.hf ii.hs) fun r s' z=> ?_
 obtain⟨ν,z,d⟩:=z
 refine wo z (kk ((fun k=>match k with|0=>(ν 3).1 0|1=>(ν 10).1 0|2=>(ν 8).1 0|3=>t.1|4=>(pr (ν 12)).1 1|5=>(pr (ν 12)).1 0|_=>bG t.2.2 0,fun _=>[])) s' rfl (d.perm ?_))
 exact dy (l₁:=[_]) (l₂:=[_,_,_])
def xQ(q:iA x n):aJ w:=(La x h k n).sm (Hi x h k n q)
end
def K9(x:Str):aD w (Tok×Addr)where
 lv:=some 16
 bare:=true
 find c _ _:=some ((bV (aN c 0)),(gM (aN c 1)))
 code y:=.call (.ref 291) ⟨[.str x y.1,.ref y.2],[]⟩
 pre _:=[]
 r _ m:=.ok (.ret (.ref (m.1 0)))
 post _ _:=[]
 new _ m:=[(m.1 5,ae #[.str (S "spoilt") (m.1 4),.str x (m.1 3)] 0),(m.1 1,ae #[.str (S "refused") (m.1 2),.str x (m.1 3)] 0),(m.1 0,ah #[.ref (m.1 1),.ref (m.1 5)] 2)]
theorem Hh(x:Str)(q:mf x):(K9 (w:=w) x).Ok:=by
 intro t fs A s Rz ii _ kk
 exact aV (rm:=some (16,fs)) (fun ν=>RQ x t.1 t.2 q fs ν) (ii.hh rfl) ii.hr ii.hf ii.hs fun ν s' d=>kk ((fun k=>match k with|0=>(ν 3).1 0|1=>(ν 10).1 0|2=>(ν 8).1 0|3=>t.1|4=>(ν 15).1 0|_=>(ν 17).1 0,fun _=>[])) s' rfl d
def Ku(x:Str)(q:mf x):aJ w:=(K9 x).sm (Hh x q)
end
section
open PySem PySem.W PyProof.Rows PySem.Builtin.Str PySem.StrLaws
section
variable(l:List Nat)
def ML:Str:=⟨l.toArray⟩
theorem bl:(ML l).cps.toList=l:=by simp[ML]
theorem fO:(ML l).length=l.length:=by simp[ML,Str.length]
end
theorem bA(a b:List Nat):ML a++ML b=ML (a++b):=by
 show(⟨a.toArray++b.toArray⟩:Str)=_
 simp[ML]
theorem e8(x:Str)(c k:Nat):At x ⟨#[c]⟩ x.length k↔x.cps.toList[k]? =some c:=by
 unfold At
 rw[subAt_eq]
 have hl:(⟨#[c]⟩:Str).length=1:=rfl
 rw[hl]
 have hn:x.cps.toList.length=x.length:=by simp[Str.length]
 generalize x.cps.toList=L at hn⊢
 rw[<-hn]
 constructor
 ·rintro⟨h1,h2⟩
  have h2:(L.drop k).take 1=[c]:=by simpa using h2
  have:((L.drop k).take 1)[0]? =some c:=by rw[h2];rfl
  rw[List.getElem?_take_of_lt (by lia),List.getElem?_drop]at this
  simpa using this
 ·intro h
  obtain⟨hk,e⟩:=List.getElem?_eq_some_iff.mp h
  refine⟨hk,?_⟩
  rw[List.drop_eq_getElem_cons hk,e]
  simp
theorem lC{x y:Str}{hi:Nat}:∀(OT F4:List Nat) (a f f':Nat),ChainG x y hi a OT f->(∀k,f<=k->¬At x y hi k)->ChainG x y hi a F4 f'->(∀k,f'<=k->¬At x y hi k)->OT=F4
 |[],[],_,_,_,_,_,_,_=>rfl
 |[],c::r,a,f,f',h,hn,h',_=>by
  have e:f=a:=h
  exact absurd h'.2.1 (hn c (by rw[e];exact h'.1))
 |c::r,[],a,f,f',h,_,h',qg=>by
  have e:f'=a:=h'
  exact absurd h.2.1 (qg c (by rw[e];exact h.1))
 |c::r,c'::r',a,f,f',h,hn,h',qg=>by
  have e:c=c':=by
   rcases Nat.lt_trichotomy c c' with q|q|q
   ·exact absurd h.2.1 (h'.2.2.1 c h.1 q)
   ·exact q
   ·exact absurd h'.2.1 (h.2.2.1 c' h'.1 q)
  subst e
  rw[lC r r' _ _ _ h.2.2.2 hn h'.2.2.2 qg]
def bM(c:Nat):List (List Nat)->List Nat
 |[]=>[]
 |[p]=>p
 |p::q::r=>p++c::bM c (q::r)
def qA(a:Nat):List (List Nat)->List Nat
 |[]=>[]
 |[_]=>[]
 |p::q::r=>(a+p.length)::qA (a+p.length+1) (q::r)
theorem jv(x:Str)(c:Nat):∀(ps:List (List Nat)) (a:Nat),ps≠[]->a<=x.length->x.cps.toList.drop a=bM c ps->(∀p∈ps,c∉p)->
  (∃f,ChainG x ⟨#[c]⟩ x.length a (qA a ps) f/\∀k,f<=k->¬At x ⟨#[c]⟩ x.length k)/\partsFrom x 1 a (qA a ps)=ps.map ML
 |[],_,h,_,_,_=>absurd rfl h
 |[p],a,_,ha,hd,hc=>by
  have hn:x.cps.toList.length=x.length:=by simp[Str.length]
  have hd:x.cps.toList.drop a=p:=hd
  refine⟨⟨a,rfl,fun k hk h=> ?_⟩,?_⟩
  ·rw[e8]at h
   have:(x.cps.toList.drop a)[k-a]? =some c:=by
    rw[List.getElem?_drop]
    rw[show a+(k-a)=k by lia]
    exact h
   rw[hd]at this
   exact hc p (.head _) (ir this)
  ·show [strSub x a x.length]=[ML p]
   congr 1
   apply Str.ext'
   apply Array.toList_inj.mp
   rw[strSub_toList,bl,hd]
   have:p.length=x.length-a:=by rw[<-hd,List.length_drop,hn]
   rw[<-this,List.take_length]
 |p::q::r,a,_,ha,hd,hc=>by
  have hn:x.cps.toList.length=x.length:=by simp[Str.length]
  have hd:x.cps.toList.drop a=p++c::bM c (q::r):=hd
  have hlen:a+p.length+1<=x.length:=by
   have:=congrArg List.length hd
   rw[List.length_drop,List.length_append,List.length_cons,hn]at this
   lia
  have hd2:x.cps.toList.drop (a+p.length+1)=bM c (q::r):=by
   have:x.cps.toList.drop (a+p.length+1)=(x.cps.toList.drop a).drop (p.length+1):=by rw[List.drop_drop];rfl
   rw[this,hd,<-List.drop_drop,List.drop_left]
   rfl
  obtain⟨⟨f,h1,h2⟩,h3⟩:=jv x c (q::r) (a+p.length+1) (by simp) hlen hd2 (fun z hz=>hc z (.tail _ hz))
  have get:∀j,x.cps.toList[a+j]? =(p++c::bM c (q::r))[j]? :=fun j=>by
   rw[<-hd,List.getElem?_drop]
  refine⟨⟨f,⟨Nat.le_add_right _ _,?_,fun k k1 k2 h=> ?_,h1⟩,h2⟩,?_⟩
  ·rw[e8,get]
   simp
  ·rw[e8]at h
   have e:=get (k-a)
   rw[show a+(k-a)=k by lia,h]at e
   rw[List.getElem?_append_left (by lia)]at e
   exact hc p (.head _) (ir e.symm)
  ·show strSub x a (a+p.length)::partsFrom x 1 (a+p.length+1) (qA (a+p.length+1) (q::r))=ML p::(q::r).map ML
   rw[h3]
   congr 1
   apply Str.ext'
   apply Array.toList_inj.mp
   rw[strSub_toList,bl,hd,show a+p.length-a=p.length by lia,List.take_left]
theorem oY(c:Nat)(ps:List (List Nat))(hZ:ps≠[])(hc:∀p∈ps,c∉p):partsBetween (ML (bM c ps)) (occurrences (ML (bM c ps)) ⟨#[c]⟩ 0 (ML (bM c ps)).length ((ML (bM c ps)).length+1)) (⟨#[c]⟩:Str).length=ps.map ML/\
  occurrences (ML (bM c ps)) ⟨#[c]⟩ 0 (ML (bM c ps)).length ((ML (bM c ps)).length+1)=qA 0 ps:=by
 obtain⟨f,h1,h2⟩:=occ_tight (ML (bM c ps)) ⟨#[c]⟩ (bC 1)
 obtain⟨⟨f',h3,h4⟩,h5⟩:=jv (ML (bM c ps)) c ps 0 hZ (cY _) (by rw[bl];rfl) hc
 have e:=lC _ _ _ _ _ h1 h2 h3 h4
 rw[e]
 exact⟨by rw[partsBetween_eq];exact h5,rfl⟩
theorem zO(x:Str)(c n:Nat)(h:x.cps.toList[n]? =some c)(hn:∀k,k<n->x.cps.toList[k]? ≠some c):(match occurrences x ⟨#[c]⟩ 0 x.length 1 with|i::_=>(i:Int)|[]=> -1)=(n:Int):=by
 rcases occ_head x ⟨#[c]⟩ 1 (bC 1)with⟨_,h2⟩|⟨i,r,h1,h2,h3⟩
 ·exact absurd ((e8 x c n).mpr h) (h2 n)
 ·rw[h1]
  have e:i=n:=by
   rcases Nat.lt_trichotomy i n with q|q|q
   ·exact absurd ((e8 x c i).mp h2) (hn i q)
   ·exact q
   ·exact absurd ((e8 x c n).mpr h) (h3 n q)
  rw[e]
theorem wj(x:Str)(c lo n:Nat)(uB:lo<=n)(h:x.cps.toList[n]? =some c)(hn:∀k,lo<=k->k<n->x.cps.toList[k]? ≠some c):(match occurrences x ⟨#[c]⟩ (fromIndex x.length (lo:Int)) x.length 1 with|i::_=>(i:Int)|[]=> -1)=(n:Int):=by
 have e0:fromIndex x.length (lo:Int)=lo:=by unfold fromIndex;rw[if_neg (by lia)];lia
 rw[e0]
 rcases occ_head_from x ⟨#[c]⟩ lo 1 (bC 1)with⟨_,h2⟩|⟨i,r,h1,h0,h2,h3⟩
 ·exact absurd ((e8 x c n).mpr h) (h2 n uB)
 ·rw[h1]
  have e:i=n:=by
   rcases Nat.lt_trichotomy i n with q|q|q
   ·exact absurd ((e8 x c i).mp h2) (hn i h0 q)
   ·exact q
   ·exact absurd ((e8 x c n).mpr h) (h3 n uB q)
  rw[e]
theorem pa(l:List Nat)(a b:Nat)(AS:a<=b)(hb:b<=l.length):Txt.slice (ML l) (some (a:Int)) (some (b:Int))=ML ((l.drop a).take (b-a)):=by
 have:=sliceText_nat (ML l) AS (by rw[fO];exact hb)
 rw[bl]at this
 exact this
theorem o9(l:List Nat)(b:Nat)(hb:b<=l.length):Txt.slice (ML l) none (some (b:Int))=ML (l.take b):=by
 have:=sliceText_to (x:=ML l) (j:=(b:Int)) ⟨by lia,by rw[bl];lia⟩
 rw[bl,List.drop_zero]at this
 have e:((b:Int)-0).toNat=b:=by lia
 rw[e]at this
 exact this
noncomputable def dg(n:Int):List Nat:=(Str.ofString (toString n)).cps.toList
section
variable{n:Int}
theorem lA(h0:0<=n):PySem.NumText.AllDigits (dg n):=by
 obtain⟨m,rfl⟩:=Int.eq_ofNat_of_zero_le h0
 intro c hc
 unfold dg at hc
 rw[PySem.W.KIN.signs_num]at hc
 obtain⟨ch,Zk,e⟩:=cz hc
 have h:=Nat.isDigit_of_mem_toDigits (by decide) (by decide) Zk
 rw[<-e]
 simp only[Char.isDigit,Bool.and_eq_true,decide_eq_true_eq]at h
 exact⟨UInt32.le_iff_toNat_le.mp h.1,UInt32.le_iff_toNat_le.mp h.2⟩
theorem F1(h0:0<=n):dg n≠[]:=by
 obtain⟨m,rfl⟩:=Int.eq_ofNat_of_zero_le h0
 unfold dg
 rw[PySem.W.KIN.signs_num]
 intro e
 have:=List.map_eq_nil_iff.mp e
 exact absurd this (Nat.toDigits_ne_nil)
theorem I4(h0:0<=n):((PySem.NumText.digitsVal (dg n):Nat):Int)=n:=by
 obtain⟨m,rfl⟩:=Int.eq_ofNat_of_zero_le h0
 unfold dg
 rw[PySem.W.KIN.signs_num,PySem.W.KIN.val_back]
theorem eA(h0:0<=n)(h1:n<10^10):(dg n).length<=100:=by
 have h:=PySem.W.KT.len_num h0 h1
 have e:(Str.ofString (toString n)).length=(dg n).length:=by unfold dg;simp[Str.length]
 lia
theorem mL(h0:0<=n)(h1:n<10^10)(k:Nat)(hk:k<100):PySem.intText? (ML (List.replicate k 48++dg n))=some n:=by
 have hl:=eA h0 h1
 have hd:PySem.NumText.AllDigits (List.replicate k 48++dg n):=by
  intro c hc
  rcases bw hc with q|q
  ·rw[(List.mem_replicate.mp q).2];decide
  ·exact lA h0 c q
 have e:=PySem.intText_digits (x:=ML (List.replicate k 48++dg n)) (by rw[bl];exact hd) (by rw[bl];simp[F1 h0]) (by rw[fO,List.length_append,List.length_replicate];lia)
 rw[e,bl]
 have v:∀k,PySem.NumText.digitsVal (List.replicate k 48++dg n)=PySem.NumText.digitsVal (dg n):=by
  intro k
  induction k with
  |zero=>rfl
  |succ k ih=>rw[List.replicate_succ,List.cons_append,PySem.NumText.digitsVal_zero,ih]
 rw[v,I4 h0]
end
end
section
open PySem PySem.W PySem.W.X PyProof.Rows PySem.Builtin.Str PySem.StrLaws
theorem lD{x:Str}{i c:Nat}(h:x.cps.toList[i]? =some c):oJ x (i:Int) c:=by
 obtain⟨hl,e⟩:=List.getElem?_eq_some_iff.mp h
 have WT:i<x.length:=by simpa[Str.length]using hl
 unfold oJ
 rw[seqIndex_of (by lia) (by lia)]
 simpa using h
theorem kX{i:Nat}(h:i<10000000):du (i:Int):=by
 unfold du
 simp only[Bool.or_eq_false_iff,decide_eq_false_iff_not]
 lia
theorem O7:S "229"=ML [50,50,57]:=by decide
theorem O6:S "257"=ML [50,53,55]:=by decide
theorem Z6:S "("=⟨#[40]⟩:=by decide
theorem Vq:S ")"=⟨#[41]⟩:=by decide
structure fu(pre Y post:List Nat)(c d:Nat):Prop where
 pt:pre.take 3=[50,50,57]
 YC:40∉pre
 YB:41∉Y
 y0:Y[0]? =some c
 yl:Y[Y.length-1]? =some d
 len:pre.length+Y.length+post.length<1000000
def gF(pre Y post:List Nat):Str:=ML (pre++40::(Y++41::post))
section
variable{pre Y post:List Nat}{c d:Nat}
theorem fu.Ka(R:fu pre Y post c d):0<Y.length:=by
 have:=R.y0
 cases Y with
 |nil=>simp at this
 |cons a l=>simp
theorem fu.at(_R:fu pre Y post c d)(j:Nat)(hj:j<Y.length):(gF pre Y post).cps.toList[pre.length+1+j]? =Y[j]? :=by
 unfold gF
 rw[bl,List.getElem?_append_right (by lia),show pre.length+1+j-pre.length=j+1 by lia,List.getElem?_cons_succ,List.getElem?_append_left hj]
theorem fu.xZ(R:fu pre Y post c d):Txt.slice (gF pre Y post) none (some 3)=S "229":=by
 have hp:3<=pre.length:=by
  have:=congrArg List.length R.pt
  rw[List.length_take]at this
  have e:[50,50,57].length=3:=rfl
  lia
 have:=o9 (pre++40::(Y++41::post)) 3 (by simp;lia)
 rw[List.take_append_of_le_length hp,R.pt]at this
 rw[O7]
 exact this
theorem fu.find(R:fu pre Y post c d):qn (gF pre Y post) (S "(") (pre.length:Int):=by
 rw[Z6]
 refine zO _ 40 pre.length ?_ fun k hk h=> ?_
 ·unfold gF
  rw[bl,List.getElem?_append_right (Nat.le_refl _)]
  simp
 ·unfold gF at h
  rw[bl,List.getElem?_append_left hk]at h
  exact R.YC (ir h)
theorem fu.findF(R:fu pre Y post c d):qm (gF pre Y post) (S ")") ((pre.length:Int)+1) ((pre.length+1+Y.length:Nat):Int):=by
 rw[Vq]
 refine wj _ 41 (pre.length+1) (pre.length+1+Y.length) (by lia) ?_ fun k h1 h2 h=> ?_
 ·unfold gF
  rw[bl,List.getElem?_append_right (by lia),show pre.length+1+Y.length-pre.length=Y.length+1 by lia,List.getElem?_cons_succ,List.getElem?_append_right (Nat.le_refl _)]
  simp
 ·have e:=R.at (k-(pre.length+1)) (by lia)
  rw[show pre.length+1+(k-(pre.length+1))=k by lia,h]at e
  exact R.YB (ir e.symm)
theorem fu.slice(R:fu pre Y post c d):Txt.slice (gF pre Y post) (some ((pre.length:Int)+1)) (some ((pre.length+1+Y.length:Nat):Int))=ML Y:=by
 have:=pa (pre++40::(Y++41::post)) (pre.length+1) (pre.length+1+Y.length) (by lia) (by simp;lia)
 have e:(pre++40::(Y++41::post)).drop (pre.length+1)=Y++41::post:=by
  rw[<-List.drop_drop,List.drop_left];rfl
 rw[e,show pre.length+1+Y.length-(pre.length+1)=Y.length by lia,List.take_left]at this
 exact this
theorem fu.GD(R:fu pre Y post c d)(h:c≠d):mf (gF pre Y post):=by
 have hl:=R.len
 have hy:=R.Ka
 refine⟨R.xZ,pre.length,((pre.length+1+Y.length:Nat):Int),c,d,R.find,iw (by lia),R.findF,iw (by lia),kX (i:=pre.length+1) (by lia),lD (i:=pre.length+1) (by have:=R.at 0 hy;rw[R.y0]at this;exact this),?_,?_,?_⟩
 ·have:=kX (i:=pre.length+Y.length) (by lia)
  rw[show(((pre.length+1+Y.length:Nat):Int)-1)=((pre.length+Y.length:Nat):Int) by lia]
  exact this
 ·rw[show(((pre.length+1+Y.length:Nat):Int)-1)=((pre.length+Y.length:Nat):Int) by lia]
  refine lD ?_
  have:=R.at (Y.length-1) (by lia)
  rw[show pre.length+1+(Y.length-1)=pre.length+Y.length by lia,R.yl]at this
  exact this
 ·simp[h]
theorem Cw(x:Str):1<=PySem.Builtin.Str.strKind x:=by
 unfold PySem.Builtin.Str.strKind
 split
 ·exact bC 1
 ·split<;>decide
theorem zi{c:Nat}(h:c<256):PySem.Builtin.Str.strKind ⟨#[c]⟩=1:=by
 unfold PySem.Builtin.Str.strKind
 rw[if_pos]
 simp[h]
theorem fu.good{p0 p1 p2 p3 p4:List Nat}(R:fu pre (bM c [p0,p1,p2,p3,p4]) post c c)(hc:c<256)(hn:∀p∈[p0,p1,p2,p3,p4],c∉p)(Ia:p3.length<=640){n:Int}(hi:PySem.intText? (ML p3)=some n):iA (gF pre (bM c [p0,p1,p2,p3,p4]) post) n:=by
 have hl:=R.len
 have hy:=R.Ka
 obtain⟨sp,oc⟩:=oY c [p0,p1,p2,p3,p4] (by simp) hn
 generalize hY:bM c [p0,p1,p2,p3,p4]=Y at*
 refine⟨R.xZ,pre.length,((pre.length+1+Y.length:Nat):Int),c,ML Y,ML p0,ML p1,ML p2,ML p3,ML p4,R.find,iw (by lia),R.findF,iw (by lia),kX (i:=pre.length+1) (by lia),lD (i:=pre.length+1) (by have:=R.at 0 hy;rw[R.y0]at this;exact this),?_,?_,R.slice,?_,?_,?_,sp,by rw[fO];exact Ia,hi⟩
 ·have:=kX (i:=pre.length+Y.length) (by lia)
  rw[show(((pre.length+1+Y.length:Nat):Int)-1)=((pre.length+Y.length:Nat):Int) by lia]
  exact this
 ·rw[show(((pre.length+1+Y.length:Nat):Int)-1)=((pre.length+Y.length:Nat):Int) by lia]
  refine lD ?_
  have:=R.at (Y.length-1) (by lia)
  rw[show pre.length+1+(Y.length-1)=pre.length+Y.length by lia,R.yl]at this
  exact this
 ·show(ML Y).length<=sizeLine
  rw[fO,gn];lia
 ·have h1:=Cw (ML Y)
  rw[zi hc]
  have h2:(ML Y).length=Y.length:=fO Y
  have h3:(⟨#[c]⟩:Str).length=1:=rfl
  simp only[Bool.or_eq_false_iff,decide_eq_false_iff_not]
  lia
 ·rw[oc];rfl
end
end
section
open PySem PySem.W PySem.W.X PyProof.Rows PySem.Builtin.Str
def kI(o:Obj):Nat:=match o.data with
 | .fields vs=>match p7 vs.toList 1 with
  | .int k _=>k.toNat
  |_=>0
 |_=>0
def itemsOf(o:Obj):List Value:=match o.data with
 | .seq xs _=>xs.toList
 |_=>[]
def nN:List Value->Nat->Option Value
 |[],_=>none
 |v::l,n=>match Nat.beq n 0 with
  |true=>some v
  |false=>nN l (Nat.pred n)
theorem nM:∀(l:List Value) (n:Nat),nN l n=l[n]?
 |[],_=>by simp[nN]
 |v::l,0=>by simp[nN]
 |v::l,n+1=>by
  rw[nN,List.getElem?_cons_succ,<-nM l n]
  rfl
def fD(T:String)(mk:List Value->Nat->Obj):aD w ((Addr×Obj)×(Addr×Obj))where
 bare:=true
 find _ pre _:=some ((az pre 0),(az pre 1))
 code y:=.call (.builtin (T++".__next__")) ⟨[.ref y.1.1],[]⟩
 pre y:=[(y.1.1,bc T (.ref y.2.1) (kI y.1.2)),(y.2.1,y.2.2)]
 obs y:=[⟨Obj,y.2.2,mk (itemsOf y.2.2) (bp y.2.2)⟩]
 r y μ:=match nN (itemsOf y.2.2) (kI y.1.2)with
  |some v=>.ok (.ret v)
  |none=>.error (.ref (μ.1 1))
 post y _:=match nN (itemsOf y.2.2) (kI y.1.2)with
  |some _=>[bc T (.ref y.2.1) (Nat.succ (kI y.1.2)),y.2.2]
  |none=>[bc T .none (kI y.1.2),y.2.2]
 new y μ:=match nN (itemsOf y.2.2) (kI y.1.2)with
  |some _=>[]
  |none=>[(μ.1 1,cS (μ.1 0)),(μ.1 0,ae #[] 0)]
theorem y8:(fD (w:=w) "list_iterator" fun xs n=>aj xs n).Ok:=by
 intro y fs A s Rz ii ho kk
 obtain⟨⟨it,io⟩,l,o⟩:=y
 have e:o=aj (itemsOf o) (bp o):=(dD.cons.mp ho).1
 have hd:o.data=.seq (itemsOf o).toArray (bp o):=congrArg Obj.data e
 cases hv:nN (itemsOf o) (kI io)with
 |some v=>
  refine cQ (gv hd (by rw[<-nM];exact hv) ii.hs) fun r s' q=> ?_
  obtain⟨q,d⟩:=q
  refine wo (?_) (kk eQ s' ?_ ?_)
  ·simp only[fD,hv];exact q
  ·simp only[fD,hv];rfl
  ·simp only[fD,aD.fin,hv];exact d
 |none=>
  refine cQ (hQ (ii.hh rfl) hd (by rw[<-nM];exact hv) ii.hs) fun r s' q=> ?_
  obtain⟨a,b,q,d⟩:=q
  refine wo (?_) (kk ((fun i=>if i=0 then a else b,fun _=>[])) s' ?_ ?_)
  ·simp only[fD,hv];exact q
  ·simp only[fD,hv];rfl
  ·simp only[fD,aD.fin,hv]
   exact d.perm (dy (l₁:=[_,_]) (l₂:=[_,_]))
def ak:aJ w:=(fD "list_iterator" fun xs n=>aj xs n).sm y8
theorem vz(xs:List PyData)(hc:PyData.canLayAll0 xs=true)(j:Nat)(hj:j<xs.length):PySem.SeqAt.pairEq xs xs j=true:=by
 induction xs generalizing j with
 |nil=>exact absurd hj (i8 _)
 |cons x xs ih=>
  rw[PyData.canLayAll0]at hc
  have h:=Bool.and_eq_true_iff.mp hc
  cases j with
  |zero=>exact PySem.SeqAt.eqv_refl x h.1
  |succ j=>exact ih h.2 j (Nat.lt_of_succ_lt_succ hj)
theorem kG{h:Heap}{a:Addr}{xs:List PyData}{as:List Addr}(r:Reads h (.ref a) (.list xs) as):∃dd vs n sl Z0,h.get? a=some ⟨.type "list",dd,.seq vs n,sl⟩/\ReadsAll h vs.toList xs Z0:=by
 obtain⟨b,⟨k,dd,dt,sl⟩,vs,n,bs,e,h1,h2,h3,h4,_⟩:=reads_list_inv r
 have h2:k=_:=h2
 have h3:dt=_:=h3
 rw[<-Value.ref.inj e,h2,h3]at h1
 exact⟨dd,vs,n,sl,bs,h1,h4⟩
theorem uM{a b:Addr}{xs:List PyData}{as bs:List Addr}(ra:Reads s.heap (.ref a) (.list xs) as)(rb:Reads s.heap (.ref b) (.list xs) bs)(hc:PyData.canLayAll0 xs=true)(hd:PyData.depthAll xs<=60)(hu:A.units+100<cLine)
  (h:R (.ok (.ret (.bool true))) s):codeAny (Mo w) A (.call (.builtin "list.__eq__") ⟨[.ref a,.ref b],[]⟩) R s:=by
 obtain⟨ZU,Ph,n1,Yp,_,h1,r1⟩:=kG ra
 obtain⟨ZT,X5,n2,Yo,_,h2,r2⟩:=kG rb
 have e1:=PySem.SeqAt.ReadsAll.length _ _ _ r1
 have e2:=PySem.SeqAt.ReadsAll.length _ _ _ r2
 have hk:(List.range Ph.size).all (PySem.SeqAt.pairEq xs xs)=true:=List.all_eq_true.mpr fun j hj=>vz xs hc j (Nat.lt_of_lt_of_eq (jL hj) e1)
 exact aS F.slot_list_eq ⟨_,h1,rfl⟩ F.entry_list_eq (F.args_list_eq_2 _ _) (PySem.SeqAt.list_eqAt a b Ph X5 n1 n2 ZU ZT Yp Yo (e1.trans e2.symm) (PySem.SeqAt.pairEq xs xs)) ⟨h1,h2,fun j q1 q2=>PySem.SeqAt.eqAt_readsAll xs xs A.in1 s _ _ _ _ r1 r2 hc hc (cW (by show A.units+1+_<=A.units+100;lia) hu) j q1 q2,by rw[hk];exact h⟩
abbrev Jo:=PyData×List Ob×List Nat
def dM(f:List Nat->Value->Jo):List Nat->List Value->List PyData×List Ob×List Nat
 |code,[]=>([],[],code)
 |code,v::l=>((f code v).1::(dM f (f code v).2.2 l).1,(f code v).2.1++(dM f (f code v).2.2 l).2.1,(dM f (f code v).2.2 l).2.2)
section
variable(v:Value)
def WB:Bool:=match v with
 | .ref _=>true
 |_=>false
def WA:Bool:=match v with
 | .str _ _=>true
 |_=>false
def WC:Bool:=match v with
 | .bool _=>true
 |_=>false
def XQ:Bool:=match v with
 | .bool b=>b
 |_=>true
end
noncomputable def SU(o:Obj):Bool:=match o.cls with
 | .type T=>T=="list"
 |_=>false
noncomputable def Kd(o:Obj):Array Value:=match o.data with
 | .seq xs _=>xs
 |_=> #[]
def nO(o:Obj):Nat:=match o.data with
 | .seq _ n=>n
 |_=>0
def EP(pre:Led)(f:List Nat->Value->Jo)(code:List Nat)(v:Value)(p:Addr×Obj):Jo:=
 (bif SU p.2 then .list (dM f code (Kd p.2).toList).1 else .tuple (dM f code (Kd p.2).toList).1,⟨Value,v,.ref p.1⟩::⟨Obj,p.2,⟨.type (bif SU p.2 then"list"else"tuple"),p.2.dict,.seq (Kd p.2) (nO p.2),p.2.slots⟩⟩::(dM f code (Kd p.2).toList).2.1,(dM f code (Kd p.2).toList).2.2)
def sZ(pre:Led)(good:List Str)(f:List Nat->Value->Jo)(code:List Nat)(v:Value):Jo:=
 bif WB v then EP pre f code.tail v (az pre (code.headD 0))else bif WA v then(.str (good.getD (code.headD 0) ⟨#[]⟩),[⟨Value,v,.str (good.getD (code.headD 0) ⟨#[]⟩) (bV v)⟩],code.tail)else bif WC v then(.bool (XQ v),[⟨Value,v,.bool (XQ v)⟩],code)else(.int (rS v),[⟨Value,v,.int (rS v) (bV v)⟩],code)
def fh(pre:Led)(good:List Str):Nat->List Nat->Value->Jo
 |0,code,_=>(.none,[⟨Bool,true,false⟩],code)
 |n+1,code,v=>sZ pre good (fh pre good n) code v
def Ef(h:Heap)(n:Nat)(v:Value)(d:PyData):Prop:=(∃as,Reads h v d as)/\d.canLay0=true/\d.depth<=n
section
variable{h:Heap}{n:Nat}{f:List Nat->Value->Jo}(H:∀code v,dD (f code v).2.1->Ef h n v (f code v).1)
include H
theorem vr(l:List Value):∀code,dD (dM f code l).2.1->(∃as,ReadsAll h l (dM f code l).1 as)/\PyData.canLayAll0 (dM f code l).1=true/\PyData.depthAll (dM f code l).1<=n:=by
 induction l with
 |nil=>exact fun code _=>⟨⟨_,.nil⟩,by show PyData.canLayAll0 []=_;rw[PyData.canLayAll0],by show PyData.depthAll []<=_;rw[PyData.depthAll];exact cY _⟩
 |cons v l ih=>
  intro code ho
  obtain⟨o1,o2⟩:=dD.app.mp ho
  obtain⟨⟨as,r1⟩,c1,d1⟩:=H _ _ o1
  obtain⟨⟨bs,r2⟩,c2,d2⟩:=ih _ o2
  exact⟨⟨_,.cons r1 r2⟩,by show PyData.canLayAll0 (_::_)=_;rw[PyData.canLayAll0,c1,c2];rfl,by show PyData.depthAll (_::_)<=_;rw[PyData.depthAll];exact Nat.max_le.mpr ⟨d1,d2⟩⟩
theorem xC{pre:Led}{good:List Str}(hp:∀i es n,(az pre i).2.data=.seq es n->h.get? (az pre i).1=some (az pre i).2)(hg:∀i,PyData.strOk (good.getD i ⟨#[]⟩)=true)(code:List Nat)(v:Value):dD (sZ pre good f code v).2.1->Ef h (n+1) v (sZ pre good f code v).1:=by
 unfold sZ
 cases WB v with
 |true=>
  intro ho
  have hg:=hp (code.headD 0)
  generalize az pre (code.headD 0)=p at ho hg
  obtain⟨e1,o2⟩:=dD.cons.mp ho
  obtain⟨e2,o3⟩:=dD.cons.mp o2
  obtain⟨⟨as,rr⟩,c,dd⟩:=vr H _ _ o3
  have ec:p.2.cls=_:=congrArg Obj.cls e2
  have ed:p.2.data=_:=congrArg Obj.data e2
  rw[show v=.ref p.1 from e1]
  unfold EP Ef
  rw[cond_true]
  dsimp only
  cases hL:SU p.2 with
  |false=>rw[hL]at ec;exact⟨⟨_,.tuple (hg _ _ ed) ec ed rr⟩,by rw[cond_false,PyData.canLay0];exact c,by rw[cond_false,PyData.depth];exact jJ dd⟩
  |true=>rw[hL]at ec;exact⟨⟨_,.list (hg _ _ ed) ec ed rr⟩,by rw[cond_true,PyData.canLay0];exact c,by rw[cond_true,PyData.depth];exact jJ dd⟩
 |false=>
  rw[cond_false]
  cases WA v with
  |true=>
   intro ho
   rw[show v=_ from(dD.cons.mp ho).1]
   exact⟨⟨_,.str _ _⟩,by rw[cond_true,PyData.canLay0];exact hg _,by rw[cond_true,PyData.depth];exact Nat.le_add_left ..⟩
  |false=>
   rw[cond_false]
   cases WC v with
   |true=>
    intro ho
    rw[show v=_ from(dD.cons.mp ho).1]
    exact⟨⟨_,.bool _⟩,by rw[cond_true,PyData.canLay0],by rw[cond_true,PyData.depth];exact Nat.le_add_left ..⟩
   |false=>
    intro ho
    rw[show v=_ from(dD.cons.mp ho).1]
    exact⟨⟨_,.int _ _⟩,by rw[cond_false,PyData.canLay0],by rw[cond_false,PyData.depth];exact Nat.le_add_left ..⟩
end
theorem pD{h:Heap}{pre:Led}{good:List Str}(hp:∀i es n,(az pre i).2.data=.seq es n->h.get? (az pre i).1=some (az pre i).2)(hg:∀i,PyData.strOk (good.getD i ⟨#[]⟩)=true)(n:Nat):∀code v,dD (fh pre good n code v).2.1->Ef h n v (fh pre good n code v).1:=by
 induction n with
 |zero=>exact fun _ _ ho=>absurd (dD.cons.mp ho).1 Bool.noConfusion
 |succ n ih=>exact xC ih hp hg
noncomputable def Wm:PyData->List PyData
 | .list l=>l
 |_=>[]
def BN(pre:Led)(good:List Str)(c1 c2:List Nat)(a b:Addr):List Ob:=⟨PyData,(fh pre good 8 c1 (.ref a)).1,.list (Wm (fh pre good 8 c1 (.ref a)).1)⟩::⟨PyData,(fh pre good 8 c1 (.ref a)).1,(fh pre good 8 c2 (.ref b)).1⟩::((fh pre good 8 c1 (.ref a)).2.1++(fh pre good 8 c2 (.ref b)).2.1)
def Ou(good:List Str)(c1 c2:List Nat):aD w (Addr×Addr×Led)where
 lv:=some 8
 find c pre _:=some (gM ((e9 c).getD 0 .none),gM ((e9 c).getD 1 .none),pre)
 code y:=.call (.builtin "list.__eq__") ⟨[.ref y.1,.ref y.2.1],[]⟩
 pre y:=y.2.2
 r _ _:=.ok (.ret (.bool true))
 post y _:=y.2.2.map (·.2)
 obs y:=BN y.2.2 good c1 c2 y.1 y.2.1
theorem oM(l:Led):(l.map (·.1)).zip (l.map (·.2))=l:=by
 induction l with
 |nil=>rfl
 |cons p l ih=>exact congrArg (p::·) ih
theorem IS(good:List Str)(hg:∀x∈good,PyData.strOk x=true)(c1 c2:List Nat):(Ou (w:=w) good c1 c2).Ok:=by
 refine aD.old fun⟨a,b,pre⟩ fs A s hr _ _ ho h=> ?_
 have hp:∀i es n,(az pre i).2.data=.seq es n->s.heap.get? (az pre i).1=some (az pre i).2:=fun i es n e=>by
  unfold az at e⊢
  rw[List.getD_eq_getElem?_getD]at e⊢
  cases hi:pre[i]? with
  |none=>rw[hi]at e;cases e
  |some p=>rw[hi]at e;exact h.at (jH _ (ir hi)) (bb fun U4 n' q=>by cases e.symm.trans q)
 have hg:∀i,PyData.strOk (good.getD i ⟨#[]⟩)=true:=fun i=>by
  rw[List.getD_eq_getElem?_getD]
  cases hi:good[i]? with
  |none=>show PyData.strOk ⟨#[]⟩=true;simp[PyData.strOk]
  |some x=>exact hg x (ir hi)
 obtain⟨ex,ho⟩:=dD.cons.mp ho
 obtain⟨h1,ho⟩:=dD.cons.mp ho
 obtain⟨PX,PW⟩:=dD.app.mp ho
 obtain⟨⟨as,r1⟩,k1,k2⟩:=pD hp hg _ _ _ PX
 obtain⟨⟨bs,r2⟩,_,_⟩:=pD hp hg _ _ _ PW
 have h1:(fh pre good 8 c1 (.ref a)).1=(fh pre good 8 c2 (.ref b)).1:=h1
 have ex:(fh pre good 8 c1 (.ref a)).1=.list (Wm _):=ex
 rw[<-h1]at r2
 rw[ex]at r1 r2 k1 k2
 rw[PyData.canLay0]at k1
 rw[PyData.depth]at k2
 have hu:A.units+20*8<9000:=hr.1.units
 refine uM r1 r2 k1 (bP (Nat.le_of_succ_le_succ k2) (by decide)) (cW (Nat.add_le_add_left (by decide) _) (Nat.lt_trans hu (by decide))) ⟨eQ,rfl,List.length_map _,?_⟩
 show Done s s (pre++[]) ((pre.map (·.1)).zip (pre.map (·.2))++([]++[]))
 rw[oM]
 exact Done.refl h
def EH(good:List Str)(hg:∀x∈good,PyData.strOk x=true)(c1 c2:List Nat):aJ w:=(Ou good c1 c2).sm (IS good hg c1 c2)
section
variable(x:Str)(tn:Tok)(v:Int)(tv:Tok)(m:Int)(tm:Tok)(k:Int)(tk:Tok)(c:Nat)(b2 a4 e4:Str){D:Nat->Str}(q:AD x v m k c D b2 a4 e4)
theorem SI(CH:(Int.fmod v 5 !=0)=true)(zk h:Str)(wX:Str.ofString (toString k)=zk)(hk:k.natAbs.log2<1920)(hh:S "10.0.0."++zk=h)(w3:bK h)(q1:qL w b2 x.cps.toList)(q2:iA a4 v)(q3:iA e4 m)(hg:∀y∈[x,S "refused",b2,a4,e4,h,S "spoilt"],PyData.strOk y=true)(fs:List Env)(ν:Nu):
  aT 0 (.ok (.ret (.bool true))) []
   (bX w ν 520 none (some (30,fs)) 296 [.str x tn,.int v tv,.int m tm,.int k tk] [] 0x156d45dc59d61308310720930d4404c14944a401145105f4000d101041040000008000100004004000004103f01c00a00a28068b0033002cb2cb000002000040001001000001040fc05c01401450151800c7006186180001000040001001000001040fc04c00400410110800c300304004f0013cf44004145100e38a28028a28e30c00100c2080082083071c01c71cb2c02cb00004000100a0000061862cb0011850031801451450030c30051000c50041041000820801030031000c30c30010410030800c30030400410010410c00c30000400420820000c1042080082002080 [K (rd x v m k c b2 a4 e4 q),K (ak),K (ak),K (ak),K (ak),K (bS k zk wX hk),K (bz (S "10.0.0.") zk h hh w3),K (dU (Int.fmod v 5) true CH),K (ak),K (bS k zk wX hk),K (bz (S "10.0.0.") zk h hh w3),K (EE b2 x.cps.toList q1),K (ak),K (bS k zk wX hk),K (bz (S "10.0.0.") zk h hh w3),K (xQ a4 h 21 v q2),K (ak),K (bS k zk wX hk),K (bz (S "10.0.0.") zk h hh w3),K (xQ e4 h 21 m q3),K (ak),K (EH [x,S "refused",b2,a4,e4,h,S "spoilt"] hg [0,1,0,2,1,2,3,4,1,3,5,5,6,7,1,4,8,5] [9,10,0,11,1,2,12,13,1,3,14,5,15,16,1,4,17,5])]):=by kernel_rfl
theorem SJ(CH:(Int.fmod v 5 !=0)=false)(zk h:Str)(wX:Str.ofString (toString k)=zk)(hk:k.natAbs.log2<1920)(hh:S "10.0.0."++zk=h)(w3:bK h)(q1:qL w b2 x.cps.toList)(q2:mf a4)(q3:iA e4 m)(hg:∀y∈[x,S "refused",b2,a4,e4,h,S "spoilt"],PyData.strOk y=true)(fs:List Env)(ν:Nu):
  aT 0 (.ok (.ret (.bool true))) []
   (bX w ν 529 none (some (30,fs)) 296 [.str x tn,.int v tv,.int m tm,.int k tk] [] 0x156d45dc59d61308310720930d4404c14944a401145105f4000d101041040000008000100004004000004103f01c00a00a28068b0033002cb2cb00004000100004004000004103f0170050051405460031c018618600004000100004004000004103f0130010010404420030c00c10013c004f3d100105144038e28a00a28a38a28028a28c00100c2080082083071c01c71cb2c02cb00004000100a0000061862cb0011850031801451450030c30051000c50041041000820801030031000c30c30010410030800c30030400410010410c00c30000400420820000c1042080082002080 [K (rd x v m k c b2 a4 e4 q),K (ak),K (ak),K (ak),K (ak),K (bS k zk wX hk),K (bz (S "10.0.0.") zk h hh w3),K (dU (Int.fmod v 5) false CH),K (ak),K (bS k zk wX hk),K (bz (S "10.0.0.") zk h hh w3),K (EE b2 x.cps.toList q1),K (ak),K (bS k zk wX hk),K (bz (S "10.0.0.") zk h hh w3),K (Ku a4 q2),K (ak),K (bS k zk wX hk),K (bz (S "10.0.0.") zk h hh w3),K (xQ e4 h 21 m q3),K (ak),K (EH [x,S "refused",b2,a4,e4,h,S "spoilt"] hg [0,1,0,2,1,2,3,4,1,3,5,6,3,6,7,1,4,8,5] [9,10,0,11,1,2,12,13,1,3,14,6,3,15,16,1,4,17,5])]):=by kernel_rfl
end
end
section
open PySem PySem.W PySem.W.X PyProof.Rows PySem.Builtin.Str PySem.StrLaws
def cp(s:String):List Nat:=(S s).cps.toList
theorem mc(s:String):S s=ML (cp s):=rfl
noncomputable def markL:List Nat:=[124,33,120,40,32,45]
def aM(v:Int):Nat:=markL.getD (Int.fmod (Int.fdiv v 5) 6).toNat 0
def dC(v:Int):Nat:=if Int.fmod v 5 !=0 then aM v else 63
def qG(nm:List Nat):Str:=ML (cp "257 \""++quote nm++cp "\" is here")
def uT(nm:List Nat)(v:Int):Str:=gF (cp "229 Size ") ([aM v,aM v,aM v]++dg v++[dC v]) (cp " of "++nm)
def Ql(m:Int)(k:Nat)(c:Nat):List Nat:=bM c [[],[49],[50],List.replicate k 48++dg m,[]]
def w5(v m:Int)(k:Nat):Str:=gF (cp "229 ") (Ql m k (aM v)) []
section
variable(v:Int)
theorem Ck:(Int.fmod (Int.fdiv v 5) 6).toNat<6:=by
 have h1:=ip (Int.fdiv v 5) (b:=6) (by decide)
 have h2:=Int.fmod_lt_of_pos (Int.fdiv v 5) (b:=6) (by decide)
 lia
theorem tX:markL[(Int.fmod (Int.fdiv v 5) 6).toNat]? =some (aM v):=by
 unfold aM
 have h:=Ck v
 rw[List.getD_eq_getElem?_getD]
 generalize (Int.fmod (Int.fdiv v 5) 6).toNat=i at h⊢
 have:i<markL.length:=h
 rw[List.getElem?_eq_getElem this]
 rfl
theorem y5:aM v∈markL:=ir (tX v)
theorem hM:aM v≠34/\aM v≠41/\aM v<256/\aM v≠63/\(aM v<48\/57<aM v):=by
 have:∀c∈markL,c≠34/\c≠41/\c<256/\c≠63/\(c<48\/57<c):=by decide
 exact this _ (y5 v)
end
theorem yZ:marks=markL.map fun c=>(⟨#[c]⟩:Str):=by decide
structure gO(nm:List Nat):Prop where
 hd:E2 fun c l=>nm=c::l/\c≠34
 ok:∀c∈nm,c<0x110000
 len:nm.length<1000
theorem kH(c:Nat):cZ c=ML (if c=34 then [34,34]else [c]):=by
 unfold cZ
 split
 ·decide
 ·rfl
theorem mN:∀(ps:List Str) (a:Array Nat),ps.foldl (fun acc p=>acc++(S "").cps++p.cps) a=a++(ps.flatMap fun p=>p.cps.toList).toArray
 |[],a=>by simp
 |p::ps,a=>by
  rw[List.foldl_cons,mN ps]
  have e:(S "").cps= #[]:=by decide
  rw[e,List.flatMap_cons]
  apply Array.toList_inj.mp
  simp
theorem Ii(nm:List Nat):glued (S "") (nm.map cZ)=ML (quote nm):=by
 unfold glued
 have key:∀l:List Nat,((l.map cZ).flatMap fun p=>p.cps.toList)=quote l:=by
  intro l
  unfold quote
  rw[List.flatMap_map]
  congr 1
  funext c
  rw[kH,bl]
 cases nm with
 |nil=>rfl
 |cons c l=>
  rw[List.map_cons,List.drop_succ_cons,List.drop_zero,mN]
  show(⟨(cZ c).cps++_⟩:Str)=_
  apply Str.ext'
  apply Array.toList_inj.mp
  rw[key]
  rw[bl]
  have:quote (c::l)=(if c=34 then [34,34]else [c])++quote l:=by unfold quote;rw[List.flatMap_cons]
  rw[this,Array.toList_append,kH,bl]
theorem mz(nm:List Nat):(quote nm).length<=2*nm.length:=by
 induction nm with
 |nil=>simp[quote]
 |cons c l ih=>
  have:quote (c::l)=(if c=34 then [34,34]else [c])++quote l:=by unfold quote;rw[List.flatMap_cons]
  rw[this,List.length_append,List.length_cons]
  split<;>simp<;>lia
theorem Bm(l:List Nat)(a:Nat):(l.map cZ).foldl (fun n (p:Str)=>n+p.length+(S "").length) a<=a+2*l.length:=by
 induction l generalizing a with
 |nil=>simp
 |cons c l ih=>
  rw[List.map_cons,List.foldl_cons]
  refine bP (ih _) ?_
  have h1:(cZ c).length<=2:=by
   rw[kH,fO]
   split<;>simp
  have h2:(S "").length=0:=by decide
  rw[List.length_cons]
  lia
theorem oT{l:List Nat}(h:l.length<=100000):bK (ML l):=by
 show(ML l).length<=sizeLine
 rw[fO,gn];lia
theorem iT{n:Int}(h0:0<=n)(h1:n<10^10):n.natAbs.log2<1920:=by
 have:n.natAbs<2^1920:=oE (show n.natAbs<10^10 by lia) (by decide)
 by_cases hz:n.natAbs=0
 ·rw[hz];decide
 ·exact(Nat.log2_lt hz).mpr this
theorem mW(m:Int)(k:Nat)(c:Nat):Ql m k c=[c,49,c,50,c]++List.replicate k 48++dg m++[c]:=by
 unfold Ql bM bM bM bM bM
 simp
theorem la{a b:List Nat}{m n:Nat}(h1:a.length<=m)(h2:b.length<=n):(a++b).length<=m+n:=List.length_append▸Nat.add_le_add h1 h2
theorem xw{l:List Nat}{n:Nat}(h:l.length<=n)(hn:n<=100000):bK (ML l):=oT (bP h hn)
def w8(v:Int):List Nat:=cp "229 Size ("++[aM v,aM v,aM v]++dg v
def A4(v:Int)(k:Nat):List Nat:=cp "229 ("++[aM v,49,aM v,50,aM v]++List.replicate k 48
section
variable(nm:List Nat)
def RP(v m:Int)(k i:Nat):Str:=ML ([dg v,w8 v,w8 v++[dC v],w8 v++[dC v]++cp ") of ",quote nm,cp "257 \""++quote nm,dg m,A4 v k,A4 v k++dg m,A4 v k++dg m++[aM v]].getD i [])
theorem Hf(v m:Int)(k:Nat)(hn:gO nm)(gT:0<=v)(jZ:v<10^10)(n7:0<=m)(wZ:m<10^10)(hk:k<6):AD (ML nm) v m k (aM v) (RP nm v m k) (qG nm) (uT nm v) (w5 v m k):=by
 have hl:nm.length<=1000:=AB hn.len
 have hq:(quote nm).length<=2000:=bP (mz nm) (Nat.mul_le_mul_left 2 hl)
 have l0:(cp "229 Size ("++[aM v,aM v,aM v]).length<=13:=la (m:=10) (n:=3) (by decide) (bC 3)
 have l1:(w8 v).length<=113:=la (n:=100) l0 (eA gT jZ)
 have l2:(w8 v++[dC v]).length<=114:=la (n:=1) l1 (bC 1)
 have l3:(w8 v++[dC v]++cp ") of ").length<=119:=la (n:=5) l2 (by decide)
 have l5:(cp "257 \""++quote nm).length<=2005:=la (m:=5) (n:=2000) (by decide) hq
 have l6:(cp "229 ("++[aM v,49,aM v,50,aM v]).length<=10:=la (m:=5) (n:=5) (by decide) (bC 5)
 have l7:(A4 v k).length<=20:=la (n:=10) l6 (by rw[List.length_replicate];exact bP (AB hk) (by decide))
 have l8:(A4 v k++dg m).length<=120:=la (n:=100) l7 (eA n7 wZ)
 have l9:(A4 v k++dg m++[aM v]).length<=121:=la (n:=1) l8 (bC 1)
 have h4:ML (w8 v++[dC v]++cp ") of ")++ML nm=uT nm v:=by
  rw[bA]
  unfold uT gF w8
  congr 1
  rw[show cp "229 Size ("=cp "229 Size "++[40] by decide,show cp ") of "=[41]++cp " of " by decide]
  simp
 have h6:ML (cp "257 \""++quote nm)++S "\" is here"=qG nm:=by rw[mc,bA];rfl
 have g4:ML (A4 v k++dg m++[aM v])++S ")"=w5 v m k:=by
  rw[Vq,show(⟨#[41]⟩:Str)=ML [41]from rfl,bA]
  unfold w5 gF A4
  rw[mW]
  congr 1
 exact{
  h0:=ip _ (by decide)
  hc:=by rw[yZ,List.getElem?_map,tX];rfl
  WG:=by rw[fO];exact cW hl (by decide)
  ne:=by obtain⟨c,l,rfl,h⟩:=hn.hd;rw[bl];exact eU _ _
  k0:=Int.natCast_nonneg k
  k1:=Int.ofNat_lt.mpr (Nat.lt_trans hk (by decide))
  hz:=rfl
  hn:=iT gT jZ
  h1:=by
   show Po _++ML (dg v)=ML (w8 v)
   unfold Po w8
   rw[mc,show jD (aM v) 3=ML [aM v,aM v,aM v]from rfl,bA,bA]
  z1:=xw l1 (by decide)
  h2:=by
   show ML (w8 v)++_=ML (w8 v++[dC v])
   unfold dC
   cases h:(Int.fmod v 5 !=0)with
   |true=>exact bA _ [aM v]
   |false=>exact bA _ [63]
  z2:=xw l2 (by decide)
  h3:=by rw[mc];exact bA _ _
  z3:=xw l3 (by decide)
  h4:=h4
  z4:=by rw[<-h4,bA];exact xw (la l3 hl) (by decide)
  hj:=by rw[bl];exact Ii nm
  To:=by
   have h:=Bm nm 0
   unfold tooLong
   rw[bl,gn,<-Array.foldl_toList]
   rw[decide_eq_false_iff_not]
   have e:((nm.map cZ).toArray).toList=nm.map cZ:=rfl
   rw[e]
   exact Nat.not_lt.mpr (bP h (bP (Nat.add_le_add_left (Nat.mul_le_mul_left 2 hl) 0) (by decide)))
  zj:=xw hq (by decide)
  h5:=by rw[mc];exact bA _ _
  z5:=xw l5 (by decide)
  h6:=h6
  z6:=by rw[<-h6,mc,bA];exact xw (la (n:=9) l5 (by decide)) (by decide)
  WE:=rfl
  hm:=iT n7 wZ
  g1:=by
   show _=ML (A4 v k)
   unfold U6 jD A4
   rw[mc,mc "1",mc "2",show(⟨#[aM v]⟩:Str)=ML [aM v]from rfl,show cp "1"=[49] by decide,show cp "2"=[50] by decide]
   rw[bA,bA,bA,bA,bA]
   show ML _++ML (List.replicate ((k:Int)).toNat 48)=_
   rw[bA,Int.toNat_natCast]
   congr 1
  y1:=xw l7 (by decide)
  g2:=bA _ _
  y2:=xw l8 (by decide)
  g3:=bA _ _
  y3:=xw l9 (by decide)
  g4:=g4
  y4:=by rw[<-g4,Vq,show(⟨#[41]⟩:Str)=ML [41]from rfl,bA];exact xw (la l9 (bC 1)) (by decide)}
theorem pE(hn:gO nm):qL w (qG nm) nm:=by
 have hl:=hn.len
 have hq:=mz nm
 have c1:(cp "257 \"").length=5:=by decide
 have c2:(cp "\" is here").length=9:=by decide
 have e1:cp "257 \""++(quote nm++cp "\" is here")=[50,53,55,32,34]++(quote nm++cp "\" is here"):=by
  rw[show cp "257 \""=[50,53,55,32,34] by decide]
 have hb:qG nm=ML ([50,53,55,32,34]++(quote nm++cp "\" is here")):=by
  unfold qG;rw[List.append_assoc,e1]
 refine⟨?_,?_,?_,?_⟩
 ·rw[hb];refine oT ?_
  simp only[List.length_append,List.length_cons,List.length_nil];lia
 ·rw[hb,O6]
  exact o9 _ 3 (by simp)
 ·rw[hb]
  have:=pa ([50,53,55,32,34]++(quote nm++cp "\" is here")) 3 5 (by decide) (by simp)
  rw[show S " \""=ML [32,34] by decide]
  exact this
 ·obtain⟨c,l,rfl,hc⟩:=hn.hd
  refine Lp _ ?_ c l hc 32 (by decide) [105,115,32,104,101,114,101] ?_
  ·rw[hb];refine oT ?_
   simp only[List.length_append,List.length_cons,List.length_nil];lia
  ·rw[hb,bl]
   show quote (c::l)++cp "\" is here"=_
   rw[show cp "\" is here"=[34,32,105,115,32,104,101,114,101] by decide]
end
theorem An{n:Int}(h0:0<=n){c:Nat}(h:c<48\/57<c):c∉dg n:=fun m=>by
 have:=lA h0 c m
 lia
section
variable(nm:List Nat)(v:Int)
theorem ES(hn:gO nm)(gT:0<=v)(jZ:v<10^10):fu (cp "229 Size ") ([aM v,aM v,aM v]++dg v++[dC v]) (cp " of "++nm) (aM v) (dC v):=by
 obtain⟨m1,m2,m3,m4,m5⟩:=hM v
 have hl:=hn.len
 have hdv:=eA gT jZ
 refine⟨by decide,by decide,?_,rfl,?_,?_⟩
 ·intro h
  have hd:dC v≠41:=by unfold dC;split;exact m2;decide
  rcases bw h with q|q
  ·rcases bw q with q|q
   ·simp at q;exact m2 q.symm
   ·exact An gT (c:=41) (by decide) q
  ·simp at q;exact hd q.symm
 ·rw[List.length_append,List.length_singleton,Nat.add_sub_cancel,List.getElem?_append_right (Nat.le_refl _)]
  simp
 ·have c6:(cp "229 Size ").length=9:=by decide
  have c7:(cp " of ").length=4:=by decide
  simp only[List.length_append,List.length_cons,List.length_nil];lia
theorem F9(hn:gO nm)(gT:0<=v)(jZ:v<10^10)(h:(Int.fmod v 5 !=0)=true):iA (uT nm v) v:=by
 obtain⟨m1,m2,m3,m4,m5⟩:=hM v
 have R:=ES nm v hn gT jZ
 have hd:dC v=aM v:=by unfold dC;rw[if_pos h]
 have hY:[aM v,aM v,aM v]++dg v++[dC v]=bM (aM v) [[],[],[],List.replicate 0 48++dg v,[]]:=by
  rw[hd]
  unfold bM bM bM bM bM
  simp
 unfold uT
 rw[hY]
 rw[hY,hd]at R
 refine R.good m3 ?_ ?_ (mL gT jZ 0 (by decide))
 ·intro p hp
  simp only[List.mem_cons,List.not_mem_nil,or_false]at hp
  rcases hp with rfl|rfl|rfl|rfl|rfl
  ·simp
  ·simp
  ·simp
  ·exact An gT m5
  ·simp
 ·exact bP (eA gT jZ) (by decide)
theorem F8(hn:gO nm)(gT:0<=v)(jZ:v<10^10)(h:(Int.fmod v 5 !=0)=false):mf (uT nm v):=by
 obtain⟨m1,m2,m3,m4,m5⟩:=hM v
 have hd:dC v=63:=by unfold dC;rw[if_neg (by rw[h];exact Bool.false_ne_true)]
 exact(ES nm v hn gT jZ).GD (by rw[hd];exact m4)
end
theorem z8(v m:Int)(k:Nat)(hk:k<6)(n7:0<=m)(wZ:m<10^10):iA (w5 v m k) m:=by
 obtain⟨m1,m2,m3,m4,m5⟩:=hM v
 have hdm:=eA n7 wZ
 have c6:(cp "229 ").length=4:=by decide
 have nz:∀c,(c<48\/57<c)->c∉List.replicate k 48++dg m:=fun c hc q=>by
  rcases bw q with q|q
  ·have:=(List.mem_replicate.mp q).2;lia
  ·exact An n7 hc q
 have R:fu (cp "229 ") (Ql m k (aM v)) [] (aM v) (aM v):=by
  refine⟨by decide,by decide,?_,by rw[mW];rfl,?_,?_⟩
  ·rw[mW]
   intro h
   rcases bw h with q|q
   ·rw[List.append_assoc]at q
    rcases bw q with q|q
    ·simp at q;exact m2 q.symm
    ·exact nz 41 (by decide) q
   ·simp at q;exact m2 q.symm
  ·rw[mW,List.length_append,List.length_singleton,Nat.add_sub_cancel,List.getElem?_append_right (Nat.le_refl _)]
   simp
  ·rw[mW]
   simp only[List.length_append,List.length_cons,List.length_nil,List.length_replicate];lia
 refine R.good m3 ?_ (by rw[List.length_append,List.length_replicate];lia) (mL n7 wZ k (by lia))
 intro p hp
 simp only[List.mem_cons,List.not_mem_nil,or_false]at hp
 rcases hp with rfl|rfl|rfl|rfl|rfl
 ·simp
 ·simp;lia
 ·simp;lia
 ·exact nz _ m5
 ·simp
theorem mF{l:List Nat}(h:∀c∈l,c<0x110000):PyData.strOk (ML l)=true:=by
 unfold PyData.strOk
 rw[Array.all_eq_true_iff_forall_mem]
 intro c hc
 have:c∈l:=by simpa[ML]using hc
 simpa using h c this
def fK(k:Int):List Nat:=cp "10.0.0."++dg k
section
variable(nm:List Nat)(v m:Int)(k:Nat)
theorem qi(hn:gO nm)(gT:0<=v)(n7:0<=m):∀y∈[ML nm,S "refused",qG nm,uT nm v,w5 v m k,ML (fK k),S "spoilt"],PyData.strOk y=true:=by
 have hd:∀{n:Int},0<=n->∀c∈dg n,c<0x110000:=fun h c hc=>by have:=lA h c hc;lia
 have hm:aM v<0x110000:=by have:=(hM v).2.2.1;lia
 have hD:dC v<0x110000:=by unfold dC;split;exact hm;decide
 have ha:∀s:List Nat,(s.all fun c=>decide (c<0x110000))=true->∀c∈s,c<0x110000:=fun s h c hc=>by simpa using List.all_eq_true.mp h c hc
 intro y hy
 simp only[List.mem_cons,List.not_mem_nil,or_false]at hy
 rcases hy with rfl|rfl|rfl|rfl|rfl|rfl|rfl
 ·exact mF hn.ok
 ·decide+kernel
 ·refine mF fun c hc=> ?_
  rcases bw hc with q|q
  ·rcases bw q with q|q
   ·exact ha _ (by decide) c q
   ·unfold quote at q
    obtain⟨a,h1,h2⟩:=List.mem_flatMap.mp q
    split at h2
    ·simp at h2;lia
    ·simp at h2;subst h2;exact hn.ok _ h1
  ·exact ha _ (by decide) c q
 ·refine mF fun c hc=> ?_
  rcases bw hc with q|q
  ·exact ha _ (by decide) c q
  ·rcases bu q with rfl|q
   ·decide
   ·rcases bw q with q|q
    ·rcases bw q with q|q
     ·rcases bw q with q|q
      ·simp at q;lia
      ·exact hd gT c q
     ·simp at q;lia
    ·rcases bu q with rfl|q
     ·decide
     ·rcases bw q with q|q
      ·exact ha _ (by decide) c q
      ·exact hn.ok c q
 ·refine mF fun c hc=> ?_
  rcases bw hc with q|q
  ·exact ha _ (by decide) c q
  ·rcases bu q with rfl|q
   ·decide
   ·rw[mW]at q
    rcases bw q with q|q
    ·rcases bw q with q|q
     ·rcases bw q with q|q
      ·rcases bw q with q|q
       ·simp at q;lia
       ·rw[(List.mem_replicate.mp q).2];decide
      ·exact hd n7 c q
     ·simp at q;lia
    ·simp at q;lia
 ·refine mF fun c hc=> ?_
  rcases bw hc with q|q
  ·exact ha _ (by decide) c q
  ·exact hd (by lia) c q
 ·decide+kernel
def FO:aD w (Tok×Tok×Tok×Tok)where
 lv:=some 30
 bare:=true
 find c _ _:=some ((bV (aN c 0)),(bV (aN c 1)),(bV (aN c 2)),(bV (aN c 3)))
 code t:=.call (.ref 296) ⟨[.str (ML nm) t.1,.int v t.2.1,.int m t.2.2.1,.int k t.2.2.2],[]⟩
 pre _:=[]
 r _ _:=.ok (.ret (.bool true))
 post _ _:=[]
theorem Dl(hn:gO nm)(gT:0<=v)(jZ:v<10^10)(n7:0<=m)(wZ:m<10^10)(hk:k<6):(FO (w:=w) nm v m k).Ok:=by
 intro t fs A s Rz ii _ kk
 have k0:(0:Int)<=(k:Int):=by lia
 have hz:(dg k).length<=100:=eA k0 (by lia)
 have c1:(cp "10.0.0.").length=7:=by decide
 have e1:S "10.0.0."++ML (dg k)=ML (fK k):=by rw[mc,bA];rfl
 have z1:bK (ML (fK k)):=oT (by unfold fK;rw[List.length_append];lia)
 cases hv:(Int.fmod v 5 !=0)with
 |true=>
  exact aV (rm:=some (30,fs)) (fun ν=>SI (w:=w) (ML nm) t.1 v t.2.1 m t.2.2.1 k t.2.2.2 (aM v) (qG nm) (uT nm v) (w5 v m k) (Hf nm v m k hn gT jZ n7 wZ hk) hv (ML (dg k)) (ML (fK k)) rfl (iT k0 (by lia)) e1 z1 (by rw[bl];exact pE nm hn) (F9 nm v hn gT jZ hv) (z8 v m k hk n7 wZ) (qi nm v m k hn gT n7) fs ν) (ii.hh rfl) ii.hr ii.hf ii.hs fun ν s' d=>kk eQ s' rfl d
 |false=>
  exact aV (rm:=some (30,fs)) (fun ν=>SJ (w:=w) (ML nm) t.1 v t.2.1 m t.2.2.1 k t.2.2.2 (aM v) (qG nm) (uT nm v) (w5 v m k) (Hf nm v m k hn gT jZ n7 wZ hk) hv (ML (dg k)) (ML (fK k)) rfl (iT k0 (by lia)) e1 z1 (by rw[bl];exact pE nm hn) (F8 nm v hn gT jZ hv) (z8 v m k hk n7 wZ) (qi nm v m k hn gT n7) fs ν) (ii.hh rfl) ii.hr ii.hf ii.hs fun ν s' d=>kk eQ s' rfl d
def GY(hn:gO nm)(gT:0<=v)(jZ:v<10^10)(n7:0<=m)(wZ:m<10^10)(hk:k<6):aJ w:=(FO nm v m k).sm (Dl nm v m k hn gT jZ n7 wZ hk)
end
end
section
open PySem PySem.W PySem.W.X PyProof.Rows PySem.Builtin.Str
noncomputable def ai(x left:Int):Obj:={cls:=.type "range_iterator",data:=.fields #[rawInt x,rawInt left,rawInt 1]}
section
variable{it:Addr}{x left:Int}
theorem rA(hl:0<left)(h:Sat (TW w) s [(it,ai x left)]):
  codeAny (Mo w) A (.call (.builtin "range_iterator.__next__") ⟨[.ref it],[]⟩) (fun r s'=>∃u,.ok (.ret (.int x u))=r/\Done (T:=TW w) s s' [(it,ai x left)] [(it,ai (x+1) (left-1))]) s:=by
 have ho:s.heap.get? it=some (ai x left):=h.at (.head _) (aa rfl)
 refine aS F.slot_range_iterator_next ⟨_,ho,rfl⟩ F.entry_range_iterator_next (F.args_range_iterator_next_1 _) (AutoRange.range_iterator___next___range_iterator_1 it x left 1 (by lia)) ⟨ho,s.toks,rfl,?_⟩
 have d1:=bN (f:=Obj.mapFields fun y=>y.setIfInBounds 0 (rawInt (x+1))) h (aa rfl) rfl rfl (aa rfl) s.toks
 have d2:=bN (f:=Obj.mapFields fun y=>y.setIfInBounds 1 (rawInt (left-1))) d1.sat (aa rfl) rfl rfl (aa rfl) (s.toks+1)
 exact d1.trans d2
theorem vt(hh:A.handled=none)(hl:left<=0)(h:Sat (TW w) s [(it,ai x left)]):
  codeAny (Mo w) A (.call (.builtin "range_iterator.__next__") ⟨[.ref it],[]⟩) (fun r s'=>E2 fun a b=>.error (.ref b)=r/\Done (T:=TW w) s s' [(it,ai x left)] [(b,cS a),(a,ae #[] 0),(it,ai x left)]) s:=by
 have ho:s.heap.get? it=some (ai x left):=h.at (.head _) (aa rfl)
 refine aB F.slot_range_iterator_next ⟨_,ho,rfl⟩ F.entry_range_iterator_next (F.args_range_iterator_next_1 _) ?_
 show wpAny _ _ (field (.ref it) 0>>=_) _ _ s
 refine aw (gj ho rfl (x:=rawInt x) rfl ?_)
 show wpAny _ _ (field (.ref it) 1>>=_) _ _ s
 refine aw (gj ho rfl (x:=rawInt left) rfl ?_)
 show wpAny _ _ (field (.ref it) 2>>=_) _ _ s
 refine aw (gj ho rfl (x:=rawInt 1) rfl ?_)
 show wpAny _ _ (if left<=0 then _ else _) _ _ s
 rw[if_pos hl]
 refine aw (wpAny_rule ?_)
 refine aw ?_
 show wpAny _ _ (newExc (.type "StopIteration") []>>=_) _ _ _
 exact cv hh (Done.refl h)
end
def zm:Led->Option Addr
 |[(it,_)]=>some it
 |_=>none
section
variable(x left:Int)
def Hl:aD w Addr where
 find _ pre _:=zm pre
 code y:=.call (.builtin "range_iterator.__next__") ⟨[.ref y],[]⟩
 pre y:=[(y,ai x left)]
 r _ m:=.ok (.ret (.int x (m.1 0)))
 post _ _:=[ai (x+1) (left-1)]
def fR(hl:0<left):aJ w:=(Hl x left).sm<|aD.old fun _ _ _ _ _ _ _ _ h=>
 cQ (rA hl h) fun _ _ ⟨u,e,d⟩=>⟨(fun _=>u,fun _=>[]),e,rfl,d⟩
def Lg:aD w Addr where
 bare:=true
 find _ pre _:=zm pre
 code y:=.call (.builtin "range_iterator.__next__") ⟨[.ref y],[]⟩
 pre y:=[(y,ai x left)]
 r _ μ:=.error (.ref (μ.1 1))
 post _ _:=[ai x left]
 new _ μ:=[(μ.1 1,cS (μ.1 0)),(μ.1 0,ae #[] 0)]
def iI(hl:left<=0):aJ w:=(Lg x left).sm<|aD.old fun _ _ _ _ _ _ hb _ h=>
 cQ (vt (hb rfl) hl h) fun _ _ ⟨a,b,e,d⟩=>⟨(fun i=>if i=0 then a else b,fun _=>[]),e,rfl,d.perm (dy (l₁:=[_]) (l₂:=[_,_]))⟩
end
def iW(f:Nat->Int)(g:Nat->Tok):Nat->Nat->List Value
 |_,0=>[]
 |k,n+1=>.int (f k) (g k)::iW f g (Nat.succ k) n
theorem p9(f:Nat->Int)(g:Nat->Tok):∀(n k:Nat),(iW f g k n).length=n
 |0,_=>rfl
 |n+1,k=>by rw[iW,List.length_cons,p9 f g n]
theorem zq(f:Nat->Int)(g:Nat->Tok):∀(n k j:Nat),j<n->(iW f g k n)[j]? =some (.int (f (k+j)) (g (k+j)))
 |0,_,_,h=>absurd h (i8 _)
 |n+1,k,0,_=>rfl
 |n+1,k,j+1,h=>by
  rw[iW,List.getElem?_cons_succ,zq f g n (Nat.succ k) j (by lia)]
  congr 3<;>lia
theorem uw{f:Nat->Int}:∀(n k:Nat) (l:List Value),l.length=n->(∀j v,l[j]? =some v->∃t,v=Value.int (f (k+j)) t)->∃g,l=iW f g k n
 |0,k,l,h,_=>⟨fun _=>0,List.length_eq_zero_iff.mp h⟩
 |n+1,k,l,h,hv=>by
  cases l with
  |nil=>cases h
  |cons v l=>
   obtain⟨t,rfl⟩:=hv 0 v rfl
   obtain⟨g,hg⟩:=uw n (Nat.succ k) l (by simpa using h) (fun j v e=>by
    obtain⟨t,e2⟩:=hv (j+1) v (by simpa using e)
    exact⟨t,by rw[e2];congr 2;lia⟩)
   refine⟨fun i=>if i=k then t else g i,?_⟩
   rw[iW,Nat.add_zero,if_pos rfl,hg]
   congr 1
   have:∀(n j:Nat),k<j->iW f g j n=iW f (fun i=>if i=k then t else g i) j n:=by
    intro n
    induction n with
    |zero=>intros;rfl
    |succ n ih=>intro j hj;rw[iW,iW,ih (Nat.succ j) (by lia),if_neg (by lia)]
   exact this n (Nat.succ k) (by lia)
def pX:aD w Value where
 find c _ _:=some (aN c 1)
 code v:=.call (.builtin "list.__new__") ⟨[.type "list",v],[]⟩
 pre _:=[]
 r _ m:=.ok (.ret (.ref (m.1 0)))
 post _ _:=[]
 new _ m:=[(m.1 0,ah #[] 0)]
theorem rP:(pX (w:=w)).Ok:=by
 intro v fs A s Rz ii _ kk
 refine cQ (code_list_new (Q₁:=fun v s'=>v=.ref s.heap.objs.size/\s'={s with heap:=s.heap.push {cls:=.type "list",data:=.seq #[]}}) (E:=fun _ _=>False) v ⟨rfl,rfl⟩) fun r s' q=> ?_
 cases r with
 |error e=>exact q.elim
 |ok f=>
  cases f with
  |ret v=>
   obtain⟨rfl,rfl⟩:=q
   exact kk ((fun _=>s.heap.objs.size,fun _=>[])) _ rfl (bk (o:=ah #[] 0) ii.hs rfl rfl (ar _ _))
  |_=>exact q.elim
def mx:aJ w:=pX.sm rP
noncomputable def rB(a b c:Int)(t u v:Tok):Obj:={cls:=.type "range",data:=.fields #[.int a t,.int b u,.int c v]}
theorem f9{h':Heap}{a:Addr}{o o':Obj}{k:Nat}{L:Led}(h:Sat (TW w) s ((a,o)::L))(hk:∀b x,b≠a->s.heap.get? b=some x->h'.get? b=some x)(hn:¬bh o)(e:h'.get? a=some o')(hb:bq o'=false)(qg:¬bh o'):
  Done (T:=TW w) s {s with heap:=h',toks:=k} ((a,o)::L) ((a,o')::L):=by
 have lo:=h.low (a,o) (.head _)
 have nd:=h.nd
 rw[List.map_cons,List.nodup_cons]at nd
 refine⟨⟨?_,?_,?_,?_,?_⟩,⟨?_,?_,rfl,rfl,rfl⟩,?_⟩
 ·intro p hp
  rcases bu hp with rfl|hp
  ·exact⟨o',e,bU.dp hb qg⟩
  ·obtain⟨x,ex,lx⟩:=h.get p (.tail _ hp)
   have hm:p.1∈L.map (·.1):=gN hp
   exact⟨x,hk _ _ (fun z=>nd.1 (by rw[<-z];exact hm)) ex,lx⟩
 ·rw[List.map_cons,List.nodup_cons];exact nd
 ·intro p hp
  rcases bu hp with rfl|hp
  ·exact lo
  ·exact h.low p (.tail _ hp)
 ·intro b x eb
  have tb:=h.top b x eb
  exact⟨hk b x (Nat.ne_of_lt (oE tb.2 lo)) tb.1,tb.2⟩
 ·have:=Heap.lt_size e
  exact AB (cW lo this)
 ·intro b x eb nb
  exact .inl (hk b x (fun z=>nb (z▸ .head _)) eb)
 ·intro b x eb fb
  by_cases z:b=a
  ·subst z
   have:=h.at (.head _) hn
   rw[this]at eb
   cases eb
   exact absurd fb hn
  ·exact⟨x,hk b x z eb,fb⟩
 ·intro p hp
  rcases bu hp with rfl|hp
  ·exact .inl (.head _)
  ·exact .inl (.tail _ (gN hp))
def kQ(a b c:Int)(n:Nat):aD w (Addr×Addr×Obj)where
 bare:=true
 find _ pre _:=some ((az pre 0).1,(az pre 1).1,(az pre 1).2)
 code y:=.call (.builtin "list.__init__") ⟨[.ref y.1,.ref y.2.1],[]⟩
 pre y:=[(y.1,ah #[] 0),(y.2.1,rB a b c (tokOf (bH y.2.2 0)) (tokOf (bH y.2.2 1)) (tokOf (bH y.2.2 2)))]
 r _ _:=.ok (.ret .none)
 post y m:=[aj (iW (fun i=>a+i*c) (fun i=>m.1 (i+1)) 0 n) (m.1 0),rB a b c (tokOf (bH y.2.2 0)) (tokOf (bH y.2.2 1)) (tokOf (bH y.2.2 2))]
theorem jG{r:Addr}{a b c:Int}{t u v:Tok}{n:Nat}(hh:A.handled=none)(hr:IsRange s.heap r a b c t u v)(HY:Builtin.Range.small a b c=true)
  (hn:Builtin.Range.rangeSize a b c=n)(hlen:n<=2^24)(S:Addr)(hS:s.heap.get? S=some {cls:=.type "list",data:=.seq #[]})
  (hR:∀h' tk AA c',(∀b o,b≠S->s.heap.get? b=some o->h'.get? b=some o)->h'.get? S=some {cls:=.type "list",dict:=none,data:=.seq AA c',slots:= #[]}->
   ItemsOf (fun i v=>∃t,v=.int (a+i*c) t) AA n->R (.ok (.ret .none)) {s with heap:=h',toks:=tk}):codeAny (Mo w) A (.call (.builtin "list.__init__") ⟨[.ref S,.ref r],[]⟩) R s:=
 aB F.slot_list_init ⟨_,hS,rfl⟩ F.entry_list_init (F.args_list_init_2 _ _) (wpAny_list_init_range (A:=A) hh hr HY hn hlen S hS hR)
section
variable(a b c:Int)(n:Nat)
theorem nU(hs:Builtin.Range.small a b c=true)(hn:Builtin.Range.rangeSize a b c=n)(hl:n<=2^24):(kQ (w:=w) a b c n).Ok:=by
 refine aD.old fun y fs A s _ _ hh _ h=> ?_
 have ho:s.heap.get? y.1=some (ah #[] 0):=h.at (.head _) (ar _ _)
 have hr:s.heap.get? y.2.1=some (rB a b c (tokOf (bH y.2.2 0)) (tokOf (bH y.2.2 1)) (tokOf (bH y.2.2 2))):=h.at (.tail _ (.head _)) (aa rfl)
 refine jG (hh rfl) hr hs hn hl y.1 ho fun h' tk AA c' hk TH NL=> ?_
 obtain⟨g,hg⟩:=uw (f:=fun i=>a+i*c) n 0 AA.toList (by simpa using NL.1) fun j v e=>by
  have:=NL.2 j v (by simpa using e)
  rw[Nat.zero_add];exact this
 have e:(aj (iW (fun i=>a+i*c) g 0 n) c')={cls:=.type "list",dict:=none,data:=.seq AA c',slots:= #[]}:=by
  rw[<-hg];simp[aj,ah]
 exact⟨(fun k=>match k with|0=>c'|k+1=>g k,fun _=>[]),rfl,rfl,f9 h hk (ar _ _) (by rw[TH,<-e]) rfl (ar _ _)⟩
def o6(hs:Builtin.Range.small a b c=true)(hn:Builtin.Range.rangeSize a b c=n)(hl:n<=2^24):aJ w:=(kQ a b c n).sm (nU a b c n hs hn hl)
end
def aq:List Int->(Nat->Tok)->Nat->List Value
 |[],_,_=>[]
 |n::l,g,k=>.int n (g k)::aq l g (Nat.succ k)
theorem aP(g:Nat->Tok):∀(l:List Int) (k:Nat),(aq l g k).length=l.length
 |[],_=>rfl
 |n::l,k=>by rw[aq,List.length_cons,aP g l,List.length_cons]
theorem fJ(g:Nat->Tok){x:Int}:∀(l:List Int) (k j:Nat),l[j]? =some x->(aq l g k)[j]? =some (.int x (g (k+j)))
 |[],_,_,h=>by simp at h
 |y::l,k,0,h=>by
  simp at h;subst h;rfl
 |y::l,k,j+1,h=>by
  rw[aq,List.getElem?_cons_succ,fJ g l (Nat.succ k) j (by simpa using h)]
  congr 3;lia
section
variable(ss:List Int)(i:Int)(x:Int)
def Nh:aD w (Tok×Addr×Obj)where
 find c pre _:=some (cR 1 c,(az pre 0).1,(az pre 0).2)
 code y:=.call (.builtin "list.__getitem__") ⟨[.ref y.2.1,.int i y.1],[]⟩
 pre y:=[(y.2.1,y.2.2)]
 r y m:=.ok (.ret (.int x (m.1 0)))
 post y _:=[y.2.2]
 obs y:=[⟨Obj,y.2.2,aj (aq ss (bG y.2.2) 0) (bp y.2.2)⟩]
def xS(h0:0<=i)(hz:ss.length<1000000)(hv:ss[i.toNat]? =some x):aJ w:=(Nh ss i x).sm<|aD.old fun y _ A s _ _ _ ho h=>by
 obtain⟨t,l,o⟩:=y
 have e:o=aj (aq ss (bG o) 0) (bp o):=(dD.cons.mp ho).1
 have h':Sat (TW w) s [(l,aj (aq ss (bG o) 0) (bp o))]:=by rw[<-e];exact h
 refine cQ (nT (t:=t) h0 (by rw[aP];exact hz) (fJ (bG o) ss 0 i.toNat hv) h') fun _ _ ⟨e1,d⟩=>⟨(fun _=>bG o (0+i.toNat),fun _=>[]),e1,rfl,?_⟩
 rw[<-e]at d
 exact d
end
def pd(l u st:Option Int)(t1 t2 t3:Tok):Obj:={cls:=.type "slice",data:=.fields #[hA l t1,hA u t2,hA st t3]}
theorem kP{l sl:Addr}{ys:List Value}{ep:Nat}{a b c:Option Int}{t1 t2 t3:Tok}(hz:xs.length<1000000)(rV:(rawPart c==rawInt 0)=false)(hq:slicePick xs.toArray a b c=ys.toArray)(h:Sat (TW w) s [(l,aj xs ep),(sl,pd a b c t1 t2 t3)]):
  codeAny (Mo w) A (.call (.builtin "list.__getitem__") ⟨[.ref l,.ref sl],[]⟩) (fun r s'=>∃p,.ok (.ret (.ref p))=r/\Done (T:=TW w) s s' [(l,aj xs ep),(sl,pd a b c t1 t2 t3)] [(p,aj ys 0),(l,aj xs ep),(sl,pd a b c t1 t2 t3)]) s:=by
 have ho:s.heap.get? l=some (aj xs ep):=h.at (.head _) (ar _ _)
 have CJ:s.heap.get? sl=some (pd a b c t1 t2 t3):=h.at (.tail _ (.head _)) (aa rfl)
 have NR:s.TypeIs (.ref sl) "slice":=⟨_,CJ,rfl⟩
 have part:∀(p:Option Int) (t:Tok),IsPart (hA p t) p:=by
  intro p t
  cases p with
  |none=>exact .none
  |some i=>exact .int _ _
 refine aB F.slot_list_getitem ⟨_,ho,rfl⟩ F.entry_list_getitem (F.args_list_getitem_2 _ _) ?_
 show wpAny _ _ (Builtin.List.listSubscript? (.ref sl)>>=_) _ _ s
 refine aw ?_
 unfold Builtin.List.listSubscript?
 refine aw (wpAny_specialOf NR slice_no_index ?_)
 simp only[Option.isNone_none,if_true]
 refine aX ?_
 show wpAny _ _ (typeOf (.ref sl)>>=_) _ _ s
 refine aw (wpAny_typeOf NR ?_)
 rw[if_neg (by decide)]
 rw[listSliceParts_eq]
 refine aw (aw (gj CJ rfl (x:=hA c t3) rfl (aw (wpAny_listPart (part c t3) ?_))))
 rw[if_neg (by rw[rV];exact Bool.false_ne_true)]
 refine aw (gj CJ rfl (x:=hA a t1) rfl (aw (wpAny_listPart (part a t1) ?_)))
 refine aw (gj CJ rfl (x:=hA b t2) rfl (aw (wpAny_listPart (part b t2) (aX ?_))))
 refine aw (m:=Builtin.List.listItems (.ref l)) ?_
 unfold Builtin.List.listItems
 refine aw (wpAny_seqItems ho rfl (aX ?_))
 refine aw (wpAny_of_eq (sliceIndices_raw a b c xs.toArray.size (fun hc=>by subst hc;exact absurd rV (by decide))) ?_)
 refine aw (wpAny_newObj_type (aX ⟨_,rfl,?_⟩) (bP (slicePick_size_le xs.toArray a b c) (fT hz)))
 have d:=bk (o:=aj ys 0) h rfl rfl (ar _ _)
 have q2:aj ys 0={cls:=.type "list",data:=.seq (slicePick xs.toArray a b c)}:=by rw[hq];rfl
 rw[q2]at d⊢
 exact d
section
variable(xs:List Value)(a b c:Option Int)(ys:List Value)
def Yn:aD w ((Addr×Nat)×(Addr×Obj))where
 find _ pre _:=some (((az pre 0).1,(cK (az pre 0).2)),(az pre 1))
 code x:=.call (.builtin "list.__getitem__") ⟨[.ref x.1.1,.ref x.2.1],[]⟩
 pre x:=[(x.1.1,aj xs x.1.2),(x.2.1,pd a b c (tokOf (bH x.2.2 0)) (tokOf (bH x.2.2 1)) (tokOf (bH x.2.2 2)))]
 r _ m:=.ok (.ret (.ref (m.1 0)))
 post x _:=[aj xs x.1.2,pd a b c (tokOf (bH x.2.2 0)) (tokOf (bH x.2.2 1)) (tokOf (bH x.2.2 2))]
 new _ m:=[(m.1 0,aj ys 0)]
def Kt(hz:xs.length<1000000)(rV:(rawPart c==rawInt 0)=false)(hq:slicePick xs.toArray a b c=ys.toArray):aJ w:=(Yn xs a b c ys).sm<|aD.old fun _ _ _ _ _ _ _ _ h=>
 cQ (kP hz rV hq h) fun _ _ ⟨a,e,d⟩=>⟨(fun _=>a,fun _=>[]),e,rfl,d.perm (dy (l₁:=[_,_]) (l₂:=[_]))⟩
end
noncomputable def gq(ns:List Int)(k:Nat):List Int:=(sliceRange (sliceBounds (some (k:Int)) none (some 18) ns.length).1 (sliceBounds (some (k:Int)) none (some 18) ns.length).2.1 (sliceBounds (some (k:Int)) none (some 18) ns.length).2.2).filterMap (ns[·]?)
theorem mC(ns:List Int)(g:Nat->Tok):∀is:List Nat,∃g',is.filterMap ((aq ns g 0)[·]?)=aq (is.filterMap (ns[·]?)) g' 0
 |[]=>⟨g,rfl⟩
 |i::is=>by
  obtain⟨g',hg⟩:=mC ns g is
  cases hi:ns[i]? with
  |none=>
   have h2:(aq ns g 0)[i]? =none:=by
    rw[List.getElem?_eq_none_iff]at hi⊢
    rw[aP];exact hi
   exact⟨g',by rw[List.filterMap_cons_none h2,List.filterMap_cons_none hi];exact hg⟩
  |some n=>
   have h2:=fJ g ns 0 i hi
   refine⟨fun j=>match j with|0=>g (0+i)|j+1=>g' j,?_⟩
   rw[List.filterMap_cons_some h2,List.filterMap_cons_some hi,hg,aq]
   congr 1
   have:∀(l:List Int) (j:Nat),aq l g' j=aq l (fun j=>match j with|0=>g (0+i)|j+1=>g' j) (Nat.succ j):=by
    intro l
    induction l with
    |nil=>intros;rfl
    |cons n l ih=>intro j;rw[aq,aq,ih (Nat.succ j)]
   exact this _ 0
section
variable(ns:List Int)(k:Nat)(g:Nat->Tok)
def oV(q:List Int):aD w ((Addr×Nat)×(Addr×Obj))where
 find _ pre _:=some (((az pre 0).1,(cK (az pre 0).2)),(az pre 1))
 code x:=.call (.builtin "list.__getitem__") ⟨[.ref x.1.1,.ref x.2.1],[]⟩
 pre x:=[(x.1.1,aj (aq ns g 0) x.1.2),(x.2.1,pd (some (k:Int)) none (some 18) (tokOf (bH x.2.2 0)) (tokOf (bH x.2.2 1)) (tokOf (bH x.2.2 2)))]
 r _ m:=.ok (.ret (.ref (m.1 0)))
 post x _:=[aj (aq ns g 0) x.1.2,pd (some (k:Int)) none (some 18) (tokOf (bH x.2.2 0)) (tokOf (bH x.2.2 1)) (tokOf (bH x.2.2 2))]
 new _ m:=[(m.1 0,aj (aq q (fun i=>m.1 (i+1)) 0) 0)]
theorem u5(hz:ns.length<1000000):(oV (w:=w) ns k g (gq ns k)).Ok:=aD.old fun x _ _ _ _ _ _ _ h=>by
 obtain⟨g',hg⟩:=mC ns g (sliceRange (sliceBounds (some (k:Int)) none (some 18) ns.length).1 (sliceBounds (some (k:Int)) none (some 18) ns.length).2.1 (sliceBounds (some (k:Int)) none (some 18) ns.length).2.2)
 have hq:slicePick (aq ns g 0).toArray (some (k:Int)) none (some 18)=(aq (gq ns k) g' 0).toArray:=by
  unfold slicePick gq
  rw[List.size_toArray,aP,<-hg]
  congr 2
  funext i
  simp
 refine cQ (kP (by rw[aP];exact hz) (by decide) hq h) fun _ _ ⟨a,e,d⟩=>⟨(fun i=>match i with|0=>a|i+1=>g' i,fun _=>[]),e,rfl,d.perm (dy (l₁:=[_,_]) (l₂:=[_]))⟩
def vf(hz:ns.length<1000000)(q:List Int)(hq:gq ns k=q):aJ w:=(oV ns k g q).sm (by subst hq;exact u5 ns k g hz)
end
def kq(a b:Int)(hb:¬(b==0)=true):aJ w:=
 ew (self:=fun f=>.int a (f 0)) (rest:=fun f=>[.int b (f 1)]) (res:=fun t=>.int (a.fmod b) t) F.slot_int_mod F.entry_int_mod (fun _=>F.args_int_mod_2 _ _) (fun _ s=>typeIs_int s _ _)
  fun f=>⟨_,AutoIntG6.int___mod___int_int_1 a (f 0) b (f 1) hb,fun Q s k=>k _ _⟩
def xT(a b:Int)(hm:IntMulOk a b):aJ w:=
 ew (self:=fun f=>.int a (f 0)) (rest:=fun f=>[.int b (f 1)]) (res:=fun t=>.int (a*b) t) F.slot_int_mul F.entry_int_mul (fun _=>F.args_int_mul_2 _ _) (fun _ s=>typeIs_int s _ _)
  fun f=>⟨_,AutoIntG1.int___mul___int_int_0 a (f 0) b (f 1) hm,fun Q s k=>k _ _⟩
noncomputable def iV:List Int:=[8,8,8,8,8,8,8,8,0,1,2,3,4,5,6,7,8,9,10,11,12,13,14,15]
theorem mulR(a b:Int)(h:PySem.Builtin.Int.intBits b<=64:=by decide):IntMulOk a b:=.of_right h
theorem Wl(a b:Value):[a,b].length<1000000:=by show 2<1000000;decide
theorem EV(a b:Value)(n:Int)(h0:0<=n)(h1:n<3):slicePick [a,b].toArray none (some n) none=(List.take n.toNat [a,b]).toArray:=by
 obtain⟨m,rfl⟩:=Int.eq_ofNat_of_zero_le h0
 exact slicePick_upto _ m (by simp;lia)
def xu:Str:=S " (|||7|)"
def tf:Str:=S "\"'a \t\"é-"
theorem Sn(v:Int)(tv:Tok)(k:Int)(tk:Tok)(c:Nat)(ho:du (Int.fmod (Int.fdiv v 15) 8))(hc:oJ tf (Int.fmod (Int.fdiv v 15) 8) c)(n0:0<=Int.fmod (Int.fdiv v 120) 3)(n1:Int.fmod (Int.fdiv v 120) 3<100)(z a1 a2 a3:Str)(hz:Str.ofString (toString k)=z)(hk:k.natAbs.log2<1920)(h1:z++jD c (Int.fmod (Int.fdiv v 120) 3)=a1)(z1:bK a1)(h2:a1++xu=a2)(z2:bK a2)(h3:a2++jD c (Int.fmod (Int.fdiv v 120) 3)=a3)(z3:bK a3)(fs:List Env)(ν:Nu):
  aT 0 (.ok (.ret (.str a3 ((pr (ν 19)).fst 0)))) []
   (bX w ν 128 none (some (20,fs)) 265 [.int v tv,.int k tk] [] 0x1040040041000040040001040001000001001000040041001040 [K (c9 tf (Int.fmod (Int.fdiv v 15) 8) c ho hc),K (q9 c (Int.fmod (Int.fdiv v 120) 3) n1 n0),K (bS k z hz hk),K (bz z (jD c (Int.fmod (Int.fdiv v 120) 3)) a1 h1 z1),K (bz a1 xu a2 h2 z2),K (bz a2 (jD c (Int.fmod (Int.fdiv v 120) 3)) a3 h3 z3)]):=by kernel_rfl
theorem Sy(v:Int)(tv:Tok)(i0:0<=Int.fmod (Int.fdiv v 4096) 24)(kd:Int)(hk:iV[(Int.fmod (Int.fdiv v 4096) 24).toNat]? =some kd)(fs:List Env)(ν:Nu):
  aT 0 (.ok (.ret (.int (v.fmod 4096+kd*4096+(v.fdiv 98304).fmod 10*458752000) ((ν 35).fst 0)))) []
   (bX w ν 176 none (some (20,fs)) 272 [.int v tv] [] 0x40005000040002041040005140145140043043003043040003041001001040041000000000001040 [K (mx),K (o6 0 16 1 16 (by decide) (by decide) (by decide)),K (xS iV (Int.fmod (Int.fdiv v 4096) 24) kd i0 (by decide) hk),K (xT kd 4096 (mulR _ _)),K (xT (Int.fmod (Int.fdiv v 98304) 10) 458752000 (mulR _ _))]):=by kernel_rfl
section
variable(v:Int)(tv:Tok)(k:Int)(tk:Tok)(hb:(Int.fmod (Int.fdiv v 108) 4 !=0)=true)
theorem Sr(hk:decide (k>0)=true)(hz:¬(k==0)=true)(n0:0<=Int.fmod (Int.fdiv v 36) 3)(n1:Int.fmod (Int.fdiv v 36) 3<3)(fs:List Env)(ν:Nu):
  aT 1 (.ok (.ret (.ref ((pr (ν 25)).fst 0)))) [((pr (ν 25)).fst 0,ah ((List.take ((v.fdiv 36).fmod 3).toNat [Value.int ((v.fmod 6).fmod k) ((pr (ν 13)).fst 0),Value.int (((v.fdiv 6).fmod 6).fmod k) ((pr (ν 18)).fst 0)]).toArray) 0)]
   (bX w ν 132 none (some (20,fs)) 258 [.int v tv,.int k tk] [] 0x1003082080040080041001001001040041001041041001001000040041001040 [K (dU (Int.fmod (Int.fdiv v 108) 4) true hb),K (o7 k 0 true hk),K (kq v 6 (by decide)),K (kq (Int.fmod v 6) k hz),K (kq (Int.fdiv v 6) 6 (by decide)),K (kq (Int.fmod (Int.fdiv v 6) 6) k hz),K (kq (Int.fdiv v 36) 3 (by decide)),(fun ν=>Kt [.int (Int.fmod (Int.fmod v 6) k) ((pr (ν 13)).1 0),.int (Int.fmod (Int.fmod (Int.fdiv v 6) 6) k) ((pr (ν 18)).1 0)] none (some (Int.fmod (Int.fdiv v 36) 3)) none (List.take (Int.fmod (Int.fdiv v 36) 3).toNat [.int (Int.fmod (Int.fmod v 6) k) ((pr (ν 13)).1 0),.int (Int.fmod (Int.fmod (Int.fdiv v 6) 6) k) ((pr (ν 18)).1 0)]) (Wl _ _) (by decide) (EV _ _ _ n0 n1))]):=by kernel_rfl
theorem Sq(hk:decide (k>0)=false)(fs:List Env)(ν:Nu):
  aT 1 (.ok (.ret (.ref ((ν 11).fst 0)))) [((ν 11).fst 0,ah #[] 0)]
   (bX w ν 88 none (some (20,fs)) 258 [.int v tv,.int k tk] [] 0x1041041001001000040041001040 [K (dU (Int.fmod (Int.fdiv v 108) 4) true hb),K (o7 k 0 false hk)]):=by kernel_rfl
end
theorem Sp(v:Int)(tv:Tok)(k:Int)(tk:Tok)(hb:(Int.fmod (Int.fdiv v 108) 4 !=0)=false)(n0:0<=Int.fmod (Int.fdiv v 36) 3)(n1:Int.fmod (Int.fdiv v 36) 3<3)(fs:List Env)(ν:Nu):
  aT 1 (.ok (.ret (.ref ((pr (ν 25)).fst 0)))) [((pr (ν 25)).fst 0,ah ((List.take ((v.fdiv 36).fmod 3).toNat [Value.int ((v.fmod 6).fmod 6) ((ν 13).fst 0),Value.int (((v.fdiv 6).fmod 6).fmod 6) ((ν 18).fst 0)]).toArray) 0)]
   (bX w ν 148 none (some (20,fs)) 258 [.int v tv,.int k tk] [] 0x400c2082000080040001001001001041040001000040041001040 [K (dU (Int.fmod (Int.fdiv v 108) 4) false hb),(fun ν=>Kt [.int (Int.fmod (Int.fmod v 6) 6) ((ν 13).1 0),.int (Int.fmod (Int.fmod (Int.fdiv v 6) 6) 6) ((ν 18).1 0)] none (some (Int.fmod (Int.fdiv v 36) 3)) none (List.take (Int.fmod (Int.fdiv v 36) 3).toNat [.int (Int.fmod (Int.fmod v 6) 6) ((ν 13).1 0),.int (Int.fmod (Int.fmod (Int.fdiv v 6) 6) 6) ((ν 18).1 0)]) (Wl _ _) (by decide) (EV _ _ _ n0 n1))]):=by kernel_rfl
section
variable(x:Str)(t:Tok)(pe:Addr)
theorem QO(h:Str)(th:Tok)(k n:Int)(tk:Tok)(pn:Nat)(q:iA x n)(fs:List Env)(ν:Nu):
  aT 26 (.ok (.ret (.int n ((pr (ν 3)).fst 1)))) [(pe,ae #[.str h th,.int k tk] pn)]
   (bX w ν 75 none (some (16,fs)) 303 [.str x t,.ref pe] [(pe,ae #[.str h th,.int k tk] pn)] 0x41001041040080041002041041001040 [K (xY x h k n q)]):=by kernel_rfl
theorem QP(q:mf x)(fs:List Env)(ν:Nu):
  aT 0 (.ok (.ret (.int 0 ((ν 5).fst 0)))) []
   (bX w ν 82 none (some (16,fs)) 303 [.str x t,.ref pe] [] 0x411000040000000010c0040041002041041001040 [K (xX x q)]):=by kernel_rfl
end
noncomputable def ph:List Nat:=[34,39,97,32,9,34,233,45]
section
variable(v:Int)
def kB:Nat:=ph.getD (Int.fmod (Int.fdiv v 15) 8).toNat 0
def AJ:List Nat:=List.replicate (Int.fmod (Int.fdiv v 120) 3).toNat (kB v)
def Fc(k:Nat):List Nat:=dg k++AJ v++cp " (|||7|)"++AJ v
theorem tw:(AJ v).length<3:=by
 unfold AJ
 rw[List.length_replicate]
 have h1:=ip (Int.fdiv v 120) (b:=3) (by decide)
 have h2:=Int.fmod_lt_of_pos (Int.fdiv v 120) (b:=3) (by decide)
 lia
theorem te:ph[(Int.fmod (Int.fdiv v 15) 8).toNat]? =some (kB v):=by
 have h1:=ip (Int.fdiv v 15) (b:=8) (by decide)
 have h2:=Int.fmod_lt_of_pos (Int.fdiv v 15) (b:=8) (by decide)
 unfold kB
 rw[List.getD_eq_getElem?_getD]
 generalize (Int.fmod (Int.fdiv v 15) 8)=i at h1 h2⊢
 have:i.toNat<ph.length:=by show i.toNat<8;lia
 rw[List.getElem?_eq_getElem this]
 rfl
theorem ya:kB v<0x110000:=by
 have:∀c∈ph,c<0x110000:=by decide
 exact this _ (ir (te v))
theorem M4(k:Nat)(hk:k<6):gO (Fc v k):=by
 have k0:(0:Int)<=(k:Int):=by lia
 have hd:=eA k0 (by lia)
 have hs:=tw v
 have c1:(cp " (|||7|)").length=8:=by decide
 refine⟨?_,?_,?_⟩
 ·cases h:dg k with
  |nil=>exact absurd h (F1 k0)
  |cons c l=>
   refine⟨c,l++AJ v++cp " (|||7|)"++AJ v,?_,?_⟩
   ·unfold Fc;rw[h];rfl
   ·have:=lA k0 c (by rw[h];exact .head _)
    lia
 ·intro c hc
  have hq:∀c∈AJ v,c<0x110000:=fun c hc=>by rw[(List.mem_replicate.mp hc).2];exact ya v
  rcases bw hc with q|q
  ·rcases bw q with q|q
   ·rcases bw q with q|q
    ·have:=lA k0 c q;lia
    ·exact hq c q
   ·have:∀c∈cp " (|||7|)",c<0x110000:=by decide
    exact this c q
  ·exact hq c q
 ·unfold Fc
  simp only[List.length_append];lia
def nameP(k:Nat):aD w (Tok×Tok)where
 lv:=some 20
 bare:=true
 find c _ _:=some ((bV (aN c 0)),(bV (aN c 1)))
 code t:=.call (.ref 265) ⟨[.int v t.1,.int k t.2],[]⟩
 pre _:=[]
 r _ m:=.ok (.ret (.str (ML (Fc v k)) (m.1 0)))
 post _ _:=[]
theorem Cg(k:Nat)(hk:k<6):(nameP (w:=w) v k).Ok:=by
 intro t fs A s Rz ii _ kk
 have k0:(0:Int)<=(k:Int):=by lia
 have hd:=eA k0 (by lia)
 have vR:=tw v
 have c1:(cp " (|||7|)").length=8:=by decide
 have h1:=ip (Int.fdiv v 15) (b:=8) (by decide)
 have h2:=Int.fmod_lt_of_pos (Int.fdiv v 15) (b:=8) (by decide)
 have h3:=ip (Int.fdiv v 120) (b:=3) (by decide)
 have h4:=Int.fmod_lt_of_pos (Int.fdiv v 120) (b:=3) (by decide)
 have hS:tf.cps.toList=ph:=by decide
 obtain⟨j,hj⟩:=Int.eq_ofNat_of_zero_le h1
 have hc:oJ tf (Int.fmod (Int.fdiv v 15) 8) (kB v):=by
  have:=te v
  rw[hj]at this⊢
  refine lD ?_
  rw[hS];exact this
 have hT:xu=ML (cp " (|||7|)"):=rfl
 have hR:jD (kB v) (Int.fmod (Int.fdiv v 120) 3)=ML (AJ v):=rfl
 exact aV (rm:=some (20,fs)) (fun ν=>Sn v t.1 k t.2 (kB v) (by rw[hj];exact kX (by lia)) hc h3 (by lia) (ML (dg k)) (ML (dg k++AJ v)) (ML (dg k++AJ v++cp " (|||7|)")) (ML (Fc v k)) rfl (iT k0 (by lia)) (by rw[hR,bA]) (oT (by rw[List.length_append];lia)) (by rw[hT,bA]) (oT (by simp only[List.length_append];lia)) (by rw[hR,bA];rfl) (oT (by unfold Fc;simp only[List.length_append];lia)) fs ν) (ii.hh rfl) ii.hr ii.hf ii.hs fun ν s' d=>kk ((fun _=>(pr (ν 19)).1 0,fun _=>[])) s' rfl d
def GS(k:Nat)(hk:k<6):aJ w:=(nameP v k).sm (Cg v k hk)
def mJ:Int:=iV.getD (Int.fmod (Int.fdiv v 4096) 24).toNat 0
def Na:Int:=v.fmod 4096+mJ v*4096+(v.fdiv 98304).fmod 10*458752000
theorem uq:iV[(Int.fmod (Int.fdiv v 4096) 24).toNat]? =some (mJ v):=by
 have h1:=ip (Int.fdiv v 4096) (b:=24) (by decide)
 have h2:=Int.fmod_lt_of_pos (Int.fdiv v 4096) (b:=24) (by decide)
 unfold mJ
 rw[List.getD_eq_getElem?_getD]
 generalize (Int.fmod (Int.fdiv v 4096) 24)=i at h1 h2⊢
 have:i.toNat<iV.length:=by show i.toNat<24;lia
 rw[List.getElem?_eq_getElem this]
 rfl
theorem Cv:0<=mJ v/\mJ v<16:=by
 have:∀c∈iV,0<=c/\c<16:=by decide
 exact this _ (ir (uq v))
theorem M9:0<=Na v/\Na v<10^10:=by
 have h1:=ip v (b:=4096) (by decide)
 have h2:=Int.fmod_lt_of_pos v (b:=4096) (by decide)
 have h3:=ip (v.fdiv 98304) (b:=10) (by decide)
 have h4:=Int.fmod_lt_of_pos (v.fdiv 98304) (b:=10) (by decide)
 have h5:=Cv v
 unfold Na
 lia
def Ff:aD w Tok where
 lv:=some 20
 bare:=true
 find c _ _:=some (cR 0 c)
 code t:=.call (.ref 272) ⟨[.int v t],[]⟩
 pre _:=[]
 r _ m:=.ok (.ret (.int (Na v) (m.1 0)))
 post _ _:=[]
theorem Cj:(Ff (w:=w) v).Ok:=by
 intro t fs A s Rz ii _ kk
 exact aV (rm:=some (20,fs)) (fun ν=>Sy v t (ip _ (by decide)) (mJ v) (uq v) fs ν) (ii.hh rfl) ii.hr ii.hf ii.hs fun ν s' d=>kk ((fun _=>(ν 35).1 0,fun _=>[])) s' rfl d
def GU:aJ w:=(Ff v).sm (Cj v)
noncomputable def AM(k:Nat):List Int:=if Int.fmod (Int.fdiv v 108) 4 !=0 then(if(k:Int)>0 then List.take (Int.fmod (Int.fdiv v 36) 3).toNat [(v.fmod 6).fmod k,((v.fdiv 6).fmod 6).fmod k]else [])else List.take (Int.fmod (Int.fdiv v 36) 3).toNat [(v.fmod 6).fmod 6,((v.fdiv 6).fmod 6).fmod 6]
def Fd(k:Nat)(q:List Int):aD w (Tok×Tok)where
 lv:=some 20
 bare:=true
 find c _ _:=some ((bV (aN c 0)),(bV (aN c 1)))
 code t:=.call (.ref 258) ⟨[.int v t.1,.int k t.2],[]⟩
 pre _:=[]
 r _ m:=.ok (.ret (.ref (m.1 0)))
 post _ _:=[]
 new _ m:=[(m.1 0,aj (aq q (fun i=>m.1 (i+1)) 0) 0)]
end
noncomputable def Ss(r:Addr)(t u:Tok):Mu:=(fun i=>match i with
 |0=>r
 |1=>t
 |_=>u,fun _=>[])
theorem u3(a b:Int)(r:Addr)(t u:Tok)(n:Nat):List.take n [Value.int a t,.int b u]=aq (List.take n [a,b]) (fun i=>(Ss r t u).1 (i+1)) 0:=by
 cases n with
 |zero=>rfl
 |succ n=>cases n with
  |zero=>rfl
  |succ n=>rw[List.take_of_length_le (Nat.le_add_left 2 n),List.take_of_length_le (Nat.le_add_left 2 n)];rfl
theorem Cf(v:Int)(k:Nat)(q:List Int)(hq:AM v k=q):(Fd (w:=w) v k q).Ok:=by
 intro t fs A s Rz ii _ kk
 have n0:=ip (Int.fdiv v 36) (b:=3) (by decide)
 have n1:=Int.fmod_lt_of_pos (Int.fdiv v 36) (b:=3) (by decide)
 have fin (n:Nat) (a b:Int) (e:AM v k=List.take n [a,b]) (r:Addr) (x y:Tok) (s':Shared) (d:Done (T:=TW w) s s' [] [(r,aj (List.take n [.int a x,.int b y]) 0)]):Rz (.ok (.ret (.ref r))) s':=
  kk (Ss r x y) s' rfl (show Done (T:=TW w) s s' [] [(r,aj (aq q (fun i=>(Ss r x y).1 (i+1)) 0) 0)]from hq.symm.trans e▸u3 a b r x y n▸d)
 cases hb:(Int.fmod (Int.fdiv v 108) 4 !=0)with
 |true=>
  by_cases hk:(k:Int)>0
  ·exact aV (rm:=some (20,fs)) (fun ν=>Sr v t.1 k t.2 hb (iu hk) (by simp;lia) n0 n1 fs ν) (ii.hh rfl) ii.hr ii.hf ii.hs fun ν s' d=>fin _ _ _ ((if_pos hb).trans (if_pos hk)) _ _ _ s' d
  ·exact aV (rm:=some (20,fs)) (fun ν=>Sq v t.1 k t.2 hb (iw hk) fs ν) (ii.hh rfl) ii.hr ii.hf ii.hs fun ν s' d=>fin 0 0 0 ((if_pos hb).trans (if_neg hk)) _ 0 0 s' d
 |false=>exact aV (rm:=some (20,fs)) (fun ν=>Sp v t.1 k t.2 hb n0 n1 fs ν) (ii.hh rfl) ii.hr ii.hf ii.hs fun ν s' d=>fin _ _ _ (if_neg (Bool.eq_false_iff.mp hb)) _ _ _ s' d
section
variable(x:Str)(h:Str)
def Ba(k n:Int):aD w (Tok×Addr×Obj)where
 lv:=some 16
 bare:=true
 find c pre _:=some (cR 0 c,(az pre 0))
 code t:=.call (.ref 303) ⟨[.str x t.1,.ref t.2.1],[]⟩
 pre t:=[(t.2.1,ae #[.str h (bG t.2.2 0),.int k (bG t.2.2 1)] (bp t.2.2))]
 r _ m:=.ok (.ret (.int n (m.1 0)))
 post t _:=[ae #[.str h (bG t.2.2 0),.int k (bG t.2.2 1)] (bp t.2.2)]
theorem A9(k n:Int)(q:iA x n):(Ba (w:=w) x h k n).Ok:=by
 intro t fs A s Rz ii _ kk
 exact aV (rm:=some (16,fs)) (fun ν=>QO x t.1 t.2.1 h _ k n _ _ q fs ν) (ii.hh rfl) ii.hr ii.hf ii.hs fun ν s' d=>kk ((fun _=>(pr (ν 3)).1 1,fun _=>[])) s' rfl d
theorem Bb(k:Int)(q:mf x):(Ba (w:=w) x h k 0).Ok:=by
 intro t fs A s Rz ii _ kk
 exact aV (rm:=some (16,fs)) (fun ν=>QP x t.1 t.2.1 q fs ν) (ii.hh rfl) ii.hr ii.hf (ii.hs.sub (List.nil_sublist _)) fun ν s' d=>kk ((fun _=>(ν 5).1 0,fun _=>[])) s' rfl (Done.frame (L:=[]) (L':=[]) ii.hs d)
end
noncomputable def u4(v:Int):Int:=if Int.fmod v 5 !=0 then v else 0
section
variable(nm:List Nat)(v:Int)(h:Str)(k:Int)
theorem Gv(hn:gO nm)(gT:0<=v)(jZ:v<10^10):(Ba (w:=w) (uT nm v) h k (u4 v)).Ok:=by
 unfold u4
 cases hv:(Int.fmod v 5 !=0)with
 |true=>rw[if_pos rfl];exact A9 _ h k v (F9 nm v hn gT jZ hv)
 |false=>rw[if_neg Bool.false_ne_true];exact Bb _ h k (F8 nm v hn gT jZ hv)
def Ks(hn:gO nm)(gT:0<=v)(jZ:v<10^10):aJ w:=(Ba (uT nm v) h k (u4 v)).sm (Gv nm v h k hn gT jZ)
end
end
section
open PySem PySem.W PySem.W.X PyProof.Rows
open AutoSeq1 (wpAny_loadPart')
noncomputable def ll(it:Addr)(k:Nat)(a v:Value):Obj:={cls:=.type "enumerate",data:=.fields #[a,.bool false,.ref it,rawInt k,.none,v]}
theorem kN(l:Addr)(items:Array Value)(n:Nat):
  Meets (Builtin.«enumerate.__new__» ⟨[.type "enumerate",.ref l],[]⟩) (fun _ R s=>s.heap.get? l=some {cls:=.type "tuple",dict:=none,data:=.seq items n,slots:= #[]}/\
   R (.ok (.ret (.ref (s.heap.push {cls:=.type "tuple_iterator",data:=.fields #[.ref l,.int 0 0]}).objs.size)))
    {s with heap:=(s.heap.push {cls:=.type "tuple_iterator",data:=.fields #[.ref l,.int 0 0]}).push {cls:=.type "enumerate",data:=.fields #[.none,.bool false,.ref s.heap.objs.size,rawInt 0,.none,.none]}}):=
 .of_wp fun prog w A R s h=>by
  obtain⟨hp,g,d,tk,os⟩:=s;obtain⟨hl,h⟩:=h
  have CI:=sub_enumerate
  have hL:Heap.IsTuple (Shared.heap ⟨hp,g,d,tk,os⟩) l items:=⟨_,hl,rfl,n,rfl⟩
  wp_walk using wpAny_loadPart' hl
  refine wpAny_stack_any fun st=>aX ?_
  split
  ·rename_i c _ _ _ _ _
   cases (c==Value.type "enumerate")
   ·wp_walk using wpAny_loadPart' hl,wpAny_pyIter_tuple hL
    exact⟨_,rfl,h⟩
   ·wp_walk using wpAny_loadPart' hl,wpAny_pyIter_tuple hL
    exact⟨_,rfl,h⟩
  ·wp_walk using wpAny_loadPart' hl,wpAny_pyIter_tuple hL
   exact⟨_,rfl,h⟩
theorem wJ{l:Addr}{items:Array Value}{n:Nat}(hl:s.heap.get? l=some (ae items n))
  (h:R (.ok (.ret (.ref (s.heap.objs.size+1)))) {s with heap:=(s.heap.push {cls:=.type "tuple_iterator",data:=.fields #[.ref l,.int 0 0]}).push {cls:=.type "enumerate",data:=.fields #[.none,.bool false,.ref s.heap.objs.size,rawInt 0,.none,.none]}}):
  codeAny (Mo w) A (.call (.builtin "enumerate.__new__") ⟨[.type "enumerate",.ref l],[]⟩) R s:=by
 refine codeAny_call_builtin (by decide+kernel) F.entry_enumerate_new ?_
 rw[F.newCall_enumerate_1]
 have hz:(s.heap.push {cls:=.type "tuple_iterator",data:=.fields #[.ref l,.int 0 0]}).objs.size=s.heap.objs.size+1:=Heap.size_push ..
 refine aX (kN l items n pw w A R s ⟨hl,?_⟩)
 rw[hz]
 exact h
def XC(w:World)(a:Addr):Obj:=((TW w).at_ a).getD (ae #[] 0)
def FU:aD w Addr where
 find c _ _:=some (gM (aN c 1))
 code l:=.call (.builtin "enumerate.__new__") ⟨[.type "enumerate",.ref l],[]⟩
 pre _:=[]
 obs l:=[⟨Option Obj,(TW w).at_ l,some (ae (itemsOf (XC w l)).toArray (bp (XC w l)))⟩]
 r _ m:=.ok (.ret (.ref (m.1 1)))
 post _ _:=[]
 new l m:=[(m.1 1,ll (m.1 0) 0 .none .none),(m.1 0,cN (.ref l) 0)]
theorem Dw:(FU (w:=w)).Ok:=by
 refine aD.old fun l fs A s _ _ _ ho h=> ?_
 have ho:=(dD.cons.mp ho).1
 have hl:=(h.top l _ ho).1
 refine wJ hl ⟨(fun i=>match i with|0=>s.heap.objs.size|_=>s.heap.objs.size+1,fun _=>[]),rfl,rfl,?_⟩
 have d1:=bk (G:=TW w) (o:=cN (.ref l) 0) h rfl rfl (aa rfl)
 have d2:=bk (o:=ll s.heap.objs.size 0 .none .none) d1.sat rfl rfl (aa rfl)
 have hz:(s.heap.push (cN (.ref l) 0)).objs.size=s.heap.objs.size+1:=Heap.size_push ..
 have d:=d1.trans d2
 simp only[hz]at d
 exact d
def G0:aJ w:=FU.sm Dw
end
section
open PySem PySem.W PySem.W.X PyProof.Rows PySem.Builtin.Str
abbrev N8(w:World)(fr en:Addr):Code:=cw (aK w 246 [1]) (.ref en) (dj w 246 fr)
section
variable(w:World)(m:Int)(tm:Tok)(pe:Addr)(t0 t1:Tok)
def Xl(_:Nat->Tok)(_:Nat->Value):Obj:=aW #[aH w "mode" t0 (.int m tm),aH w "perm" t1 (.ref pe)] 2
def fp(g:Nat->Tok)(v:Nat->Value):Obj:=aW #[aH w "mode" t0 (.int m tm),aH w "perm" t1 (.ref pe),aH w "index" (g 0) (v 0),aH w "table" (g 1) (v 1),aH w "bit" (g 2) (v 2),aH w "char" (g 3) (v 3)] 6
end
noncomputable def v4(a b c d:α)(k:Nat):α:=match k with|0=>a|1=>b|2=>c|_=>d
def N7(fr pe en it:Addr)(o:Obj)(xs:List Value)(ea i:Nat)(old:Value):Led:=[(fr,o),(pe,aj xs ea),(en,ll it i .none old),(it,cN (.ref 239) i)]
def Vv(tab:Addr)(v:Nat->Value):Prop:=E6 fun a x b y d z=>v=v4 (.int a x) (.ref tab) (.int b y) (.str d z)
def gm(w:World)(F:World->Int->Tok->Addr->Tok->Tok->(Nat->Tok)->(Nat->Value)->Obj)(i:Nat)(old:Value)(tab:Addr)(c:String)(cond:Int->Prop):Prop:=
 ∀(m:Int) (tm:Tok) (fr pe en it:Addr) (t0 t1:Tok) (xs:List Value) (_:xs.length<1000000) (ea:Nat) (g:Nat->Tok) (v:Nat->Value) (fs:List Env),cond m->
  E7 fun(n hs k:Nat) (sm:List (Nu->aJ w)) (G:Nu->Nat->Tok) (V:Nu->Nat->Value) (t:Nu->Tok)=>∀ν,aT k (.ok (.again (N8 w fr en))) (N7 fr pe en it (fp w m tm pe t0 t1 (G ν) (V ν)) (xs++[.str (S c) (t ν)]) (ea+1) (i+1) (.ref tab)) (bW w ν n none (some (30,fs)) (N8 w fr en) (N7 fr pe en it (F w m tm pe t0 t1 g v) xs ea i old) hs sm)/\Vv tab (V ν)
theorem U3:gm w Xl 0 .none 214 "-" (fun m=>decide (Builtin.bitAnd m 61440=40960)=false/\decide (Builtin.bitAnd m 61440=49152)=false/\decide (Builtin.bitAnd m 61440=32768)=true):=
 fun m tm fr pe en it t0 t1 xs hx ea g v fs h=>⟨505,0x4800924d34d348004148004004103f01100004145144045100104100104100104100104100104100104100104000100000924900924900900004138004004103f00d00004134d34034d00104100104100104100104100104100104100104000100000514500514500500004128004004103f0090000412492402490010410010410010410010410010410010410010400010000010410010410010000400010001421450051400410420410400410420410400410420410400410400410411040c41041041041030c30c30c41001041001030c00c2,1471742126762,[K (aF 0 0 true rfl),K (aF (Builtin.bitAnd m 61440) 40960 false h.1),K (aF 0 0 true rfl),K (aF (Builtin.bitAnd m 61440) 49152 false h.2.1),K (aF 0 0 true rfl),K (aF (Builtin.bitAnd m 61440) 32768 true h.2.2),K (av xs hx)],fun ν=>v4 ((ν 5).fst 0) ((ν 6).fst 0) ((ν 11).fst 0) ((ν 12).fst 0),fun ν=>v4 (.int 0 ((ν 0).fst 0)) (.ref 214) (.int 32768 469) (.str (S "-") 510),fun _=>510,fun ν=>⟨by kernel_rfl,_,_,_,_,_,_,rfl⟩⟩
theorem U2:gm w fp 1 (.ref 214) 216 "r" (fun m=>decide (Builtin.bitAnd m 256=256)=true):=
 fun m tm fr pe en it t0 t1 xs hx ea g v fs h=>⟨264,CM,5614250,[K (aF 1 0 false rfl),K (aF (Builtin.bitAnd m 256) 256 true h),K (av xs hx)],fun _=>g,fun ν=>v4 (.int 1 ((ν 0).fst 0)) (.ref 216) (.int 256 490) (.str (S "r") 515),fun _=>515,fun ν=>⟨by kernel_rfl,_,_,_,_,_,_,rfl⟩⟩
theorem U1:gm w fp 1 (.ref 214) 216 "-" (fun m=>decide (Builtin.bitAnd m 256=256)=false):=
 fun m tm fr pe en it t0 t1 xs hx ea g v fs h=>⟨287,vY,89828010,[K (aF 1 0 false rfl),K (aF (Builtin.bitAnd m 256) 256 false h),K (aF 1 0 false rfl),K (av xs hx)],fun _=>g,fun ν=>v4 (.int 1 ((ν 0).fst 0)) (.ref 216) (.int 256 490) (.str (S "r") 515),fun ν=>((ν 21).fst 0),fun ν=>⟨by kernel_rfl,_,_,_,_,_,_,rfl⟩⟩
theorem U0:gm w fp 2 (.ref 216) 218 "w" (fun m=>decide (Builtin.bitAnd m 128=128)=true):=
 fun m tm fr pe en it t0 t1 xs hx ea g v fs h=>⟨264,CM,5614250,[K (aF 2 0 false rfl),K (aF (Builtin.bitAnd m 128) 128 true h),K (av xs hx)],fun _=>g,fun ν=>v4 (.int 2 ((ν 0).fst 0)) (.ref 218) (.int 128 492) (.str (S "w") 516),fun _=>516,fun ν=>⟨by kernel_rfl,_,_,_,_,_,_,rfl⟩⟩
theorem UZ:gm w fp 2 (.ref 216) 218 "-" (fun m=>decide (Builtin.bitAnd m 128=128)=false):=
 fun m tm fr pe en it t0 t1 xs hx ea g v fs h=>⟨287,vY,89828010,[K (aF 2 0 false rfl),K (aF (Builtin.bitAnd m 128) 128 false h),K (aF 2 0 false rfl),K (av xs hx)],fun _=>g,fun ν=>v4 (.int 2 ((ν 0).fst 0)) (.ref 218) (.int 128 492) (.str (S "w") 516),fun ν=>((ν 21).fst 0),fun ν=>⟨by kernel_rfl,_,_,_,_,_,_,rfl⟩⟩
theorem UY:gm w fp 3 (.ref 218) 222 "s" (fun m=>decide (Builtin.bitAnd m 2112=2112)=true):=
 fun m tm fr pe en it t0 t1 xs hx ea g v fs h=>⟨264,CM,5614250,[K (aF 3 0 false rfl),K (aF (Builtin.bitAnd m 2112) 2112 true h),K (av xs hx)],fun _=>g,fun ν=>v4 (.int 3 ((ν 0).fst 0)) (.ref 222) (.int 2112 517) (.str (S "s") 518),fun _=>518,fun ν=>⟨by kernel_rfl,_,_,_,_,_,_,rfl⟩⟩
theorem UX:gm w fp 3 (.ref 218) 222 "S" (fun m=>decide (Builtin.bitAnd m 2112=2112)=false/\decide (Builtin.bitAnd m 2048=2048)=true):=
 fun m tm fr pe en it t0 t1 xs hx ea g v fs h=>⟨359,H8,359312042,[K (aF 3 0 false rfl),K (aF (Builtin.bitAnd m 2112) 2112 false h.1),K (aF 3 0 false rfl),K (aF (Builtin.bitAnd m 2048) 2048 true h.2),K (av xs hx)],fun _=>g,fun ν=>v4 (.int 3 ((ν 0).fst 0)) (.ref 222) (.int 2048 484) (.str (S "S") 519),fun _=>519,fun ν=>⟨by kernel_rfl,_,_,_,_,_,_,rfl⟩⟩
theorem UW:gm w fp 3 (.ref 218) 222 "x" (fun m=>decide (Builtin.bitAnd m 2112=2112)=false/\decide (Builtin.bitAnd m 2048=2048)=false/\decide (Builtin.bitAnd m 64=64)=true):=
 fun m tm fr pe en it t0 t1 xs hx ea g v fs h=>⟨454,H9,22995970730,[K (aF 3 0 false rfl),K (aF (Builtin.bitAnd m 2112) 2112 false h.1),K (aF 3 0 false rfl),K (aF (Builtin.bitAnd m 2048) 2048 false h.2.1),K (aF 3 0 false rfl),K (aF (Builtin.bitAnd m 64) 64 true h.2.2),K (av xs hx)],fun _=>g,fun ν=>v4 (.int 3 ((ν 0).fst 0)) (.ref 222) (.int 64 494) (.str (S "x") 520),fun _=>520,fun ν=>⟨by kernel_rfl,_,_,_,_,_,_,rfl⟩⟩
theorem UU:gm w fp 3 (.ref 218) 222 "-" (fun m=>decide (Builtin.bitAnd m 2112=2112)=false/\decide (Builtin.bitAnd m 2048=2048)=false/\decide (Builtin.bitAnd m 64=64)=false):=
 fun m tm fr pe en it t0 t1 xs hx ea g v fs h=>⟨477,H7,367935531690,[K (aF 3 0 false rfl),K (aF (Builtin.bitAnd m 2112) 2112 false h.1),K (aF 3 0 false rfl),K (aF (Builtin.bitAnd m 2048) 2048 false h.2.1),K (aF 3 0 false rfl),K (aF (Builtin.bitAnd m 64) 64 false h.2.2),K (aF 3 0 false rfl),K (av xs hx)],fun _=>g,fun ν=>v4 (.int 3 ((ν 0).fst 0)) (.ref 222) (.int 64 494) (.str (S "x") 520),fun ν=>((ν 39).fst 0),fun ν=>⟨by kernel_rfl,_,_,_,_,_,_,rfl⟩⟩
theorem UT:gm w fp 4 (.ref 222) 224 "r" (fun m=>decide (Builtin.bitAnd m 32=32)=true):=
 fun m tm fr pe en it t0 t1 xs hx ea g v fs h=>⟨264,CM,5614250,[K (aF 4 0 false rfl),K (aF (Builtin.bitAnd m 32) 32 true h),K (av xs hx)],fun _=>g,fun ν=>v4 (.int 4 ((ν 0).fst 0)) (.ref 224) (.int 32 496) (.str (S "r") 521),fun _=>521,fun ν=>⟨by kernel_rfl,_,_,_,_,_,_,rfl⟩⟩
theorem UR:gm w fp 4 (.ref 222) 224 "-" (fun m=>decide (Builtin.bitAnd m 32=32)=false):=
 fun m tm fr pe en it t0 t1 xs hx ea g v fs h=>⟨287,vY,89828010,[K (aF 4 0 false rfl),K (aF (Builtin.bitAnd m 32) 32 false h),K (aF 4 0 false rfl),K (av xs hx)],fun _=>g,fun ν=>v4 (.int 4 ((ν 0).fst 0)) (.ref 224) (.int 32 496) (.str (S "r") 521),fun ν=>((ν 21).fst 0),fun ν=>⟨by kernel_rfl,_,_,_,_,_,_,rfl⟩⟩
theorem UQ:gm w fp 5 (.ref 224) 226 "w" (fun m=>decide (Builtin.bitAnd m 16=16)=true):=
 fun m tm fr pe en it t0 t1 xs hx ea g v fs h=>⟨264,CM,5614250,[K (aF 5 0 false rfl),K (aF (Builtin.bitAnd m 16) 16 true h),K (av xs hx)],fun _=>g,fun ν=>v4 (.int 5 ((ν 0).fst 0)) (.ref 226) (.int 16 498) (.str (S "w") 522),fun _=>522,fun ν=>⟨by kernel_rfl,_,_,_,_,_,_,rfl⟩⟩
theorem UP:gm w fp 5 (.ref 224) 226 "-" (fun m=>decide (Builtin.bitAnd m 16=16)=false):=
 fun m tm fr pe en it t0 t1 xs hx ea g v fs h=>⟨287,vY,89828010,[K (aF 5 0 false rfl),K (aF (Builtin.bitAnd m 16) 16 false h),K (aF 5 0 false rfl),K (av xs hx)],fun _=>g,fun ν=>v4 (.int 5 ((ν 0).fst 0)) (.ref 226) (.int 16 498) (.str (S "w") 522),fun ν=>((ν 21).fst 0),fun ν=>⟨by kernel_rfl,_,_,_,_,_,_,rfl⟩⟩
theorem UO:gm w fp 6 (.ref 226) 230 "s" (fun m=>decide (Builtin.bitAnd m 1032=1032)=true):=
 fun m tm fr pe en it t0 t1 xs hx ea g v fs h=>⟨264,CM,5614250,[K (aF 6 0 false rfl),K (aF (Builtin.bitAnd m 1032) 1032 true h),K (av xs hx)],fun _=>g,fun ν=>v4 (.int 6 ((ν 0).fst 0)) (.ref 230) (.int 1032 523) (.str (S "s") 524),fun _=>524,fun ν=>⟨by kernel_rfl,_,_,_,_,_,_,rfl⟩⟩
theorem UN:gm w fp 6 (.ref 226) 230 "S" (fun m=>decide (Builtin.bitAnd m 1032=1032)=false/\decide (Builtin.bitAnd m 1024=1024)=true):=
 fun m tm fr pe en it t0 t1 xs hx ea g v fs h=>⟨359,H8,359312042,[K (aF 6 0 false rfl),K (aF (Builtin.bitAnd m 1032) 1032 false h.1),K (aF 6 0 false rfl),K (aF (Builtin.bitAnd m 1024) 1024 true h.2),K (av xs hx)],fun _=>g,fun ν=>v4 (.int 6 ((ν 0).fst 0)) (.ref 230) (.int 1024 486) (.str (S "S") 525),fun _=>525,fun ν=>⟨by kernel_rfl,_,_,_,_,_,_,rfl⟩⟩
theorem UM:gm w fp 6 (.ref 226) 230 "x" (fun m=>decide (Builtin.bitAnd m 1032=1032)=false/\decide (Builtin.bitAnd m 1024=1024)=false/\decide (Builtin.bitAnd m 8=8)=true):=
 fun m tm fr pe en it t0 t1 xs hx ea g v fs h=>⟨454,H9,22995970730,[K (aF 6 0 false rfl),K (aF (Builtin.bitAnd m 1032) 1032 false h.1),K (aF 6 0 false rfl),K (aF (Builtin.bitAnd m 1024) 1024 false h.2.1),K (aF 6 0 false rfl),K (aF (Builtin.bitAnd m 8) 8 true h.2.2),K (av xs hx)],fun _=>g,fun ν=>v4 (.int 6 ((ν 0).fst 0)) (.ref 230) (.int 8 500) (.str (S "x") 526),fun _=>526,fun ν=>⟨by kernel_rfl,_,_,_,_,_,_,rfl⟩⟩
theorem UL:gm w fp 6 (.ref 226) 230 "-" (fun m=>decide (Builtin.bitAnd m 1032=1032)=false/\decide (Builtin.bitAnd m 1024=1024)=false/\decide (Builtin.bitAnd m 8=8)=false):=
 fun m tm fr pe en it t0 t1 xs hx ea g v fs h=>⟨477,H7,367935531690,[K (aF 6 0 false rfl),K (aF (Builtin.bitAnd m 1032) 1032 false h.1),K (aF 6 0 false rfl),K (aF (Builtin.bitAnd m 1024) 1024 false h.2.1),K (aF 6 0 false rfl),K (aF (Builtin.bitAnd m 8) 8 false h.2.2),K (aF 6 0 false rfl),K (av xs hx)],fun _=>g,fun ν=>v4 (.int 6 ((ν 0).fst 0)) (.ref 230) (.int 8 500) (.str (S "x") 526),fun ν=>((ν 39).fst 0),fun ν=>⟨by kernel_rfl,_,_,_,_,_,_,rfl⟩⟩
theorem UK:gm w fp 7 (.ref 230) 232 "r" (fun m=>decide (Builtin.bitAnd m 4=4)=true):=
 fun m tm fr pe en it t0 t1 xs hx ea g v fs h=>⟨264,CM,5614250,[K (aF 7 0 false rfl),K (aF (Builtin.bitAnd m 4) 4 true h),K (av xs hx)],fun _=>g,fun ν=>v4 (.int 7 ((ν 0).fst 0)) (.ref 232) (.int 4 502) (.str (S "r") 527),fun _=>527,fun ν=>⟨by kernel_rfl,_,_,_,_,_,_,rfl⟩⟩
theorem UJ:gm w fp 7 (.ref 230) 232 "-" (fun m=>decide (Builtin.bitAnd m 4=4)=false):=
 fun m tm fr pe en it t0 t1 xs hx ea g v fs h=>⟨287,vY,89828010,[K (aF 7 0 false rfl),K (aF (Builtin.bitAnd m 4) 4 false h),K (aF 7 0 false rfl),K (av xs hx)],fun _=>g,fun ν=>v4 (.int 7 ((ν 0).fst 0)) (.ref 232) (.int 4 502) (.str (S "r") 527),fun ν=>((ν 21).fst 0),fun ν=>⟨by kernel_rfl,_,_,_,_,_,_,rfl⟩⟩
theorem UI:gm w fp 8 (.ref 232) 234 "w" (fun m=>decide (Builtin.bitAnd m 2=2)=true):=
 fun m tm fr pe en it t0 t1 xs hx ea g v fs h=>⟨264,CM,5614250,[K (aF 8 0 false rfl),K (aF (Builtin.bitAnd m 2) 2 true h),K (av xs hx)],fun _=>g,fun ν=>v4 (.int 8 ((ν 0).fst 0)) (.ref 234) (.int 2 504) (.str (S "w") 528),fun _=>528,fun ν=>⟨by kernel_rfl,_,_,_,_,_,_,rfl⟩⟩
theorem UH:gm w fp 8 (.ref 232) 234 "-" (fun m=>decide (Builtin.bitAnd m 2=2)=false):=
 fun m tm fr pe en it t0 t1 xs hx ea g v fs h=>⟨287,vY,89828010,[K (aF 8 0 false rfl),K (aF (Builtin.bitAnd m 2) 2 false h),K (aF 8 0 false rfl),K (av xs hx)],fun _=>g,fun ν=>v4 (.int 8 ((ν 0).fst 0)) (.ref 234) (.int 2 504) (.str (S "w") 528),fun ν=>((ν 21).fst 0),fun ν=>⟨by kernel_rfl,_,_,_,_,_,_,rfl⟩⟩
theorem UG:gm w fp 9 (.ref 234) 238 "t" (fun m=>decide (Builtin.bitAnd m 513=513)=true):=
 fun m tm fr pe en it t0 t1 xs hx ea g v fs h=>⟨264,CM,5614250,[K (aF 9 0 false rfl),K (aF (Builtin.bitAnd m 513) 513 true h),K (av xs hx)],fun _=>g,fun ν=>v4 (.int 9 ((ν 0).fst 0)) (.ref 238) (.int 513 529) (.str (S "t") 530),fun _=>530,fun ν=>⟨by kernel_rfl,_,_,_,_,_,_,rfl⟩⟩
theorem UE:gm w fp 9 (.ref 234) 238 "T" (fun m=>decide (Builtin.bitAnd m 513=513)=false/\decide (Builtin.bitAnd m 512=512)=true):=
 fun m tm fr pe en it t0 t1 xs hx ea g v fs h=>⟨359,H8,359312042,[K (aF 9 0 false rfl),K (aF (Builtin.bitAnd m 513) 513 false h.1),K (aF 9 0 false rfl),K (aF (Builtin.bitAnd m 512) 512 true h.2),K (av xs hx)],fun _=>g,fun ν=>v4 (.int 9 ((ν 0).fst 0)) (.ref 238) (.int 512 488) (.str (S "T") 531),fun _=>531,fun ν=>⟨by kernel_rfl,_,_,_,_,_,_,rfl⟩⟩
theorem UD:gm w fp 9 (.ref 234) 238 "x" (fun m=>decide (Builtin.bitAnd m 513=513)=false/\decide (Builtin.bitAnd m 512=512)=false/\decide (Builtin.bitAnd m 1=1)=true):=
 fun m tm fr pe en it t0 t1 xs hx ea g v fs h=>⟨454,H9,22995970730,[K (aF 9 0 false rfl),K (aF (Builtin.bitAnd m 513) 513 false h.1),K (aF 9 0 false rfl),K (aF (Builtin.bitAnd m 512) 512 false h.2.1),K (aF 9 0 false rfl),K (aF (Builtin.bitAnd m 1) 1 true h.2.2),K (av xs hx)],fun _=>g,fun ν=>v4 (.int 9 ((ν 0).fst 0)) (.ref 238) (.int 1 506) (.str (S "x") 532),fun _=>532,fun ν=>⟨by kernel_rfl,_,_,_,_,_,_,rfl⟩⟩
theorem UC:gm w fp 9 (.ref 234) 238 "-" (fun m=>decide (Builtin.bitAnd m 513=513)=false/\decide (Builtin.bitAnd m 512=512)=false/\decide (Builtin.bitAnd m 1=1)=false):=
 fun m tm fr pe en it t0 t1 xs hx ea g v fs h=>⟨477,H7,367935531690,[K (aF 9 0 false rfl),K (aF (Builtin.bitAnd m 513) 513 false h.1),K (aF 9 0 false rfl),K (aF (Builtin.bitAnd m 512) 512 false h.2.1),K (aF 9 0 false rfl),K (aF (Builtin.bitAnd m 1) 1 false h.2.2),K (aF 9 0 false rfl),K (av xs hx)],fun _=>g,fun ν=>v4 (.int 9 ((ν 0).fst 0)) (.ref 238) (.int 1 506) (.str (S "x") 532),fun ν=>((ν 39).fst 0),fun ν=>⟨by kernel_rfl,_,_,_,_,_,_,rfl⟩⟩
theorem ZI(fr en it:Addr)(fs:List Env)(ν:Nu):
  aT 90 (.ok .next) [(en,ll it 10 .none (.ref 238)),(it,cN .none 10)]
   (runC w ν 63 none (some (30,fs)) (N8 w fr en) [(en,ll it 10 .none (.ref 238)),(it,cN (.ref 239) 10)] 0x42080082080081040042 []):=by kernel_rfl
def J5(w:World)(m:Int):Nat->Addr->List String->Prop
 |i,old,[]=>i=10/\old=238
 |i,old,c::cs=>E2 fun tab cond=>gm w fp i (.ref old) tab c cond/\cond m/\J5 w m (i+1) tab cs
abbrev Pn(cs:List String)(f:Nat->Tok)(k:Nat):List Value:=b8 (cs.map fun c=>S c) f k
theorem yb(c:String)(cs:List String)(t:Tok)(f:Nat->Tok):Value.str (S c) t::Pn cs f 0=Pn (c::cs) (fun i=>if i=0 then t else f (i-1)) 0:=by
 have sh:∀(l:List Str) (k:Nat),b8 l f k=b8 l (fun i=>if i=0 then t else f (i-1)) (k+1):=by
  intro l
  induction l with
  |nil=>intros;rfl
  |cons c l ih=>exact fun k=>congrArg _ (ih (Nat.succ k))
 exact congrArg _ (sh _ 0)
theorem Dc(m:Int)(tm:Tok)(fr pe en it:Addr)(t0 t1:Tok)(fs:List Env)(A:Around)(Q:Result->Shared->Prop):∀(cs:List String) (i:Nat) (old:Addr) (xs:List Value) (ea:Nat) (g:Nat->Tok) (v:Nat->Value) (s:Shared),
  J5 w m i old cs->Vv old v->xs.length+cs.length<1000000->In w (some 30) true fs A s (N7 fr pe en it (fp w m tm pe t0 t1 g v) xs ea i (.ref old))->
  (∀f qQ g' v' s',Vv 238 v'->Done (T:=TW w) s s' (N7 fr pe en it (fp w m tm pe t0 t1 g v) xs ea i (.ref old)) [(fr,fp w m tm pe t0 t1 g' v'),(pe,aj (xs++Pn cs f 0) qQ),(en,ll it 10 .none (.ref 238)),(it,cN .none 10)]->Q (.ok .next) s')->
  codeAny (Mo w) A (N8 w fr en) Q s:=by
 intro cs
 induction cs with
 |nil=>
  intro i old xs ea g v s hp hv hx ii kk
  obtain⟨rfl,rfl⟩:=hp
  refine(ng.of (w:=w) (k:=30) fun ν=>ZI fr en it fs ν).sw (dy (l₁:=[_,_]) (l₂:=[_,_])) (dy (l₁:=[_,_]) (l₂:=[_,_])) A s Q ii fun s' d=>kk (fun _=>0) ea g v s' hv ?_
  exact(List.append_nil xs).symm▸d
 |cons c cs ih=>
  intro i old xs ea g v s hp _ hx ii kk
  obtain⟨tab,cond,hG,hc,hp⟩:=hp
  rw[List.length_cons]at hx
  obtain⟨n,WJ,k,sm,G,V,t,run⟩:=hG m tm fr pe en it t0 t1 xs (by lia) ea g v fs hc
  exact ii.turn (by kernel_rfl) (fun ν=>(run ν).1) fun ν s' d=>ih (i+1) tab _ _ _ _ s' hp (run ν).2 (by rw[List.length_append,List.length_singleton];lia) (ii.go d) fun f qQ g' v' dB hv d2=>kk _ qQ g' v' dB hv ((List.append_assoc xs [_] _).trans (congrArg (xs++·) (yb c cs (t ν) f))▸d.trans d2)
def oL(w:World)(m:Int)(i:Nat)(old:Addr)(n:Nat)(q:List String->Prop):Prop:=∃cs,J5 w m i old cs/\cs.length=n/\(∀c∈cs,(S c).length=1)/\q cs
section
variable{m:Int}{i old tab n:Nat}{q q':List String->Prop}{a b d e:String}
theorem oL.cons{c:String}{cond:Int->Prop}(g:gm w fp i (.ref old) tab c cond)(hm:cond m)(h1:(S c).length=1)(hq:∀cs,q cs->q' (c::cs))(t:oL w m (i+1) tab n q):oL w m i old (n+1) q':=
 t.elim fun cs t=>⟨c::cs,⟨tab,cond,g,hm,t.1⟩,congrArg Nat.succ t.2.1,fun x hx=>(bu hx).elim (fun e=>e▸h1) (t.2.2.1 x),hq cs t.2.2.2⟩
theorem oL.two{p:Int->Bool}(g1:gm w fp i (.ref old) tab a fun m=>p m=true)(g2:gm w fp i (.ref old) tab b fun m=>p m=false)(h1:(S a).length=1)(h2:(S b).length=1)(hq:∀c cs,c=(if p m=true then a else b)->q cs->q' (c::cs))(t:oL w m (i+1) tab n q):oL w m i old (n+1) q':=by
 cases e:p m with
 |true=>exact t.cons g1 e h1 fun cs h=>hq a cs (if_pos e).symm h
 |false=>exact t.cons g2 e h2 fun cs h=>hq b cs (if_neg (Bool.eq_false_iff.mp e)).symm h
theorem oL.four{p r u:Int->Bool}(g1:gm w fp i (.ref old) tab a fun m=>p m=true)(g2:gm w fp i (.ref old) tab b fun m=>p m=false/\r m=true)(g3:gm w fp i (.ref old) tab d fun m=>p m=false/\r m=false/\u m=true)(g4:gm w fp i (.ref old) tab e fun m=>p m=false/\r m=false/\u m=false)
  (h1:(S a).length=1)(h2:(S b).length=1)(h3:(S d).length=1)(h4:(S e).length=1)(hq:∀c cs,q cs->q' (c::cs))(t:oL w m (i+1) tab n q):oL w m i old (n+1) q':=by
 cases e1:p m with
 |true=>exact t.cons g1 e1 h1 (hq a)
 |false=>
  cases e2:r m with
  |true=>exact t.cons g2 ⟨e1,e2⟩ h2 (hq b)
  |false=>
   cases e3:u m with
   |true=>exact t.cons g3 ⟨e1,e2,e3⟩ h3 (hq d)
   |false=>exact t.cons g4 ⟨e1,e2,e3⟩ h4 (hq e)
end
def Jr(m:Int)(k:Nat)(cs:List String):Prop:=cs[k]? =some (if decide (Builtin.bitAnd m 4=4)=true then"r"else"-")
theorem C9(m:Int):oL w m 1 214 9 (Jr m 6):=
 have t9:oL w m 9 234 1 fun _=>True:=.four UG UE UD UC rfl rfl rfl rfl (fun _ _ h=>h) ⟨[],⟨rfl,rfl⟩,rfl,fun _ h=>(nomatch h),trivial⟩
 have t8:oL w m 8 _ 2 fun _=>True:=.two UI UH rfl rfl (fun _ _ _ h=>h) t9
 have t7:oL w m 7 _ 3 (Jr m 0):=.two UK UJ rfl rfl (fun _ _ h _=>congrArg some h) t8
 have t6:oL w m 6 _ 4 (Jr m 1):=.four UO UN UM UL rfl rfl rfl rfl (fun _ _ h=>h) t7
 have t5:oL w m 5 _ 5 (Jr m 2):=.two UQ UP rfl rfl (fun _ _ _ h=>h) t6
 have t4:oL w m 4 _ 6 (Jr m 3):=.two UT UR rfl rfl (fun _ _ _ h=>h) t5
 have t3:oL w m 3 _ 7 (Jr m 4):=.four UY UX UW UU rfl rfl rfl rfl (fun _ _ h=>h) t4
 have t2:oL w m 2 _ 8 (Jr m 5):=.two U0 UZ rfl rfl (fun _ _ _ h=>h) t3
 .two U2 U1 rfl rfl (fun _ _ _ h=>h) t2
structure FmX where
 fr:Addr
 pe:Addr
 en:Addr
 it:Addr
noncomputable def vI(v:Value):Int:=match v with
 | .int n _=>n
 |_=>0
def vS(v:Value):Str:=match v with
 | .str x _=>x
 |_=>S ""
theorem kg(f g:Nat->Tok):∀(l:List Str) (k:Nat),(∀i,k<=i->f i=g (i+1))->b8 l f k=b8 l g (k+1)
 |[],_,_=>rfl
 |x::l,k,h=>by rw[b8,b8,h k (Nat.le_refl k),kg f g l (Nat.succ k) fun i hi=>h i (by lia)]
def tx(cs:List String):List Str:=("-"::cs).map fun c=>S c
def Xj(m:Int)(tm t0 t1:Tok)(cs:List String):aD w FmX where
 lv:=some 30
 bare:=true
 find _ pre _:=some ⟨(az pre 0).1,(az pre 1).1,(az pre 2).1,(az pre 3).1⟩
 code y:=N8 w y.fr y.en
 pre y:=N7 y.fr y.pe y.en y.it (Xl w m tm y.pe t0 t1 (fun _=>0) (fun _=>.none)) [] 0 0 .none
 r _ _:=.ok .next
 post y μ:=[fp w m tm y.pe t0 t1 (v4 (μ.1 1) (μ.1 2) (μ.1 3) (μ.1 4)) (v4 (.int (vI ((μ.2 0).headD .none)) (μ.1 5)) (.ref 238) (.int (vI ((μ.2 1).headD .none)) (μ.1 6)) (.str (vS ((μ.2 2).headD .none)) (μ.1 7))),
  aj (b8 (tx cs) (fun i=>μ.1 (i+8)) 0) (μ.1 0),ll y.it 10 .none (.ref 238),cN .none 10]
noncomputable def Xk(ea t x y z:Nat)(g f:Nat->Tok)(a b:Value)(c:Str):Mu:=(fun k=>match k with|0=>ea|1=>g 0|2=>g 1|3=>g 2|4=>g 3|5=>x|6=>y|7=>z|8=>t|Nat.succ k=>f (k-8),fun k=>match k with|0=>[a]|1=>[b]|_=>[.str c 0])
section
variable(m:Int)(tm t0 t1:Tok)(cs:List String)
theorem IA(hl:cs.length=9)(hp:J5 w m 1 214 cs)(hm:Builtin.bitAnd m 61440=32768):(Xj (w:=w) m tm t0 t1 cs).Ok:=by
 intro y fs A s Rz ii _ kk
 obtain⟨n,WJ,k,sm,G,V,t,run⟩:=U3 (w:=w) m tm y.fr y.pe y.en y.it t0 t1 [] (by decide) 0 (fun _=>0) (fun _=>.none) fs ⟨by rw[hm];rfl,by rw[hm];rfl,by rw[hm];rfl⟩
 refine ii.turn (by kernel_rfl) (fun ν=>(run ν).1) fun ν s' d=>Dc m tm y.fr y.pe y.en y.it t0 t1 fs A Rz cs 1 214 _ _ _ _ s' hp (run ν).2 (by rw[hl];show 1+9<1000000;decide) (In.go ii d) fun f qQ g' v' dB hv d2=> ?_
 obtain⟨a,x,b,y1,c,z,rfl⟩:=hv
 have d3:=d.trans d2
 rw[show []++[Value.str (S "-") (t ν)]++Pn cs f 0=b8 (tx cs) (fun i=>(Xk qQ (t ν) x y1 z g' f (.int a 0) (.int b 0) c).1 (i+8)) 0 from congrArg (fun l=>Value.str (S "-") (t ν)::l) (kg f _ _ 0 fun i _=>rfl)]at d3
 exact kk (Xk qQ (t ν) x y1 z g' f (.int a 0) (.int b 0) c) dB rfl d3
def Ro(hl:cs.length=9)(hp:J5 w m 1 214 cs)(hm:Builtin.bitAnd m 61440=32768):aJ w:=(Xj m tm t0 t1 cs).sm (IA m tm t0 t1 cs hl hp hm)
end
theorem Ub(m:Int)(tm:Tok)(cs:List String)(hl:cs.length=9)(hp:J5 w m 1 214 cs)(hm:Builtin.bitAnd m 61440=32768)(z:Str)(hz:glued (S "") (tx cs)=z)(hj:tooLong ((tx cs).toArray.foldl (·+·.length+(S "").length) 0)=false)(hs:bK z)(fs:List Env)(ν:Nu):
  aT 0 (.ok (.ret (.str z ((pr (ν 7)).fst 0)))) []
   (bX w ν 97 none (some (34,fs)) 246 [.int m tm] [] 0x80084040083005041001041041001040040000002080001040 [K (G0),(fun ν=>Ro m tm ((ν 1).1 0) ((ν 3).1 0) cs hl hp hm),(fun ν=>rj (S "") (tx cs) (fun i=>(pr (ν 5)).1 (i+8)) z hz hj hs)]):=by kernel_rfl
def cd(x:Str):Nat:=x.cps.getD 0 0
theorem Ca{x:Str}(h:x.length=1):x.cps.toList=[cd x]:=by
 obtain⟨⟨l⟩⟩:=x
 have h:l.length=1:=h
 match l,h with
 |[c],_=>rfl
theorem FF:∀(l:List Str) (acc:Array Nat),(∀x∈l,x.length=1)->(l.foldl (fun acc p=>acc++(S "").cps++p.cps) acc).toList=acc.toList++l.map cd
 |[],acc,_=>by rw[List.foldl_nil,List.map_nil,List.append_nil]
 |x::l,acc,h=>by
  rw[List.foldl_cons,FF l _ fun y hy=>h y (.tail _ hy),Array.toList_append,Array.toList_append,Ca (h x (.head _)),List.map_cons]
  show acc.toList++[]++[cd x]++_=_
  rw[List.append_nil,List.append_assoc]
  rfl
theorem Kn:∀(l:List Str) (n:Nat),(∀x∈l,x.length=1)->l.foldl (fun n x=>n+x.length+(S "").length) n=n+l.length
 |[],n,_=>rfl
 |x::l,n,h=>by
  rw[List.foldl_cons,Kn l _ fun y hy=>h y (.tail _ hy),h x (.head _),List.length_cons]
  show n+1+0+l.length=_
  lia
def r6(m:Int)(z:Str):aD w Tok where
 lv:=some 34
 bare:=true
 find c _ _:=some (bV (aN c 0))
 code t:=.call (.ref 246) ⟨[.int m t],[]⟩
 pre _:=[]
 r _ μ:=.ok (.ret (.str z (μ.1 0)))
 post _ _:=[]
theorem zE(m:Int)(hm:Builtin.bitAnd m 61440=32768):∃z,(bK z/\z.length=10/\z.cps[7]? =some (if decide (Builtin.bitAnd m 4=4)=true then 114 else 45))/\(r6 (w:=w) m z).Ok:=by
 obtain⟨cs,hp,hl,h1,h6⟩:=C9 (w:=w) m
 have ha:∀x∈tx cs,x.length=1:=by
  intro x hx
  obtain⟨c,hc,rfl⟩:=cz hx
  rcases bu hc with rfl|hc
  ·rfl
  ·exact h1 c hc
 have hn:(tx cs).length=10:=by unfold tx;rw[List.length_map,List.length_cons,hl]
 have hz:(glued (S "") (tx cs)).cps.toList=(tx cs).map cd:=by
  have:=FF (cs.map fun c=>S c) (S "-").cps fun x hx=>ha x (.tail _ hx)
  exact this
 have JM:(glued (S "") (tx cs)).length=10:=by
  show(glued (S "") (tx cs)).cps.size=10
  rw[<-Array.length_toList,hz,List.length_map,hn]
 have hs:bK (glued (S "") (tx cs)):=bP (Nat.le_of_eq JM) (by decide)
 refine⟨_,⟨hs,JM,?_⟩,fun t fs A s Rz ii _ kk=>aV (rm:=some (_,fs)) (Ub m t cs hl hp hm _ rfl ?_ hs fs) (ii.hh rfl) ii.hr ii.hf ii.hs fun ν s' d=>kk (fun _=>(pr (ν 7)).1 0,fun _=>[]) s' rfl d⟩
 ·rw[<-Array.getElem?_toList,hz]
  unfold tx
  rw[List.getElem?_map,List.getElem?_map,List.getElem?_cons_succ,h6]
  cases decide (Builtin.bitAnd m 4=4)<;>rfl
 ·rw[List.foldl_toArray,Kn _ _ ha,hn]
  rfl
end
section
open PySem PySem.W PySem.W.X PyProof.Rows
noncomputable def b9(x:Str)(v:Value):Bool:=match v with
 | .str y _=>decide (y=x)
 |_=>false
def bL(xs:List Value):Prop:=∀v∈xs,E2 fun y t=>v=.str y t
theorem zY(h:bL xs)(x:Str)(t:Tok):∀v,v∈xs.toArray->MeetsSeq.EqGives v (.str x t) (b9 x v):=by
 intro v hv
 obtain⟨y,u,rfl⟩:=h v (List.mem_toArray.mp hv)
 exact fun _ _ _ _ _ _ q=>wpAny_eqBool_str q
section
variable(xs:List Value)(x:Str)
def Fj(b:Bool):aD w (Addr×Tok×Nat)where
 find c pre _:=some ((az pre 0).1,(bV (aN c 1)),bp (az pre 0).2)
 code y:=.call (.builtin "list.__contains__") ⟨[.ref y.1,.str x y.2.1],[]⟩
 pre y:=[(y.1,aj xs y.2.2)]
 r _ _:=.ok (.ret (.bool b))
 post y _:=[aj xs y.2.2]
theorem Cs(b:Bool)(hs:bL xs)(hb:xs.any (b9 x)=b):(Fj (w:=w) xs x b).Ok:=by
 refine aD.old fun y fs A s _ _ _ _ h=> ?_
 have ho:s.heap.get? y.1=some (aj xs y.2.2):=h.at (.head _) (ar _ _)
 refine aS F.slot_list_contains ⟨_,ho,rfl⟩ F.entry_list_contains (F.args_list_contains_2 _ _) (MeetsSeq.list_contains y.1 xs.toArray y.2.2 (.str x y.2.1) (b9 x) (zY hs x _)) ⟨ho,eQ,?_,rfl,Done.refl h⟩
 rw[List.any_toArray,hb]
 rfl
def dc(b:Bool)(hs:bL xs)(hb:xs.any (b9 x)=b):aJ w:=(Fj xs x b).sm (Cs xs x b hs hb)
def Fi(j:Nat):aD w (Addr×Tok×Nat)where
 find c pre _:=some ((az pre 0).1,(bV (aN c 1)),bp (az pre 0).2)
 code y:=.call (.builtin "list.index") ⟨[.ref y.1,.str x y.2.1],[]⟩
 pre y:=[(y.1,aj xs y.2.2)]
 r _ m:=.ok (.ret (.int j (m.1 0)))
 post y _:=[aj xs y.2.2]
theorem Cr(j:Nat)(hs:bL xs)(hz:xs.length<1000000)(hj:xs.findIdx? (b9 x)=some j):(Fi (w:=w) xs x j).Ok:=by
 refine aD.old fun y fs A s _ _ _ _ h=> ?_
 have ho:s.heap.get? y.1=some (aj xs y.2.2):=h.at (.head _) (ar _ _)
 obtain⟨n8,hit,JP⟩:=List.findIdx?_eq_some_iff_getElem.mp hj
 refine aS F.slot_list_index ⟨_,ho,rfl⟩ F.entry_list_index (F.args_list_index_2 _ _) (MeetsSeq.list_index y.1 xs.toArray y.2.2 (.str x y.2.1) (b9 x) (zY hs x _) j (by simpa using n8) (by lia) (by simpa using hit) (fun m hm Y9=>by simpa using JP m Y9)) ⟨ho,(fun _=>s.toks,fun _=>[]),rfl,rfl,ck h _⟩
def nD(j:Nat)(hs:bL xs)(hz:xs.length<1000000)(hj:xs.findIdx? (b9 x)=some j):aJ w:=(Fi xs x j).sm (Cr xs x j hs hz hj)
end
end
section
open PySem PySem.W PySem.W.X PyProof.Rows PySem.Builtin.Str
noncomputable def cm:List Int->Int
 |[]=>0
 |n::l=>n+cm l
theorem gX:∀(a b:List Int),cm (a++b)=cm a+cm b
 |[],b=>by rw[List.nil_append,cm,Int.zero_add]
 |n::a,b=>by rw[List.cons_append,cm,cm,gX a b,Int.add_assoc]
theorem fB(l:List Int):∀k,k<=l.length->preSum (fun j=>l.getD j 0) k=cm (l.take k)
 |0,_=>rfl
 |k+1,h=>by
  rw[preSum,fB l k (by lia),List.take_succ_eq_append_getElem (by lia),gX]
  simp[cm,List.getD_eq_getElem?_getD,List.getElem?_eq_getElem (show k<l.length by lia)]
theorem Av{l:Addr}{ns:List Int}{g:Nat->Tok}{ep:Nat}(hh:A.handled=none)(iY:∀j,j<ns.length->InLong (ns.getD j 0)/\InLong (cm (ns.take (j+1))))(h:Sat (TW w) s [(l,aj (aq ns g 0) ep)]):
  codeAny (Mo w) A (.call (.builtin "sum") ⟨[.ref l],[]⟩) (fun r s'=>∃t,.ok (.ret (.int (cm ns) t))=r/\Done (T:=TW w) s s' [(l,aj (aq ns g 0) ep)] [(l,aj (aq ns g 0) ep)]) s:=by
 have ho:s.heap.get? l=some (aj (aq ns g 0) ep):=h.at (.head _) (ar _ _)
 have hl:s.heap.IsList l (aq ns g 0).toArray:=⟨_,ho,rfl,_,rfl⟩
 have n8:=Heap.lt_size ho
 refine oz F.kind_sum F.plain_sum F.entry_sum (F.args_sum1 _) ?_
 unfold Builtin.«sum»
 rw[if_neg (by show¬(1+0>2);decide)]
 refine aw (wpAny_of_eq (a:=[none]) rfl (aw (wpAny_pyIter_list hl ?_)))
 refine aw (wpAny_mkInt (aw (aX ?_)))
 simp only[List.forIn_cons,List.forIn_nil]
 have no:∀{T:String} {s:Shared} {Q:Bool->Shared->Prop} {E:Value->Shared->Prop} {t:Tok},isSubtype (.type "int") (.type T)=pure false->Q false s->wpAny (Mo w) A.in1 (isInstance (.int 0 t) (.type T)) Q E s:=
  fun q hq=>wpAny_isInstance (T:="int") (b:=false) (typeIs_int _ _ _) q hq
 refine aw (aw (aw (no PySem.sub_int_str ?_)))
 simp only[Bool.false_eq_true,if_false]
 refine aX (aw (aw (no PySem.sub_int_bytes ?_)))
 simp only[Bool.false_eq_true,if_false]
 refine aX (aw (aw (no PySem.sub_int_bytearray ?_)))
 simp only[Bool.false_eq_true,if_false]
 refine aX (aX (aw (wpAny_newObj_type ?_)))
 have W:=Walks.list (prog:=pw) (w:=w) (A:=A.in1) hh s.heap.objs.size l (Nat.ne_of_lt n8) (aq ns g 0).toArray
 have hn:(aq ns g 0).toArray.size=ns.length:=by rw[List.size_toArray,aP]
 have keep:∀(b:Addr) (o:Obj),s.heap.get? b=some o->b≠s.heap.objs.size:=fun b o e=>Nat.ne_of_lt (Heap.lt_size e)
 refine aX ⟨plainId_quiet F.plain_sum_loop _,codeAny_sum_loop W (fun j=>ns.getD j 0) (fun i v hv=> ?_) (fun j hj=> ?_) _ ?_ _ 0 _ s.toks 0 rfl (cY _) ⟨?_,?_⟩ (Heap.get?_push_size _ rfl) fun h' tk t' hk=> ?_⟩
 ·have hi:i<ns.length:=by
   rw[<-hn];exact(Array.getElem?_eq_some_iff.mp hv).1
  have:=fJ g ns 0 i (jN hi)
  rw[List.getElem?_toArray,this]at hv
  cases hv
  exact⟨_,by rw[List.getD_eq_getElem?_getD,List.getElem?_eq_getElem hi];rfl⟩
 ·rw[hn]at hj
  have q:=iY j hj
  rw[fB ns (j+1) hj]
  exact q
 ·intro hm
  have e:(s.heap.push {cls:=Value.type "list_iterator",data:=Data.fields #[Value.ref l,.int 0 0]}).objs.size=s.heap.objs.size+1:=Heap.size_push _ _
  dsimp only at hm
  rw[e]at hm
  simp only[List.mem_cons,List.not_mem_nil,or_false]at hm
  rcases hm with q|q
  ·exact Nat.succ_ne_self _ q
  ·rw[<-q]at n8;exact Nat.not_succ_lt_self n8
 ·exact⟨_,iq _ (Heap.get?_push_size _ rfl),rfl,rfl⟩
 ·exact⟨_,iq _ (iq _ ho),rfl,_,rfl⟩
 ·refine⟨t',?_,?_⟩
  ·have e:preSum (fun j=>ns.getD j 0) (aq ns g 0).toArray.size=cm ns:=by
    rw[hn,fB ns ns.length (Nat.le_refl _),List.take_length]
   rw[e]
  ·refine il (k:=tk) h fun b o e=> ?_
   have hb:b<s.heap.objs.size:=Heap.lt_size e
   have e2:(s.heap.push {cls:=Value.type "list_iterator",data:=Data.fields #[Value.ref l,.int 0 0]}).objs.size=s.heap.objs.size+1:=Heap.size_push _ _
   refine hk b o (fun q=> ?_) (fun q=> ?_) (iq _ (iq _ e))
   ·rw[List.mem_singleton.mp q]at hb;exact Nat.lt_irrefl _ hb
   ·dsimp only at q;rw[e2]at q;rw[q]at hb;exact Nat.not_succ_lt_self hb
section
variable(ns:List Int)(g:Nat->Tok)
def QX:aD w (Addr×Nat)where
 bare:=true
 find _ pre _:=some ((az pre 0).1,(cK (az pre 0).2))
 code y:=.call (.builtin "sum") ⟨[.ref y.1],[]⟩
 pre y:=[(y.1,aj (aq ns g 0) y.2)]
 r _ m:=.ok (.ret (.int (cm ns) (m.1 0)))
 post y _:=[aj (aq ns g 0) y.2]
def EB(iY:∀j,j<ns.length->InLong (ns.getD j 0)/\InLong (cm (ns.take (j+1)))):aJ w:=(QX ns g).sm<|aD.old fun _ _ _ _ _ _ hb _ h=>
 cQ (Av (hb rfl) iY h) fun _ _ ⟨t,e,d⟩=>⟨(fun _=>t,fun _=>[]),e,rfl,d⟩
end
section
section
variable(w:World)
noncomputable abbrev Pj:Expr:=valOf (aK w 251 [1])
noncomputable abbrev VB:Expr:=bf (Pj w) [0,1,0]
noncomputable abbrev QD(fr loc c1 c2:Addr):Env:=compEnv (dj w 251 fr) loc [(S "script",c1),(S "fixed",c2)] (Pj w)
noncomputable abbrev VC(fr it acc vD:Addr):Code:=.compStart (VB w) 0 (.ref it) (.ref acc) (compEnv (QD w fr 0 0 0) vD [] (VB w))
end
noncomputable def VF:Nat->Nat
 |0=>1
 |n+1=>0x30000c10020820800000c30c0+2^102*VF n
noncomputable def QI(xs:List Int)(g:Nat->Tok)(ν:Nu):Mu:=(fun k=>match k with
 |0=>(ν 1).1 0
 |1=>g (xs.length-1)
 |n+2=>(ν (5+6*n)).1 0,fun _=>[])
variable(xs:List Int)(g:Nat->Tok)(fr it acc vD l:Addr)(fs:List Env)(ν:Nu)
def VD:=runC w ν 173 none (some (16,fs)) (VC w fr it acc vD) [(it,aZ (.ref l) 0),(acc,ah #[] 0),(vD,U #[] 0),(l,aj (aq xs g 0) 0)] (0xc0003040041+2^48*VF xs.length) [K (ak),K (ak),K (ak),K (ak),K (ak)]
noncomputable def hJ(n:Int):Int:=n.fmod 1000000
noncomputable def Fm:List Int->Int
 |[]=>0
 |[a]=>a
 |_::l=>Fm l
def Wn(w:World)(xs:List Int)(m:Mu):Obj:=match xs with
 |[]=>U #[] 0
 |a::l=>bD w "x" (m.1 0) (.int (Fm (a::l)) (m.1 1))
def VG(w:World):Led:=[(it,aZ .none xs.length),(acc,aj (aq (xs.map hJ) (fun i=>(QI xs g ν).1 (i+2)) 0) xs.length),(vD,Wn w xs (QI xs g ν)),(l,aj (aq xs g 0) 0)]
theorem Kg(hl:xs.length<=4):aT 1370 (.ok .next) (VG xs g it acc vD l ν w) (VD (w:=w) xs g fr it acc vD l fs ν):=by
 refine zd (P:=fun xs=>xs.length<=4->aT 1370 (.ok .next) (VG xs g it acc vD l ν w) (VD (w:=w) xs g fr it acc vD l fs ν)) ?_ ?_ ?_ ?_ ?_ ?_ ?_ xs (bP hl (by decide)) hl<;>intros<;>first|contradiction|kernel_rfl
end
section
variable(xs:List Int)
def VE(g:Nat->Tok):aD w (Addr×CX)where
 lv:=some 16
 bare:=true
 find c pre _:=(gK c).map fun x=>((az pre 3).1,x)
 code y:=VC w y.2.fr y.2.it y.2.acc y.2.loc
 pre y:=[(y.2.it,aZ (.ref y.1) 0),(y.2.acc,ah #[] 0),(y.2.loc,U #[] 0),(y.1,aj (aq xs g 0) 0)]
 r _ _:=.ok .next
 post y m:=[aZ .none xs.length,aj (aq (xs.map hJ) (fun i=>m.1 (i+2)) 0) xs.length,Wn w xs m,aj (aq xs g 0) 0]
theorem Kf(hl:xs.length<=4)(g:Nat->Tok):(VE (w:=w) xs g).Ok:=
 fun y fs A s Rz ii _ kk=>aU (rm:=some (_,fs)) (fun ν=>Kg xs g y.2.fr y.2.it y.2.acc y.2.loc y.1 fs ν hl) (ii.hh rfl) ii.hr ii.hf ii.hs fun ν s' d=>kk (QI xs g ν) s' rfl d
def Q6(hl:xs.length<=4)(g:Nat->Tok):aJ w:=(VE xs g).sm (Kf xs hl g)
end
section
variable(w:World)(fr it acc loc c1 c2:Addr)
noncomputable abbrev Pk:Code:=.compLoop (Pj w) 0 (.ref it) (.ref acc) (QD w fr loc c1 c2)
noncomputable abbrev X6:Code:=.compStart (Pj w) 0 (.ref it) (.ref acc) (QD w fr loc c1 c2)
end
noncomputable def ay(v:Value):Obj:=⟨.type "cell",none,.cell (some v),#[]⟩
noncomputable def cJ:List Int:=[0,144,180,146,181,190,123,17,33,40,57,20,420,164,384,49572,2468,388]
abbrev AG(l:List Int):Prop:=∀j,j<l.length->InLong (l.getD j 0)/\InLong (cm (l.take (j+1)))
section
variable(ns:List Int)(hz:ns.length<1000000)(g f:Nat->Tok)(k:Nat)(left:Int)(hl:0<left)(n:Int)(k0:0<=(k:Int))(hn:cJ[(k:Int).toNat]? =some n)(qs:List Int)(h4:qs.length<=4)(hf:AG (qs.map hJ))(hk:gq ns k=qs)(fr it acc loc c1 c2 sc fx:Addr)(es ef ea:Nat)(xs:List Value)(hx:xs.length<1000000)(o:Option (Tok×Value))(fs:List Env)(ν:Nu)
noncomputable def QF(w:World):Led:=[(it,ai k left),(acc,aj xs ea),(loc,Cn w "k" o),(c1,ay (.ref sc)),(c2,ay (.ref fx)),(fx,aj (aq cJ f 0) ef),(sc,aj (aq ns g 0) es)]
noncomputable def X7:List (Nu->aJ w):=[K (fR k left hl),K (xS cJ k n k0 (by decide) hn),K (vf ns k g hz qs hk),(fun ν=>Q6 qs h4 (fun i=>(pr (ν 5)).1 (i+1))),(fun ν=>EB (qs.map hJ) (fun i=>(pr (ν 9)).1 (i+2)) hf),K (av xs hx)]
noncomputable def X8:List Int->Nat
 |[]=>0x60020010020430010801410400410401c00c82080c40001400861860c50c3000002040
 |_::_=>0x60020010020410430010801410400410401c00c82080c40001400861860c50c3000002040
theorem QB:aT 5592746 (.ok (.again (Pk w fr it acc loc c1 c2))) (QF ns g f (k+1:Nat) (left-1) it acc loc c1 c2 sc fx es ef (ea+1) (xs++[.int (n+cm (qs.map hJ)) ((ν 11).1 0)]) (some (o.elim ((ν 1).1 0) (·.1),.int k ((pr (ν 0)).1 0))) w)
  (bW w ν 102 none (some (24,fs)) (Pk w fr it acc loc c1 c2) (QF ns g f k left it acc loc c1 c2 sc fx es ef ea xs o w) (X8 qs) (X7 ns hz g k left hl n k0 hn qs h4 hf hk xs hx)):=by cases qs<;>cases o<;>kernel_rfl
end
theorem QC(fr it acc loc c1 c2:Addr)(k:Nat)(fs:List Env)(ν:Nu):
  aT 26 (.ok .next) [(it,ai k 0)]
   (runC w ν 45 none (some (24,fs)) (Pk w fr it acc loc c1 c2) [(it,ai k 0)] 1073750080 [K (iI k 0 (Int.le_refl 0))]):=by kernel_rfl
section
variable(w:World)
noncomputable abbrev Pw:Expr:=valOf (aK w 313 [1,0])
noncomputable abbrev RN(fr loc c1:Addr):Env:=compEnv (dj w 313 fr) loc [(S "left",c1)] (Pw w)
noncomputable abbrev VN:Expr:=bf (Pw w) [2,1,0]
noncomputable abbrev Yw(fr it acc loc c1:Addr):Code:=.compStart (VN w) 0 (.ref it) (.ref acc) (compEnv (RN w fr 0 c1) loc [(S "left",c1)] (VN w))
noncomputable abbrev Wj:Expr:=bf (valOf (aK w 318 [5,1,1])) [1,0]
noncomputable abbrev YJ(fr it acc loc c1:Addr):Code:=.compStart (Wj w) 0 (.ref it) (.ref acc) (compEnv (dj w 318 fr) loc [(S "done",c1)] (Wj w))
end
section
variable(q:Bool)(fr it acc loc l c1 x:Addr)(xs:List Value)(ex:Nat)(hs:bL xs)(a b:Str)(ta tb:Tok)(ys zs:List Value)(o:Obj)(fs:List Env)(ν:Nu)
noncomputable def BL(w:World):Code:=bif q then YJ w fr it acc loc c1 else Yw w fr it acc loc c1
def BK:Led:=[(it,aZ (.ref l) 0),(acc,ah #[] 0),(loc,U #[] 0),(l,aj ys 0),(c1,ay (.ref x)),(x,aj xs ex)]
def BJ:Led:=[(it,aZ .none ys.length),(acc,aj zs zs.length),(loc,o),(l,aj ys 0),(c1,ay (.ref x)),(x,aj xs ex)]
noncomputable def JB(w:World)(u:Str)(tu:Tok):Obj:=U #[aH w "need" ((ν 1).1 0) (.str u tu)] 1
theorem RJ:aT 21850 (.ok .next) (BJ it acc loc l c1 x xs ex [] [] (U #[] 0))
  (runC w ν 45 none (some (16,fs)) (BL q fr it acc loc c1 w) (BK it acc loc l c1 x xs ex []) 294669166837825 [K ak]):=by cases q<;>kernel_rfl
theorem RL(ha:xs.any (b9 a)=q):aT 21850 (.ok .next) (BJ it acc loc l c1 x xs ex [.str a ta] [] (JB ν w a ta))
  (runC w ν 64 none (some (16,fs)) (BL q fr it acc loc c1 w) (BK it acc loc l c1 x xs ex [.str a ta]) 0x10c00030401400861850c30c00c0003040041 [K ak,K (dc xs a (q) hs ha),K ak]):=by cases q<;>kernel_rfl
theorem RK(ha:xs.any (b9 a)= !q):aT 21850 (.ok .next) (BJ it acc loc l c1 x xs ex [.str a ta] [.str a ta] (JB ν w a ta))
  (runC w ν 73 none (some (16,fs)) (BL q fr it acc loc c1 w) (BK it acc loc l c1 x xs ex [.str a ta]) 0x10c00030400820820031400861850c30c00c0003040041 [K ak,K (dc xs a (!q) hs ha),K ak]):=by cases q<;>kernel_rfl
section
variable(ha:xs.any (b9 a)=q)
theorem K0(hb:xs.any (b9 b)=q):aT 21850 (.ok .next) (BJ it acc loc l c1 x xs ex [.str a ta,.str b tb] [] (JB ν w b tb))
  (runC w ν 83 none (some (16,fs)) (BL q fr it acc loc c1 w) (BK it acc loc l c1 x xs ex [.str a ta,.str b tb]) 0x10c00030401400861850c30c00c00030401400861850c30c00c0003040041 [K ak,K (dc xs a (q) hs ha),K ak,K (dc xs b (q) hs hb),K ak]):=by cases q<;>kernel_rfl
theorem KZ(hb:xs.any (b9 b)= !q):aT 21850 (.ok .next) (BJ it acc loc l c1 x xs ex [.str a ta,.str b tb] [.str b tb] (JB ν w b tb))
  (runC w ν 92 none (some (16,fs)) (BL q fr it acc loc c1 w) (BK it acc loc l c1 x xs ex [.str a ta,.str b tb]) 0x10c00030400820820031400861850c30c00c00030401400861850c30c00c0003040041 [K ak,K (dc xs a (q) hs ha),K ak,K (dc xs b (!q) hs hb),K ak]):=by cases q<;>kernel_rfl
end
section
variable(ha:xs.any (b9 a)= !q)
theorem KY(hb:xs.any (b9 b)=q):aT 21850 (.ok .next) (BJ it acc loc l c1 x xs ex [.str a ta,.str b tb] [.str a ta] (JB ν w b tb))
  (runC w ν 92 none (some (16,fs)) (BL q fr it acc loc c1 w) (BK it acc loc l c1 x xs ex [.str a ta,.str b tb]) 0x10c00030401400861850c30c00c00030400820820031400861850c30c00c0003040041 [K ak,K (dc xs a (!q) hs ha),K ak,K (dc xs b (q) hs hb),K ak]):=by cases q<;>kernel_rfl
theorem KX(hb:xs.any (b9 b)= !q):aT 21850 (.ok .next) (BJ it acc loc l c1 x xs ex [.str a ta,.str b tb] [.str a ta,.str b tb] (JB ν w b tb))
  (runC w ν 101 none (some (16,fs)) (BL q fr it acc loc c1 w) (BK it acc loc l c1 x xs ex [.str a ta,.str b tb]) 0x10c00030400820820031400861850c30c00c00030400820820031400861850c30c00c0003040041 [K ak,K (dc xs a (!q) hs ha),K ak,K (dc xs b (!q) hs hb),K ak]):=by cases q<;>kernel_rfl
end
end
end
section
open PySem PySem.W PySem.W.X PyProof.Rows
section
variable(xs:List Value)(b:Bool)
def Fh:aD w (Addr×Addr×Nat×Nat)where
 find _ pre _:=some ((az pre 0).1,(az pre 1).1,bp (az pre 0).2,bp (az pre 1).2)
 code y:=.call (.builtin "list.__ne__") ⟨[.ref y.1,.ref y.2.1],[]⟩
 pre y:=[(y.1,aj xs y.2.2.1),(y.2.1,ah #[] y.2.2.2)]
 r _ _:=.ok (.ret (.bool b))
 post y _:=[aj xs y.2.2.1,ah #[] y.2.2.2]
theorem Cp(hb:(!xs.isEmpty)=b):(Fh (w:=w) xs b).Ok:=by
 subst hb
 refine aD.old fun y fs A s _ _ _ _ h=> ?_
 have h1:s.heap.get? y.1=some (aj xs y.2.2.1):=h.at (.head _) (ar _ _)
 have h2:s.heap.get? y.2.1=some (ah #[] y.2.2.2):=h.at (.tail _ (.head _)) (ar _ _)
 cases xs with
 |nil=>exact aS F.slot_list_ne ⟨_,h1,rfl⟩ F.entry_list_ne (F.args_list_ne_2 _ _) (SeqAt.list_neAt y.1 y.2.1 #[] #[] y.2.2.1 y.2.2.2 none none #[] #[] rfl fun _=>true) ⟨h1,h2,fun j q _=>absurd q (i8 _),eQ,rfl,rfl,Done.refl h⟩
 |cons x xs=>exact aS F.slot_list_ne ⟨_,h1,rfl⟩ F.entry_list_ne (F.args_list_ne_2 _ _) (SeqAt.list_ne_lengthsAt y.1 y.2.1 (x::xs).toArray #[] y.2.2.1 y.2.2.2 none none #[] #[] (by simp)) ⟨h1,h2,eQ,rfl,rfl,Done.refl h⟩
def ri(hb:(!xs.isEmpty)=b):aJ w:=(Fh xs b).sm (Cp xs b hb)
end
end
section
open PySem PySem.W PySem.W.X PyProof.Rows PySem.Builtin.Str
noncomputable def ao(p:Str×Tok):Value:=.str p.1 p.2
def kT(xs:List Value)(ys:List (Str×Tok)):List Value:=(ys.filter fun p=>xs.any (b9 p.1)).map ao
noncomputable def cx:List (Str×Tok)->Str×Tok
 |[]=>(S "",0)
 |[a]=>a
 |_::l=>cx l
def SH(w:World)(n:String)(ys:List (Str×Tok))(m:Mu):Obj:=match ys with
 |[]=>U #[] 0
 |a::l=>bD w n (m.1 0) (ao (cx (a::l)))
structure XX where
 x:CX
 l:Addr
 c1:Addr
 a:Addr
 ex:Nat
section
variable(q:Bool)(xs:List Value)(ys:List (Str×Tok))
def HO:List Value:=(ys.filter fun p=>xs.any (b9 p.1)== !q).map ao
def Pu(zs:List Value):aD w XX where
 lv:=some 16
 bare:=true
 find c pre _:=(gK c).map fun x=>⟨x,(az pre 3).1,(az pre 4).1,(az pre 5).1,cK (az pre 5).2⟩
 code y:=BL q y.x.fr y.x.it y.x.acc y.x.loc y.c1 w
 pre y:=BK y.x.it y.x.acc y.x.loc y.l y.c1 y.a xs y.ex (ys.map ao)
 r _ _:=.ok .next
 post y m:=(BJ y.x.it y.x.acc y.x.loc y.l y.c1 y.a xs y.ex (ys.map ao) zs (SH w "need" ys m)).map (·.2)
end
theorem SV(b q:Bool):b=q\/b= !q:=by cases b<;>cases q<;>decide
section
variable{q:Bool}{p:Str×Tok}(l:List (Str×Tok))
theorem zh(h:xs.any (b9 p.1)=q):HO q xs (p::l)=HO q xs l:=by
 unfold HO;rw[List.filter_cons_of_neg (by rw[h];cases q<;>decide)]
theorem zg(h:xs.any (b9 p.1)= !q):HO q xs (p::l)=ao p::HO q xs l:=by
 unfold HO;rw[List.filter_cons_of_pos (by rw[h];cases q<;>decide)];rfl
end
theorem ry{q:Bool}{ys:List (Str×Tok)}{zs:List Value}{m n h:Nat}{sm:List (Nu->aJ w)}(e:∀(y:XX) fs ν,aT m (.ok .next) (BJ y.x.it y.x.acc y.x.loc y.l y.c1 y.a xs y.ex (ys.map ao) zs (SH w "need" ys (fun _=>(ν 1).1 0,fun _=>[]))) (runC w ν n none (some (16,fs)) (BL q y.x.fr y.x.it y.x.acc y.x.loc y.c1 w) (BK y.x.it y.x.acc y.x.loc y.l y.c1 y.a xs y.ex (ys.map ao)) h sm)):(Pu (w:=w) q xs ys zs).Ok:=
 fun y fs _ _ _ ii _ kk=>ii.code (e y fs) fun ν s' d=>kk (fun _=>(ν 1).1 0,fun _=>[]) s' rfl d
theorem EO(q:Bool)(xs:List Value)(hs:bL xs)(ys:List (Str×Tok))(hl:ys.length<=2)(zs:List Value)(hz:HO q xs ys=zs):(Pu (w:=w) q xs ys zs).Ok:=by
 subst hz
 match ys,hl with
 |[],_=>exact ry fun y fs ν=>RJ q y.x.fr y.x.it y.x.acc y.x.loc y.l y.c1 y.a xs y.ex fs ν
 |[(a,ta)],_=>
  rcases SV (xs.any (b9 a)) q with ha|ha
  ·rw[zh [] ha];exact ry fun y fs ν=>RL q y.x.fr y.x.it y.x.acc y.x.loc y.l y.c1 y.a xs y.ex hs a ta fs ν ha
  ·rw[zg [] ha];exact ry fun y fs ν=>RK q y.x.fr y.x.it y.x.acc y.x.loc y.l y.c1 y.a xs y.ex hs a ta fs ν ha
 |[(a,ta),(b,tb)],_=>
  rcases SV (xs.any (b9 a)) q with ha|ha<;>rcases SV (xs.any (b9 b)) q with hb|hb
  ·rw[zh [(b,tb)] ha,zh [] hb];exact ry fun y fs ν=>K0 q y.x.fr y.x.it y.x.acc y.x.loc y.l y.c1 y.a xs y.ex hs a b ta tb fs ν ha hb
  ·rw[zh [(b,tb)] ha,zg [] hb];exact ry fun y fs ν=>KZ q y.x.fr y.x.it y.x.acc y.x.loc y.l y.c1 y.a xs y.ex hs a b ta tb fs ν ha hb
  ·rw[zg [(b,tb)] ha,zh [] hb];exact ry fun y fs ν=>KY q y.x.fr y.x.it y.x.acc y.x.loc y.l y.c1 y.a xs y.ex hs a b ta tb fs ν ha hb
  ·rw[zg [(b,tb)] ha,zg [] hb];exact ry fun y fs ν=>KX q y.x.fr y.x.it y.x.acc y.x.loc y.l y.c1 y.a xs y.ex hs a b ta tb fs ν ha hb
 |_::_::_::l,h=>exact absurd h (Nat.not_le.mpr (Nat.le_add_left 3 l.length))
def Q8(xs:List Value)(hs:bL xs)(ys:List (Str×Tok))(hl:ys.length<=2):aJ w:=(Pu false xs ys (kT xs ys)).sm (EO false xs hs ys hl _ (congrArg (List.map ao) (List.filter_congr fun p _=>by cases xs.any (b9 p.1)<;>rfl)))
section
variable(w:World)(fr it acc loc c1:Addr)
noncomputable abbrev Pt:Code:=.compLoop (Pw w) 0 (.ref it) (.ref acc) (RN w fr loc c1)
noncomputable abbrev Yt:Code:=.compStart (Pw w) 0 (.ref it) (.ref acc) (RN w fr loc c1)
end
structure aQ where
 ad:Addr
 h:Str×Tok
 ys:List (Str×Tok)
 e:Nat
def au(r:aQ):Addr×Obj:=(r.ad,aj (.str r.h.1 r.h.2::r.ys.map ao) r.e)
def pZ(xs:List Value)(r:aQ):Bool:=xs.any (b9 r.h.1)&& !(kT xs r.ys).isEmpty
def keepR(xs:List Value)(rows:List aQ):List Value:=(rows.filter (pZ xs)).map fun r=>ao r.h
noncomputable def bB(rows:List aQ):List Value:=rows.map fun r=>.ref r.ad
def KW(it acc loc c1 x R:Addr)(xs zs fw:List Value)(ex ea eR:Nat)(io lo:Obj):Led:=[(it,io),(acc,aj zs ea),(loc,lo),(c1,ay (.ref x)),(x,aj xs ex),(R,aj fw eR)]
def y7(w:World)(n:String):Option (Tok×Value)->Obj
 |none=>U #[] 0
 |some (t,v)=>bD w n t v
def Fg(t:Tok):Option (Tok×Value)->Tok
 |none=>t
 |some (t,_)=>t
def oH(f:Nat->Value)(t:Tok):Nat->Option (Tok×Value)
 |0=>none
 |j+1=>some (t,f j)
section
variable(fr it acc loc c1 x R:Addr)(xs zs fw:List Value)(ex ea eR k:Nat)(hs:bL xs)(r:aQ)(hv:fw[k]? =some (.ref r.ad))(hl:r.ys.length<=2)(hz:zs.length<1000000)(b1 b2:Bool)(h1:xs.any (b9 r.h.1)=b1)(h2:(!(kT xs r.ys).isEmpty)=b2)(hy:(ao r.h::r.ys.map ao).length<1000000)(lo:Option (Tok×Value))(fs:List Env)(ν:Nu)
def Yu:=bW w ν 118 none (some (18,fs)) (Pt w fr it acc loc c1) (KW it acc loc c1 x R xs zs fw ex ea eR (aZ (.ref R) k) (y7 w "row" lo)++[au r])
 (match r.ys with
  |[]=>0x20030430430012480c00420070410010410070032082030011000851441c70071c70c00430c0140003041
  |_::_=>0x700230008d34d2400020030430430010412480c00420070410010410070032082030011000851441c70071c70c00430c0140003041)
 [K (cu fw k (.ref r.ad) hv),K (dc xs r.h.1 b1 hs h1),K (nE (ao r.h::r.ys.map ao) 1 hy (Nat.le_add_left 1 _)),K (Q8 xs hs r.ys hl),K (ri (kT xs r.ys) b2 h2),K (bQ (ao r.h::r.ys.map ao) 0 (ao r.h) (Int.le_refl 0) hy rfl),K (av zs hz)]
def Yv(w:World):Led:=KW it acc loc c1 x R xs (bif b1&&b2 then zs++[ao r.h]else zs) fw ex (bif b1&&b2 then ea+1 else ea) eR (aZ (.ref R) (k+1)) (bD w "row" (Fg ((ν 1).1 0) lo) (.ref r.ad))++[au r]
theorem KV:aT (bif b1 then 22370986 else 3) (.ok (.again (Pt w fr it acc loc c1))) (Yv it acc loc c1 x R xs zs fw ex ea eR k r b1 b2 lo ν w) (Yu (w:=w) fr it acc loc c1 x R xs zs fw ex ea eR k hs r hv hl hz b1 b2 h1 h2 hy lo fs ν):=by
 obtain⟨rk,⟨a,ta⟩,ys,er⟩:=r
 cases ys with
 |nil=>
  have e:b2=false:=h2.symm
  subst e
  cases lo<;>cases b1<;>kernel_rfl
 |cons=>cases lo<;>cases b1<;>cases b2<;>kernel_rfl
theorem RG(hv:fw[k]? =none):
  aT 90 (.ok .next) [(it,⟨(.type "list_iterator"),none,(.fields #[.none,(.int ↑k 0)]),#[]⟩),(R,aj fw eR)]
   (runC w ν 45 none (some (18,fs)) (Pt w fr it acc loc c1) [(it,aZ (.ref R) k),(R,aj fw eR)] 69793230912 [K (da fw k hv)]):=by kernel_rfl
end
theorem vM(xs:List Value)(a b:List aQ):keepR xs (a++b)=keepR xs a++keepR xs b:=by unfold keepR;rw[List.filter_append,List.map_append]
theorem vK(xs:List Value)(a:List aQ):(keepR xs a).length<=a.length:=by unfold keepR;rw[List.length_map];exact List.length_filter_le _ _
noncomputable def J2(rows:List aQ)(j:Nat):Value:=.ref (rows[j]?.elim 0 (·.ad))
section
variable(fr it acc loc c1 x R:Addr)(xs:List Value)(ex eR:Nat)(rows:List aQ)(fs:List Env)
def JA(w:World)(j:Nat)(u:Nat×Tok):Led:=KW it acc loc c1 x R xs (keepR xs (rows.take j)) (bB rows) ex u.1 eR (aZ (.ref R) j) (y7 w "row" (oH (J2 rows) u.2 j))++rows.map au
def Pr(w:World)(u:Nat×Tok):Led:=KW it acc loc c1 x R xs (keepR xs (rows.take rows.length)) (bB rows) ex u.1 eR (aZ .none rows.length) (y7 w "row" (oH (J2 rows) u.2 rows.length))++rows.map au
theorem BH(hs:bL xs)(hl:∀r∈rows,r.ys.length<=2)(hn:rows.length<1000){Q:Result->Shared->Prop}(ii:In w (some 18) true fs A s (JA it acc loc c1 x R xs ex eR rows w 0 (0,0)))
  (kk:∀u s',Done (T:=TW w) s s' (JA it acc loc c1 x R xs ex eR rows w 0 (0,0)) (Pr it acc loc c1 x R xs ex eR rows w u)->Q (.ok .next) s'):codeAny (Mo w) A (Pt w fr it acc loc c1) Q s:=by
 refine forL (N:=rows.length) (L:=JA it acc loc c1 x R xs ex eR rows w) (I:=fun _ _=>True) (E:=Pr it acc loc c1 x R xs ex eR rows w) (fun j u hj _=> ?_) (fun u _=> ?_) rows.length 0 (0,0) s Q (Nat.zero_add _).symm trivial ii fun u s' _ d=>kk u s' d
 ·have hr:rows[j]? =some rows[j]:=jN hj
  have hv:(bB rows)[j]? =some (.ref rows[j].ad):=by unfold bB;rw[List.getElem?_map,hr];rfl
  have hy:(ao rows[j].h::rows[j].ys.map ao).length<1000000:=by
   have:=hl _ (List.getElem_mem hj)
   rw[List.length_cons,List.length_map];lia
  have hz:(keepR xs (rows.take j)).length<1000000:=by
   have h1:=vK xs (rows.take j)
   rw[List.length_take]at h1;lia
  obtain⟨B,_,hB⟩:=tK (f:=au) hr
  have e:keepR xs (rows.take (j+1))=(bif pZ xs rows[j]then keepR xs (rows.take j)++[ao rows[j].h]else keepR xs (rows.take j)):=by
   rw[List.take_succ,hr,vM]
   unfold keepR
   cases h:pZ xs rows[j]<;>simp[h]
  refine⟨fun ν=>(bif pZ xs rows[j]then u.1+1 else u.1,Fg ((ν 1).1 0) (oH (J2 rows) u.2 j)),fun _=>trivial,?_⟩
  have t:=eB.in (eB.of (by kernel_rfl) fun ν=>KV (w:=w) fr it acc loc c1 x R xs _ (bB rows) ex u.1 eR j hs rows[j] hv (hl _ (List.getElem_mem hj)) hz _ _ rfl rfl hy (oH (J2 rows) u.2 j) fs ν) hB
  unfold JA
  rw[e]
  unfold J2 at t⊢
  simp only[oH,hr]
  exact t
 ·have hv:(bB rows)[rows.length]? =none:=by unfold bB;rw[List.getElem?_map,List.getElem?_eq_none (Nat.le_refl _)];rfl
  have t:=ng.of (w:=w) (k:=18) fun ν=>RG fr it acc loc c1 R (bB rows) eR rows.length fs ν hv
  exact t.sw (B:=[_,_,_,_]++rows.map au) ((lY (l₁:=[_,_,_,_])).symm.cons _) ((lY (l₁:=[_,_,_,_])).symm.cons _)
end
structure Z9 where
 x:CX
 c1:Addr
 a:Addr
 R:Addr
 ex:Nat
 eR:Nat
section
variable(xs:List Value)
def RH(rows:List aQ):aD w Z9 where
 lv:=some 18
 bare:=true
 find c pre _:=(gK c).map fun x=>⟨x,(az pre 3).1,(az pre 4).1,(az pre 5).1,bp (az pre 4).2,bp (az pre 5).2⟩
 code y:=Yt w y.x.fr y.x.it y.x.acc y.x.loc y.c1
 pre y:=KW y.x.it y.x.acc y.x.loc y.c1 y.a y.R xs [] (bB rows) y.ex 0 y.eR (aZ (.ref y.R) 0) (U #[] 0)++rows.map au
 r _ _:=.ok .next
 post y m:=[aZ .none rows.length,aj (keepR xs rows) (m.1 0),bD w "row" (m.1 1) (J2 rows (rows.length-1)),ay (.ref y.a),aj xs y.ex,aj (bB rows) y.eR]++rows.map fun r=>(au r).2
theorem KU(hs:bL xs)(rows:List aQ)(hl:∀r∈rows,r.ys.length<=2)(hn:rows.length<1000)(h0:rows≠[]):(RH (w:=w) xs rows).Ok:=by
 intro y fs A s Rz ii _ kk
 have ho:s.heap.get? y.x.it=some (aZ (.ref y.R) 0):=ii.hs.at (.head _) (aa rfl)
 refine bO (by kernel_rfl) ?_ fun E=>cM (n:="list_iterator") rfl ⟨_,ho,rfl⟩
 refine BH y.x.fr y.x.it y.x.acc y.x.loc y.c1 y.a y.R xs y.ex y.eR rows fs hs hl hn (List.append_nil (JA y.x.it y.x.acc y.x.loc y.c1 y.a y.R xs y.ex y.eR rows w 0 (0,0))▸ii) fun u s' d=>kk (fun k=>match k with|0=>u.1|_=>u.2,fun _=>[]) s' (by show(_++_:List Obj).length=(_++_:Led).length;rw[List.length_append,List.length_append,List.length_map,List.length_map];rfl) ?_
 have z:∀l:List aQ,((l.map au).map (·.1)).zip (l.map fun r=>(au r).2)=l.map au:=fun l=>by
  induction l with
  |nil=>rfl
  |cons r l ih=>exact congrArg _ ih
 have f:(RH (w:=w) xs rows).fin y (fun k=>match k with|0=>u.1|_=>u.2,fun _=>[])=Pr y.x.it y.x.acc y.x.loc y.c1 y.a y.R xs y.ex y.eR rows w u:=by
  unfold Pr
  rw[List.take_length]
  obtain⟨r,l,rfl⟩:=List.exists_cons_of_ne_nil h0
  exact(List.append_nil _).trans (congrArg (fun X=>_::_::_::_::_::_::X) (z (r::l)))
 exact f▸(List.append_nil (JA y.x.it y.x.acc y.x.loc y.c1 y.a y.R xs y.ex y.eR rows w 0 (0,0))).symm▸d
def vg(hs:bL xs)(rows:List aQ)(hl:∀r∈rows,r.ys.length<=2)(hn:rows.length<1000)(h0:rows≠[]):aJ w:=(RH xs rows).sm (KU xs hs rows hl hn h0)
end
def itR(rows:List aQ):Nat->List Value
 |0=>rows.map fun r=>ao r.h
 |Nat.succ n=>keepR (itR rows n) rows
theorem mr(rows:List aQ)(n:Nat):bL (itR rows n):=by
 have k:∀l:List aQ,bL (l.map fun r=>ao r.h):=fun l v hv=>by
  obtain⟨r,_,rfl⟩:=cz hv
  exact⟨_,_,rfl⟩
 cases n with
 |zero=>exact k _
 |succ n=>exact k _
noncomputable abbrev six(r0 r1 r2 r3 r4 r5:aQ):List aQ:=[r0,r1,r2,r3,r4,r5]
theorem RM(R:Addr)(eR:Nat)(r0 r1 r2 r3 r4 r5:aQ)(hl:∀r∈six r0 r1 r2 r3 r4 r5,r.ys.length<=2)(b:Bool)(hb:(!(itR (six r0 r1 r2 r3 r4 r5) 6).isEmpty)=b)(fs:List Env)(ν:Nu):
  aT 0x1555aaaaaaaaaaaaaaa (.ok (.ret (.bool b))) [(R,aj (bB (six r0 r1 r2 r3 r4 r5)) eR),au r0,au r1,au r2,au r3,au r4,au r5]
   (bX w ν 615 none (some (34,fs)) 313 [.ref R] [(R,aj (bB (six r0 r1 r2 r3 r4 r5)) eR),au r0,au r1,au r2,au r3,au r4,au r5] 0x400304504501c0010414d34d301301a6810418607de75c6c464004200d0590016596186004104104104100100175c104179d71b69960458004200d05600159655554034d34d34d34d00d0145010416da6585d65444c004200d0530014d349248028a28a28a28a00a01144104161759551348440004200d0500014103cf3c01c71c71c71c700700e3810415544d24503c434004200d04d00134d30c30010410410410400400b2c104149140f38d30828004200d04a00128a2492400410410410410010000410410400410410400410000000061830c30450800c300208208030c00c30c0410401420030c008208200b2c02cb2c10410050800c300208208028a00a28a0410401420030c00820820092402492410410050800c30020820802080082080410401420030c00820820071c01c71c10410050800c30030400430010c30800c2080 [K (ak),K (ak),K (ak),K (ak),K (ak),K (ak),K (ak),K (vg (itR (six r0 r1 r2 r3 r4 r5) 0) (mr _ 0) (six r0 r1 r2 r3 r4 r5) hl (show 6<1000 by decide) (eU _ _)),K (vg (itR (six r0 r1 r2 r3 r4 r5) 1) (mr _ 1) (six r0 r1 r2 r3 r4 r5) hl (show 6<1000 by decide) (eU _ _)),K (vg (itR (six r0 r1 r2 r3 r4 r5) 2) (mr _ 2) (six r0 r1 r2 r3 r4 r5) hl (show 6<1000 by decide) (eU _ _)),K (vg (itR (six r0 r1 r2 r3 r4 r5) 3) (mr _ 3) (six r0 r1 r2 r3 r4 r5) hl (show 6<1000 by decide) (eU _ _)),K (vg (itR (six r0 r1 r2 r3 r4 r5) 4) (mr _ 4) (six r0 r1 r2 r3 r4 r5) hl (show 6<1000 by decide) (eU _ _)),K (vg (itR (six r0 r1 r2 r3 r4 r5) 5) (mr _ 5) (six r0 r1 r2 r3 r4 r5) hl (show 6<1000 by decide) (eU _ _)),K (ri (itR (six r0 r1 r2 r3 r4 r5) 6) b hb)]):=by kernel_rfl
section
variable(r0 r1 r2 r3 r4 r5:aQ)
def EN(b:Bool):aD w (Addr×Nat)where
 lv:=some 34
 bare:=true
 find _ pre _:=some ((az pre 0).1,bp (az pre 0).2)
 code y:=.call (.ref 313) ⟨[.ref y.1],[]⟩
 pre y:=[(y.1,aj (bB (six r0 r1 r2 r3 r4 r5)) y.2),au r0,au r1,au r2,au r3,au r4,au r5]
 r _ _:=.ok (.ret (.bool b))
 post y _:=[aj (bB (six r0 r1 r2 r3 r4 r5)) y.2,(au r0).2,(au r1).2,(au r2).2,(au r3).2,(au r4).2,(au r5).2]
theorem BI(hl:∀r∈six r0 r1 r2 r3 r4 r5,r.ys.length<=2)(b:Bool)(hb:(!(itR (six r0 r1 r2 r3 r4 r5) 6).isEmpty)=b):(EN (w:=w) r0 r1 r2 r3 r4 r5 b).Ok:=
 fun y fs A s Rz ii _ kk=>aV (rm:=some (_,fs)) (RM y.1 y.2 r0 r1 r2 r3 r4 r5 hl b hb fs) (ii.hh rfl) ii.hr ii.hf ii.hs fun _ s' d=>kk eQ s' rfl d
def GR(hl:∀r∈six r0 r1 r2 r3 r4 r5,r.ys.length<=2)(b:Bool)(hb:(!(itR (six r0 r1 r2 r3 r4 r5) 6).isEmpty)=b):aJ w:=(EN r0 r1 r2 r3 r4 r5 b).sm (BI r0 r1 r2 r3 r4 r5 hl b hb)
end
noncomputable abbrev OC(w:World)(fr c1 c2:Addr):Env:={dj w 318 fr with cells:=[(S "done",c1),(S "sizes",c2)]}
noncomputable abbrev IX(w:World)(fr it c1 c2:Addr):Code:=cw (aK w 318 [1,0]) (.ref it) (OC w fr c1 c2)
section
variable(w:World)(R md se rk:Addr)(g:Nat->Tok)
def ZO:Obj:=aW #[aH w "rows" (g 0) (.ref R),aH w "modes" (g 1) (.ref md),aH w "seen" (g 2) (.ref se),aH w "row" (g 3) (.ref rk)] 4
def U9(a:Str)(ta:Tok):Obj:=aW #[aH w "rows" (g 0) (.ref R),aH w "modes" (g 1) (.ref md),aH w "seen" (g 2) (.ref se),aH w "row" (g 3) (.ref rk),aH w "name" (g 4) (.str a ta)] 5
def IW:Option (Str×Tok)->Obj
 |none=>ZO w R md se rk g
 |some p=>U9 w R md se rk g p.1 p.2
end
def XE(g:Nat->Tok)(ν:Nu):Option (Str×Tok)->Nat->Tok
 |none=>fun i=>bif Nat.beq i 4 then(ν 1).1 0 else g i
 |some _=>g
def OM(fr it se rk:Addr)(xs zs:List Value)(er es:Nat)(io fo:Obj):Led:=[(it,io),(rk,aj xs er),(fr,fo),(se,aj zs es)]
section
variable(fr it c1 c2 R md se rk:Addr)(g:Nat->Tok)(o:Option (Str×Tok))(xs zs:List Value)(er es k:Nat)(p:Str×Tok)(hv:xs[k]? =some (ao p))(hs:bL zs)(hz:zs.length<1000000)(b:Bool)(hb:zs.any (b9 p.1)=b)(fs:List Env)(ν:Nu)
theorem OL:aT 3 (.ok (.again (IX w fr it c1 c2))) (OM fr it se rk xs (bif b then zs else zs++[ao p]) er (bif b then es else es+1) (aZ (.ref rk) (k+1)) (IW w R md se rk (XE g ν o) (some p)))
  (bW w ν 74 none (some (32,fs)) (IX w fr it c1 c2) (OM fr it se rk xs zs er es (aZ (.ref rk) k) (IW w R md se rk g o)) 0x30020c41041030c00841030c30c0040003040 [K (cu xs k (ao p) hv),K (dc zs p.1 b hs hb),K (av zs hz)]):=by
 cases o<;>cases b<;>kernel_rfl
end
theorem Ve(fr it c1 c2 rk:Addr)(xs:List Value)(er k:Nat)(hv:xs[k]? =none)(fs:List Env)(ν:Nu):
  aT 90 (.ok .next) [(it,⟨(.type "list_iterator"),none,(.fields #[.none,(.int ↑k 0)]),#[]⟩),(rk,aj xs er)]
   (runC w ν 46 none (some (32,fs)) (IX w fr it c1 c2) [(it,aZ (.ref rk) k),(rk,aj xs er)] 69793230912 [K (da xs k hv)]):=by kernel_rfl
def gp(zs:List Value)(p:Str×Tok):List Value:=if zs.any (b9 p.1)then zs else zs++[ao p]
def dr(zs:List Value)(ps:List (Str×Tok)):List Value:=ps.foldl gp zs
theorem yf{zs:List Value}(h:bL zs)(p:Str×Tok):bL (gp zs p):=by
 unfold gp
 split
 ·exact h
 ·intro v hv
  rcases bw hv with q|q
  ·exact h v q
  ·rw[List.mem_singleton.mp q];exact⟨_,_,rfl⟩
theorem yg(zs:List Value)(p:Str×Tok):(gp zs p).length<=zs.length+1:=by
 unfold gp
 split
 ·exact Nat.le_succ _
 ·rw[List.length_append];exact bC _
theorem iM:∀(ps:List (Str×Tok)) {zs:List Value},bL zs->bL (dr zs ps)
 |[],_,h=>h
 |p::ps,_,h=>iM ps (yf h p)
theorem iN:∀(ps:List (Str×Tok)) (zs:List Value),(dr zs ps).length<=zs.length+ps.length
 |[],_=>bC _
 |p::ps,zs=>by
  have h1:=iN ps (gp zs p)
  have h2:=yg zs p
  rw[List.length_cons]
  exact bP h1 (by lia)
theorem uj:∀(l:List (Str×Tok)),l≠[]->l[l.length-1]? =some (cx l)
 |[],h=>absurd rfl h
 |[a],_=>rfl
 |_::b::l,_=>uj (b::l) (eU _ _)
section
variable(fr it c1 c2 R md se rk:Addr)(g:Nat->Tok)(o:Option (Str×Tok))(ps:List (Str×Tok))(zs:List Value)(er:Nat)(fs:List Env)
def Vf(u:Nat->Tok):Nat->Obj
 |0=>IW w R md se rk g o
 |j+1=>IW w R md se rk u ps[j]?
def A0(io:Obj)(j:Nat)(x:Nat×(Nat->Tok)):Led:=OM fr it se rk (ps.map ao) (dr zs (ps.take j)) er x.1 io (Vf (w:=w) R md se rk g o ps x.2 j)
theorem DS(hs:bL zs)(hz:zs.length+ps.length<1000000)(j:Nat)(x:Nat×(Nat->Tok))(hj:j<ps.length):∃z:Nu->Nat×(Nat->Tok),(∀_:Nu,True)/\eB w 32 fs (IX w fr it c1 c2) (A0 (w:=w) fr it R md se rk g o ps zs er (aZ (.ref rk) j) j x) fun ν=>A0 (w:=w) fr it R md se rk g o ps zs er (aZ (.ref rk) (j+1)) (j+1) (z ν):=by
 have hr:ps[j]? =some ps[j]:=jN hj
 have hv:(ps.map ao)[j]? =some (ao ps[j]):=by rw[List.getElem?_map,hr];rfl
 have hl:=iN (ps.take j) zs
 rw[List.length_take]at hl
 have e:dr zs (ps.take (j+1))=bif (dr zs (ps.take j)).any (b9 ps[j].1)then dr zs (ps.take j)else dr zs (ps.take j)++[ao ps[j]]:=by
  rw[List.take_succ,hr]
  refine List.foldl_append.trans ?_
  show gp (dr zs (ps.take j)) ps[j]=_
  unfold gp
  cases (dr zs (ps.take j)).any (b9 ps[j].1)<;>rfl
 have go (G:Nat->Tok) (q:Option (Str×Tok)):∃z:Nu->Nat×(Nat->Tok),(∀_:Nu,True)/\eB w 32 fs (IX w fr it c1 c2) (OM fr it se rk (ps.map ao) (dr zs (ps.take j)) er x.1 (aZ (.ref rk) j) (IW w R md se rk G q)) fun ν=>A0 (w:=w) fr it R md se rk g o ps zs er (aZ (.ref rk) (j+1)) (j+1) (z ν):=by
  refine⟨fun ν=>(bif (dr zs (ps.take j)).any (b9 ps[j].1)then x.1 else x.1+1,XE G ν q),fun _=>trivial,?_⟩
  unfold A0
  simp only[Vf,hr]
  rw[e]
  exact eB.of (by kernel_rfl) fun ν=>OL fr it c1 c2 R md se rk G q (ps.map ao) (dr zs (ps.take j)) er x.1 j ps[j] hv (iM _ hs) (by lia) _ rfl fs ν
 cases j with
 |zero=>exact go g o
 |succ j=>exact go x.2 ps[j]?
theorem DT(hs:bL zs)(hz:zs.length+ps.length<1000000){Q:Result->Shared->Prop}{x:Nat×(Nat->Tok)}(ii:In w (some 32) true fs A s (A0 (w:=w) fr it R md se rk g o ps zs er (aZ (.ref rk) 0) 0 x))
  (kk:∀u s',Done (T:=TW w) s s' (A0 (w:=w) fr it R md se rk g o ps zs er (aZ (.ref rk) 0) 0 x) (A0 (w:=w) fr it R md se rk g o ps zs er (aZ .none ps.length) ps.length u)->Q (.ok .next) s'):codeAny (Mo w) A (IX w fr it c1 c2) Q s:=
 forL (N:=ps.length) (L:=fun j=>A0 (w:=w) fr it R md se rk g o ps zs er (aZ (.ref rk) j) j) (I:=fun _ _=>True) (E:=A0 (w:=w) fr it R md se rk g o ps zs er (aZ .none ps.length) ps.length) (fun j u hj _=>DS fr it c1 c2 R md se rk g o ps zs er fs hs hz j u hj)
  (fun u _=>by
   have z:=ng.of (w:=w) (k:=32) fun ν=>Ve fr it c1 c2 rk (ps.map ao) er ps.length (by rw[List.getElem?_map,List.getElem?_eq_none (Nat.le_refl _)];rfl) fs ν
   exact z.sw (.refl _) (.refl _)) ps.length 0 x s Q (Nat.zero_add _).symm trivial ii fun u s' _ d=>kk u s' d
end
structure DiX where
 it:Addr
 c1:Addr
 c2:Addr
 rk:Addr
 fr:Addr
 se:Addr
 er:Nat
 es:Nat
def uN(R md:Addr)(ps:List (Str×Tok))(zs:List Value)(g:Nat->Tok)(o:Option (Str×Tok)):aD w DiX where
 lv:=some 32
 bare:=true
 find c pre _:=match c with
  | .forLoop _ _ _ _ env=>some ⟨(az pre 0).1,env.cells[0]?.elim 0 (·.2),env.cells[1]?.elim 0 (·.2),(az pre 1).1,(az pre 2).1,(az pre 3).1,cK (az pre 1).2,cK (az pre 3).2⟩
  |_=>none
 code y:=IX w y.fr y.it y.c1 y.c2
 pre y:=OM y.fr y.it y.se y.rk (ps.map ao) zs y.er y.es (aZ (.ref y.rk) 0) (IW w R md y.se y.rk g o)
 r _ _:=.ok .next
 post y μ:=[aZ .none ps.length,aj (ps.map ao) y.er,U9 w R md y.se y.rk (v5 (μ.1 1) (μ.1 2) (μ.1 3) (μ.1 4) (μ.1 5)) (cx ps).1 (cx ps).2,aj (dr zs ps) (μ.1 0)]
where v5 (a b c d e:Tok) (k:Nat):Tok:=match k with|0=>a|1=>b|2=>c|3=>d|_=>e
section
variable(R md:Addr)(ps:List (Str×Tok))(zs:List Value)(g:Nat->Tok)(o:Option (Str×Tok))
theorem OK(h0:ps≠[])(hs:bL zs)(hz:zs.length+ps.length<1000000):(uN (w:=w) R md ps zs g o).Ok:=by
 intro y fs A s Rz ii _ kk
 refine DT y.fr y.it y.c1 y.c2 R md y.se y.rk g o ps zs y.er fs hs hz (x:=(y.es,g)) ii fun u s' d=>kk (fun k=>match k with|0=>u.1|Nat.succ k=>u.2 k,fun _=>[]) s' rfl ?_
 have e:Vf (w:=w) R md y.se y.rk g o ps u.2 ps.length=IW w R md y.se y.rk u.2 (some (cx ps)):=by
  rw[<-uj ps h0]
  obtain⟨p,l,rfl⟩:=List.exists_cons_of_ne_nil h0
  rfl
 unfold A0 at d
 rw[e,List.take_length]at d
 exact d
def vk(h0:ps≠[])(hs:bL zs)(hz:zs.length+ps.length<1000000):aJ w:=(uN R md ps zs g o).sm (OK R md ps zs g o h0 hs hz)
end
noncomputable abbrev XD(w:World)(fr it c1 c2:Addr):Code:=cw (aK w 318 [1]) (.ref it) (OC w fr c1 c2)
def lJ(r:aQ):List (Str×Tok):=r.h::r.ys
noncomputable def rK:List aQ->Nat->aQ
 |[],_=>⟨0,(S "",0),[],0⟩
 |r::_,0=>r
 |_::l,Nat.succ n=>rK l n
def jR(rows:List aQ):Nat->List Value
 |0=>[]
 |Nat.succ n=>dr (jR rows n) (lJ (rK rows n))
theorem gD(rows:List aQ):∀n,bL (jR rows n)
 |0=>fun v hv=>nomatch hv
 |n+1=>iM _ (gD rows n)
theorem tS{rows:List aQ}(hl:∀r∈rows,r.ys.length<=2):∀n,(lJ (rK rows n)).length<=3:=by
 induction rows with
 |nil=>intro n;exact(by decide:1<=3)
 |cons r rows ih=>
  intro n
  cases n with
  |zero=>exact jJ (hl r (.head _))
  |succ n=>exact ih (fun r h=>hl r (.tail _ h)) n
theorem xI{rows:List aQ}(hl:∀r∈rows,r.ys.length<=2):∀n,(jR rows n).length<=3*n
 |0=>bC _
 |n+1=>by
  have h1:=xI hl n
  have h2:=tS hl n
  have h3:=iN (lJ (rK rows n)) (jR rows n)
  exact bP h3 (by lia)
theorem iH{rows:List aQ}(hl:∀r∈rows,r.ys.length<=2)(n:Nat)(hn:n<=6):(jR rows n).length+(lJ (rK rows n)).length<1000000:=by
 have h1:=xI hl n
 have h2:=tS hl n
 lia
theorem DB(fr it c1 c2 R md se:Addr)(t0 t1 t2:Tok)(eR:Nat)(r0 r1 r2 r3 r4 r5:aQ)(hl:∀r∈six r0 r1 r2 r3 r4 r5,r.ys.length<=2)(fs:List Env)(ν:Nu):
  aT 22906514090 (.ok .next) [(fr,aW #[aH w "rows" (uN.v5 ((pr (ν 23)).fst 1) ((pr (ν 23)).fst 2) ((pr (ν 23)).fst 3) ((pr (ν 23)).fst 4) ((pr (ν 23)).fst 5) 0) (.ref R),aH w "modes" (uN.v5 ((pr (ν 23)).fst 1) ((pr (ν 23)).fst 2) ((pr (ν 23)).fst 3) ((pr (ν 23)).fst 4) ((pr (ν 23)).fst 5) 1) (.ref md),aH w "seen" (uN.v5 ((pr (ν 23)).fst 1) ((pr (ν 23)).fst 2) ((pr (ν 23)).fst 3) ((pr (ν 23)).fst 4) ((pr (ν 23)).fst 5) 2) (.ref se),aH w "row" (uN.v5 ((pr (ν 23)).fst 1) ((pr (ν 23)).fst 2) ((pr (ν 23)).fst 3) ((pr (ν 23)).fst 4) ((pr (ν 23)).fst 5) 3) (.ref r5.1),aH w "name" (uN.v5 ((pr (ν 23)).fst 1) ((pr (ν 23)).fst 2) ((pr (ν 23)).fst 3) ((pr (ν 23)).fst 4) ((pr (ν 23)).fst 5) 4) (.str ((cx (lJ r5)).fst) ((cx (lJ r5)).snd))] 5),(it,⟨(.type "list_iterator"),none,(.fields #[.none,(.int 6 0)]),#[]⟩),(se,ah ((dr (jR (six r0 r1 r2 r3 r4 r5) 5) (lJ r5)).toArray) ((pr (ν 23)).fst 0)),(R,aj (bB (six r0 r1 r2 r3 r4 r5)) eR),au r0,au r1,au r2,au r3,au r4,au r5]
   (runC w ν 196 none (some (33,fs)) (XD w fr it c1 c2) [(fr,aW #[aH w "rows" t0 (.ref R),aH w "modes" t1 (.ref md),aH w "seen" t2 (.ref se)] 3),(it,aZ (.ref R) 0),(se,ah #[] 0),(R,aj (bB (six r0 r1 r2 r3 r4 r5)) eR),au r0,au r1,au r2,au r3,au r4,au r5] 0x12470032002063c000504f0013cf1861802060031c01c534000504d00134d1451401c50031801842c000504b0012cb1041001840031401432400050490012490c30c01430031001021c00050470011c70820801020030c00c11400050450011450410400c1003080 [K (ak),(fun ν=>vk R md (lJ r0) (jR (six r0 r1 r2 r3 r4 r5) 0) (uN.v5 t0 t1 t2 ((ν 1).1 0) 0) none (eU _ _) (gD _ 0) (iH hl 0 (show 0<=6 by decide))),K (ak),(fun ν=>vk R md (lJ r1) (jR (six r0 r1 r2 r3 r4 r5) 1) (uN.v5 ((pr (ν 3)).1 1) ((pr (ν 3)).1 2) ((pr (ν 3)).1 3) ((pr (ν 3)).1 4) ((pr (ν 3)).1 5)) (some (cx (lJ r0))) (eU _ _) (gD _ 1) (iH hl 1 (show 1<=6 by decide))),K (ak),(fun ν=>vk R md (lJ r2) (jR (six r0 r1 r2 r3 r4 r5) 2) (uN.v5 ((pr (ν 7)).1 1) ((pr (ν 7)).1 2) ((pr (ν 7)).1 3) ((pr (ν 7)).1 4) ((pr (ν 7)).1 5)) (some (cx (lJ r1))) (eU _ _) (gD _ 2) (iH hl 2 (show 2<=6 by decide))),K (ak),(fun ν=>vk R md (lJ r3) (jR (six r0 r1 r2 r3 r4 r5) 3) (uN.v5 ((pr (ν 11)).1 1) ((pr (ν 11)).1 2) ((pr (ν 11)).1 3) ((pr (ν 11)).1 4) ((pr (ν 11)).1 5)) (some (cx (lJ r2))) (eU _ _) (gD _ 3) (iH hl 3 (show 3<=6 by decide))),K (ak),(fun ν=>vk R md (lJ r4) (jR (six r0 r1 r2 r3 r4 r5) 4) (uN.v5 ((pr (ν 15)).1 1) ((pr (ν 15)).1 2) ((pr (ν 15)).1 3) ((pr (ν 15)).1 4) ((pr (ν 15)).1 5)) (some (cx (lJ r3))) (eU _ _) (gD _ 4) (iH hl 4 (show 4<=6 by decide))),K (ak),(fun ν=>vk R md (lJ r5) (jR (six r0 r1 r2 r3 r4 r5) 5) (uN.v5 ((pr (ν 19)).1 1) ((pr (ν 19)).1 2) ((pr (ν 19)).1 3) ((pr (ν 19)).1 4) ((pr (ν 19)).1 5)) (some (cx (lJ r4))) (eU _ _) (gD _ 5) (iH hl 5 (show 5<=6 by decide))),K (ak)]):=by kernel_rfl
structure DrX where
 fr:Addr
 it:Addr
 c1:Addr
 c2:Addr
 R:Addr
 se:Addr
 eR:Nat
section
variable(md:Addr)(t0 t1 t2:Tok)(r0 r1 r2 r3 r4 r5:aQ)
def EK:aD w DrX where
 lv:=some 33
 bare:=true
 find c pre _:=match pre,c with
  |(fr,_)::(it,_)::(se,_)::(R,o)::_,.forLoop _ _ _ _ env=>(match env.cells with
   |[(_,c1),(_,c2)]=>some ⟨fr,it,c1,c2,R,se,bp o⟩
   |_=>none)
  |_,_=>none
 code y:=XD w y.fr y.it y.c1 y.c2
 pre y:=[(y.fr,aW #[aH w "rows" t0 (.ref y.R),aH w "modes" t1 (.ref md),aH w "seen" t2 (.ref y.se)] 3),(y.it,aZ (.ref y.R) 0),(y.se,ah #[] 0),(y.R,aj (bB (six r0 r1 r2 r3 r4 r5)) y.eR),au r0,au r1,au r2,au r3,au r4,au r5]
 r _ _:=.ok .next
 post y μ:=[U9 w y.R md y.se r5.ad (uN.v5 (μ.1 1) (μ.1 2) (μ.1 3) (μ.1 4) (μ.1 5)) (cx (lJ r5)).1 (cx (lJ r5)).2,aZ .none 6,aj (jR (six r0 r1 r2 r3 r4 r5) 6) (μ.1 0),aj (bB (six r0 r1 r2 r3 r4 r5)) y.eR,(au r0).2,(au r1).2,(au r2).2,(au r3).2,(au r4).2,(au r5).2]
theorem BC(hl:∀r∈six r0 r1 r2 r3 r4 r5,r.ys.length<=2):(EK (w:=w) md t0 t1 t2 r0 r1 r2 r3 r4 r5).Ok:=
 fun y fs A s Rz ii _ kk=>aU (rm:=some (_,fs)) (DB y.fr y.it y.c1 y.c2 y.R md y.se t0 t1 t2 y.eR r0 r1 r2 r3 r4 r5 hl fs) (ii.hh rfl) ii.hr ii.hf ii.hs fun ν s' d=>kk (pr (ν 23)) s' rfl d
def GP(hl:∀r∈six r0 r1 r2 r3 r4 r5,r.ys.length<=2):aJ w:=(EK md t0 t1 t2 r0 r1 r2 r3 r4 r5).sm (BC md t0 t1 t2 r0 r1 r2 r3 r4 r5 hl)
end
end
section
open PySem PySem.W PySem.W.X PyProof.Rows
section
variable(xs:List Value)(b:Bool)
def Fl:aD w (Addr×Addr×Nat×Nat)where
 find _ pre _:=some ((az pre 0).1,(az pre 1).1,bp (az pre 0).2,bp (az pre 1).2)
 code y:=.call (.builtin "list.__eq__") ⟨[.ref y.1,.ref y.2.1],[]⟩
 pre y:=[(y.1,aj xs y.2.2.1),(y.2.1,ah #[] y.2.2.2)]
 r _ _:=.ok (.ret (.bool b))
 post y _:=[aj xs y.2.2.1,ah #[] y.2.2.2]
theorem Ct(hb:xs.isEmpty=b):(Fl (w:=w) xs b).Ok:=by
 subst hb
 refine aD.old fun y fs A s _ _ _ _ h=> ?_
 have h1:s.heap.get? y.1=some (aj xs y.2.2.1):=h.at (.head _) (ar _ _)
 have h2:s.heap.get? y.2.1=some (ah #[] y.2.2.2):=h.at (.tail _ (.head _)) (ar _ _)
 cases xs with
 |nil=>exact aS F.slot_list_eq ⟨_,h1,rfl⟩ F.entry_list_eq (F.args_list_eq_2 _ _) (SeqAt.list_eqAt y.1 y.2.1 #[] #[] y.2.2.1 y.2.2.2 none none #[] #[] rfl fun _=>true) ⟨h1,h2,fun j q _=>absurd q (i8 _),eQ,rfl,rfl,Done.refl h⟩
 |cons x xs=>exact aS F.slot_list_eq ⟨_,h1,rfl⟩ F.entry_list_eq (F.args_list_eq_2 _ _) (SeqAt.list_eq_lengthsAt y.1 y.2.1 (x::xs).toArray #[] y.2.2.1 y.2.2.2 none none #[] #[] (by simp)) ⟨h1,h2,eQ,rfl,rfl,Done.refl h⟩
def GW(hb:xs.isEmpty=b):aJ w:=(Fl xs b).sm (Ct xs b hb)
end
end
section
open PySem PySem.W PySem.W.X PyProof.Rows PySem.Builtin.Str
def fC(xs:List Value)(ys:List (Str×Tok)):List Value:=(ys.filter fun p=> !xs.any (b9 p.1)).map ao
def Kw(xs:List Value)(hs:bL xs)(ys:List (Str×Tok))(hl:ys.length<=2):aJ w:=(Pu true xs ys (fC xs ys)).sm (EO true xs hs ys hl _ (congrArg (List.map ao) (List.filter_congr fun p _=>by cases xs.any (b9 p.1)<;>rfl)))
noncomputable abbrev Wz(w:World):Expr:=bf (valOf (aK w 318 [5,1,1,0])) [0,0,0,1]
noncomputable abbrev PL(w:World)(fr it acc loc c1:Addr):Code:=.compStart (Wz w) 0 (.ref it) (.ref acc) (compEnv (dj w 318 fr) loc [(S "done",c1)] (Wz w))
section
variable(fr it acc loc l c1 x:Addr)(xs:List Value)(ex:Nat)
theorem SQ(hs:bL xs)(hz:xs.length<1000000)(fs:List Env)(ν:Nu):
  aT 21850 (.ok .next) [(it,⟨(.type "list_iterator"),none,(.fields #[.none,(.int 0 0)]),#[]⟩),(acc,ah #[] 0),(loc,U #[] 0),(l,aj (([]:List Value)) 0),(c1,ay (.ref x)),(x,aj xs ex)]
   (runC w ν 45 none (some (16,fs)) (PL w fr it acc loc c1) [(it,aZ (.ref l) 0),(acc,ah #[] 0),(loc,U #[] 0),(l,aj (([]:List Value)) 0),(c1,ay (.ref x)),(x,aj xs ex)] 294669166837825 [K (ak)]):=by kernel_rfl
theorem SP(hs:bL xs)(hz:xs.length<1000000)(a:Str)(ta:Tok)(i:Nat)(ha:xs.findIdx? (b9 a)=some i)(fs:List Env)(ν:Nu):
  aT 21850 (.ok .next) [(it,⟨(.type "list_iterator"),none,(.fields #[.none,(.int 1 0)]),#[]⟩),(acc,ah #[(.int ↑i ((pr (ν 2)).fst 0))] 1),(loc,U #[aH w "need" ((ν 1).fst 0) (.str a ta)] 1),(l,aj (([.str a ta]:List Value)) 0),(c1,ay (.ref x)),(x,aj xs ex)]
   (runC w ν 76 none (some (16,fs)) (PL w fr it acc loc c1) [(it,aZ (.ref l) 0),(acc,ah #[] 0),(loc,U #[] 0),(l,aj (([.str a ta]:List Value)) 0),(c1,ay (.ref x)),(x,aj xs ex)] 0x430000c10020820801400831861861430c00c0003040041 [K (ak),K (nD xs a i hs hz ha),K (ak)]):=by kernel_rfl
theorem SN(hs:bL xs)(hz:xs.length<1000000)(a b:Str)(ta tb:Tok)(i j:Nat)(ha:xs.findIdx? (b9 a)=some i)(hb:xs.findIdx? (b9 b)=some j)(fs:List Env)(ν:Nu):
  aT 21850 (.ok .next) [(it,⟨(.type "list_iterator"),none,(.fields #[.none,(.int 2 0)]),#[]⟩),(acc,ah #[(.int ↑i ((pr (ν 2)).fst 0)),(.int ↑j ((pr (ν 5)).fst 0))] 2),(loc,U #[aH w "need" ((ν 1).fst 0) (.str b tb)] 1),(l,aj (([.str a ta,.str b tb]:List Value)) 0),(c1,ay (.ref x)),(x,aj xs ex)]
   (runC w ν 107 none (some (16,fs)) (PL w fr it acc loc c1) [(it,aZ (.ref l) 0),(acc,ah #[] 0),(loc,U #[] 0),(l,aj (([.str a ta,.str b tb]:List Value)) 0),(c1,ay (.ref x)),(x,aj xs ex)] 0x10c00030400820820050020c61861850c30030000c10020820801400831861861430c00c0003040041 [K (ak),K (nD xs a i hs hz ha),K (ak),K (nD xs b j hs hz hb),K (ak)]):=by kernel_rfl
end
theorem Sv(l:Addr)(t:Tok)(e:Nat)(fs:List Env)(ν:Nu):
  aT 426 (.ok (.ret (.int (-1) t))) [(l,aj (([.int (-1) t]:List Value)) e)]
   (runC w ν 68 none (some (14,fs)) (.call (.builtin "max") ⟨[.ref l],[]⟩) [(l,aj (([.int (-1) t]:List Value)) e)] 0x30c30420400c2041041081003081041001041 [K (ak),K (ak)]):=by kernel_rfl
theorem Su(l:Addr)(t t1:Tok)(e:Nat)(i:Nat)(h0:decide ((i:Int)> -1)=true)(fs:List Env)(ν:Nu):
  aT 426 (.ok (.ret (.int ↑i t1))) [(l,aj (([.int (-1) t,.int (i:Int) t1]:List Value)) e)]
   (runC w ν 80 none (some (14,fs)) (.call (.builtin "max") ⟨[.ref l],[]⟩) [(l,aj (([.int (-1) t,.int (i:Int) t1]:List Value)) e)] 0x30c30420400c20410410010420400c2041041081003081041001041 [K (ak),K (ak),K (o7 (i:Int) (-1) true h0),K (ak)]):=by kernel_rfl
section
variable(l:Addr)(t t1 t2:Tok)(e:Nat)(i j:Nat)(h0:decide ((i:Int)> -1)=true)
theorem M6(h1:decide ((j:Int)>(i:Int))=true)(fs:List Env)(ν:Nu):
  aT 426 (.ok (.ret (.int ↑j t2))) [(l,aj (([.int (-1) t,.int (i:Int) t1,.int (j:Int) t2]:List Value)) e)]
   (runC w ν 92 none (some (14,fs)) (.call (.builtin "max") ⟨[.ref l],[]⟩) [(l,aj (([.int (-1) t,.int (i:Int) t1,.int (j:Int) t2]:List Value)) e)] 0x30c30420400c20410410010420400c20410410010420400c2041041081003081041001041 [K (ak),K (ak),K (o7 (i:Int) (-1) true h0),K (ak),K (o7 (j:Int) (i:Int) true h1),K (ak)]):=by kernel_rfl
theorem M7(h1:decide ((j:Int)>(i:Int))=false)(fs:List Env)(ν:Nu):
  aT 426 (.ok (.ret (.int ↑i t1))) [(l,aj (([.int (-1) t,.int (i:Int) t1,.int (j:Int) t2]:List Value)) e)]
   (runC w ν 89 none (some (14,fs)) (.call (.builtin "max") ⟨[.ref l],[]⟩) [(l,aj (([.int (-1) t,.int (i:Int) t1,.int (j:Int) t2]:List Value)) e)] 0xc30c10810030810010420400c20410410010420400c2041041081003081041001041 [K (ak),K (ak),K (o7 (i:Int) (-1) true h0),K (ak),K (o7 (j:Int) (i:Int) false h1),K (ak)]):=by kernel_rfl
end
noncomputable def rL:List Nat->Int
 |[]=> -1
 |[i]=>i
 |i::j::_=>bif decide ((j:Int)>(i:Int))then j else i
def Nb(js:List Nat)(g:Nat->Tok):aD w (Addr×Obj)where
 lv:=some 14
 bare:=true
 find _ pre _:=some (az pre 0)
 code y:=.call (.builtin "max") ⟨[.ref y.1],[]⟩
 pre y:=[(y.1,aj (Value.int (-1) (bG y.2 0)::aq (js.map fun(j:Nat)=>(j:Int)) g 0) (bp y.2))]
 r _ m:=.ok (.ret (.int (rL js) (m.1 0)))
 post y _:=[aj (Value.int (-1) (bG y.2 0)::aq (js.map fun(j:Nat)=>(j:Int)) g 0) (bp y.2)]
theorem zw(i:Nat):decide ((i:Int)> -1)=true:=iu (Int.lt_of_lt_of_le (by decide) (Int.natCast_nonneg i))
section
variable(js:List Nat)(g:Nat->Tok)
theorem HK(hl:js.length<=2):(Nb (w:=w) js g).Ok:=by
 match js,hl with
 |[],_=>exact fun y fs A s Rz ii _ kk=>aU (rm:=some (_,fs)) (Sv y.1 _ _ fs) (ii.hh rfl) ii.hr ii.hf ii.hs fun ν s' d=>kk (fun _=>_,fun _=>[]) s' rfl d
 |[i],_=>exact fun y fs A s Rz ii _ kk=>aU (rm:=some (_,fs)) (Su y.1 _ _ _ i (zw i) fs) (ii.hh rfl) ii.hr ii.hf ii.hs fun ν s' d=>kk (fun _=>_,fun _=>[]) s' rfl d
 |[i,j],_=>
  cases h:decide ((j:Int)>(i:Int))with
  |true=>
   have e:rL [i,j]=j:=by rw[rL,h];rfl
   exact fun y fs A s Rz ii _ kk=>aU (rm:=some (_,fs)) (M6 y.1 _ _ _ _ i j (zw i) h fs) (ii.hh rfl) ii.hr ii.hf ii.hs fun ν s' d=>wo (R:=Rz) (by show Except.ok (Flow.ret (.int (rL [i,j]) _))=_;rw[e]) (kk (fun _=>_,fun _=>[]) s' rfl d)
  |false=>
   have e:rL [i,j]=i:=by rw[rL,h];rfl
   exact fun y fs A s Rz ii _ kk=>aU (rm:=some (_,fs)) (M7 y.1 _ _ _ _ i j (zw i) h fs) (ii.hh rfl) ii.hr ii.hf ii.hs fun ν s' d=>wo (R:=Rz) (by show Except.ok (Flow.ret (.int (rL [i,j]) _))=_;rw[e]) (kk (fun _=>_,fun _=>[]) s' rfl d)
 |_::_::_::l,h=>exact absurd h (Nat.not_le.mpr (Nat.le_add_left 3 l.length))
noncomputable def Kx(hl:js.length<=2):aJ w:=(Nb js g).sm (HK js g hl)
end
structure IxX where
 x:CX
 l:Addr
 c1:Addr
 a:Addr
 ex:Nat
noncomputable def Wy(xs:List Value)(ys:List (Str×Tok))(js:List Nat):aD w IxX where
 lv:=some 16
 bare:=true
 find c pre _:=(gK c).map fun x=>⟨x,(az pre 3).1,(az pre 4).1,(az pre 5).1,bp (az pre 5).2⟩
 code y:=PL w y.x.fr y.x.it y.x.acc y.x.loc y.c1
 pre y:=[(y.x.it,aZ (.ref y.l) 0),(y.x.acc,ah #[] 0),(y.x.loc,U #[] 0),(y.l,aj (ys.map ao) 0),(y.c1,ay (.ref y.a)),(y.a,aj xs y.ex)]
 r _ _:=.ok .next
 post y m:=[aZ .none ys.length,aj (aq (js.map fun(j:Nat)=>(j:Int)) (fun i=>m.1 (i+1)) 0) ys.length,SH w "need" ys m,aj (ys.map ao) 0,ay (.ref y.a),aj xs y.ex]
inductive Eg(xs:List Value):List (Str×Tok)->List Nat->Prop
 |nil:Eg xs [] []
 |cons {p:Str×Tok} {j:Nat} {ys:List (Str×Tok)} {js:List Nat} (h:xs.findIdx? (b9 p.1)=some j) (r:Eg xs ys js):Eg xs (p::ys) (j::js)
theorem Nv(xs:List Value)(hs:bL xs)(hz:xs.length<1000000)(ys:List (Str×Tok))(hl:ys.length<=2)(js:List Nat)(hj:Eg xs ys js):(Wy (w:=w) xs ys js).Ok:=by
 cases hj with
 |nil=>exact fun y fs A s Rz ii _ kk=>aU (rm:=some (_,fs)) (SQ y.x.fr y.x.it y.x.acc y.x.loc y.l y.c1 y.a xs y.ex hs hz fs) (ii.hh rfl) ii.hr ii.hf ii.hs fun ν s' d=>kk eQ s' rfl d
 | @cons p i _ _ h hj=>
  obtain⟨a,ta⟩:=p
  cases hj with
  |nil=>exact fun y fs A s Rz ii _ kk=>aU (rm:=some (_,fs)) (SP y.x.fr y.x.it y.x.acc y.x.loc y.l y.c1 y.a xs y.ex hs hz a ta i h fs) (ii.hh rfl) ii.hr ii.hf ii.hs fun ν s' d=>kk (fun k=>match k with|0=>(ν 1).1 0|_=>(pr (ν 2)).1 0,fun _=>[]) s' rfl d
  | @cons p j _ _ h2 hj=>
   obtain⟨b,tb⟩:=p
   cases hj with
   |nil=>exact fun y fs A s Rz ii _ kk=>aU (rm:=some (_,fs)) (SN y.x.fr y.x.it y.x.acc y.x.loc y.l y.c1 y.a xs y.ex hs hz a b ta tb i j h h2 fs) (ii.hh rfl) ii.hr ii.hf ii.hs fun ν s' d=>kk (fun k=>match k with|0=>(ν 1).1 0|1=>(pr (ν 2)).1 0|_=>(pr (ν 5)).1 0,fun _=>[]) s' rfl d
   |cons=>exact absurd hl (Nat.not_le.mpr (Nat.le_add_left 3 _))
noncomputable def Rj(xs:List Value)(hs:bL xs)(hz:xs.length<1000000)(ys:List (Str×Tok))(hl:ys.length<=2)(js:List Nat)(hj:Eg xs ys js):aJ w:=(Wy xs ys js).sm (Nv xs hs hz ys hl js hj)
noncomputable abbrev w4(w:World)(fr it c1 c2:Addr):Code:=cw (aK w 318 [5,1]) (.ref it) (OC w fr c1 c2)
structure sI where
 g:Nat->Tok
 v:Nat->Value
 R:Addr
 se:Addr
 hd:Addr
 fe:Addr
section
variable(w:World)(F:sI)
def Up:List DictEntry:=[aH w "rows" (F.g 0) (.ref F.R),aH w "modes" (F.g 1) (F.v 1),aH w "seen" (F.g 2) (.ref F.se),aH w "row" (F.g 3) (F.v 3),aH w "name" (F.g 4) (F.v 4),aH w "handed" (F.g 5) (.ref F.hd),aH w "told" (F.g 6) (F.v 6),aH w "turn" (F.g 7) (F.v 7),aH w "free" (F.g 8) (.ref F.fe)]
def Xo:List DictEntry:=[aH w "k" (F.g 9) (F.v 9),aH w "needs" (F.g 10) (F.v 10)]
def ZC:List DictEntry:=[aH w "group" (F.g 11) (F.v 11),aH w "active" (F.g 12) (F.v 12),aH w "begins" (F.g 13) (F.v 13)]
def ZF:Obj:=aW (Up w F).toArray 9
def ZE:Obj:=aW (Up w F++Xo w F).toArray 11
def ZD:Obj:=aW (Up w F++(Xo w F++ZC w F)).toArray 14
end
abbrev Dat:=Int×Nat×(Str×Tok)
def idxOf(xs:List Value)(a:Str):Nat:=(xs.findIdx? (b9 a)).getD 0
structure gQ where
 ad:Addr
 d:Dat
 t1:Tok
 t2:Tok
def fi(f:gQ):Addr×Obj:=(f.ad,ae #[.int f.d.1 f.t1,.int f.d.2.1 f.t2,.str f.d.2.2.1 f.d.2.2.2] 0)
noncomputable def fv(f:gQ):Value:=.ref f.ad
def sI.kn(F:sI)(a b:Tok)(k n:Value):sI:={F with g:=fun i=>bif Nat.beq i 9 then a else bif Nat.beq i 10 then b else F.g i,v:=fun i=>bif Nat.beq i 9 then k else bif Nat.beq i 10 then n else F.v i}
def oo(w:World):Nat->sI->Obj
 |0,F=>ZF w F
 |1,F=>ZE w F
 |_,F=>ZD w F
def rI:Nat->Nat
 |0=>1
 |n=>n
structure Gh where
 hs:List Value
 ds:List Value
 ss:List Value
 fw:List Value
 eh:Nat
 ed:Nat
 es:Nat
 eR:Nat
def zL(w:World)(fo:Obj)(it fr c1 dn R se hd fe:Addr)(Y:Gh)(k:Nat)(left:Int)(zs:List Value)(ef:Nat):Led:=[(it,ai k left),(fr,fo),(fe,aj zs ef),(hd,aj Y.hs Y.eh),(c1,ay (.ref dn)),(dn,aj Y.ds Y.ed),(se,aj Y.ss Y.es),(R,aj Y.fw Y.eR)]
structure Js(Y:Gh):Prop where
 hs:bL Y.hs
 ds:bL Y.ds
 ss:bL Y.ss
 ld:Y.ds.length<1000000
 ls:Y.ss.length<1000000
 lR:Y.fw.length<1000000
structure Gi where
 it:Addr
 fr:Addr
 c1:Addr
 c2:Addr
 dn:Addr
 F:sI
 Y:Gh
 zs:List Value
 ef:Nat
 k:Nat
 left:Int
 rk:Addr
 a:Str
 ta:Tok
 er:Nat
structure J7(D:Gi)(ys:List (Str×Tok)):Prop where
 Y:Js D.Y
 hl:0<D.left
 hv:D.Y.fw[(D.k:Int).toNat]? =some (.ref D.rk)
 hy:(Value.str D.a D.ta::ys.map ao).length<1000000
 Tj:ys.length<=2
 hz:D.zs.length<1000000
section
variable(D:Gi)(sh:Nat)(ys:List (Str×Tok))(h:J7 D ys)(fs:List Env)(ν:Nu)
def Gi.L(w:World):Led:=zL w (oo w sh D.F) D.it D.fr D.c1 D.dn D.F.R D.F.se D.F.hd D.F.fe D.Y D.k D.left D.zs D.ef++[au ⟨D.rk,(D.a,D.ta),ys,D.er⟩]
def Qe:Nat->Tok×Tok
 |0=>((ν 1).1 0,(ν 6).1 0)
 |_=>(D.F.g 9,D.F.g 10)
def Gi.M(w:World)(a b c d:Tok)(l:List gQ)(ef:Nat):Led:=l.map fi++(zL w (oo w (rI sh) (D.F.kn a b (.int D.k c) (.ref d))) D.it D.fr D.c1 D.dn D.F.R D.F.se D.F.hd D.F.fe D.Y (D.k+1) (D.left-1) (D.zs++l.map fv) ef++[au ⟨D.rk,(D.a,D.ta),ys,D.er⟩])
def Og(w:World):Led:=zL w (oo w (rI sh) (D.F.kn (Qe D ν sh).1 (Qe D ν sh).2 (.int D.k ((pr (ν 0)).1 0)) (.ref ((pr (ν 5)).1 0)))) D.it D.fr D.c1 D.dn D.F.R D.F.se D.F.hd D.F.fe D.Y (D.k+1) (D.left-1) D.zs D.ef++[au ⟨D.rk,(D.a,D.ta),ys,D.er⟩]
def zM:aJ w:=bQ D.Y.fw D.k (.ref D.rk) (Int.natCast_nonneg _) h.Y.lR h.hv
def Dk:aJ w:=bQ (.str D.a D.ta::ys.map ao) 0 (.str D.a D.ta) (Int.le_refl 0) h.hy rfl
def Xn(b:Bool)(h1:D.Y.hs.any (b9 D.a)=b)(more:List (Nu->aJ w)):List (Nu->aJ w):=
 K (fR D.k D.left h.hl)::K (zM D ys h)::K (nE (.str D.a D.ta::ys.map ao) 1 h.hy (Nat.le_add_left 1 _))::K (zM D ys h)::K (Dk D ys h)::K (dc D.Y.hs D.a b h.Y.hs h1)::more
def ID(b:Bool)(h1:D.Y.hs.any (b9 D.a)=false)(h2:(fC D.Y.ds ys).isEmpty=b)(more:List (Nu->aJ w)):List (Nu->aJ w):=Xn D ys h false h1 (K (Kw D.Y.ds h.Y.ds ys h.Tj)::K (GW (fC D.Y.ds ys) b h2)::more)
abbrev Qf(n hs:Nat)(X:List (Nu->aJ w)):Out pw w (TW w) Fin:=bW w ν n none (some (30,fs)) (w4 w D.fr D.it D.c1 D.c2) (D.L sh ys w) hs X
def Un(h1:D.Y.hs.any (b9 D.a)=true):Out pw w (TW w) Fin:=Qf D sh ys fs ν 102 0x14008618400a0022cb2c900228a28410004110400000900328a287002208202080082000002041 (Xn D ys h true h1 [])
theorem Uj(fj:sh=0\/sh=1\/sh=2)(h1:D.Y.hs.any (b9 D.a)=true):aT 1398106 (.ok (.again (w4 w D.fr D.it D.c1 D.c2))) (Og D sh ys ν w) (Un (w:=w) D sh ys h fs ν h1):=by
 rcases fj with rfl|rfl|rfl<;>kernel_rfl
def Ul(h1:D.Y.hs.any (b9 D.a)=false)(h2:(fC D.Y.ds ys).isEmpty=false):Out pw w (TW w) Fin:=Qf D sh ys fs ν 132 0x800c10c10c004104a2430010801c104004104400114008618400a0022cb2c900228a28410004110400000900328a287002208202080082000002041 (ID D ys h false h1 h2 [])
theorem Ug(fj:sh=0\/sh=1\/sh=2)(h1:D.Y.hs.any (b9 D.a)=false)(y:Str×Tok)(zs:List (Str×Tok))(hy:ys=y::zs)(h2:(fC D.Y.ds ys).isEmpty=false):aT 357915306 (.ok (.again (w4 w D.fr D.it D.c1 D.c2))) (Og D sh ys ν w) (Ul (w:=w) D sh ys h fs ν h1 h2):=by
 subst hy
 rcases fj with rfl|rfl|rfl<;>kernel_rfl
def Of(w:World)(d:Dat)(a b c:Tok):Led:=(a,ae #[.int d.1 b,.int d.2.1 c,.str d.2.2.1 d.2.2.2] 0)::(zL w (oo w (rI sh) (D.F.kn (Qe D ν sh).1 (Qe D ν sh).2 (.int D.k ((pr (ν 0)).1 0)) (.ref ((pr (ν 5)).1 0)))) D.it D.fr D.c1 D.dn D.F.R D.F.se D.F.hd D.F.fe D.Y (D.k+1) (D.left-1) (D.zs++[.ref a]) (D.ef+1)++[au ⟨D.rk,(D.a,D.ta),ys,D.er⟩])
def Oe(js:List Nat)(hj:Eg D.Y.ds ys js)(Fu:js.length<=2)(more:List (Nu->aJ w)):List (Nu->aJ w):=K (Rj D.Y.ds h.Y.ds h.Y.ld ys h.Tj js hj)::
 (fun ν=>ro [.int (-1) ((ν 18).1 0)] (aq (js.map fun(j:Nat)=>(j:Int)) (fun i=>(pr (ν 23)).1 (i+1)) 0) (by rw[aP,List.length_map];exact cW (Nat.add_le_add_left Fu 1) (by decide)))::(fun ν=>Kx js (fun i=>(pr (ν 23)).1 (i+1)) Fu)::more
def Um(h1:D.Y.hs.any (b9 D.a)=false)(q:Nat)(hq:D.Y.ss.findIdx? (b9 D.a)=some q)(h:J7 D []):Out pw w (TW w) Fin:=Qf D sh [] fs ν 241 0xe0020130025145120024d34cd3510020130025145120024d34cd35249248d28a00a00a28d0000810c00c408404f3880010801c11800461890000092492480000800c10c10c004a2430010801c104004104400114008618400a0022cb2c900228a28410004110400000900328a287002208202080082000002041 (ID D [] h true h1 rfl (Oe D [] h [] .nil (cY 2) [K (zM D [] h),K (Dk D [] h),K (nD D.Y.ss D.a q h.Y.ss h.Y.ls hq),K (zM D [] h),K (Dk D [] h),K (av D.zs h.hz)]))
theorem Uh(fj:sh=0\/sh=1\/sh=2)(h1:D.Y.hs.any (b9 D.a)=false)(q:Nat)(hq:D.Y.ss.findIdx? (b9 D.a)=some q)(h:J7 D []):aT 1466021096105 (.ok (.again (w4 w D.fr D.it D.c1 D.c2))) (Of D sh [] ν w (-1,q,D.a,D.ta) ((ν 35).1 0) ((pr (ν 25)).1 0) ((pr (ν 31)).1 0)) (Um (w:=w) D sh fs ν h1 q hq h):=by
 rcases fj with rfl|rfl|rfl<;>kernel_rfl
def Uk(h1:D.Y.hs.any (b9 D.a)=false)(y:Str×Tok)(zs:List (Str×Tok))(h:J7 D (y::zs))(h2:(fC D.Y.ds (y::zs)).isEmpty=true)(js:List Nat)(hj:Eg D.Y.ds (y::zs) js)(Fu:js.length<=2):Out pw w (TW w) Fin:=Qf D sh (y::zs) fs ν 213 0xe0020130025145120024d34cd34d24008a28d0000810c00c408404104f3880010801c11800461890000092492480000800c10c10c004104a2430010801c104004104400114008618400a0022cb2c900228a28410004110400000900328a287002208202080082000002041
 (ID D (y::zs) h true h1 h2 (Oe D (y::zs) h js hj Fu [K (nC ((y::zs).map ao) zs.length (List.length_map ..) (sE h.hy)),K (zM D (y::zs) h),K (Dk D (y::zs) h),K (av D.zs h.hz)]))
theorem Ue(fj:sh=0\/sh=1\/sh=2)(h1:D.Y.hs.any (b9 D.a)=false)(y:Str×Tok)(zs:List (Str×Tok))(h:J7 D (y::zs))(h2:(fC D.Y.ds (y::zs)).isEmpty=true)(j:Nat)(js:List Nat)(hj:Eg D.Y.ds (y::zs) (j::js))(Fu:(j::js).length<=2):
  aT 1466021096105 (.ok (.again (w4 w D.fr D.it D.c1 D.c2))) (Of D sh (y::zs) ν w (rL (j::js),D.k,D.a,D.ta) ((ν 30).1 0) ((pr (ν 25)).1 0) ((pr (ν 0)).1 0)) (Uk (w:=w) D sh fs ν h1 y zs h h2 (j::js) hj Fu):=by
 rcases fj with rfl|rfl|rfl<;>kernel_rfl
end
theorem kU{a:Str}(h:xs.any (b9 a)=true):xs.findIdx? (b9 a)=some (idxOf xs a):=by
 unfold idxOf
 cases hf:xs.findIdx? (b9 a)with
 |some i=>rfl
 |none=>
  rw[List.findIdx?_eq_none_iff]at hf
  obtain⟨v,hv,e⟩:=List.any_eq_true.mp h
  rw[hf v hv]at e;cases e
theorem zl(ds:List Value):∀ys:List (Str×Tok),(fC ds ys).isEmpty=true->Eg ds ys (ys.map fun(p:Str×Tok)=>idxOf ds p.1)
 |[],_=>.nil
 |p::ys,h=>by
  cases hp:ds.any (b9 p.1)with
  |false=>exact absurd h (by simp[fC,hp])
  |true=>exact .cons (kU hp) (zl ds ys (by simpa[fC,hp]using h))
def d6(hs ds ss:List Value)(k:Nat)(r:aQ):List Dat:=match hs.any (b9 r.h.1)|| !(fC ds r.ys).isEmpty with
 |true=>[]
 |false=>[match r.ys with
  |[]=>(-1,idxOf ss r.h.1,r.h)
  |y::ys=>(rL ((y::ys).map fun(p:Str×Tok)=>idxOf ds p.1),k,r.h)]
def bY(hs ds ss:List Value):Nat->List aQ->List Dat
 |_,[]=>[]
 |k,r::l=>d6 hs ds ss k r++bY hs ds ss (k+1) l
theorem Cc:∀n,rI (rI n)=rI n
 |0=>rfl
 |1=>rfl
 |_+2=>rfl
theorem Nt(F:sI)(a b a' b':Tok)(k n k' n':Value):∀sh,oo w (rI sh) ((F.kn a b k n).kn a' b' k' n')=oo w (rI sh) (F.kn a' b' k' n')
 |0=>rfl
 |1=>rfl
 |_+2=>rfl
theorem BG{a:Str×Tok}{ys:List (Str×Tok)}(hl:ys.length<=2):(Value.str a.1 a.2::ys.map ao).length<1000000:=by
 rw[List.length_cons,List.length_map];lia
theorem Dh(sh:Nat)(fj:sh<=2)(D:Gi)(ys:List (Str×Tok))(h:J7 D ys)(hq:D.Y.ss.any (b9 D.a)=true){fs:List Env}(ii:In w (some 30) true fs A s (D.L sh ys w))
  (kk:∀(l:List gQ) (ef a b c d:Nat) (s':Shared),l.map (·.d)=d6 D.Y.hs D.Y.ds D.Y.ss D.k ⟨D.rk,(D.a,D.ta),ys,D.er⟩->Done (T:=TW w) s s' (D.L sh ys w) (D.M sh ys w a b c d l ef)->codeAny (Mo w) A (w4 w D.fr D.it D.c1 D.c2) R s'):codeAny (Mo w) A (w4 w D.fr D.it D.c1 D.c2) R s:=by
 have PS:sh=0\/sh=1\/sh=2:=by lia
 have hc:(w4 w D.fr D.it D.c1 D.c2).quiet=true:=by kernel_rfl
 have nil:∀{s' a b c d},d6 D.Y.hs D.Y.ds D.Y.ss D.k ⟨D.rk,(D.a,D.ta),ys,D.er⟩=[]->Done (T:=TW w) s s' (D.L sh ys w) (zL w (oo w (rI sh) (D.F.kn a b (.int D.k c) (.ref d))) D.it D.fr D.c1 D.dn D.F.R D.F.se D.F.hd D.F.fe D.Y (D.k+1) (D.left-1) D.zs D.ef++[au ⟨D.rk,(D.a,D.ta),ys,D.er⟩])->codeAny (Mo w) A (w4 w D.fr D.it D.c1 D.c2) R s':=fun{s' a b c d} e q=>kk [] D.ef a b c d s' e.symm (by
  unfold Gi.M
  rw[List.map_nil,List.map_nil,List.append_nil]
  exact q)
 cases h1:D.Y.hs.any (b9 D.a)with
 |true=>exact ii.turn hc (fun ν=>Uj D sh ys h fs ν PS h1) fun ν s' d=>nil (by simp only[d6,h1,Bool.true_or]) d
 |false=>
  cases hn:(fC D.Y.ds ys).isEmpty with
  |false=>
   have e:d6 D.Y.hs D.Y.ds D.Y.ss D.k ⟨D.rk,(D.a,D.ta),ys,D.er⟩=[]:=by simp only[d6,hn,Bool.not_false,Bool.or_true]
   cases hy:ys with
   |nil=>rw[hy]at hn;nomatch hn
   |cons y zs=>exact ii.turn hc (fun ν=>Ug D sh ys h fs ν PS h1 y zs hy hn) fun ν s' d=>nil e d
  |true=>
   clear nil
   cases ys with
   |nil=>exact ii.turn hc (fun ν=>Uh D sh fs ν PS h1 _ (kU hq) h) fun ν s' d=>kk [⟨(ν 35).1 0,(-1,idxOf D.Y.ss D.a,(D.a,D.ta)),(pr (ν 25)).1 0,(pr (ν 31)).1 0⟩] (D.ef+1) _ _ _ _ s' (by simp only[d6,h1,hn];rfl) d
   |cons y zs=>
    have Fu:((y::zs).map fun(p:Str×Tok)=>idxOf D.Y.ds p.1).length<=2:=by rw[List.length_map];exact h.Tj
    exact ii.turn hc (fun ν=>Ue D sh fs ν PS h1 y zs h hn _ _ (zl D.Y.ds (y::zs) hn) Fu) fun ν s' d=>kk [⟨(ν 30).1 0,(rL ((y::zs).map fun(p:Str×Tok)=>idxOf D.Y.ds p.1),D.k,(D.a,D.ta)),(pr (ν 25)).1 0,(pr (ν 0)).1 0⟩] (D.ef+1) _ _ _ _ s' (by simp only[d6,h1,hn];rfl) d
theorem Ui(fr it c1 c2:Addr)(k:Nat)(fs:List Env)(ν:Nu):
  aT 26 (.ok .next) [(it,ai k 0)]
   (runC w ν 46 none (some (30,fs)) (w4 w fr it c1 c2) [(it,ai k 0)] 1073750080 [K (iI k 0 (Int.le_refl 0))]):=by kernel_rfl
theorem i5(hs ds ss:List Value)(k:Nat)(r:aQ):(d6 hs ds ss k r).length<=1:=by
 unfold d6
 cases hs.any (b9 r.h.1)|| !(fC ds r.ys).isEmpty with
 |true=>exact cY 1
 |false=>exact bC 1
theorem mO(hs ds ss:List Value):∀(l:List aQ) (k:Nat),(bY hs ds ss k l).length<=l.length
 |[],_=>bC 0
 |r::l,k=>by
  have h1:=i5 hs ds ss k r
  have h2:=mO hs ds ss l (k+1)
  rw[bY,List.length_append,List.length_cons];lia
structure J6 where
 it:Addr
 fr:Addr
 c1:Addr
 c2:Addr
 dn:Addr
 eh:Nat
 ed:Nat
 es:Nat
 eR:Nat
def IE(w:World)(y:J6)(F:sI)(Y:Gh)(rows:List aQ)(fo:Obj)(k:Nat)(left:Int)(fl:List gQ)(ef:Nat):Led:=fl.map fi++(zL w fo y.it y.fr y.c1 y.dn F.R F.se F.hd F.fe Y k left (fl.map fv) ef++rows.map au)
theorem HE{sh:Nat}(h:sh<=2):rI sh<=2:=by
 cases sh with
 |zero=>decide
 |succ n=>exact h
theorem zK(y:J6)(F:sI)(Y:Gh){rows pre rest:List aQ}{r:aQ}(e:rows=pre++r::rest)(B fl:Led):((B++[au r])++(fl++(pre.map au++rest.map au))).Perm (fl++(B++rows.map au)):=by
 rw[e,List.map_append,List.map_cons]
 refine gG fun P=> ?_
 simp only[fP,sM,xb]
 lia
section
variable(y:J6)(F:sI)(Y:Gh)
def Qg(k:Nat)(left:Int)(fl:List gQ)(ef:Nat)(r:aQ):Gi:=⟨y.it,y.fr,y.c1,y.c2,y.dn,F,Y,fl.map fv,ef,k,left,r.ad,r.h.1,r.h.2,r.e⟩
theorem Di{rows pre rest:List aQ}{r:aQ}(e:rows=pre++r::rest)(sh a b c d ef AZ:Nat)(fl l:List gQ):
  (IE w y F Y rows (oo w (rI sh) (F.kn a b (.int pre.length c) (.ref d))) (pre++[r]).length rest.length (fl++l) AZ).Perm ((Qg y F Y pre.length ((rest.length+1:Nat):Int) fl ef r).M sh r.ys w a b c d l AZ++(fl.map fi++(pre.map au++rest.map au))):=by
 unfold IE Qg Gi.M
 dsimp only
 rw[e,show((rest.length+1:Nat):Int)-1=(rest.length:Int)from Int.add_sub_cancel (rest.length:Int) 1,List.length_append,List.map_append,List.map_append,List.map_append,List.map_cons]
 refine gG fun P=> ?_
 simp only[fP,sM,xb]
 show _+(wt P (zL w _ _ _ _ _ _ _ _ _ Y (pre.length+1) _ _ _)+_)=_
 lia
end
theorem Dj(y:J6)(Y:Gh)(hY:Js Y)(rows:List aQ)(hR:Y.fw=bB rows)(hl:∀r∈rows,r.ys.length<=2)(hq:∀r∈rows,Y.ss.any (b9 r.h.1)=true)(hn:rows.length<1000){fs:List Env}(rest:List aQ):
  ∀(pre:List aQ) (sh:Nat) (F:sI) (ef:Nat) (fl:List gQ) (s:Shared),rows=pre++rest->sh<=2->fl.length<=pre.length->In w (some 30) true fs A s (IE w y F Y rows (oo w sh F) pre.length rest.length fl ef)->
  (∀(AZ:Nat) (fo:Obj) (IC:List gQ) (s':Shared),(rest=[]->fo=oo w sh F)->(rest≠[]->E4 fun a b k n=>fo=oo w (rI sh) (F.kn a b k n))->IC.map (·.d)=fl.map (·.d)++bY Y.hs Y.ds Y.ss pre.length rest->
   Done (T:=TW w) s s' (IE w y F Y rows (oo w sh F) pre.length rest.length fl ef) (IE w y F Y rows fo rows.length 0 IC AZ)->R (.ok .next) s')->
  codeAny (Mo w) A (w4 w y.fr y.it y.c1 y.c2) R s:=by
 induction rest with
 |nil=>
  intro pre sh F ef fl s e fj WY ii kk
  have e:pre.length=rows.length:=by rw[e,List.append_nil]
  have hp:([(y.it,ai pre.length 0)]++(fl.map fi++((zL w (oo w sh F) y.it y.fr y.c1 y.dn F.R F.se F.hd F.fe Y pre.length 0 (fl.map fv) ef).tail++rows.map au))).Perm (IE w y F Y rows (oo w sh F) pre.length 0 fl ef):=
   (lY (a:=(y.it,ai pre.length 0)) (l₁:=fl.map fi) (l₂:=(zL w (oo w sh F) y.it y.fr y.c1 y.dn F.R F.se F.hd F.fe Y pre.length 0 (fl.map fv) ef).tail++rows.map au)).symm
  exact(ii.part hp).code (fun ν=>Ui y.fr y.it y.c1 y.c2 pre.length fs ν) fun ν s' d=>kk ef _ fl s' (fun _=>rfl) (fun hZ=>absurd rfl hZ) (List.append_nil _).symm (e▸(d.at ii hp).perm hp.symm)
 |cons r rest ih=>
  intro pre sh F ef fl s e fj WY ii kk
  have hm:r∈rows:=by rw[e];exact jI _ (.head _)
  have hv:Y.fw[pre.length]? =some (.ref r.ad):=by
   rw[hR]
   unfold bB
   rw[e,List.getElem?_map,List.getElem?_append_right (Nat.le_refl _),Nat.sub_self]
   rfl
  have h2:pre.length<=rows.length:=by rw[e,List.length_append];exact Nat.le_add_right _ _
  have hp:((Qg y F Y pre.length ((rest.length+1:Nat):Int) fl ef r).L sh r.ys w++(fl.map fi++(pre.map au++rest.map au))).Perm (IE w y F Y rows (oo w sh F) pre.length ((rest.length+1:Nat):Int) fl ef):=zK y F Y e _ _
  have hz:(fl.map fv).length<1000000:=by rw[List.length_map];lia
  refine Dh sh fj (Qg y F Y pre.length ((rest.length+1:Nat):Int) fl ef r) r.ys ⟨hY,Int.natCast_pos.mpr (Nat.succ_pos _),hv,BG (hl r hm),hl r hm,hz⟩ (hq r hm) (ii.part hp) fun l AZ a b c d s' W3 dd=> ?_
  have d1:=(dd.at ii hp).perm (Di y F Y e sh a b c d ef AZ fl l)
  have hlen:(fl++l).length<=(pre++[r]).length:=by
   have h1:=congrArg List.length W3
   rw[List.length_map]at h1
   rw[List.length_append,List.length_append]
   exact Nat.add_le_add WY (h1▸i5 Y.hs Y.ds Y.ss pre.length r)
  refine ih (pre++[r]) (rI sh) (F.kn a b (.int pre.length c) (.ref d)) AZ (fl++l) s' (by rw[e,List.append_assoc];rfl) (HE fj) hlen (ii.go d1) fun ZK fo Ud dB z2 z3 z4 z5=>kk ZK fo Ud dB (fun q=>absurd q (eU _ _)) (fun _=> ?_) ?_ (d1.trans z5)
  ·by_cases hr:rest=[]
   ·exact⟨_,_,_,_,z2 hr⟩
   ·obtain⟨a',b',k',n',z3⟩:=z3 hr
    rw[Cc,Nt]at z3
    exact⟨_,_,_,_,z3⟩
  ·rw[z4,List.map_append,W3,bY,List.length_append,List.append_assoc]
   rfl
def cI(g:Nat->Nat):List Dat->Nat->List gQ
 |[],_=>[]
 |d::l,i=>⟨g (3*i),d,g (3*i+1),g (3*i+2)⟩::cI g l (i+1)
theorem kM(g:Nat->Nat):∀(D:List Dat) (i:Nat),(cI g D i).map (·.d)=D
 |[],_=>rfl
 |d::l,i=>by rw[cI,List.map_cons,kM g l]
theorem tW:∀(fl:List gQ) (i:Nat),∃g,fl=cI g (fl.map (·.d)) i
 |[],_=>⟨fun _=>0,rfl⟩
 |f::l,i=>by
  obtain⟨g,hg⟩:=tW l (i+1)
  refine⟨fun j=>if j<3*i then 0 else if j=3*i then f.ad else if j=3*i+1 then f.t1 else if j=3*i+2 then f.t2 else g j,?_⟩
  have cg:∀(D:List Dat) (k:Nat),i<k->cI g D k=cI (fun j=>if j<3*i then 0 else if j=3*i then f.ad else if j=3*i+1 then f.t1 else if j=3*i+2 then f.t2 else g j) D k:=by
   intro D
   induction D with
   |nil=>intros;rfl
   |cons d D ih=>
    intro k hk
    rw[cI,cI,ih (k+1) (by lia)]
    have a1:∀m,3*i+2<m->(if m<3*i then 0 else if m=3*i then f.ad else if m=3*i+1 then f.t1 else if m=3*i+2 then f.t2 else g m)=g m:=fun m hm=>by
     rw[if_neg (by lia),if_neg (by lia),if_neg (by lia),if_neg (by lia)]
    simp only[a1 (3*k) (by lia),a1 (3*k+1) (by lia),a1 (3*k+2) (by lia)]
  rw[List.map_cons,cI,<-cg _ (i+1) (Nat.lt_succ_self i),<-hg]
  simp[show¬3*i+1<3*i by lia,show¬3*i+2<3*i by lia]
def Qd(hs ds ss:List Value)(rows:List aQ)(y:J6):Gh:=⟨hs,ds,ss,bB rows,y.eh,y.ed,y.es,y.eR⟩
def Uo(sh:Nat)(F:sI)(hs ds ss:List Value)(r0 r1 r2 r3 r4 r5:aQ)(D:List Dat):aD w J6 where
 lv:=some 30
 bare:=true
 find c pre _:=match pre,c with
  |(it,_)::(fr,_)::_::(_,oh)::(c1,_)::(dn,od)::(_,os)::(_,oR)::_,.forLoop _ _ _ _ env=>(match env.cells with
   |[_,(_,c2)]=>some ⟨it,fr,c1,c2,dn,bp oh,bp od,bp os,bp oR⟩
   |_=>none)
  |_,_=>none
 code y:=w4 w y.fr y.it y.c1 y.c2
 pre y:=zL w (oo w sh F) y.it y.fr y.c1 y.dn F.R F.se F.hd F.fe (Qd hs ds ss (six r0 r1 r2 r3 r4 r5) y) 0 6 [] 0++[au r0,au r1,au r2,au r3,au r4,au r5]
 r _ _:=.ok .next
 post y m:=[ai 6 0,oo w (rI sh) (F.kn (m.1 1) (m.1 2) ((m.2 0).headD .none) ((m.2 1).headD .none)),aj ((cI (fun i=>m.1 (i+3)) D 0).map fv) (m.1 0),aj hs y.eh,ay (.ref y.dn),aj ds y.ed,aj ss y.es,aj (bB (six r0 r1 r2 r3 r4 r5)) y.eR,(au r0).2,(au r1).2,(au r2).2,(au r3).2,(au r4).2,(au r5).2]
 rest _ m:=(cI (fun i=>m.1 (i+3)) D 0).map fi
theorem Od(sh:Nat)(fj:sh<=2)(F:sI)(hs ds ss:List Value)(h1:bL hs)(h2:bL ds)(h3:bL ss)(l2:ds.length<1000000)(l3:ss.length<1000000)(r0 r1 r2 r3 r4 r5:aQ)(hl:∀r∈six r0 r1 r2 r3 r4 r5,r.ys.length<=2)(hq:∀r∈six r0 r1 r2 r3 r4 r5,ss.any (b9 r.h.1)=true):(Uo (w:=w) sh F hs ds ss r0 r1 r2 r3 r4 r5 (bY hs ds ss 0 (six r0 r1 r2 r3 r4 r5))).Ok:=by
 intro y fs A s Rz ii _ kk
 have hY:Js (Qd hs ds ss (six r0 r1 r2 r3 r4 r5) y):=⟨h1,h2,h3,l2,l3,(by decide:6<1000000)⟩
 have hS:=ii.hs
 rw[show(Uo (w:=w) sh F hs ds ss r0 r1 r2 r3 r4 r5 (bY hs ds ss 0 (six r0 r1 r2 r3 r4 r5))).tail y=[]from rfl,List.append_nil]at hS kk
 refine Dj y (Qd hs ds ss (six r0 r1 r2 r3 r4 r5) y) hY (six r0 r1 r2 r3 r4 r5) rfl hl hq (by decide:6<1000) (six r0 r1 r2 r3 r4 r5) [] sh F 0 [] s rfl fj (bC 0) ⟨ii.hr,ii.hf,ii.hh,hS⟩ fun AZ fo IC s' _ q3 q4 d=> ?_
 obtain⟨a,b,k,n,rfl⟩:=q3 (eU _ _)
 obtain⟨g,hg⟩:=tW IC 0
 rw[q4]at hg
 refine kk (fun i=>match i with|0=>AZ|1=>a|2=>b|i+3=>g i,fun i=>match i with|0=>[k]|_=>[n]) s' rfl ?_
 rw[hg]at d
 refine Done.perm d ?_
 exact dy (l₁:=zL w (oo w (rI sh) (F.kn a b k n)) y.it y.fr y.c1 y.dn F.R F.se F.hd F.fe (Qd hs ds ss (six r0 r1 r2 r3 r4 r5) y) 6 0 ((cI g (bY hs ds ss 0 (six r0 r1 r2 r3 r4 r5)) 0).map fv) AZ++(six r0 r1 r2 r3 r4 r5).map au)
def Rq(sh:Nat)(fj:sh<=2)(F:sI)(hs ds ss:List Value)(h1:bL hs)(h2:bL ds)(h3:bL ss)(l2:ds.length<1000000)(l3:ss.length<1000000)(r0 r1 r2 r3 r4 r5:aQ)(hl:∀r∈six r0 r1 r2 r3 r4 r5,r.ys.length<=2)(hq:∀r∈six r0 r1 r2 r3 r4 r5,ss.any (b9 r.h.1)=true)(D:List Dat)(hD:bY hs ds ss 0 (six r0 r1 r2 r3 r4 r5)=D):aJ w:=
 (Uo sh F hs ds ss r0 r1 r2 r3 r4 r5 D).sm (by subst hD;exact Od sh fj F hs ds ss h1 h2 h3 l2 l3 r0 r1 r2 r3 r4 r5 hl hq)
end
section
open PySem PySem.W PySem.W.X PyProof.Rows
noncomputable def runK(n:Nat)(lt:Nat->Nat->Bool):KasT α->Option α
 | .ret a=>some a
 | .ask i j k=>bif (Nat.blt i n&&Nat.blt j n)then runK n lt (k (lt i j))else none
theorem tE{n:Nat}{lt:Nat->Nat->Bool}{cmp:Nat->Nat->(Bool->Shared->Prop)->Shared->Prop}{Q:α->Shared->Prop}(hc:∀i j C,i<n->j<n->C (lt i j) s->cmp i j C s){a:α}(hq:Q a s):∀t:KasT α,runK n lt t=some a->t.kasWp cmp Q s
 | .ret b,h=>by cases h;exact hq
 | .ask i j k,h=>by
  rw[runK]at h
  cases hb:(Nat.blt i n&&Nat.blt j n)with
  |false=>rw[hb]at h;cases h
  |true=>
   rw[hb]at h
   obtain⟨h1,h2⟩:=Bool.and_eq_true_iff.mp hb
   exact hc i j _ (Nat.le_of_ble_eq_true h1) (Nat.le_of_ble_eq_true h2) (tE hc hq _ h)
theorem kD{n:Nat}{f g:Nat->Nat->Bool}(h:∀i j,i<n->j<n->f i j=g i j):∀t:KasT α,runK n f t=runK n g t
 | .ret _=>rfl
 | .ask i j k=>by
  rw[runK,runK]
  cases hb:(Nat.blt i n&&Nat.blt j n)with
  |false=>rfl
  |true=>
   obtain⟨h1,h2⟩:=Bool.and_eq_true_iff.mp hb
   rw[h i j (Nat.le_of_ble_eq_true h1) (Nat.le_of_ble_eq_true h2)]
   exact kD h _
def rT(x:Nat):List Nat->List (List Nat)
 |[]=>[[x]]
 |y::l=>(x::y::l)::(rT x l).map (y::·)
noncomputable def dY:Nat->List (List Nat)
 |0=>[[]]
 |Nat.succ n=>(dY n).flatMap (rT n)
theorem ux(x:Nat):∀a b:List Nat,a++x::b∈rT x (a++b)
 |[],[]=>.head _
 |[],_::_=>.head _
 |y::a,b=>.tail _ (gN (ux x a b))
theorem mD:∀(n:Nat) (l:List Nat),l.Perm (List.range n)->l∈dY n
 |0,l,h=>by
  rw[List.perm_nil.mp h];exact .head _
 |n+1,l,h=>by
  rw[List.range_succ]at h
  obtain⟨a,b,rfl⟩:=List.append_of_mem (h.mem_iff.mpr (jI _ (.head _)):n∈l)
  have h2:(a++b).Perm (List.range n):=by
   have h3:=List.perm_middle.symm.trans (h.trans dy)
   exact h3.cons_inv
  exact List.mem_flatMap.mpr ⟨_,mD n _ h2,ux n a b⟩
def rD:List Nat->Nat->Nat
 |[],_=>0
 |x::l,i=>bif Nat.beq x i then 0 else Nat.succ (rD l i)
def gC(n:Nat)(q:List Nat):Bool:=match runK n (fun i j=>Nat.blt (rD q i) (rD q j)) (kas_sort n)with
 |some p=>decide (p.toList=q)
 |none=>false
theorem GL:(dY 2).all (gC 2)=true:=by decide+kernel
theorem GK:(dY 3).all (gC 3)=true:=by decide+kernel
theorem GJ:(dY 4).all (gC 4)=true:=by decide+kernel
theorem GI:(dY 5).all (gC 5)=true:=by decide+kernel
theorem GH:(dY 6).all (gC 6)=true:=by decide+kernel
theorem GF{n:Nat}(h2:2<=n)(h6:n<=6):(dY n).all (gC n)=true:=by
 have:n=2\/n=3\/n=4\/n=5\/n=6:=by lia
 rcases this with rfl|rfl|rfl|rfl|rfl
 ·exact GL
 ·exact GK
 ·exact GJ
 ·exact GI
 ·exact GH
def lU(key:α->Int)(x:α):List α->List α
 |[]=>[x]
 |y::l=>bif decide (key x<key y)then x::y::l else y::lU key x l
def gS(key:α->Int):List α->List α
 |[]=>[]
 |x::l=>lU key x (gS key l)
theorem iX(key:α->Int)(x:α):∀l,(lU key x l).Perm (x::l)
 |[]=>.refl _
 |y::l=>by
  rw[lU]
  cases decide (key x<key y)with
  |true=>exact .refl _
  |false=>exact((iX key x l).cons y).trans (.swap x y l)
theorem cF(key:α->Int):∀l:List α,(gS key l).Perm l
 |[]=>.refl _
 |x::l=>(iX key x _).trans ((cF key l).cons x)
theorem jj(key:α->Int)(x:α):∀l,l.Pairwise (fun a b=>key a<=key b)->(lU key x l).Pairwise (fun a b=>key a<=key b)
 |[],_=>List.pairwise_singleton _ _
 |y::l,h=>by
  rw[lU]
  obtain⟨h1,h2⟩:=List.pairwise_cons.mp h
  cases hb:decide (key x<key y)with
  |true=>
   have PQ:=of_decide_eq_true hb
   refine .cons (fun b hb=> ?_) h
   rcases bu hb with rfl|hb
   ·exact Int.le_of_lt PQ
   ·exact Int.le_trans (Int.le_of_lt PQ) (h1 b hb)
  |false=>
   have PQ:=of_decide_eq_false hb
   refine .cons (fun b hb=> ?_) (jj key x l h2)
   rcases bu ((iX key x l).mem_iff.mp hb)with rfl|hb
   ·exact Int.not_lt.mp PQ
   ·exact h1 b hb
theorem gI(key:α->Int):∀l:List α,(gS key l).Pairwise (fun a b=>key a<=key b)
 |[]=>.nil
 |x::l=>jj key x _ (gI key l)
theorem qc{β:Type}(f:α->β)(key:β->Int)(x:α):∀l,(lU (fun a=>key (f a)) x l).map f=lU key (f x) (l.map f)
 |[]=>rfl
 |y::l=>by
  rw[lU,List.map_cons,lU]
  cases decide (key (f x)<key (f y))with
  |true=>rfl
  |false=>exact congrArg (f y::·) (qc f key x l)
theorem jW{β:Type}(f:α->β)(key:β->Int):∀l:List α,(gS (fun a=>key (f a)) l).map f=gS key (l.map f)
 |[]=>rfl
 |x::l=>by rw[gS,qc,jW f key l];rfl
theorem yw(key:Nat->Int):∀q:List Nat,q.Pairwise (fun a b=>key a<key b)->∀i j,i∈q->j∈q->Nat.blt (rD q i) (rD q j)=decide (key i<key j)
 |x::l,h,i,j,hi,hj=>by
  obtain⟨h1,h2⟩:=List.pairwise_cons.mp h
  rw[rD,rD]
  cases bi:Nat.beq x i with
  |true=>
   have ei:=Nat.eq_of_beq_eq_true bi
   subst ei
   cases bj:Nat.beq x j with
   |true=>
    have ej:=Nat.eq_of_beq_eq_true bj
    subst ej
    exact(iw (Int.lt_irrefl _)).symm
   |false=>
    have NG:j∈l:=(bu hj).resolve_left fun e=>by subst e;exact Nat.ne_of_beq_eq_false bj rfl
    exact(iu (h1 j NG)).symm
  |false=>
   have PZ:i∈l:=(bu hi).resolve_left fun e=>by subst e;exact Nat.ne_of_beq_eq_false bi rfl
   cases bj:Nat.beq x j with
   |true=>
    have ej:=Nat.eq_of_beq_eq_true bj
    subst ej
    exact(iw fun z=>Int.lt_irrefl _ (Int.lt_trans z (h1 i PZ))).symm
   |false=>
    have NG:j∈l:=(bu hj).resolve_left fun e=>by subst e;exact Nat.ne_of_beq_eq_false bj rfl
    exact yw key l h2 i j PZ NG
theorem mn{key:Nat->Int}:∀q:List Nat,q.Nodup->(∀i j,i∈q->j∈q->key i=key j->i=j)->q.Pairwise (fun a b=>key a<=key b)->q.Pairwise (fun a b=>key a<key b)
 |[],_,_,_=>.nil
 |x::l,hn,hi,h=>by
  obtain⟨h1,h2⟩:=List.pairwise_cons.mp h
  obtain⟨n1,n2⟩:=jM hn
  exact .cons (fun b hb=>Int.lt_iff_le_and_ne.mpr ⟨h1 b hb,fun e=>n1 (by rw[hi x b (.head _) (.tail _ hb) e];exact hb)⟩) (mn l n2 (fun i j a b=>hi i j (.tail _ a) (.tail _ b)) h2)
theorem xH{n:Nat}(h2:2<=n)(h6:n<=6)(key:Nat->Int)(hi:∀i j,i<n->j<n->key i=key j->i=j):
  ∃p:Array Nat,runK n (fun i j=>decide (key i<key j)) (kas_sort n)=some p/\p.toList=gS key (List.range n):=by
 have hp:=cF key (List.range n)
 have mem:∀i,i<n->i∈gS key (List.range n):=fun i h=>hp.mem_iff.mpr (List.mem_range.mpr h)
 have low:∀i,i∈gS key (List.range n)->i<n:=fun i h=>jL (hp.mem_iff.mp h)
 have st:=mn _ (hp.nodup_iff.mpr List.nodup_range) (fun i j a b=>hi i j (low i a) (low j b)) (gI key (List.range n))
 have q:=List.all_eq_true.mp (GF h2 h6) _ (mD n _ hp)
 unfold gC at q
 rw[kD (g:=fun i j=>decide (key i<key j)) (fun i j a b=>yw key _ st i j (mem i a) (mem j b))]at q
 cases hr:runK n (fun i j=>decide (key i<key j)) (kas_sort n)with
 |none=>rw[hr]at q;cases q
 |some p=>rw[hr]at q;exact⟨p,rfl,of_decide_eq_true q⟩
end
section
open PySem PySem.W PySem.W.X PyProof.Rows PySem.Calls
section
variable{prog:Program}{E:Value->Shared->Prop}
theorem hW{n:Nat}(h:n<64):n<=sizeLine:=bP (AB h) (by rw[sizeLine_eq];decide)
theorem pW{a:Addr}{vs:List Value}{n:Nat}{κ:SortKind}{out:List Value}{P:PySem.Fin->Shared->Prop}(ho:s.heap.get? a=some (seqObj "list" vs.toArray n))(FA:vs.length<64)(H0:out.length=vs.length)
  (hk:2<=vs.length->∀h':Heap,(∀b o,b≠a->s.heap.get? b=some o->h'.get? b=some o)->∀Q:SortKind->Shared->Prop,Q κ {s with heap:=h'}->wpAny (model prog w) A (keyKind' vs.toArray) Q (fun _ _=>False) {s with heap:=h'})
  (hr:2<=vs.length->∃p:Array Nat,p.size=vs.length/\(p.toList.map fun i=>vs.getD i Value.none)=out/\∀h':Heap,(∀b o,b≠a->s.heap.get? b=some o->h'.get? b=some o)->∀G:Array Nat->Shared->Prop,G p {s with heap:=h'}->(kas_sort vs.length).kasWp (kas_ask prog w A κ vs) G {s with heap:=h'})
  (hs:vs.length<2->out=vs)
  (h:P (.done (.ret .none)) {s with heap:=sortedHeap s.heap a vs out.toArray}):wpAny (model prog w) A (Builtin.«list.sort» ⟨[.ref a],[]⟩) P E s:=by
 have ha:a<s.heap.objs.size:=Heap.lt_size ho
 obtain⟨e1,PX⟩:∃e1,(s.heap.update a (Obj.mapSeq fun _=>(#[]:Array Value))).get? a=some (seqObj "list" #[] e1):=⟨_,get?_update_seq ho (fun _=> #[])⟩
 rw[list_sort_plain]
 refine aw (listItems_at ho rfl ?_)
 refine aw (listUpdate_at ho rfl ?_ (by rw[List.size_toArray];exact hW FA) (cY _))
 refine aw (seqEpoch_at PX rfl ?_)
 refine aw (wpAny_newTuple ?_ (by show vs.length<=_;exact hW FA))
 refine aw (wpAny_newList ?_ (cY _))
 refine wpAny_holding ?_
 have PV:(((s.heap.update a (Obj.mapSeq fun _=> #[])).push (seqObj "tuple" vs.toArray 0)).push (seqObj "list" #[] 0)).get? a=some (seqObj "list" #[] e1):=by
  rw[Heap.get?_push_ne _ _ _ (by rw[size_push',Heap.size_update];exact Nat.ne_of_lt (Nat.lt_succ_of_lt ha)),Heap.get?_push_ne _ _ _ (by rw[Heap.size_update];exact Nat.ne_of_lt ha)]
  exact PX
 have keep:∀b o,b≠a->s.heap.get? b=some o->(((s.heap.update a (Obj.mapSeq fun _=>(#[]:Array Value))).push (seqObj "tuple" vs.toArray 0)).push (seqObj "list" #[] 0)).get? b=some o:=fun b o hb q=>
  iq _ (iq _ (by rw[Heap.get?_update_ne _ _ _ _ hb];exact q))
 show wpAny (model prog w) A _ P E {s with heap:=((s.heap.update a (Obj.mapSeq fun _=> #[])).push (seqObj "tuple" vs.toArray 0)).push (seqObj "list" #[] 0)}
 dsimp only
 have hsz:vs.toArray.size=vs.length:=by simp
 have PO:(List.toArray out).size<=sizeLine+1:=by rw[List.size_toArray,H0];exact jK (hW FA)
 by_cases h2:vs.toArray.size<2
 ·rw[if_pos h2,if_pos h2]
  refine aw (aX ?_)
  rw[StateT.run_pure]
  refine aw (aX ?_)
  dsimp only
  have e:(arrOf (SortSt.mk' general' (vs.toArray.zip vs.toArray) #[] 7 none)).map (·.2)=out.toArray:=by
   rw[hs (by lia)]
   show((vs.toArray.zip vs.toArray).map (·.2))=_
   rw[List.zip_toArray,List.map_toArray]
   congr 1
   have:∀l:List Value,(l.zip l).map (·.2)=l:=fun l=>by induction l with
    |nil=>rfl
    |cons x l ih=>rw[List.zip_cons_cons,List.map_cons,ih]
   exact this vs
  rw[e]
  refine aw (seqEpoch_at PV rfl ?_)
  refine aw (listUpdate_at PV rfl ?_ (cY _) PO)
  simp only[bne_self_eq_false,Bool.false_eq_true,if_false]
  exact aX h
 ·have TN:2<=vs.length:=by lia
  obtain⟨p,hp,ep,hr⟩:=hr TN
  rw[if_neg h2,if_neg h2]
  refine aw (fg (hk TN _ keep (fun X1 s'=>X1=κ/\s'=_) ⟨rfl,rfl⟩) ?_ fun _ _ x=>x.elim)
  rintro _ _ ⟨rfl,rfl⟩
  refine aw (fg (kat_run (E:=E) (Q:=fun st' s'=>arrOf st'=p.map (kas_item (vs.toArray.zip vs.toArray))/\failedOf st'=none/\s'=_) rfl TN FA (G:=fun p' s'=>p'=p/\s'=_) (fun p' st' s' _ a2 a3 a4=>⟨a4.1▸a2,a3,a4.2⟩) (hr _ keep _ ⟨rfl,rfl⟩)) ?_ fun _ _ e=>e)
  rintro⟨⟨⟩,st'⟩ s' ⟨Zq,hf,rfl⟩
  dsimp only
  rw[kat_snds rfl Zq,ep]
  refine aw (seqEpoch_at PV rfl ?_)
  refine aw (listUpdate_at PV rfl ?_ (cY _) PO)
  rw[hf]
  simp only[bne_self_eq_false,Bool.false_eq_true,if_false]
  exact aX h
theorem xG{l:Addr}{vs out:List Value}{κ:SortKind}(hl:s.heap.IsList l vs.toArray)(FA:vs.length<64)(H0:out.length=vs.length)
  (hk:2<=vs.length->∀(A:Around) (h':Heap),(∀b o,s.heap.get? b=some o->h'.get? b=some o)->∀Q:SortKind->Shared->Prop,Q κ {s with heap:=h'}->wpAny (Mo w) A (keyKind' vs.toArray) Q (fun _ _=>False) {s with heap:=h'})
  (hr:2<=vs.length->∃p:Array Nat,p.size=vs.length/\(p.toList.map fun i=>vs.getD i Value.none)=out/\∀(A:Around) (h':Heap),(∀b o,s.heap.get? b=some o->h'.get? b=some o)->∀G:Array Nat->Shared->Prop,G p {s with heap:=h'}->(kas_sort vs.length).kasWp (kas_ask pw w A κ vs) G {s with heap:=h'})
  (hs:vs.length<2->out=vs)
  (h:∀e,(sortedAll s.heap vs out.toArray).get? (s.heap.objs.size+1)=some (seqObj "list" out.toArray e)->R (.ok (.ret (.ref (s.heap.objs.size+1)))) {s with heap:=sortedAll s.heap vs out.toArray}):
  codeAny (Mo w) A (.call (.builtin "sorted") ⟨[.ref l],[]⟩) R s:=by
 refine oz kind_sorted plain_sorted entry_sorted (args_sorted1 _) ?_
 unfold Builtin.«sorted»
 refine aw (m:=checkCount "sorted" 1 1 _) (aX ?_)
 refine aw (collect_list hl ?_ (hW FA))
 refine aw (wpAny_newList ?_ (hW FA))
 have hsz:((s.heap.push (seqObj "list" #[] 0)).update s.heap.objs.size (Obj.mapSeq (·++vs.toArray))).objs.size=s.heap.objs.size+1:=by
  rw[Heap.size_update,size_push']
 have WN:(((s.heap.push (seqObj "list" #[] 0)).update s.heap.objs.size (Obj.mapSeq (·++vs.toArray))).push (seqObj "list" vs.toArray 0)).get? (s.heap.objs.size+1)=some (seqObj "list" vs.toArray 0):=by
  rw[<-hsz];exact Heap.get?_push_size _ rfl
 have keep:∀b o,s.heap.get? b=some o->(((s.heap.push (seqObj "list" #[] 0)).update s.heap.objs.size (Obj.mapSeq (·++vs.toArray))).push (seqObj "list" vs.toArray 0)).get? b=some o:=fun b o q=>by
  have n8:b<s.heap.objs.size:=Heap.lt_size q
  rw[Heap.get?_push_ne _ _ _ (by rw[hsz];exact Nat.ne_of_lt (Nat.lt_succ_of_lt n8)),Heap.get?_update_ne _ _ _ _ (Nat.ne_of_lt n8),Heap.get?_push_ne _ _ _ (Nat.ne_of_lt n8)]
  exact q
 have Fn:∀h':Heap,(∀b o,b≠s.heap.objs.size+1->(((s.heap.push (seqObj "list" #[] 0)).update s.heap.objs.size (Obj.mapSeq (·++vs.toArray))).push (seqObj "list" vs.toArray 0)).get? b=some o->h'.get? b=some o)->∀b o,s.heap.get? b=some o->h'.get? b=some o:=fun h' k b o q=>
  k b o (Nat.ne_of_lt (Nat.lt_succ_of_lt (Heap.lt_size q))) (keep b o q)
 show wpAny _ _ _ _ _ {s with heap:=((s.heap.push (seqObj "list" #[] 0)).update s.heap.objs.size (Obj.mapSeq (·++vs.toArray))).push (seqObj "list" vs.toArray 0)}
 rw[hsz]
 obtain⟨e,he⟩:=sortedAll_at s.heap vs out.toArray
 refine aw (wpAny_holding (wpAny_call_entry slot_list_sort ⟨_,WN,rfl⟩ entry_list_sort (pW (κ:=κ) (out:=out) WN FA H0 (fun q h' k Q=>hk q _ h' (Fn h' k) Q) (fun q=> ?_) hs ⟨_,rfl,?_⟩) (args_list_sort _)))
 ·obtain⟨p,p1,p2,p3⟩:=hr q
  exact⟨p,p1,p2,fun h' k G=>p3 _ h' (Fn h' k) G⟩
 ·exact aX (h e he)
end
end
section
open PySem PySem.W PySem.W.X PyProof.Rows PySem.Builtin.Str
section
variable(w:World)
noncomputable abbrev P7:Expr:=bf (valOf (aK w 318 [5,2])) [0]
noncomputable abbrev FE(fr it acc loc:Addr):Code:=.compLoop (P7 w) 0 (.ref it) (.ref acc) (compEnv (dj w 318 fr) loc [] (P7 w))
noncomputable abbrev Zw(fr it acc loc:Addr):Code:=.compStart (P7 w) 0 (.ref it) (.ref acc) (compEnv (dj w 318 fr) loc [] (P7 w))
def FD(g:Nat->Tok)(f:gQ):Obj:=U #[aH w "last" (g 0) (.int f.d.1 f.t1),aH w "place" (g 1) (.int f.d.2.1 f.t2),aH w "name" (g 2) (.str f.d.2.2.1 f.d.2.2.2)] 3
end
section
variable(fr it acc loc L:Addr)
theorem TR(f:gQ)(xs zs:List Value)(eL ea k:Nat)(hv:xs[k]? =some (.ref f.ad))(hz:zs.length<1000000)(fs:List Env)(ν:Nu):
  aT 21866 (.ok (.again (FE w fr it acc loc))) [(it,⟨(.type "list_iterator"),none,(.fields #[(.ref L),(.int (↑(k+1)) 0)]),#[]⟩),(acc,ah ((zs++[Value.str f.d.snd.snd.fst f.d.snd.snd.snd]).toArray) (ea+1)),(loc,U #[aH w "last" ((ν 4).fst 0) (.int f.d.fst f.t1),aH w "place" ((ν 5).fst 0) (.int ↑f.d.snd.fst f.t2),aH w "name" ((ν 6).fst 0) (.str f.d.snd.snd.fst f.d.snd.snd.snd)] 3),(L,aj xs eL),fi f]
   (bW w ν 125 none (some (20,fs)) (FE w fr it acc loc) [(it,aZ (.ref L) k),(acc,aj zs ea),(loc,U #[] 0),(L,aj xs eL),fi f] NQ [K (cu xs k (.ref f.ad) hv),K (av zs hz)]):=by kernel_rfl
theorem TQ(f f0:gQ)(g:Nat->Tok)(xs zs:List Value)(eL ea k:Nat)(hv:xs[k]? =some (.ref f.ad))(hz:zs.length<1000000)(fs:List Env)(ν:Nu):
  aT 21866 (.ok (.again (FE w fr it acc loc))) [(it,⟨(.type "list_iterator"),none,(.fields #[(.ref L),(.int (↑(k+1)) 0)]),#[]⟩),(acc,ah ((zs++[Value.str f.d.snd.snd.fst f.d.snd.snd.snd]).toArray) (ea+1)),(loc,U #[aH w "last" (g 0) (.int f.d.fst f.t1),aH w "place" (g 1) (.int ↑f.d.snd.fst f.t2),aH w "name" (g 2) (.str f.d.snd.snd.fst f.d.snd.snd.snd)] 3),(L,aj xs eL),fi f]
   (bW w ν 125 none (some (20,fs)) (FE w fr it acc loc) [(it,aZ (.ref L) k),(acc,aj zs ea),(loc,FD w g f0),(L,aj xs eL),fi f] NQ [K (cu xs k (.ref f.ad) hv),K (av zs hz)]):=by kernel_rfl
theorem TP(xs:List Value)(eL k:Nat)(hv:xs[k]? =none)(fs:List Env)(ν:Nu):
  aT 90 (.ok .next) [(it,⟨(.type "list_iterator"),none,(.fields #[.none,(.int ↑k 0)]),#[]⟩),(L,aj xs eL)]
   (runC w ν 45 none (some (20,fs)) (FE w fr it acc loc) [(it,aZ (.ref L) k),(L,aj xs eL)] 69793230912 [K (da xs k hv)]):=by kernel_rfl
end
def wW(f:gQ):Value:=.str f.d.2.2.1 f.d.2.2.2
def Ih(it acc loc L:Addr)(io lo:Obj)(zs xs:List Value)(ea eL:Nat):Led:=[(it,io),(acc,aj zs ea),(loc,lo),(L,aj xs eL)]
noncomputable def dz:List gQ->gQ
 |[]=>⟨0,(0,0,(⟨#[]⟩,0)),0,0⟩
 |[f]=>f
 |_::l=>dz l
theorem CT(fr it acc loc L:Addr)(f:gQ)(xs zs:List Value)(eL ea k:Nat)(hv:xs[k]? =some (.ref f.ad))(hz:zs.length<1000000)(lo:Obj)(uB:lo=U #[] 0\/E2 fun g f0=>lo=FD w g f0)(fs:List Env):
  E5 fun(n hs m:Nat) (sm:List (Nu->aJ w)) (g:Nu->Nat->Tok)=>∀ν,aT m (.ok (.again (FE w fr it acc loc))) (Ih it acc loc L (aZ (.ref L) (k+1)) (FD w (g ν) f) (zs++[wW f]) xs (ea+1) eL++[fi f])
   (bW w ν n none (some (20,fs)) (FE w fr it acc loc) (Ih it acc loc L (aZ (.ref L) k) lo zs xs ea eL++[fi f]) hs sm):=by
 rcases uB with rfl|⟨g,f0,rfl⟩
 ·exact⟨_,_,_,_,fun ν i=>match i with|0=>(ν 4).1 0|1=>(ν 5).1 0|_=>(ν 6).1 0,TR fr it acc loc L f xs zs eL ea k hv hz fs⟩
 ·exact⟨_,_,_,_,fun _=>g,TQ fr it acc loc L f f0 g xs zs eL ea k hv hz fs⟩
theorem uF(fr it acc loc L:Addr)(eL:Nat)(fl:List gQ)(hn:fl.length<1000)(fs:List Env)(A:Around)(hr:cP (some (20,fs)) A)(hh:A.handled=none):∀(rest pre:List gQ) (lo:Obj) (s:Shared),
  fl=pre++rest->(lo=U #[] 0\/E2 fun g f0=>lo=FD w g f0)->Frames (TW w) s fs->Sat (TW w) s (Ih it acc loc L (aZ (.ref L) pre.length) lo (pre.map wW) (fl.map fv) pre.length eL++fl.map fi)->
  codeAny (Mo w) A (FE w fr it acc loc) (fun r s'=>∃Co,.ok .next=r/\(rest=[]->Co=lo)/\(rest≠[]->∃g,Co=FD w g (dz rest))/\
   Done (T:=TW w) s s' (Ih it acc loc L (aZ (.ref L) pre.length) lo (pre.map wW) (fl.map fv) pre.length eL++fl.map fi) (Ih it acc loc L (aZ .none fl.length) Co (fl.map wW) (fl.map fv) fl.length eL++fl.map fi)) s
 |[],pre,lo,s,e,uB,hf,h=>by
  rw[List.append_nil]at e
  subst e
  have hp:([(it,aZ (.ref L) fl.length),(L,aj (fl.map fv) eL)]++([(acc,aj (fl.map wW) fl.length),(loc,lo)]++fl.map fi)).Perm (Ih it acc loc L (aZ (.ref L) fl.length) lo (fl.map wW) (fl.map fv) fl.length eL++fl.map fi):=
   List.Perm.cons _ ((dy (l₁:=[_]) (l₂:=[_,_])).append_right _)
  refine cQ (yn (fun ν=>TP fr it acc loc L (fl.map fv) eL fl.length (by rw[List.getElem?_eq_none];rw[List.length_map];exact bC _) fs ν) hh hr hf ((h.perm hp).sub (jO _ _))) fun r s' q=> ?_
  obtain⟨ν,q,d⟩:=q
  exact⟨lo,q,fun _=>rfl,fun hZ=>absurd rfl hZ,(Done.part h hp d).perm (List.Perm.cons _ ((dy (l₁:=[_,_]) (l₂:=[_])).append_right _))⟩
 |f::rest,pre,lo,s,e,uB,hf,h=>by
  have hv:(fl.map fv)[pre.length]? =some (.ref f.ad):=by
   rw[e,List.getElem?_map,List.getElem?_append_right (Nat.le_refl _),Nat.sub_self]
   rfl
  have h2:fl.length=pre.length+(rest.length+1):=by rw[e,List.length_append,List.length_cons]
  have hz:(pre.map wW).length<1000000:=by rw[List.length_map];lia
  obtain⟨n,WJ,m,sm,g,run⟩:=CT (w:=w) fr it acc loc L f (fl.map fv) (pre.map wW) eL pre.length pre.length hv hz lo uB fs
  have hp:∀B:Led,((B++[fi f])++(pre.map fi++rest.map fi)).Perm (B++fl.map fi):=fun B=>by
   rw[e,List.map_append,List.map_cons,List.append_assoc]
   exact List.Perm.append_left _ (lY (a:=fi f) (l₁:=pre.map fi) (l₂:=rest.map fi)).symm
  refine wI (by kernel_rfl) hf (yk (rm:=some (20,fs)) run hh hr hf ((h.perm (hp _)).sub (jO _ _))) fun ν s' d Zj=> ?_
  have d1:=(Done.part h (hp _) d).perm (hp _).symm
  have ek:pre.map wW++[wW f]=(pre++[f]).map wW:=by rw[List.map_append];rfl
  have el:pre.length+1=(pre++[f]).length:=by rw[List.length_append];rfl
  rw[ek,el]at d1
  refine cQ (uF fr it acc loc L eL fl hn fs A hr hh rest (pre++[f]) _ s' (by rw[e,List.append_assoc];rfl) (.inr ⟨_,_,rfl⟩) Zj d1.sat) fun q dB z=> ?_
  obtain⟨vD,z1,z2,z3,z4⟩:=z
  refine⟨vD,z1,fun q=>absurd q (eU _ _),fun _=> ?_,d1.trans z4⟩
  cases rest with
  |cons=>exact z3 (eU _ _)
  |nil=>exact⟨_,z2 rfl⟩
theorem Ad{h':Heap}{L:Led}{a:Addr}{o:Obj}{k:Nat}(h:Sat (TW w) s L)(hk:∀b x,s.heap.get? b=some x->h'.get? b=some x)(e:h'.get? a=some o)(ha:s.heap.objs.size<=a)(hb:bq o=false)(hn:¬bh o):Done (T:=TW w) s {s with heap:=h',toks:=k} L ((a,o)::L):=by
 have d1:Done (T:=TW w) s {s with heap:=h',toks:=k} L L:=il h hk
 refine⟨⟨fun p hp=> ?_,?_,fun p hp=> ?_,d1.sat.top,d1.sat.size⟩,d1.iD,fun p hp=> ?_⟩
 ·rcases bu hp with rfl|hp
  ·exact⟨o,e,bU.dp hb hn⟩
  ·exact d1.sat.get p hp
 ·rw[List.map_cons,List.nodup_cons]
  refine⟨fun hm=> ?_,h.nd⟩
  obtain⟨p,hp,q⟩:=cz hm
  obtain⟨x,e',_⟩:=h.get p hp
  exact absurd (Heap.lt_size e') (by rw[q];exact Nat.not_lt.mpr ha)
 ·rcases bu hp with rfl|hp
  ·exact bP h.size ha
  ·exact h.low p hp
 ·rcases bu hp with rfl|hp
  ·exact .inr (Heap.get?_none_of_le ha)
  ·exact .inl (gN hp)
noncomputable def fG(d:Dat):Int:=d.1*1000+d.2.1
def cE(f:gQ):Int:=fG f.d
theorem e6(key:α->Int)(l:List α):(gS key l).length=l.length:=(cF key l).length_eq
theorem sP(h:Heap):∀fl:List gQ,(∀f∈fl,h.get? f.ad=some (fi f).2)->KatTups h (fl.map fv) (fl.map fun f=>.int f.d.1 f.t1)
 |[],_=>KatTups.nil
 |f::fl,k=>KatTups.cons (k f (.head _)) rfl rfl rfl (sP h fl fun f h=>k f (.tail _ h))
theorem vO{M:Model}{h:Heap}(n:Int)(t:Tok):Looks M h (typeOf (.int n t)) (.type "int"):=Looks.of_pure rfl
theorem Gs{C:Bool->Shared->Prop}{f g:gQ}(hf:s.heap.get? f.ad=some (fi f).2)(hg:s.heap.get? g.ad=some (fi g).2)(lf:f.d.2.1<1000)(lg:g.d.2.1<1000)(hn:cE f=cE g->f=g)(h:C (decide (cE f<cE g)) s):
  wpAny (Mo w) A (keyLt' (tuples' true) (fv f) (fv g)) C (fun _ _=>False) s:=by
 refine kat_lt hf rfl hg rfl ?_
 show KatLex pw w A true false C [(.int f.d.1 f.t1,.int g.d.1 g.t1),(.int f.d.2.1 f.t2,.int g.d.2.1 g.t2),(.str f.d.2.2.1 f.d.2.2.2,.str g.d.2.2.1 g.d.2.2.2)] 0 s
 refine kat_cons (wpAny_eqBool_int ?_)
 unfold cE fG at h hn
 cases h1:f.d.1==g.d.1 with
 |false=>
  have n1:f.d.1≠g.d.1:=fun e=>by rw[e,beq_self_eq_true]at h1;cases h1
  refine kat_no (oneLt_int ?_)
  rw[show decide (f.d.1<g.d.1)=decide (f.d.1*1000+(f.d.2.1:Int)<g.d.1*1000+(g.d.2.1:Int))from decide_eq_decide.mpr (by lia)]
  exact h
 |true=>
  have e1:=eq_of_beq h1
  refine kat_yes (kat_cons (wpAny_eqBool_int ?_))
  cases h2:(f.d.2.1:Int)==(g.d.2.1:Int)with
  |false=>
   refine kat_no (kat_one _ _ (wpAny_lt_int ?_))
   rw[show decide ((f.d.2.1:Int)<g.d.2.1)=decide (f.d.1*1000+(f.d.2.1:Int)<g.d.1*1000+(g.d.2.1:Int))from decide_eq_decide.mpr (by lia)]
   exact h
  |true=>
   have e2:=eq_of_beq h2
   have e:f=g:=hn (by lia)
   subst e
   refine kat_yes (kat_cons (wpAny_eqBool_str ?_))
   rw[decide_eq_true (rfl:f.d.2.2.1=f.d.2.2.1)]
   refine kat_yes (kat_nil ?_)
   rw[show decide (f.d.1*1000+(f.d.2.1:Int)<f.d.1*1000+(f.d.2.1:Int))=false from decide_eq_false (Int.lt_irrefl _)]at h
   exact h
theorem qC{fe:Addr}{fl:List gQ}{ep:Nat}(hl:fl.length<=6)(hp:∀f∈fl,f.d.2.1<1000)(hd:(fl.map cE).Nodup)(h:Sat (TW w) s ((fe,aj (fl.map fv) ep)::fl.map fi)):
  codeAny (Mo w) A (.call (.builtin "sorted") ⟨[.ref fe],[]⟩) (fun r s'=>E2 fun a e=>.ok (.ret (.ref a))=r/\Done (T:=TW w) s s' ((fe,aj (fl.map fv) ep)::fl.map fi) ((a,aj ((gS cE fl).map fv) e)::(fe,aj (fl.map fv) ep)::fl.map fi)) s:=by
 have ho:s.heap.get? fe=some (aj (fl.map fv) ep):=h.at (.head _) (ar _ _)
 have hO:∀f∈fl,s.heap.get? f.ad=some (fi f).2:=fun f hf=>h.at (.tail _ (gN (f:=fi) hf)) (cf _ _)
 have hv:(fl.map fv).length=fl.length:=List.length_map ..
 have inj:∀i j,i<fl.length->j<fl.length->cE (fl.getD i (dz []))=cE (fl.getD j (dz []))->i=j:=fun i j hi hj e=>by
  have PZ:i<(fl.map cE).length:=by rw[List.length_map];exact hi
  have NG:j<(fl.map cE).length:=by rw[List.length_map];exact hj
  refine(List.getElem_inj (h₀:=PZ) (h₁:=NG) hd).mp ?_
  rw[List.getElem_map,List.getElem_map]
  simpa[List.getD_eq_getElem?_getD,hi,hj]using e
 have at':∀i,i<fl.length->(fl.map fv).getD i Value.none=fv (fl.getD i (dz [])):=fun i hi=>by
  simp[List.getD_eq_getElem?_getD,hi]
 have mem:∀i,i<fl.length->fl.getD i (dz [])∈fl:=fun i hi=>by
  rw[List.getD_eq_getElem?_getD,List.getElem?_eq_getElem hi]
  exact List.getElem_mem hi
 refine xG (κ:=tuples' true) (out:=(gS cE fl).map fv) ⟨_,ho,rfl,_,rfl⟩ (by lia) (by rw[List.length_map,e6,hv]) (fun h2 A h' k Q q=> ?_) (fun h2=> ?_) (fun h2=> ?_) fun e he=>⟨_,e,rfl,?_⟩
 ·exact kat_kind (T:=.type "int") (sP h' fl fun f hf=>k _ _ (hO f hf)) (by rw[List.length_map];lia) (fun v hv=>by
   obtain⟨f,_,rfl⟩:=cz hv
   exact vO _ _) rfl q
 ·rw[hv]at h2⊢
  obtain⟨p,p1,p2⟩:=xH h2 hl (fun i=>cE (fl.getD i (dz []))) inj
  have pm:∀i∈p.toList,i<fl.length:=fun i hi=>by
   rw[p2]at hi
   exact jL ((cF _ _).mem_iff.mp hi)
  have rg:(List.range fl.length).map (fun i=>fl.getD i (dz []))=fl:=by
   apply List.ext_getElem
   ·rw[List.length_map,List.length_range]
   ·intro i a b
    simp[List.getD_eq_getElem?_getD,b]
  refine⟨p,?_,?_,fun A h' k G hG=> ?_⟩
  ·rw[<-Array.length_toList,p2,e6,List.length_range]
  ·rw[List.map_congr_left fun i hi=>at' i (pm i hi),p2]
   rw[show(fun i=>fv (fl.getD i (dz [])))=fv∘(fun i=>fl.getD i (dz []))from rfl,<-List.map_map,jW (fun i=>fl.getD i (dz [])) cE,rg]
  ·refine tE (lt:=fun i j=>decide (cE (fl.getD i (dz []))<cE (fl.getD j (dz [])))) (fun i j C hi hj hC=> ?_) hG _ p1
   unfold kas_ask
   rw[at' i hi,at' j hj]
   exact Gs (k _ _ (hO _ (mem i hi))) (k _ _ (hO _ (mem j hj))) (hp _ (mem i hi)) (hp _ (mem j hj)) (fun e=>by rw[inj i j hi hj e]) hC
 ·rw[hv]at h2
  cases fl with
  |nil=>rfl
  |cons f l=>cases l with
   |nil=>rfl
   |cons=>exact absurd h2 (by simp)
 ·exact Ad (k:=s.toks) h (fun b o q=>sortedAll_old q) he (Nat.le_succ _) rfl (ar _ _)
def Ez(D:List Dat)(g:Nat->Nat):aD w (Addr×Nat)where
 find _ pre _:=some ((az pre 0).1,bp (az pre 0).2)
 code y:=.call (.builtin "sorted") ⟨[.ref y.1],[]⟩
 pre y:=[(y.1,aj ((cI g D 0).map fv) y.2)]
 tail _:=(cI g D 0).map fi
 r _ m:=.ok (.ret (.ref (m.1 0)))
 post y _:=[aj ((cI g D 0).map fv) y.2]
 new _ m:=[(m.1 0,aj ((gS cE (cI g D 0)).map fv) (m.1 1))]
 rest _ _:=(cI g D 0).map fi
structure oF(D:List Dat):Prop where
 len:D.length<=6
 low:∀d∈D,d.2.1<1000
 nd:(D.map fG).Nodup
theorem pS(g:Nat->Nat)(D:List Dat):(cI g D 0).length=D.length:=by
 have:=congrArg List.length (kM g D 0)
 rw[List.length_map]at this
 exact this
section
variable(D:List Dat)(g:Nat->Nat)
theorem Bo(hD:oF D):(Ez (w:=w) D g).Ok:=by
 intro y fs A s Rz ii _ kk
 refine cQ (qC (by rw[pS];exact hD.len) (fun f hf=> ?_) ?_ ii.hs) fun r s' q=> ?_
 ·refine hD.low _ ?_
  have:=gN (f:=fun x:gQ=>x.d) hf
  rwa [kM]at this
 ·have e:(cI g D 0).map cE=D.map fG:=by
   rw[show(cE:gQ->Int)=fG∘(fun x=>x.d)from rfl,<-List.map_map,kM]
  rw[e];exact hD.nd
 ·obtain⟨a,e,q,d⟩:=q
  exact wo q (kk ((fun i=>match i with|0=>a|_=>e,fun _=>[])) s' rfl (d.perm (List.Perm.swap _ _ _)))
def GO(hD:oF D):aJ w:=(Ez D g).sm (Bo D g hD)
end
noncomputable def zf:List Dat->Dat
 |[]=>(0,0,(⟨#[]⟩,0))
 |[d]=>d
 |_::l=>zf l
theorem uk:∀l:List gQ,(dz l).d=zf (l.map (·.d))
 |[]=>rfl
 |[f]=>rfl
 |_::f::l=>uk (f::l)
def fY(D:List Dat):List (Str×Tok):=(gS fG D).map (·.2.2)
structure GmX where
 x:CX
 L:Addr
 e:Nat
section
variable(D:List Dat)(g:Nat->Nat)
def P6(gs:List (Str×Tok)):aD w GmX where
 lv:=some 20
 bare:=true
 find c pre _:=(gK c).map fun x=>⟨x,(az pre 3).1,bp (az pre 3).2⟩
 code y:=Zw w y.x.fr y.x.it y.x.acc y.x.loc
 pre y:=[(y.x.it,aZ (.ref y.L) 0),(y.x.acc,ah #[] 0),(y.x.loc,U #[] 0),(y.L,aj ((gS cE (cI g D 0)).map fv) y.e)]
 tail _:=(cI g D 0).map fi
 r _ _:=.ok .next
 post y m:=[aZ .none D.length,aj (gs.map ao) D.length,(match D with
  |[]=>U #[] 0
  |_::_=>FD w m.1 ⟨0,zf (gS fG D),m.1 3,m.1 4⟩),aj ((gS cE (cI g D 0)).map fv) y.e]
theorem NW(hD:D.length<1000):(P6 (w:=w) D g (fY D)).Ok:=by
 intro y fs A s Rz ii _ kk
 have ho:s.heap.get? y.x.it=some (aZ (.ref y.L) 0):=ii.hs.at (.head _) (aa rfl)
 refine bO (by kernel_rfl) ?_ fun E=>cM (n:="list_iterator") rfl ⟨_,ho,rfl⟩
 have hlen:(gS cE (cI g D 0)).length=D.length:=by rw[e6,pS]
 have hd:(gS cE (cI g D 0)).map (·.d)=gS fG D:=by
  rw[show(cE:gQ->Int)=(fun f=>fG ((fun x:gQ=>x.d) f))from rfl,jW (fun x:gQ=>x.d) fG,kM]
 have hp:(Ih y.x.it y.x.acc y.x.loc y.L (aZ (.ref y.L) 0) (U #[] 0) [] ((gS cE (cI g D 0)).map fv) 0 y.e++(gS cE (cI g D 0)).map fi).Perm ((P6 (w:=w) D g (fY D)).pre y++(P6 (w:=w) D g (fY D)).tail y):=
  List.Perm.append_left _ ((cF cE _).map fi)
 refine cQ (uF y.x.fr y.x.it y.x.acc y.x.loc y.L y.e (gS cE (cI g D 0)) (by rw[hlen];exact hD) fs A ii.hr (ii.hh rfl) (gS cE (cI g D 0)) [] _ s rfl (.inl rfl) ii.hf (ii.hs.perm hp)) fun r s' q=> ?_
 obtain⟨Co,q1,q2,q3,d⟩:=q
 have d2:=(d.pre fun a ha=>(hp.map _).subset ha).sel (jO _ _)
 have e1:(gS cE (cI g D 0)).map wW=(fY D).map ao:=by
  unfold fY
  rw[<-hd,List.map_map,List.map_map];rfl
 rw[hlen,e1]at d2
 cases D with
 |nil=>
  rw[q2 rfl]at d2
  exact wo q1 (kk eQ s' rfl d2)
 |cons x l=>
  obtain⟨g',rfl⟩:=q3 (fun e=>by rw[e]at hlen;cases hlen)
  refine wo q1 (kk ((fun i=>match i with|0=>g' 0|1=>g' 1|2=>g' 2|3=>(dz (gS cE (cI g (x::l) 0))).t1|_=>(dz (gS cE (cI g (x::l) 0))).t2,fun _=>[])) s' rfl ?_)
  have e2:∀f:gQ,FD w g' f=FD w (fun i=>match i with|0=>g' 0|1=>g' 1|2=>g' 2|3=>f.t1|_=>f.t2) ⟨0,f.d,f.t1,f.t2⟩:=fun _=>rfl
  rw[e2,uk,hd]at d2
  exact d2
def Rl(hD:D.length<1000)(gs:List (Str×Tok))(Tq:fY D=gs):aJ w:=(P6 D g gs).sm (by subst Tq;exact NW D g hD)
end
theorem tV(n:Int):0<=hJ n/\hJ n<1000000:=⟨ip _ (by decide),Int.fmod_lt_of_pos _ (by decide)⟩
theorem q6:∀(l:List Int),0<=cm (l.map hJ)/\cm (l.map hJ)<=1000000*l.length
 |[]=>⟨Int.le_refl 0,Int.le_refl 0⟩
 |n::l=>by
  have h1:=tV n
  have h2:=q6 l
  rw[List.map_cons,cm,List.length_cons]
  lia
theorem Uq(l:List Int)(hl:l.length<=4):AG (l.map hJ):=fun j hj=>by
 rw[List.length_map]at hj
 have h1:(l.map hJ).getD j 0=hJ (l.getD j 0):=by
  rw[List.getD_eq_getElem?_getD,List.getElem?_map,List.getD_eq_getElem?_getD,List.getElem?_eq_getElem hj];rfl
 have h2:=tV (l.getD j 0)
 have h3:=q6 (l.take (j+1))
 rw[h1,<-List.map_take]
 have h4:(l.take (j+1)).length<=4:=bP (List.length_take_le _ _) (by lia)
 exact⟨⟨by lia,by lia⟩,⟨by lia,by lia⟩⟩
section
variable(ns:List Int)
theorem pM(hn:ns.length<=63)(k:Nat):(gq ns k).length<=4:=by
 unfold gq
 refine bP (List.length_filterMap_le _ _) ?_
 unfold sliceRange sliceBounds
 simp only[Option.getD_some,List.length_map,List.length_range]
 have e1:((18:Int)>0):=by decide
 simp only[if_pos e1]
 rw[if_neg (show¬(k:Int)<0 by lia)]
 split
 ·rw[Int.toNat_le]
  lia
 ·exact cY 4
def dG(k:Nat):Int:=cJ.getD k 0+cm ((gq ns k).map hJ)
def eI(k:Nat):List Int:=(List.range k).map (dG ns)
theorem Gq(hn:ns.length<=63)(k:Nat)(hk:k<18):0<=dG ns k/\dG ns k<10000000:=by
 have h1:=q6 (gq ns k)
 have h2:=pM ns hn k
 have h3:0<=cJ.getD k 0/\cJ.getD k 0<100000:=by
  have:∀k,k<18->0<=cJ.getD k 0/\cJ.getD k 0<100000:=by decide
  exact this k hk
 unfold dG
 lia
end
theorem di(n:Int)(t:Tok)(f:Nat->Tok):∀(l:List Int) (k:Nat),aq l f k++[Value.int n t]=aq (l++[n]) (fun i=>if i=k+l.length then t else f i) k
 |[],k=>by simp[aq]
 |y::l,k=>by
  have cg:∀(l:List Int) (f g:Nat->Tok) (k:Nat),(∀i,k<=i->f i=g i)->aq l f k=aq l g k:=by
   intro l
   induction l with
   |nil=>intros;rfl
   |cons y l ih=>intro f g k h;rw[aq,aq,h k (Nat.le_refl k),ih f g _ fun i hi=>h i (by lia)]
  rw[List.cons_append,aq,aq,List.cons_append,di n t f l (Nat.succ k),if_neg (by simp)]
  congr 1
  refine cg _ _ _ _ fun i hi=> ?_
  have e:(i=Nat.succ k+l.length)=(i=k+(y::l).length):=by
   simp only[List.length_cons,eq_iff_iff];lia
  simp only[e]
theorem zN(k:Nat)(hk:k<18):cJ[((k:Int)).toNat]? =some (cJ.getD k 0):=by
 have:k<cJ.length:=hk
 rw[show((k:Int)).toNat=k by lia,List.getD_eq_getElem?_getD,List.getElem?_eq_getElem this]
 rfl
section
variable(ns:List Int)(k:Nat)
theorem uY:eI ns (k+1)=eI ns k++[cJ.getD k 0+cm ((gq ns k).map hJ)]:=by
 unfold eI
 rw[List.range_succ,List.map_append]
 rfl
theorem xh:(eI ns k).length=k:=by unfold eI;rw[List.length_map,List.length_range]
end
section
variable(ns:List Int)(hn:ns.length<=63)(g f:Nat->Tok)(fr it acc loc c1 c2 sc fx:Addr)(es ef:Nat)(fs:List Env)
noncomputable def QE(k j:Nat)(h:Nat->Tok)(ea:Nat)(o:Option (Tok×Value))(w:World):Led:=QF ns g f k j it acc loc c1 c2 sc fx es ef ea (aq (eI ns k) h 0) o w
include hn
theorem A6(j:Nat):∀(k:Nat) (h:Nat->Tok) (ea:Nat) (o:Option (Tok×Value)) (s:Shared),k+j=18->In w (some 24) true fs A s (QE ns g f it acc loc c1 c2 sc fx es ef k j h ea o w)->
  (∀h' qQ o' s',(o.isSome=true\/j≠0->o'.isSome=true)->Done (T:=TW w) s s' (QE ns g f it acc loc c1 c2 sc fx es ef k j h ea o w) (QE ns g f it acc loc c1 c2 sc fx es ef 18 0 h' qQ o' w)->R (.ok .next) s')->codeAny (Mo w) A (Pk w fr it acc loc c1 c2) R s:=by
 induction j with
 |zero=>
  intro k h ea o s e ii kk
  cases (show k=18 from e)
  exact(ii.sub (jO [_] _)).code (fun ν=>QC fr it acc loc c1 c2 18 fs ν) fun ν s' d=>kk h ea o s' (fun h=>h.resolve_right (absurd rfl)) (Done.frame (R:=[_,_,_,_,_,_]) ii.hs d)
 |succ j ih=>
  intro k h ea o s e ii kk
  have hk:k<18:=by lia
  have hx:(aq (eI ns k) h 0).length<1000000:=by rw[aP,xh];exact Nat.lt_trans hk (by decide)
  have h4:=pM ns hn k
  refine ii.turn (by kernel_rfl) (fun ν=>QB ns (cW hn (by decide)) g f k (j+1:Nat) (Int.ofNat_lt.mpr (Nat.succ_pos j)) (cJ.getD k 0) (Int.natCast_nonneg k) (zN k hk) _ h4 (Uq _ h4) rfl fr it acc loc c1 c2 sc fx es ef ea (aq (eI ns k) h 0) hx o fs ν) fun ν s' d=> ?_
  rw[di,<-uY,show((j+1:Nat):Int)-1=(j:Int)from Int.add_sub_cancel (j:Int) 1]at d
  exact ih (k+1) _ _ _ s' (by lia) (ii.go d) fun h' qQ o' dB ho d2=>kk h' qQ o' dB (fun _=>ho (.inl rfl)) (d.trans d2)
end
structure Z4 where
 x:CX
 c1:Addr
 c2:Addr
 fx:Addr
 sc:Addr
section
variable(ns:List Int)
def VA(g f:Nat->Tok)(ef es:Nat):aD w Z4 where
 lv:=some 24
 bare:=true
 find c pre _:=(gK c).map fun x=>⟨x,(az pre 3).1,(az pre 4).1,(az pre 5).1,(az pre 6).1⟩
 code y:=X6 w y.x.fr y.x.it y.x.acc y.x.loc y.c1 y.c2
 pre y:=[(y.x.it,ai 0 18),(y.x.acc,ah #[] 0),(y.x.loc,U #[] 0),(y.c1,ay (.ref y.sc)),(y.c2,ay (.ref y.fx)),(y.fx,aj (aq cJ f 0) ef),(y.sc,aj (aq ns g 0) es)]
 r _ _:=.ok .next
 post y m:=[ai 18 0,aj (aq (eI ns 18) (fun i=>m.1 (i+4)) 0) (m.1 0),bD w "k" (m.1 1) ((m.2 0).headD .none),ay (.ref y.sc),ay (.ref y.fx),aj (aq cJ f 0) ef,aj (aq ns g 0) es]
theorem Ke(hn:ns.length<=63)(g f:Nat->Tok)(ef es:Nat):(VA (w:=w) ns g f ef es).Ok:=fun y fs A s Rz ii _ kk=>by
 have ho:s.heap.get? y.x.it=some (ai 0 18):=ii.hs.at (.head _) (aa rfl)
 refine bO (by kernel_rfl) ?_ fun E=>cM (n:="range_iterator") rfl ⟨_,ho,rfl⟩
 exact A6 ns hn g f y.x.fr y.x.it y.x.acc y.x.loc y.c1 y.c2 y.sc y.fx es ef fs 18 0 (fun _=>0) 0 none s rfl ii fun h ea o s' ho d=>by
  obtain⟨p,e⟩:=Option.isSome_iff_exists.mp (ho (.inr (by decide)))
  subst e
  exact kk (fun k=>match k with|0=>ea|1=>p.1|2=>0|3=>0|k+4=>h k,fun _=>[p.2]) s' rfl d
def Q5(hn:ns.length<=63)(g f:Nat->Tok)(ef es:Nat):aJ w:=(VA ns g f ef es).sm (Ke ns hn g f ef es)
end
end
section
open PySem PySem.W PySem.W.X PyProof.Rows
theorem M8(xs:List Value)(e:Nat->Bool):((List.range (min xs.toArray.size (#[]:Array Value).size)).all e&&xs.toArray.size==(#[]:Array Value).size)=xs.isEmpty:=by
 rw[show min xs.toArray.size (#[]:Array Value).size=0 from Nat.min_zero _]
 cases xs with
 |nil=>rfl
 |cons x xs=>rfl
def sQ(id:String)(xs:List Value)(r:Bool):aD w (Addr×Addr×Nat×Nat)where
 find _ pre _:=some ((az pre 0).1,(az pre 1).1,bp (az pre 0).2,bp (az pre 1).2)
 code y:=.call (.builtin id) ⟨[.ref y.1,.ref y.2.1],[]⟩
 pre y:=[(y.1,ae xs.toArray y.2.2.1),(y.2.1,ae #[] y.2.2.2)]
 r _ _:=.ok (.ret (.bool r))
 post y _:=[ae xs.toArray y.2.2.1,ae #[] y.2.2.2]
section
variable(xs:List Value)(b:Bool)
theorem Bj(hb:xs.isEmpty=b):(sQ (w:=w) "tuple.__eq__" xs b).Ok:=by
 subst hb
 refine aD.old fun y fs A s _ _ _ _ h=> ?_
 have h1:s.heap.get? y.1=some (ae xs.toArray y.2.2.1):=h.at (.head _) (cf _ _)
 have h2:s.heap.get? y.2.1=some (ae #[] y.2.2.2):=h.at (.tail _ (.head _)) (cf _ _)
 exact aS F.slot_tuple_eq ⟨_,h1,rfl⟩ F.entry_tuple_eq (F.args_tuple_eq_2 _ _) (SeqAt.tuple_eqAt y.1 y.2.1 xs.toArray #[] y.2.2.1 y.2.2.2 none none #[] #[] fun _=>true) ⟨h1,h2,fun j _ q=>absurd q (i8 _),eQ,by rw[M8];rfl,rfl,Done.refl h⟩
theorem Bi(hb:(!xs.isEmpty)=b):(sQ (w:=w) "tuple.__ne__" xs b).Ok:=by
 subst hb
 refine aD.old fun y fs A s _ _ _ _ h=> ?_
 have h1:s.heap.get? y.1=some (ae xs.toArray y.2.2.1):=h.at (.head _) (cf _ _)
 have h2:s.heap.get? y.2.1=some (ae #[] y.2.2.2):=h.at (.tail _ (.head _)) (cf _ _)
 exact aS F.slot_tuple_ne ⟨_,h1,rfl⟩ F.entry_tuple_ne (F.args_tuple_ne_2 _ _) (SeqAt.tuple_neAt y.1 y.2.1 xs.toArray #[] y.2.2.1 y.2.2.2 none none #[] #[] fun _=>true) ⟨h1,h2,fun j _ q=>absurd q (i8 _),eQ,by rw[M8];rfl,rfl,Done.refl h⟩
def xJ(hb:xs.isEmpty=b):aJ w:=(sQ "tuple.__eq__" xs b).sm (Bj xs b hb)
def GN(hb:(!xs.isEmpty)=b):aJ w:=(sQ "tuple.__ne__" xs b).sm (Bi xs b hb)
end
def um(xs:List Value):aD w (Addr×Addr×Nat)where
 find _ pre _:=some ((az pre 0).1,(az pre 1).1,bp (az pre 1).2)
 code y:=.call (.builtin "list.__init__") ⟨[.ref y.1,.ref y.2.1],[]⟩
 pre y:=[(y.1,ah #[] 0),(y.2.1,ae xs.toArray y.2.2)]
 r _ _:=.ok (.ret .none)
 post y m:=[aj xs (m.1 0),ae xs.toArray y.2.2]
theorem tY(hz:xs.length<1000000):xs.toArray.size<=sizeLine:=by
 have e:sizeLine=16777216:=by decide
 rw[List.size_toArray,e];lia
theorem lW{S r:Addr}{xs:Array Value}{n:Nat}(hZ:r≠S)(hS:s.heap.get? S=some (ah #[] 0))(hr:s.heap.get? r=some (ae xs n))(hz:xs.size<=sizeLine)
  (hR:R (.ok (.ret .none)) {s with heap:=(s.heap.update S (Obj.mapSeq (fun _=>(#[]:Array Value)))).update S (Obj.mapSeq (·++xs))}):codeAny (Mo w) A (.call (.builtin "list.__init__") ⟨[.ref S,.ref r],[]⟩) R s:=
 aB F.slot_list_init ⟨_,hS,rfl⟩ F.entry_list_init (F.args_list_init_2 _ _) (wpAny_list_init_seq S r (T:="tuple") (.inr rfl) hZ hS hr rfl rfl hR hz)
theorem Cu(xs:List Value)(hz:xs.length<1000000):(um (w:=w) xs).Ok:=by
 refine aD.old fun y fs A s _ _ _ _ h=> ?_
 have h1:s.heap.get? y.1=some (ah #[] 0):=h.at (.head _) (ar _ _)
 have h2:s.heap.get? y.2.1=some (ae xs.toArray y.2.2):=h.at (.tail _ (.head _)) (cf _ _)
 have hZ:y.2.1≠y.1:=fun e=>by
  have nd:=h.nd
  rw[show((um (w:=w) xs).pre y++(um (w:=w) xs).tail y).map (·.1)=[y.1,y.2.1]from rfl,e]at nd
  exact(jM nd).1 (.head _)
 obtain⟨e1,g1⟩:∃e,(s.heap.update y.1 (Obj.mapSeq fun _=>(#[]:Array Value))).get? y.1=some (ah #[] e):=⟨_,get?_update_seq h1 fun _=> #[]⟩
 obtain⟨e2,g2⟩:∃e,((s.heap.update y.1 (Obj.mapSeq fun _=>(#[]:Array Value))).update y.1 (Obj.mapSeq (·++xs.toArray))).get? y.1=some (ah (#[]++xs.toArray) e):=⟨_,get?_update_seq g1 (·++xs.toArray)⟩
 rw[show(#[]:Array Value)++xs.toArray=xs.toArray by simp]at g2
 refine lW hZ h1 h2 (tY hz) ?_
 exact⟨(fun _=>e2,fun _=>[]),rfl,rfl,f9 (k:=s.toks) h (fun b x hb q=>by rw[Heap.get?_update_ne _ _ _ _ hb,Heap.get?_update_ne _ _ _ _ hb];exact q) (ar _ _) g2 rfl (ar _ _)⟩
def vh(xs:List Value)(hz:xs.length<1000000):aJ w:=(um xs).sm (Cu xs hz)
section
variable(xs ys:List Value)
def Ft:aD w (Addr×Addr×Nat×Nat)where
 find _ pre _:=some ((az pre 0).1,(az pre 1).1,bp (az pre 0).2,bp (az pre 1).2)
 code y:=.call (.builtin "list.__iadd__") ⟨[.ref y.1,.ref y.2.1],[]⟩
 pre y:=[(y.1,aj xs y.2.2.1),(y.2.1,aj ys y.2.2.2)]
 r y _:=.ok (.ret (.ref y.1))
 post y m:=[aj (xs++ys) (m.1 0),aj ys y.2.2.2]
theorem CG(hz:xs.length+ys.length<1000000):(Ft (w:=w) xs ys).Ok:=by
 refine aD.old fun y fs A s _ _ _ _ h=> ?_
 have h1:s.heap.get? y.1=some (aj xs y.2.2.1):=h.at (.head _) (ar _ _)
 have h2:s.heap.get? y.2.1=some (aj ys y.2.2.2):=h.at (.tail _ (.head _)) (ar _ _)
 obtain⟨e2,g2⟩:∃e,(s.heap.update y.1 (Obj.mapSeq (·++ys.toArray))).get? y.1=some (ah (xs.toArray++ys.toArray) e):=⟨_,get?_update_seq h1 (·++ys.toArray)⟩
 rw[show xs.toArray++ys.toArray=(xs++ys).toArray by simp]at g2
 have e:sizeLine=16777216:=by decide
 have hs:xs.toArray.size+ys.toArray.size<=sizeLine:=by rw[List.size_toArray,List.size_toArray,e];lia
 have hf:¬(!xs.toArray.isEmpty&&Builtin.List.listTooLong (xs.toArray.size+ys.toArray.size))=true:=by
  rw[show Builtin.List.listTooLong (xs.toArray.size+ys.toArray.size)=false from decide_eq_false (Nat.not_lt.mpr hs),Bool.and_false]
  decide
 refine aS F.slot_list_iadd ⟨_,h1,rfl⟩ F.entry_list_iadd (F.args_list_iadd_2 _ _) (AutoSeq1.list___iadd___list_list_0 y.1 xs.toArray y.2.2.1 y.2.1 ys.toArray y.2.2.2 hf (bP (Nat.le_add_right _ _) hs) (jK hs)) ⟨h1,h2,?_⟩
 exact⟨(fun _=>e2,fun _=>[]),rfl,rfl,f9 h (fun b x hb q=>by rw[Heap.get?_update_ne _ _ _ _ hb];exact q) (ar _ _) g2 rfl (ar _ _)⟩
def GX(hz:xs.length+ys.length<1000000):aJ w:=(Ft xs ys).sm (CG xs ys hz)
end
end
section
open PySem PySem.W PySem.W.X PyProof.Rows PySem.Builtin.Str
noncomputable abbrev Qz(w:World):Expr:=bf (valOf (aK w 318 [5,6,0,0])) [0,0]
noncomputable abbrev Vx(w:World)(fr loc c2:Addr):Env:=compEnv (dj w 318 fr) loc [(S "sizes",c2)] (Qz w)
section
variable(w:World)(fr it acc loc c2:Addr)
noncomputable abbrev Pf:Code:=.compLoop (Qz w) 0 (.ref it) (.ref acc) (Vx w fr loc c2)
noncomputable abbrev X2:Code:=.compStart (Qz w) 0 (.ref it) (.ref acc) (Vx w fr loc c2)
end
structure Qp where
 it:Addr
 acc:Addr
 loc:Addr
 L:Addr
 c2:Addr
 sd:Addr
 eL:Nat
 ed:Nat
def Pg(Y:Qp)(io lo:Obj)(zs xs:List Value)(ea:Nat)(es:Array DictEntry):Led:=[(Y.it,io),(Y.acc,aj zs ea),(Y.loc,lo),(Y.L,aj xs Y.eL),(Y.c2,ay (.ref Y.sd)),(Y.sd,U es Y.ed)]
def cC(es:Array DictEntry)(sz:Str->Int)(ds:List (Str×Tok)):Prop:=∀p∈ds,∃t,bo es p.1=some (.int (sz p.1) t)
section
variable(fr:Addr)(Y:Qp)(es:Array DictEntry)(cG:KeysOf (kS w) es)(n:Int)(t:Tok)(p:Str×Tok)(hd:bo es p.1=some (.int n t))(xs zs:List Value)(ea k:Nat)(hv:xs[k]? =some (ao p))(hz:zs.length<1000000)(lo:Option (Tok×Value))(fs:List Env)(ν:Nu)
theorem J9:aT 3 (.ok (.again (Pf w fr Y.it Y.acc Y.loc Y.c2))) (Pg Y (aZ (.ref Y.L) (k+1)) (bD w "one" (Fg ((ν 1).1 0) lo) (ao p)) (zs++[.int n t]) xs (ea+1) es)
  (bW w ν 61 none (some (20,fs)) (Pf w fr Y.it Y.acc Y.loc Y.c2) (Pg Y (aZ (.ref Y.L) k) (y7 w "one" lo) zs xs ea es) 0x400850021861831430c00c0003040 [K (cu xs k (ao p) hv),K (cT p.1 es (.int n t) cG hd),K (av zs hz)]):=by
 cases lo<;>kernel_rfl
end
theorem Qy(fr it acc loc L c2:Addr)(xs:List Value)(eL k:Nat)(hv:xs[k]? =none)(fs:List Env)(ν:Nu):
  aT 90 (.ok .next) [(it,⟨(.type "list_iterator"),none,(.fields #[.none,(.int ↑k 0)]),#[]⟩),(L,aj xs eL)]
   (runC w ν 45 none (some (20,fs)) (Pf w fr it acc loc c2) [(it,aZ (.ref L) k),(L,aj xs eL)] 69793230912 [K (da xs k hv)]):=by kernel_rfl
def Jv(ds:List (Str×Tok))(j:Nat):Value:=ds[j]?.elim .none ao
section
variable(fr:Addr)(Y:Qp)(es:Array DictEntry)(sz:Str->Int)(ds:List (Str×Tok))(fs:List Env)
def Gl(w:World)(io:Obj)(j:Nat)(x:Tok×(Nat->Tok)):Led:=Pg Y io (y7 w "one" (oH (Jv ds) x.1 j)) (aq ((ds.take j).map fun p=>sz p.1) x.2 0) (ds.map ao) j es
theorem A5(cG:KeysOf (kS w) es)(hsz:cC es sz ds)(hn:ds.length<1000){Q:Result->Shared->Prop}{x:Tok×(Nat->Tok)}(ii:In w (some 20) true fs A s (Gl Y es sz ds w (aZ (.ref Y.L) 0) 0 x))
  (kk:∀u s',Done (T:=TW w) s s' (Gl Y es sz ds w (aZ (.ref Y.L) 0) 0 x) (Gl Y es sz ds w (aZ .none ds.length) ds.length u)->Q (.ok .next) s'):codeAny (Mo w) A (Pf w fr Y.it Y.acc Y.loc Y.c2) Q s:=by
 refine forL (N:=ds.length) (L:=fun j=>Gl Y es sz ds w (aZ (.ref Y.L) j) j) (I:=fun _ _=>True) (E:=Gl Y es sz ds w (aZ .none ds.length) ds.length) (fun j u hj _=> ?_) (fun u _=> ?_) ds.length 0 x s Q (Nat.zero_add _).symm trivial ii fun u s' _ d=>kk u s' d
 ·have hr:ds[j]? =some ds[j]:=jN hj
  have hv:(ds.map ao)[j]? =some (ao ds[j]):=by rw[List.getElem?_map,hr];rfl
  have hz:(aq ((ds.take j).map fun p=>sz p.1) u.2 0).length<1000000:=by rw[aP,List.length_map,List.length_take];lia
  obtain⟨t,ht⟩:=hsz _ (List.getElem_mem hj)
  have et:(ds.take (j+1)).map (fun p=>sz p.1)=(ds.take j).map (fun p=>sz p.1)++[sz ds[j].1]:=by rw[List.take_succ,hr,List.map_append];rfl
  have f:Jv ds j=ao ds[j]:=by unfold Jv;rw[hr];rfl
  have z:=eB.of (by kernel_rfl) fun ν=>J9 fr Y es cG _ t ds[j] ht _ _ j j hv hz (oH (Jv ds) u.1 j) fs ν
  refine⟨fun ν=>(Fg ((ν 1).1 0) (oH (Jv ds) u.1 j),fun i=>if i=0+((ds.take j).map fun p=>sz p.1).length then t else u.2 i),fun _=>trivial,?_⟩
  rw[di]at z
  unfold Gl
  rw[et]
  simp only[oH,f]
  exact z
 ·have hv:(ds.map ao)[ds.length]? =none:=by rw[List.getElem?_map,List.getElem?_eq_none (Nat.le_refl _)];rfl
  have z:=ng.of (w:=w) (k:=20) fun ν=>Qy fr Y.it Y.acc Y.loc Y.L Y.c2 _ Y.eL ds.length hv fs ν
  exact z.sw (B:=[_,_,_,_]) ((lY (l₁:=[_,_])).symm.cons _) ((lY (l₁:=[_,_])).symm.cons _)
end
structure Vo where
 x:CX
 L:Addr
 c2:Addr
 sd:Addr
 eL:Nat
 ed:Nat
def Vo.Y(y:Vo):Qp:=⟨y.x.it,y.x.acc,y.x.loc,y.L,y.c2,y.sd,y.eL,y.ed⟩
def wG(o:Obj):Nat:=match o.data with
 | .dict _ n=>n
 |_=>0
section
variable(es:Array DictEntry)
def Vy(sz:Str->Int)(ds:List (Str×Tok)):aD w Vo where
 lv:=some 20
 bare:=true
 find c pre _:=match gK c with
  |some x=>some ⟨x,(az pre 3).1,(az pre 4).1,(az pre 5).1,cK (az pre 3).2,cK (az pre 5).2⟩
  |none=>none
 code y:=X2 w y.x.fr y.x.it y.x.acc y.x.loc y.c2
 pre y:=Pg y.Y (aZ (.ref y.L) 0) (U #[] 0) [] (ds.map ao) 0 es
 r _ _:=.ok .next
 post y m:=[aZ .none ds.length,aj (aq (ds.map fun p=>sz p.1) (fun i=>m.1 (i+1)) 0) ds.length,y7 w "one" (oH (Jv ds) (m.1 0) ds.length),aj (ds.map ao) y.eL,ay (.ref y.sd),U es y.ed]
theorem J8(cG:KeysOf (kS w) es)(sz:Str->Int)(ds:List (Str×Tok))(hsz:cC es sz ds)(hn:ds.length<1000):(Vy (w:=w) es sz ds).Ok:=by
 intro y fs A s Rz ii _ kk
 have ho:s.heap.get? y.x.it=some (aZ (.ref y.L) 0):=ii.hs.at (.head _) (aa rfl)
 refine bO (by kernel_rfl) ?_ fun E=>cM (n:="list_iterator") rfl ⟨_,ho,rfl⟩
 refine A5 y.x.fr y.Y es sz ds fs cG hsz hn (x:=(0,fun _=>0)) ii fun u s' d=>kk (fun i=>match i with|0=>u.1|i+1=>u.2 i,fun _=>[]) s' rfl ?_
 unfold Gl at d
 rw[List.take_length]at d
 exact d
def Q4(cG:KeysOf (kS w) es)(sz:Str->Int)(ds:List (Str×Tok))(hsz:cC es sz ds)(hn:ds.length<1000):aJ w:=(Vy es sz ds).sm (J8 es cG sz ds hsz hn)
end
noncomputable abbrev A1(w:World)(fr it c1 c2:Addr):Code:=cw (aK w 318 [5,6]) (.ref it) (OC w fr c1 c2)
structure Ek where
 g:Nat->Tok
 v:Nat->Value
 md:Addr
 bg:Addr
def oU(sz:Str->Int)(ds:List (Str×Tok)):List Int:=ds.map fun p=>sz p.1
def XS(w:World)(B:Ek):Obj:=aW #[aH w "rows" (B.g 0) (B.v 0),aH w "modes" (B.g 1) (.ref B.md),aH w "seen" (B.g 2) (B.v 2),aH w "row" (B.g 3) (B.v 3),aH w "name" (B.g 4) (B.v 4),aH w "handed" (B.g 5) (B.v 5),aH w "told" (B.g 6) (B.v 6),aH w "turn" (B.g 7) (B.v 7),aH w "free" (B.g 8) (B.v 8),aH w "k" (B.g 9) (B.v 9),aH w "needs" (B.g 10) (B.v 10),aH w "group" (B.g 11) (B.v 11),aH w "active" (B.g 12) (B.v 12),aH w "begins" (B.g 13) (.ref B.bg)] 14
def Ek.nm(B:Ek)(v:Value):Ek:={B with v:=fun i=>bif Nat.beq i 4 then v else B.v i}
structure Qx where
 it:Addr
 G:Addr
 fr:Addr
 c1:Addr
 c2:Addr
 dn:Addr
 sd:Addr
 eG:Nat
 e1:Nat
 e2:Nat
noncomputable def w6(w:World)(Y:Qx)(io:Obj)(B:Ek)(em es:Array DictEntry)(xs bs ds:List Value)(eb ed:Nat):Led:=[(Y.it,io),(Y.G,ae xs.toArray Y.eG),(Y.fr,XS w B),(B.md,U em Y.e1),(B.bg,aj bs eb),(Y.c1,ay (.ref Y.dn)),(Y.dn,aj ds ed),(Y.c2,ay (.ref Y.sd)),(Y.sd,U es Y.e2)]
section
variable(Y:Qx)(B:Ek)(em es:Array DictEntry)(qh:KeysOf (kS w) em)(m:Int)(t:Tok)(p:Str×Tok)(hm:bo em p.1=some (.int m t))(xs bs:List Value)(ds:List (Str×Tok))(eb ed k:Nat)(hv:xs[k]? =some (ao p))(fs:List Env)(ν:Nu)
theorem Vl(h1:decide (Int.fmod (Int.fdiv m 4096) 16=8)=false):aT 3 (.ok (.again (A1 w Y.fr Y.it Y.c1 Y.c2))) (w6 w Y (cN (.ref Y.G) (k+1)) (B.nm (ao p)) em es xs bs (ds.map ao) eb ed)
  (bW w ν 77 none (some (30,fs)) (A1 w Y.fr Y.it Y.c1 Y.c2) (w6 w Y (cN (.ref Y.G) k) B em es xs bs (ds.map ao) eb ed) 0x10400030021041030c30c0040003040 [K (ct xs k (ao p) hv),K (cT p.1 em (.int m t) qh hm),K (aF (Int.fmod (Int.fdiv m 4096) 16) 8 false h1)]):=by kernel_rfl
variable(h1:decide (Int.fmod (Int.fdiv m 4096) 16=8)=true)
theorem Vk(h2:decide (Int.fmod (Int.fdiv m 4) 2=1)=false):aT 3 (.ok (.again (A1 w Y.fr Y.it Y.c1 Y.c2))) (w6 w Y (cN (.ref Y.G) (k+1)) (B.nm (ao p)) em es xs bs (ds.map ao) eb ed)
  (bW w ν 102 none (some (30,fs)) (A1 w Y.fr Y.it Y.c1 Y.c2) (w6 w Y (cN (.ref Y.G) k) B em es xs bs (ds.map ao) eb ed) 0x410000c00841040c30010400030021041030c30c0040003040 [K (ct xs k (ao p) hv),K (cT p.1 em (.int m t) qh hm),K (aF (Int.fmod (Int.fdiv m 4096) 16) 8 true h1),K (cT p.1 em (.int m t) qh hm),K (aF (Int.fmod (Int.fdiv m 4) 2) 1 false h2)]):=by kernel_rfl
noncomputable def ZY:List (Str×Tok)->Nat
 |[]=>0x900218a28a2891c008100204b2890010801c11c00471c60001451450c00410000c00841040c30010400030021041030c30c0040003040
 |_::_=>0x900218a28a2891c008100204104b2890010801c11c00471c60001451450c00410000c00841040c30010400030021041030c30c0040003040
theorem Vj(h2:decide (Int.fmod (Int.fdiv m 4) 2=1)=true)(cG:KeysOf (kS w) es)(sz:Str->Int)(hsz:cC es sz ds)(hn:ds.length<1000)(iY:AG (oU sz ds))(hb:bs.length<1000000)(hd:(ds.map ao).length<1000000):aT 5592426 (.ok (.again (A1 w Y.fr Y.it Y.c1 Y.c2))) (w6 w Y (cN (.ref Y.G) (k+1)) (B.nm (ao p)) em es xs (bs++[.int (cm (oU sz ds)) ((pr (ν 20)).1 0)]) (ds.map ao++[ao p]) (eb+1) (ed+1))
  (bW w ν 154 none (some (30,fs)) (A1 w Y.fr Y.it Y.c1 Y.c2) (w6 w Y (cN (.ref Y.G) k) B em es xs bs (ds.map ao) eb ed) (ZY ds) [K (ct xs k (ao p) hv),K (cT p.1 em (.int m t) qh hm),K (aF (Int.fmod (Int.fdiv m 4096) 16) 8 true h1),K (cT p.1 em (.int m t) qh hm),K (aF (Int.fmod (Int.fdiv m 4) 2) 1 true h2),K (Q4 es cG sz ds hsz hn),(fun ν=>EB (oU sz ds) (fun i=>(pr (ν 19)).1 (i+1)) iY),K (av bs hb),K (av (ds.map ao) hd)]):=by cases ds<;>kernel_rfl
end
theorem Bn{l:List Int}{c:Int}(h:∀x∈l,0<=x/\x<=c):0<=cm l/\cm l<=l.length*c:=by
 induction l with
 |nil=>exact⟨Int.le_refl 0,by rw[cm,List.length_nil];lia⟩
 |cons x l ih=>
  obtain⟨h1,h2⟩:=ih fun y hy=>h y (.tail _ hy)
  obtain⟨h3,h4⟩:=h x (.head _)
  rw[cm,List.length_cons,Int.natCast_add,Int.add_mul]
  refine⟨by lia,?_⟩
  rw[show((1:Nat):Int)*c=c from Int.one_mul c]
  lia
theorem IF{l:List Int}(hn:l.length<1000)(h:∀x∈l,0<=x/\x<=1000000000):AG l:=by
 intro j hj
 have hb:∀x:Int,0<=x->x<=0xe8d4a51000->InLong x:=fun x h1 h2=>by
  unfold InLong;lia
 refine⟨?_,?_⟩
 ·have hm:l.getD j 0∈l:=by
   rw[List.getD_eq_getElem?_getD,List.getElem?_eq_getElem hj];exact List.getElem_mem hj
  obtain⟨a,b⟩:=h _ hm
  exact hb _ a (by lia)
 ·obtain⟨a,b⟩:=Bn (l:=l.take (j+1)) fun x hx=>h x (List.mem_of_mem_take hx)
  have hl:(l.take (j+1)).length<=1000:=by rw[List.length_take];lia
  have h3:((l.take (j+1)).length:Int)*1000000000<=1000*1000000000:=Int.mul_le_mul_of_nonneg_right (by lia) (by decide)
  exact hb _ a (by lia)
noncomputable def dv(m:Int):Bool:=decide (Int.fmod (Int.fdiv m 4096) 16=8)&&decide (Int.fmod (Int.fdiv m 4) 2=1)
def cy(sz mo:Str->Int)(x:List Int×List (Str×Tok))(p:Str×Tok):List Int×List (Str×Tok):=match dv (mo p.1)with
 |true=>(x.1++[cm (oU sz x.2)],x.2++[p])
 |false=>x
structure Ej(w:World)(em es:Array DictEntry)(sz mo:Str->Int):Prop where
 em:KeysOf (kS w) em
 es:KeysOf (kS w) es
 sz:∀x,0<=sz x/\sz x<=1000000000
theorem Vm(fr it c1 c2 G:Addr)(xs:List Value)(eG k:Nat)(hv:xs[k]? =none)(fs:List Env)(ν:Nu):
  aT 90 (.ok .next) [(it,⟨(.type "tuple_iterator"),none,(.fields #[.none,(.int ↑k 0)]),#[]⟩),(G,ae xs.toArray eG)]
   (runC w ν 46 none (some (30,fs)) (A1 w fr it c1 c2) [(it,cN (.ref G) k),(G,ae xs.toArray eG)] 69793230912 [K (dI xs k hv)]):=by kernel_rfl
def cV(sz mo:Str->Int)(x:List Int×List (Str×Tok))(gs:List (Str×Tok)):List Int×List (Str×Tok):=gs.foldl (cy sz mo) x
theorem mZ{sz mo:Str->Int}{x:List Int×List (Str×Tok)}{p:Str×Tok}(h:cC es sz x.2)(hp:∃t,bo es p.1=some (.int (sz p.1) t)):cC es sz (cy sz mo x p).2:=by
 unfold cy
 cases dv (mo p.1)with
 |false=>exact h
 |true=>
  intro q hq
  rcases bw hq with hq|hq
  ·exact h q hq
  ·rw[List.mem_singleton.mp hq];exact hp
theorem lE(sz mo:Str->Int)(x:List Int×List (Str×Tok))(p:Str×Tok):(cy sz mo x p).1.length<=x.1.length+1/\(cy sz mo x p).2.length<=x.2.length+1:=by
 unfold cy
 cases dv (mo p.1)with
 |false=>exact⟨Nat.le_succ _,Nat.le_succ _⟩
 |true=>exact⟨by rw[List.length_append];exact bC _,by rw[List.length_append];exact bC _⟩
theorem D5(Y:Qx){em:Array DictEntry}{sz mo:Str->Int}(hk:Ej w em es sz mo){gs:List (Str×Tok)}(hg:cC em mo gs)(H2:cC es sz gs)(fs:List Env)(rest:List (Str×Tok)):∀(pre:List (Str×Tok)) (B:Ek) (bs:List Int) (g:Nat->Tok) (ds:List (Str×Tok)) (eb ed:Nat) (s:Shared),
  gs=pre++rest->ds.length+rest.length<1000->bs.length+rest.length<1000->cC es sz ds->In w (some 30) true fs A s (w6 w Y (cN (.ref Y.G) pre.length) B em es (gs.map ao) (aq bs g 0) (ds.map ao) eb ed)->
  (∀v g' IT j4 s',Done (T:=TW w) s s' (w6 w Y (cN (.ref Y.G) pre.length) B em es (gs.map ao) (aq bs g 0) (ds.map ao) eb ed) (w6 w Y (cN .none gs.length) (B.nm v) em es (gs.map ao) (aq (cV sz mo (bs,ds) rest).1 g' 0) ((cV sz mo (bs,ds) rest).2.map ao) IT j4)->R (.ok .next) s')->codeAny (Mo w) A (A1 w Y.fr Y.it Y.c1 Y.c2) R s:=by
 induction rest with
 |nil=>
  intro pre B bs g ds eb ed s e _ _ _ ii kk
  rw[List.append_nil]at e
  subst e
  exact(ii.sub (jO [_,_] _)).code (fun ν=>Vm Y.fr Y.it Y.c1 Y.c2 Y.G (gs.map ao) Y.eG gs.length (by rw[List.getElem?_eq_none];rw[List.length_map];exact bC _) fs ν) fun ν s' d=>kk (B.v 4) g eb ed s' (Done.part ii.hs (List.Perm.refl _) d)
 |cons p rest ih=>
  intro pre B bs g ds eb ed s e hn hb jm ii kk
  have hv:(gs.map ao)[pre.length]? =some (ao p):=by
   rw[e,List.getElem?_map,List.getElem?_append_right (Nat.le_refl _),Nat.sub_self]
   rfl
  have hm:p∈gs:=by rw[e];exact jI _ (.head _)
  rw[List.length_cons]at hn hb
  have hl:=lE sz mo (bs,ds) p
  have hz:=mZ (mo:=mo) (x:=(bs,ds)) jm (H2 p hm)
  have go:∀Qo DD,cy sz mo (bs,ds) p=(Qo,DD)->∀g' IT j4 s',Done (T:=TW w) s s' (w6 w Y (cN (.ref Y.G) pre.length) B em es (gs.map ao) (aq bs g 0) (ds.map ao) eb ed) (w6 w Y (cN (.ref Y.G) (pre.length+1)) (B.nm (ao p)) em es (gs.map ao) (aq Qo g' 0) (DD.map ao) IT j4)->codeAny (Mo w) A (A1 w Y.fr Y.it Y.c1 Y.c2) R s':=fun Qo DD e3 g' IT j4 s' d=>by
   have k2:=congrArg (cV sz mo · rest) e3
   rw[e3]at hl hz
   rw[show cV sz mo (bs,ds) (p::rest)=_ from k2]at kk
   rw[show pre.length+1=(pre++[p]).length by rw[List.length_append];rfl]at d
   exact ih (pre++[p]) (B.nm (ao p)) Qo g' DD IT j4 s' (by rw[e,List.append_assoc];rfl) (cW (Nat.add_le_add_right hl.2 _) (show ds.length+1+rest.length<1000 by rw[Nat.add_right_comm];exact hn)) (cW (Nat.add_le_add_right hl.1 _) (show bs.length+1+rest.length<1000 by rw[Nat.add_right_comm];exact hb)) hz (ii.go d) fun v g2 ZM ZL dB d2=>kk v g2 ZM ZL dB (d.trans d2)
  obtain⟨t,ht⟩:=hg p hm
  cases h1:decide (Int.fmod (Int.fdiv (mo p.1) 4096) 16=8)with
  |false=>exact ii.turn (by kernel_rfl) (fun ν=>Vl Y B em es hk.em (mo p.1) t p ht (gs.map ao) (aq bs g 0) ds eb ed pre.length hv fs ν h1) fun ν s' d=>go bs ds (by simp only[cy,dv,h1,Bool.false_and]) g eb ed s' d
  |true=>
   cases h2:decide (Int.fmod (Int.fdiv (mo p.1) 4) 2=1)with
   |false=>exact ii.turn (by kernel_rfl) (fun ν=>Vk Y B em es hk.em (mo p.1) t p ht (gs.map ao) (aq bs g 0) ds eb ed pre.length hv fs ν h1 h2) fun ν s' d=>go bs ds (by simp only[cy,dv,h1,h2,Bool.and_false]) g eb ed s' d
   |true=>
    have hd:ds.length<1000:=cW (Nat.le_add_right ..) hn
    have iY:AG (oU sz ds):=IF (by unfold oU;rw[List.length_map];exact hd) fun x hx=>by
     obtain⟨q,_,rfl⟩:=cz hx
     exact hk.sz _
    refine ii.turn (by kernel_rfl) (fun ν=>Vj Y B em es hk.em (mo p.1) t p ht (gs.map ao) (aq bs g 0) ds eb ed pre.length hv fs ν h1 h2 hk.es sz jm hd iY (by rw[aP];exact Nat.lt_trans (cW (Nat.le_add_right ..) hb) (by decide)) (by rw[List.length_map];exact Nat.lt_trans hd (by decide))) fun ν s' d=> ?_
    rw[di,show ds.map ao++[ao p]=(ds++[p]).map ao by rw[List.map_append];rfl]at d
    exact go (bs++[cm (oU sz ds)]) (ds++[p]) (by simp only[cy,dv,h1,h2,Bool.and_self]) _ (eb+1) (ed+1) s' d
section
variable(B:Ek)(em es:Array DictEntry)
def XR(gs ds:List (Str×Tok))(x:List Int×List (Str×Tok)):aD w (Qx×Nat)where
 lv:=some 30
 bare:=true
 find c pre _:=match c with
  | .forLoop _ _ _ _ env=>some (⟨(az pre 0).1,(az pre 1).1,(az pre 2).1,(az pre 5).1,env.cells[1]?.elim 0 (·.2),(az pre 6).1,(az pre 8).1,cK (az pre 1).2,cK (az pre 3).2,cK (az pre 8).2⟩,cK (az pre 6).2)
  |_=>none
 code y:=A1 w y.1.fr y.1.it y.1.c1 y.1.c2
 pre y:=w6 w y.1 (cN (.ref y.1.G) 0) B em es (gs.map ao) [] (ds.map ao) 0 y.2
 r _ _:=.ok .next
 post y m:=[cN .none gs.length,ae (gs.map ao).toArray y.1.eG,XS w (B.nm ((m.2 0).headD .none)),U em y.1.e1,aj (aq x.1 (fun i=>m.1 (i+2)) 0) (m.1 0),ay (.ref y.1.dn),aj (x.2.map ao) (m.1 1),ay (.ref y.1.sd),U es y.1.e2]
theorem OX(sz mo:Str->Int)(hk:Ej w em es sz mo)(gs ds:List (Str×Tok))(hg:cC em mo gs)(H2:cC es sz gs)(jm:cC es sz ds)(hn:ds.length+gs.length<1000):(XR (w:=w) B em es gs ds (cV sz mo ([],ds) gs)).Ok:=fun y fs A s Rz ii _ kk=>
 D5 y.1 hk hg H2 fs gs [] B [] (fun _=>0) ds 0 y.2 s rfl hn (cW (Nat.add_le_add_right (cY _) _) hn) jm ii fun v g' IT j4 s' d=>kk (fun i=>match i with|0=>IT|1=>j4|i+2=>g' i,fun _=>[v]) s' rfl d
def Ry(sz mo:Str->Int)(hk:Ej w em es sz mo)(gs ds:List (Str×Tok))(hg:cC em mo gs)(H2:cC es sz gs)(jm:cC es sz ds)(hn:ds.length+gs.length<1000)(x:List Int×List (Str×Tok))(hx:cV sz mo ([],ds) gs=x):aJ w:=(XR B em es gs ds x).sm (by subst hx;exact OX B em es sz mo hk gs ds hg H2 jm hn)
end
noncomputable abbrev B9(w:World)(fr it c1 c2:Addr):Code:=cw (aK w 318 [5]) (.ref it) (OC w fr c1 c2)
structure gz where
 g:Nat->Tok
 v:Nat->Value
 R:Addr
 md:Addr
 se:Addr
 hd:Addr
 tl:Addr
section
variable(w:World)(F:gz)
def V1:List DictEntry:=[aH w "rows" (F.g 0) (.ref F.R),aH w "modes" (F.g 1) (.ref F.md),aH w "seen" (F.g 2) (.ref F.se),aH w "row" (F.g 3) (F.v 3),aH w "name" (F.g 4) (F.v 4),aH w "handed" (F.g 5) (.ref F.hd),aH w "told" (F.g 6) (.ref F.tl)]
def Sb:Obj:=aW (V1 w F).toArray 7
def HB:Obj:=aW (V1 w F++[aH w "turn" (F.g 7) (F.v 7),aH w "free" (F.g 8) (F.v 8),aH w "k" (F.g 9) (F.v 9),aH w "needs" (F.g 10) (F.v 10),aH w "group" (F.g 11) (F.v 11),aH w "active" (F.g 12) (F.v 12),aH w "begins" (F.g 13) (F.v 13)]).toArray 14
end
def gz.fk(F:gz)(a b:Tok)(tv:Value)(fe:Addr):sI:=⟨fun i=>bif Nat.beq i 7 then a else bif Nat.beq i 8 then b else F.g i,fun i=>bif Nat.beq i 1 then .ref F.md else bif Nat.beq i 6 then .ref F.tl else bif Nat.beq i 7 then tv else F.v i,F.R,F.se,F.hd,fe⟩
def kb:List Tok->Nat->Tok
 |[],_=>0
 |x::_,0=>x
 |_::l,Nat.succ n=>kb l n
noncomputable def qX:List Value->Nat->Value
 |[],_=>.none
 |x::_,0=>x
 |_::l,Nat.succ n=>qX l n
section
variable(F:gz)(ts:List Tok)
def gz.ZX(vs:List Value)(bg:Addr):Ek:=⟨kb (F.g 0::F.g 1::F.g 2::F.g 3::F.g 4::F.g 5::F.g 6::ts),qX (.ref F.R:: .none:: .ref F.se::F.v 3::F.v 4:: .ref F.hd:: .ref F.tl::vs),F.md,bg⟩
def gz.nx(nm:Value)(vs:List Value):gz:={F with g:=kb (F.g 0::F.g 1::F.g 2::F.g 3::F.g 4::F.g 5::F.g 6::ts),v:=qX (.none:: .none:: .none::F.v 3::nm:: .none:: .none::vs)}
end
structure Gf where
 it:Addr
 fr:Addr
 c1:Addr
 c2:Addr
 dn:Addr
 sd:Addr
 eR:Nat
 e1:Nat
 eS:Nat
 e2:Nat
structure oK where
 r0:aQ
 r1:aQ
 r2:aQ
 r3:aQ
 r4:aQ
 r5:aQ
 em:Array DictEntry
 es:Array DictEntry
 ss:List Value
 sz:Str->Int
 mo:Str->Int
abbrev oK.rows(X:oK):List aQ:=six X.r0 X.r1 X.r2 X.r3 X.r4 X.r5
structure oG(w:World)(X:oK):Prop where
 bg:Ej w X.em X.es X.sz X.mo
 ss:bL X.ss
 ls:X.ss.length<1000
 ys:∀r∈X.rows,r.ys.length<=2
 hq:∀r∈X.rows,X.ss.any (b9 r.h.1)=true
 nd:(X.rows.map fun r=>r.h.1).Nodup
 hm:cC X.em X.mo (X.rows.map (·.h))
 hz:cC X.es X.sz (X.rows.map (·.h))
def B7(Y:Gf)(X:oK)(R md se hd tl:Addr)(io fo:Obj)(vU lO wz:List Value)(eH eT ed:Nat):Led:=[(Y.it,io),(Y.fr,fo),(R,aj (bB X.rows) Y.eR),au X.r0,au X.r1,au X.r2,au X.r3,au X.r4,au X.r5,(md,U X.em Y.e1),(se,aj X.ss Y.eS),(hd,aj vU eH),(tl,aj lO eT),(Y.c1,ay (.ref Y.dn)),(Y.dn,aj wz ed),(Y.c2,ay (.ref Y.sd)),(Y.sd,U X.es Y.e2)]
def Hy(w:World):Nat->gz->Obj
 |0,F=>Sb w F
 |_,F=>HB w F
theorem oW(l:List (Str×Tok)):bL (l.map ao):=fun v hv=>by
 obtain⟨p,_,rfl⟩:=cz hv
 exact⟨_,_,rfl⟩
structure Gg where
 F:gz
 tn:Nat
 left:Int
 hs:List (Str×Tok)
 ds:List (Str×Tok)
 lO:List Value
 eH:Nat
 eT:Nat
 ed:Nat
structure J3(w:World)(X:oK)(Z:Gg)(D:List Dat)(gs:List (Str×Tok))(x:List Int×List (Str×Tok)):Prop where
 oX:oG w X
 hl:0<Z.left
 l1:(Z.hs.map ao).length<1000000
 l2:(Z.ds.map ao).length<1000000
 l4:Z.lO.length<1000000
 hD:bY (Z.hs.map ao) (Z.ds.map ao) X.ss 0 X.rows=D
 JR:oF D
 Zu:D.length<1000
 Tq:fY D=gs
 lg:(gs.map ao).length<1000000
 l5:(Z.hs.map ao).length+(gs.map ao).length<1000000
 hg:cC X.em X.mo gs
 H2:cC X.es X.sz gs
 jm:cC X.es X.sz Z.ds
 hn:Z.ds.length+gs.length<1000
 hx:cV X.sz X.mo ([],Z.ds) gs=x
section
variable(Y:Gf)(X:oK)(Z:Gg)(sh:Nat)(D:List Dat)(gs:List (Str×Tok))(x:List Int×List (Str×Tok))(h:J3 w X Z D gs x)(fs:List Env)(ν:Nu)
def Gg.L(w:World):Led:=B7 Y X Z.F.R Z.F.md Z.F.se Z.F.hd Z.F.tl (ai Z.tn Z.left) (Hy w sh Z.F) (Z.hs.map ao) Z.lO (Z.ds.map ao) Z.eH Z.eT Z.ed
def PB:Nat->Tok×Tok
 |0=>((ν 1).1 0,(ν 3).1 0)
 |_=>(Z.F.g 7,Z.F.g 8)
def YF(J:Nat):Nat->List Tok
 |0=>[(ν 16).1 0,(ν (J-1)).1 0,(ν (J+5)).1 0]
 |_=>[Z.F.g 11,Z.F.g 12,Z.F.g 13]
def Lw(J:Nat):List Tok:=(PB Z ν sh).1::(PB Z ν sh).2::(pr (ν 9)).1 1::(pr (ν 9)).1 2::YF Z ν J sh
def Lv(act:Bool):List Value:=[.int Z.tn ((pr (ν 0)).1 0),.ref ((ν 2).1 0),((pr (ν 9)).2 0).headD .none,((pr (ν 9)).2 1).headD .none,.ref ((pr (ν 15)).1 0),.bool act]
def HA(J:Nat)(act:Bool):gz:=Z.F.nx (Lw Z sh ν J) (((pr (ν (J+7))).2 0).headD .none) (Lv Z ν act++[.ref ((ν (J+4)).1 0)])
def V0(w:World)(J:Nat)(act:Bool):Led:=[((ν (J+8)).1 0,ae #[.bool act,.ref ((pr (ν 15)).1 0),.ref ((ν (J+4)).1 0),.bool act] 0),((ν (J+4)).1 0,aj (aq x.1 (fun i=>(pr (ν (J+7))).1 (i+2)) 0) ((pr (ν (J+7))).1 0)),((pr (ν 15)).1 0,ae (gs.map ao).toArray 0)]++
 B7 Y X Z.F.R Z.F.md Z.F.se Z.F.hd Z.F.tl (ai (Z.tn+1) (Z.left-1)) (Hy w 1 (HA Z sh ν J act)) (Z.hs.map ao++gs.map ao) (Z.lO++[.ref ((ν (J+8)).1 0)]) (x.2.map ao) ((pr (ν (J+2))).1 0) (Z.eT+1) ((pr (ν (J+7))).1 1)
def Lx:Nat->Nat
 |0=>0
 |_=>2
theorem B6(n:Nat):Lx n<=2:=by
 cases n with
 |zero=>exact cY 2
 |succ=>exact bC 2
def VZ(J:Nat)(act:Bool)(b:Bool)(hb:(gs.map ao).isEmpty=b)(more:List (Nu->aJ w)):List (Nu->aJ w):=
 K (fR Z.tn Z.left h.hl)::(fun ν=>Rq (Lx sh) (B6 sh) (Z.F.fk (PB Z ν sh).1 (PB Z ν sh).2 (.int Z.tn ((pr (ν 0)).1 0)) ((ν 2).1 0)) (Z.hs.map ao) (Z.ds.map ao) X.ss (oW Z.hs) (oW Z.ds) h.oX.ss h.l2 (Nat.lt_trans h.oX.ls (by decide)) X.r0 X.r1 X.r2 X.r3 X.r4 X.r5 h.oX.ys h.oX.hq D h.hD)::
 (fun ν=>GO D (fun i=>(pr (ν 9)).1 (i+3)) h.JR)::(fun ν=>Rl D (fun i=>(pr (ν 9)).1 (i+3)) h.Zu gs h.Tq)::K (mw (gs.map ao) h.lg)::K (GN (gs.map ao) (!b) (congrArg not hb))::
 (more++[K mx,K (vh (gs.map ao) h.lg),K (GX (Z.hs.map ao) (gs.map ao) h.l5),fun ν=>Ry (Z.F.ZX (Lw Z sh ν J) (Lv Z ν act) ((ν (J+4)).1 0)) X.em X.es X.sz X.mo h.oX.bg gs Z.ds h.hg h.H2 h.jm h.hn x h.hx,K (av Z.lO h.l4),K (xJ (gs.map ao) b hb)])
def YD(act:Bool)(q:decide (((Z.hs.map ao).length:Int)>((Z.ds.map ao).length:Int))=act)(h:J3 w X Z [] [] ([],Z.ds)):Out pw w (TW w) Fin:=bW w ν 282 none (some (36,fs)) (B9 w Y.fr Y.it Y.c1 Y.c2) (Z.L Y X sh w) 0x1800c11c11c03c004164008e38e39965964e01c6da64154d10000a04400110434034d00030c0005400c159608000304100100b0002c02cb0000415c009700050008b0000000400c108108028004104a2800410010410020010410c004264504100104109508500000000b28920718535140e0840153c10410410010410410010400000000c3000082000002041
 (VZ X Z sh [] [] ([],Z.ds) h 23 act true rfl [K (fS (Z.hs.map ao) h.l1),K (fS (Z.ds.map ao) h.l2),K (o7 ((Z.hs.map ao).length:Int) ((Z.ds.map ao).length:Int) act q)])
theorem R8(fj:sh=0\/sh=1)(act:Bool)(q:decide (((Z.hs.map ao).length:Int)>((Z.ds.map ao).length:Int))=act)(h:J3 w X Z [] [] ([],Z.ds)):aT 0x155555555aaa9a66 (.ok (.done .next)) (V0 Y X Z sh [] ([],Z.ds) ν w 23 act) (YD (w:=w) Y X Z sh fs ν act q h):=by
 cases act<;>rcases fj with rfl|rfl<;>kernel_rfl
def YE(d:Dat)(D:List Dat)(h:J3 w X Z (d::D) gs x)(hb:(gs.map ao).isEmpty=false):Out pw w (TW w) Fin:=bW w ν 272 none (some (36,fs)) (B9 w Y.fr Y.it Y.c1 Y.c2) (Z.L Y X sh w) 0x1800c11c11c03c004164008e38e39965964e01c6da64154d10000a04400110434034d00030c0005400c159608000304100100b0002c02cb0000400c108108028004104a2800410010410020010410410410410c004264504100104109508500000000b28920718535140e0840153c10410410010410410010400000000c3000082000002041
 (VZ X Z sh (d::D) gs x h 20 true false hb [])
theorem R9(fj:sh=0\/sh=1)(d:Dat)(D:List Dat)(h:J3 w X Z (d::D) gs x)(hb:(gs.map ao).isEmpty=false):aT 0x155555555aaa9a66 (.ok (.again (B9 w Y.fr Y.it Y.c1 Y.c2))) (V0 Y X Z sh gs x ν w 20 true) (YE (w:=w) Y X Z sh gs x fs ν d D h hb):=by
 rcases fj with rfl|rfl<;>kernel_rfl
end
theorem Sa(fr it c1 c2:Addr)(k:Nat)(fs:List Env)(ν:Nu):
  aT 26 (.ok .next) [(it,ai k 0)]
   (runC w ν 46 none (some (36,fs)) (B9 w fr it c1 c2) [(it,ai k 0)] 1073750080 [K (iI k 0 (Int.le_refl 0))]):=by kernel_rfl
theorem rU{a:Str}(h:xs.any (b9 a)=true):idxOf xs a<xs.length:=by
 obtain⟨n8,_⟩:=List.findIdx?_eq_some_iff_getElem.mp (kU h)
 exact n8
theorem CF(hs:bL xs){a b:Str}(ha:xs.any (b9 a)=true)(hb:xs.any (b9 b)=true)(e:idxOf xs a=idxOf xs b):a=b:=by
 obtain⟨h1,h2,_⟩:=List.findIdx?_eq_some_iff_getElem.mp (kU ha)
 obtain⟨h3,h4,_⟩:=List.findIdx?_eq_some_iff_getElem.mp (kU hb)
 obtain⟨x,t,hx⟩:=hs xs[idxOf xs a] (List.getElem_mem h1)
 have YW:xs[idxOf xs b]=.str x t:=by rw[<-hx];congr 1;exact e.symm
 rw[hx]at h2;rw[YW]at h4
 have k:∀c,b9 c (.str x t)=true->x=c:=fun c h=>by simpa[b9]using h
 rw[<-k a h2,<-k b h4]
theorem Ci:∀(i:Nat) (l:List Nat),0<=rL (i::l)
 |i,[]=>Int.natCast_nonneg i
 |i,j::l=>by
  rw[rL]
  cases decide ((j:Int)>(i:Int))with
  |true=>exact Int.natCast_nonneg j
  |false=>exact Int.natCast_nonneg i
structure X0(ss:List Value)(k:Nat)(r:aQ)(d:Dat):Prop where
 h:d.2.2=r.h
 p:(d.1= -1/\d.2.1=idxOf ss r.h.1)\/(0<=d.1/\d.2.1=k)
theorem uI{hs ds ss:List Value}{k:Nat}{r:aQ}{d:Dat}(h:d∈d6 hs ds ss k r):X0 ss k r d:=by
 unfold d6 at h
 cases hb:hs.any (b9 r.h.1)|| !(fC ds r.ys).isEmpty with
 |true=>rw[hb]at h;cases h
 |false=>
  rw[hb]at h
  have e:=lZ h
  cases hy:r.ys with
  |nil=>rw[hy]at e;rw[e];exact⟨rfl,.inl ⟨rfl,rfl⟩⟩
  |cons y ys=>rw[hy]at e;rw[e];exact⟨rfl,.inr ⟨Ci _ _,rfl⟩⟩
theorem j3(hs ds ss:List Value):∀(l:List aQ) (k:Nat) {d:Dat},d∈bY hs ds ss k l->E2 fun j r=>k<=j/\j<k+l.length/\r∈l/\X0 ss j r d
 |r::l,k,d,h=>by
  rw[bY]at h
  rcases bw h with h|h
  ·exact⟨k,r,bC k,by rw[List.length_cons];lia,.head _,uI h⟩
  ·obtain⟨j,r',a,b,c,d⟩:=j3 hs ds ss l (k+1) h
   exact⟨j,r',by lia,by rw[List.length_cons];lia,.tail _ c,d⟩
theorem YK:∀l:List Int,l.length<=1->l.Nodup
 |[],_=>List.nodup_nil
 |[d],_=>List.nodup_cons.mpr ⟨dS,List.nodup_nil⟩
 |_::_::_,h=>absurd h (by simp)
theorem mP(hs ds ss:List Value)(PR:bL ss)(hl:ss.length<1000):∀(l:List aQ) (k:Nat),k+l.length<1000->(∀r∈l,ss.any (b9 r.h.1)=true)->(l.map fun r=>r.h.1).Nodup->((bY hs ds ss k l).map fG).Nodup
 |[],_,_,_,_=>.nil
 |r::l,k,hk,hq,hn=>by
  rw[List.length_cons]at hk
  obtain⟨n1,n2⟩:=jM hn
  have ih:=mP hs ds ss PR hl l (k+1) (by lia) (fun r h=>hq r (.tail _ h)) n2
  rw[bY,List.map_append]
  refine List.nodup_append.mpr ⟨?_,ih,fun a ha b hb=> ?_⟩
  ·exact YK _ (by rw[List.length_map];exact i5 hs ds ss k r)
  ·obtain⟨d,hd,rfl⟩:=cz ha
   obtain⟨d',qP,rfl⟩:=cz hb
   obtain⟨e1,p1⟩:=uI hd
   obtain⟨j,r',j1,j2,Ta,⟨e2,p2⟩⟩:=j3 hs ds ss l (k+1) qP
   have i1:=rU (hq r (.head _))
   have i2:=rU (hq r' (.tail _ Ta))
   unfold fG
   rcases p1 with⟨a1,a2⟩|⟨a1,a2⟩<;>rcases p2 with⟨b1,b2⟩|⟨b1,b2⟩
   ·intro e
    have:idxOf ss r.h.1=idxOf ss r'.h.1:=by rw[<-a2,<-b2];lia
    exact n1 (by show r.h.1∈_;rw[CF PR (hq r (.head _)) (hq r' (.tail _ Ta)) this];exact gN (f:=fun r:aQ=>r.h.1) Ta)
   ·lia
   ·lia
   ·lia
theorem zB(hs ds ss:List Value)(PR:bL ss)(hl:ss.length<1000)(l:List aQ)(h6:l.length<=6)(hq:∀r∈l,ss.any (b9 r.h.1)=true)(hn:(l.map fun r=>r.h.1).Nodup):oF (bY hs ds ss 0 l):=
 ⟨bP (mO hs ds ss l 0) h6,fun d hd=>by
  obtain⟨j,r,_,j2,hr,⟨_,p⟩⟩:=j3 hs ds ss l 0 hd
  have i:=rU (hq r hr)
  rcases p with⟨_,p⟩|⟨_,p⟩<;>lia,mP hs ds ss PR hl l 0 (by lia) hq hn⟩
theorem CU{hs ds ss:List Value}{l:List aQ}{p:Str×Tok}(h:p∈fY (bY hs ds ss 0 l)):∃r∈l,p=r.h:=by
 obtain⟨d,hd,rfl⟩:=cz h
 obtain⟨j,r,_,_,hr,⟨e,_⟩⟩:=j3 hs ds ss l 0 ((cF fG _).mem_iff.mp hd)
 exact⟨r,hr,e⟩
theorem uG(D:List Dat):(fY D).length=D.length:=by unfold fY;rw[List.length_map,e6]
abbrev iy:=Bool×List (Str×Tok)×List Int
structure i9 where
 ad:Addr
 ga:Addr
 ba:Addr
 d:iy
 tg:Nat->Tok
 eb:Nat
def eX(e:i9):Led:=[(e.ad,ae #[.bool e.d.1,.ref e.ga,.ref e.ba,.bool e.d.1] 0),(e.ba,aj (aq e.d.2.2 e.tg 0) e.eb),(e.ga,ae (e.d.2.1.map ao).toArray 0)]
noncomputable def jB(e:i9):Value:=.ref e.ad
noncomputable def dT(sz mo:Str->Int)(ss:List Value)(rows:List aQ):Nat->List (Str×Tok)->List (Str×Tok)->List iy
 |0,_,_=>[]
 |Nat.succ n,hs,ds=>match bY (hs.map ao) (ds.map ao) ss 0 rows with
  |[]=>[(decide (((hs.map ao).length:Int)>((ds.map ao).length:Int)),[],[])]
  |d::D=>(true,fY (d::D),(cV sz mo ([],ds) (fY (d::D))).1)::dT sz mo ss rows n (hs++fY (d::D)) (cV sz mo ([],ds) (fY (d::D))).2
theorem m6(sz mo:Str->Int):∀(gs:List (Str×Tok)) (x:List Int×List (Str×Tok)),(cV sz mo x gs).2.length<=x.2.length+gs.length
 |[],_=>bC _
 |p::gs,x=>by
  have h1:=m6 sz mo gs (cy sz mo x p)
  have h2:=(lE sz mo x p).2
  rw[List.length_cons]
  show(cV sz mo (cy sz mo x p) gs).2.length<=_
  lia
theorem qF{sz mo:Str->Int}:∀(gs:List (Str×Tok)) (x:List Int×List (Str×Tok)),cC es sz x.2->cC es sz gs->cC es sz (cV sz mo x gs).2
 |[],_,h,_=>h
 |p::gs,x,h,hg=>qF gs (cy sz mo x p) (mZ h (hg p (.head _))) fun q hq=>hg q (.tail _ hq)
def Kj(ad ga ba:Addr)(d:iy)(tg:Nat->Tok)(eb:Nat):i9:=⟨ad,ga,ba,d,tg,eb⟩
def gz.sm(F G:gz):Prop:=F.R=G.R/\F.md=G.md/\F.se=G.se/\F.hd=G.hd/\F.tl=G.tl
theorem gz.nB(F:gz):F.sm F:=⟨rfl,rfl,rfl,rfl,rfl⟩
def B8(w:World)(Y:Gf)(X:oK)(Z:Gg)(F':gz)(e:i9)(gs DD:List (Str×Tok))(qR j4:Nat):Led:=eX e++B7 Y X Z.F.R Z.F.md Z.F.se Z.F.hd Z.F.tl (ai (Z.tn+1) (Z.left-1)) (Hy w 1 F') (Z.hs.map ao++gs.map ao) (Z.lO++[jB e]) (DD.map ao) qR (Z.eT+1) j4
structure O8(w:World)(X:oK)(Z:Gg):Prop where
 oX:oG w X
 hl:0<Z.left
 lh:Z.hs.length<1000
 ld:Z.ds.length<900
 lt:Z.lO.length<1000000
 jm:cC X.es X.sz Z.ds
theorem rF{X:oK}{hs ds:List Value}{D:List Dat}(hD:bY hs ds X.ss 0 X.rows=D){p:Str×Tok}(hp:p∈fY D):p∈X.rows.map (·.h):=by
 rw[<-hD]at hp
 obtain⟨r,hr,rfl⟩:=CU hp
 exact gN (f:=fun r:aQ=>r.h) hr
theorem O8.h{X:oK}{Z:Gg}(b:O8 w X Z){D:List Dat}(hD:bY (Z.hs.map ao) (Z.ds.map ao) X.ss 0 X.rows=D):J3 w X Z D (fY D) (cV X.sz X.mo ([],Z.ds) (fY D))/\(fY D).length<=6:=by
 have JR:=zB (Z.hs.map ao) (Z.ds.map ao) X.ss b.oX.ss b.oX.ls X.rows (bC 6) b.oX.hq b.oX.nd
 rw[hD]at JR
 have lg:(fY D).length<=6:=by rw[uG];exact JR.len
 have m1:∀l:List (Str×Tok),(l.map ao).length=l.length:=fun l=>List.length_map ..
 have k1:=b.lh
 have k2:=b.ld
 exact⟨⟨b.oX,b.hl,by rw[m1];lia,by rw[m1];lia,b.lt,hD,JR,cW JR.len (by decide),rfl,by rw[m1];lia,by rw[m1,m1];lia,fun p hp=>b.oX.hm p (rF hD hp),fun p hp=>b.oX.hz p (rF hD hp),b.jm,by lia,rfl⟩,lg⟩
section
variable(Y:Gf)(X:oK)(Z:Gg)
theorem yM(b:O8 w X Z)(sh:Nat)(fj:sh=0\/sh=1)(d:Dat)(D:List Dat)(hD:bY (Z.hs.map ao) (Z.ds.map ao) X.ss 0 X.rows=d::D){fs:List Env}(ii:In w (some 36) true fs A s (Z.L Y X sh w))(kk:∀(F':gz) (e:i9) (qR j4:Nat) (s':Shared),F'.sm Z.F->e.d=(true,fY (d::D),(cV X.sz X.mo ([],Z.ds) (fY (d::D))).1)->Done (T:=TW w) s s' (Z.L Y X sh w) (B8 w Y X Z F' e (fY (d::D)) (cV X.sz X.mo ([],Z.ds) (fY (d::D))).2 qR j4)->codeAny (Mo w) A (B9 w Y.fr Y.it Y.c1 Y.c2) R s'):codeAny (Mo w) A (B9 w Y.fr Y.it Y.c1 Y.c2) R s:=by
 have q2:((fY (d::D)).map ao).isEmpty=false:=by
  have:=uG (d::D)
  cases e:fY (d::D)with
  |nil=>rw[e]at this;nomatch this
  |cons=>rfl
 exact ii.turn (by kernel_rfl) (fun ν=>R9 Y X Z sh _ _ fs ν fj d D (b.h hD).1 q2) fun ν s' dd=>kk (HA Z sh ν 20 true) (Kj ((ν 28).1 0) ((pr (ν 15)).1 0) ((ν 24).1 0) (true,fY (d::D),(cV X.sz X.mo ([],Z.ds) (fY (d::D))).1) (fun i=>(pr (ν 27)).1 (i+2)) ((pr (ν 27)).1 0)) _ _ s' Z.F.nB rfl dd
theorem yN(b:O8 w X Z)(sh:Nat)(fj:sh=0\/sh=1)(hD:bY (Z.hs.map ao) (Z.ds.map ao) X.ss 0 X.rows=[]){fs:List Env}(ii:In w (some 36) true fs A s (Z.L Y X sh w))(kk:∀(F':gz) (e:i9) (qR j4:Nat) (s':Shared),F'.sm Z.F->e.d=(decide (((Z.hs.map ao).length:Int)>((Z.ds.map ao).length:Int)),[],[])->Done (T:=TW w) s s' (Z.L Y X sh w) (B8 w Y X Z F' e [] Z.ds qR j4)->R (.ok .next) s'):codeAny (Mo w) A (B9 w Y.fr Y.it Y.c1 Y.c2) R s:=
 ii.last (fun ν=>R8 Y X Z sh fs ν fj _ rfl (b.h hD).1) fun ν s' dd=>kk (HA Z sh ν 23 _) (Kj ((ν 31).1 0) ((pr (ν 15)).1 0) ((ν 27).1 0) (decide (((Z.hs.map ao).length:Int)>((Z.ds.map ao).length:Int)),[],[]) (fun _=>0) ((pr (ν 30)).1 0)) _ _ s' Z.F.nB rfl dd
end
theorem Done.eq{G:Ground}{s':Shared}{K L M:Led}(d:Done (T:=G) s s' K L)(e:L=M):Done (T:=G) s s' K M:=e▸d
structure AE where
 F:gz
 hs:List (Str×Tok)
 ds:List (Str×Tok)
 fl:List i9
 eH:Nat
 eT:Nat
 ed:Nat
def AE.T(Z:AE)(t0:List Value)(tn n:Nat):Gg:=⟨Z.F,tn,((n+1:Nat):Int),Z.hs,Z.ds,t0++Z.fl.map jB,Z.eH,Z.eT,Z.ed⟩
def Hx(w:World)(Y:Gf)(X:oK)(t0:List Value)(G:gz)(io fo:Obj)(vU wz:List Value)(fl:List i9)(eH eT ed:Nat):Led:=fl.flatMap eX++B7 Y X G.R G.md G.se G.hd G.tl io fo vU (t0++fl.map jB) wz eH eT ed
def AE.L(Z:AE)(w:World)(Y:Gf)(X:oK)(t0:List Value)(io:Obj)(sh:Nat):Led:=Hx w Y X t0 Z.F io (Hy w sh Z.F) (Z.hs.map ao) (Z.ds.map ao) Z.fl Z.eH Z.eT Z.ed
section
variable(Y:Gf)(X:oK)
theorem rG(t0:List Value){F G:gz}(h:F.sm G)(io fo:Obj)(vU wz:List Value)(fl:List i9)(eH eT ed:Nat):Hx w Y X t0 F io fo vU wz fl eH eT ed=Hx w Y X t0 G io fo vU wz fl eH eT ed:=by
 unfold Hx
 rw[h.1,h.2.1,h.2.2.1,h.2.2.2.1,h.2.2.2.2]
theorem tP(t0:List Value)(Z:AE)(tn n:Nat)(F':gz)(hF:F'.sm Z.F)(e:i9)(gs DD:List (Str×Tok))(qR j4:Nat):
  (AE.L ⟨F',Z.hs++gs,DD,Z.fl++[e],qR,Z.eT+1,j4⟩ w Y X t0 (ai ((tn+1:Nat):Int) n) 1).Perm (B8 w Y X (Z.T t0 tn n) F' e gs DD qR j4++Z.fl.flatMap eX):=by
 refine(List.Perm.of_eq ?_).trans dy
 unfold AE.L B8 AE.T
 rw[rG Y X t0 hF]
 unfold Hx
 dsimp only
 rw[List.flatMap_append,List.flatMap_singleton,List.append_assoc,List.map_append,List.map_append,List.append_assoc,show((n+1:Nat):Int)-1=(n:Int)from Int.add_sub_cancel (n:Int) 1]
 rfl
theorem B5(hX:oG w X)(t0:List Value)(YZ:t0.length<1000)(G:gz){fs:List Env}(n:Nat):∀(sh tn:Nat) (Z:AE) (s:Shared),
  (sh=0\/sh=1)->Z.F.sm G->Z.hs.length+6*n<=100->Z.ds.length+6*n<=100->Z.fl.length+n<=100->cC X.es X.sz Z.ds->In w (some 36) true fs A s (Z.L w Y X t0 (ai tn n) sh)->
  (∀(a b KL:Nat) (F':gz) (vU wz:List Value) (IC:List i9) (qR ZN j4:Nat) (s':Shared),(sh=1\/n≠0->KL=1)->IC.map (·.d)=Z.fl.map (·.d)++dT X.sz X.mo X.ss X.rows n Z.hs Z.ds->
   Done (T:=TW w) s s' (Z.L w Y X t0 (ai tn n) sh) (Hx w Y X t0 G (ai (a:Nat) (b:Nat)) (Hy w KL F') vU wz IC qR ZN j4)->F'.sm G->R (.ok .next) s')->
  codeAny (Mo w) A (B9 w Y.fr Y.it Y.c1 Y.c2) R s:=by
 induction n with
 |zero=>
  intro sh tn Z s fj hF lh ld lf jm ii kk
  have hp:([(Y.it,ai tn 0)]++(Z.fl.flatMap eX++(B7 Y X Z.F.R Z.F.md Z.F.se Z.F.hd Z.F.tl (ai tn 0) (Hy w sh Z.F) (Z.hs.map ao) (t0++Z.fl.map jB) (Z.ds.map ao) Z.eH Z.eT Z.ed).tail)).Perm (Z.L w Y X t0 (ai tn 0) sh):=
   (lY (a:=(Y.it,ai tn 0)) (l₁:=Z.fl.flatMap eX) (l₂:=(B7 Y X Z.F.R Z.F.md Z.F.se Z.F.hd Z.F.tl (ai tn 0) (Hy w sh Z.F) (Z.hs.map ao) (t0++Z.fl.map jB) (Z.ds.map ao) Z.eH Z.eT Z.ed).tail)).symm
  exact(ii.part hp).code (fun ν=>Sa Y.fr Y.it Y.c1 Y.c2 tn fs ν) fun ν s' d=>kk tn 0 sh Z.F _ _ Z.fl Z.eH Z.eT Z.ed s' (fun h=>h.resolve_right fun h=>h rfl) (List.append_nil _).symm (((d.at ii hp).perm hp.symm).eq (rG Y X t0 hF _ _ _ _ _ _ _ _)) hF
 |succ n ih=>
  intro sh tn Z s fj hF lh ld lf jm ii kk
  have lt:(t0++Z.fl.map jB).length<1000000:=by rw[List.length_append,List.length_map];lia
  have hp:((Z.T t0 tn n).L Y X sh w++Z.fl.flatMap eX).Perm (Z.L w Y X t0 (ai tn ((n+1:Nat):Int)) sh):=dy
  have b:O8 w X (Z.T t0 tn n):=⟨hX,Int.natCast_pos.mpr (Nat.succ_pos n),show Z.hs.length<1000 by lia,show Z.ds.length<900 by lia,lt,jm⟩
  cases hD:bY (Z.hs.map ao) (Z.ds.map ao) X.ss 0 X.rows with
  |nil=>
   refine yN Y X (Z.T t0 tn n) b sh fj hD (ii.part hp) fun F' e qR j4 s' vZ he dd=> ?_
   have d2:=(dd.at ii hp).perm (tP Y X t0 Z tn n F' vZ e [] Z.ds qR j4)
   have hG:F'.sm G:=⟨vZ.1.trans hF.1,vZ.2.1.trans hF.2.1,vZ.2.2.1.trans hF.2.2.1,vZ.2.2.2.1.trans hF.2.2.2.1,vZ.2.2.2.2.trans hF.2.2.2.2⟩
   exact kk (tn+1) n 1 F' _ _ (Z.fl++[e]) qR (Z.eT+1) j4 s' (fun _=>rfl) (by rw[List.map_append,List.map_singleton,he,dT,hD];rfl) (d2.eq (rG Y X t0 hG _ _ _ _ _ _ _ _)) hG
  |cons d D=>
   have lg:=(b.h hD).2
   refine yM Y X (Z.T t0 tn n) b sh fj d D hD (ii.part hp) fun F' e qR j4 s' vZ he dd=> ?_
   have d2:=(dd.at ii hp).perm (tP Y X t0 Z tn n F' vZ e (fY (d::D)) _ qR j4)
   have hG:F'.sm G:=⟨vZ.1.trans hF.1,vZ.2.1.trans hF.2.1,vZ.2.2.1.trans hF.2.2.1,vZ.2.2.2.1.trans hF.2.2.2.1,vZ.2.2.2.2.trans hF.2.2.2.2⟩
   have lb:=m6 X.sz X.mo (fY (d::D)) ([],Z.ds)
   have Tu:=qF (sz:=X.sz) (mo:=X.mo) (fY (d::D)) ([],Z.ds) jm fun p hp=>hX.hz p (rF hD hp)
   refine ih 1 (tn+1) ⟨F',Z.hs++fY (d::D),(cV X.sz X.mo ([],Z.ds) (fY (d::D))).2,Z.fl++[e],qR,Z.eT+1,j4⟩ s' (.inr rfl) hG (by rw[List.length_append];lia) (by dsimp only at lb⊢;lia) (by rw[List.length_append,List.length_singleton];lia) Tu (ii.go d2) fun a b KL F2 vU wz Ud e1 e2 e3 dB z2 z3 z4 z5=>kk a b KL F2 vU wz Ud e1 e2 e3 dB (fun _=>z2 (.inl rfl)) ?_ (d2.trans z4) z5
   rw[z3,List.map_append,List.map_singleton,he,dT,hD,List.append_assoc];rfl
end
noncomputable def cA(f:Nat->Nat):List iy->Nat->List i9
 |[],_=>[]
 |d::l,j=>⟨f j,f (8+j),f (16+j),d,fun i=>f (8*(i+4)+j),f (24+j)⟩::cA f l (Nat.succ j)
def zG(e:i9)(k:Nat):Nat:=match k with
 |0=>e.ad
 |1=>e.ga
 |2=>e.ba
 |3=>e.eb
 |i+4=>e.tg i
theorem nR(fl:List i9)(dflt:i9)(h8:fl.length<=8):∀(l pre:List i9),fl=pre++l->cA (fun i=>zG (fl.getD (i%8) dflt) (i/8)) (l.map (·.d)) pre.length=l
 |[],_,_=>rfl
 |e::l,pre,h=>by
  have hl:fl.length=pre.length+(l.length+1):=by rw[h,List.length_append,List.length_cons]
  have hp:pre.length<8:=by lia
  have he:fl.getD pre.length dflt=e:=by
   rw[List.getD_eq_getElem?_getD,h,List.getElem?_append_right (Nat.le_refl _),Nat.sub_self]
   rfl
  have ih:=nR fl dflt h8 l (pre++[e]) (by rw[h,List.append_assoc];rfl)
  rw[List.length_append]at ih
  have at':∀k,zG (fl.getD ((8*k+pre.length)%8) dflt) ((8*k+pre.length)/8)=zG e k:=fun k=>by
   rw[show(8*k+pre.length)%8=pre.length by lia,show(8*k+pre.length)/8=k by lia,he]
  rw[List.map_cons,cA]
  refine congr (congrArg List.cons ?_) ih
  have a0:=at' 0
  rw[show 8*0+pre.length=pre.length by lia]at a0
  rw[a0,at' 1,at' 2,at' 3]
  simp only[at']
  rfl
def gz.of(m:Mu)(R md se hd tl:Addr):gz:=⟨fun i=>m.1 (i+5),fun i=>(m.2 (i+2)).headD .none,R,md,se,hd,tl⟩
theorem Sf(F:gz)(a b c d e:Nat)(f:Nat->Nat)(x y:List Value)(R md se hd tl:Addr):HB w ⟨F.g,F.v,R,md,se,hd,tl⟩=HB w (gz.of (fun i=>match i with
  |0=>a|1=>b|2=>c|3=>d|4=>e|i+5=>if i<14 then F.g i else f (i-19),fun i=>match i with
  |0=>x|1=>y|i+2=>[F.v i]) R md se hd tl):=rfl
def Hz(X:oK)(F:gz)(t0:List Value)(T:List iy):aD w (Gf×Nat×Nat×Nat)where
 lv:=some 36
 bare:=true
 find c pre _:=match c with
  | .forLoop _ _ _ _ env=>some (⟨(az pre 0).1,(az pre 1).1,(az pre 13).1,env.cells[1]?.elim 0 (·.2),(az pre 14).1,(az pre 16).1,cK (az pre 2).2,cK (az pre 9).2,cK (az pre 10).2,cK (az pre 16).2⟩,cK (az pre 11).2,cK (az pre 12).2,cK (az pre 14).2)
  |_=>none
 code y:=B9 w y.1.fr y.1.it y.1.c1 y.1.c2
 pre y:=B7 y.1 X F.R F.md F.se F.hd F.tl (ai 0 7) (Sb w F) [] t0 [] y.2.1 y.2.2.1 y.2.2.2
 r _ _:=.ok .next
 post y m:=[ai (m.1 0:Nat) (m.1 1:Nat),HB w (gz.of m F.R F.md F.se F.hd F.tl),aj (bB X.rows) y.1.eR,(au X.r0).2,(au X.r1).2,(au X.r2).2,(au X.r3).2,(au X.r4).2,(au X.r5).2,U X.em y.1.e1,aj X.ss y.1.eS,aj (m.2 0) (m.1 2),aj (t0++(cA (fun i=>m.1 (i+24)) T 0).map jB) (m.1 3),ay (.ref y.1.dn),aj (m.2 1) (m.1 4),ay (.ref y.1.sd),U X.es y.1.e2]
 rest _ m:=(cA (fun i=>m.1 (i+24)) T 0).flatMap eX
theorem qx(sz mo:Str->Int)(ss:List Value)(rows:List aQ):∀(n:Nat) (hs ds:List (Str×Tok)),(dT sz mo ss rows n hs ds).length<=n
 |0,_,_=>bC 0
 |n+1,hs,ds=>by
  rw[dT]
  cases bY (hs.map ao) (ds.map ao) ss 0 rows with
  |nil=>exact jJ (cY n)
  |cons d D=>exact jJ (qx sz mo ss rows n _ _)
theorem Lu(X:oK)(hX:oG w X)(F:gz)(t0:List Value)(ht:t0.length<1000):(Hz (w:=w) X F t0 (dT X.sz X.mo X.ss X.rows 7 [] [])).Ok:=by
 intro y fs A s Rz ii _ kk
 have hS:=ii.hs
 rw[show(Hz (w:=w) X F t0 (dT X.sz X.mo X.ss X.rows 7 [] [])).tail y=[]from rfl,List.append_nil]at hS kk
 have en:t0++([]:List i9).map jB=t0:=List.append_nil t0
 have e0:AE.L ⟨F,[],[],[],y.2.1,y.2.2.1,y.2.2.2⟩ w y.1 X t0 (ai (0:Nat) (7:Nat)) 0=(Hz (w:=w) X F t0 (dT X.sz X.mo X.ss X.rows 7 [] [])).pre y:=by
  unfold AE.L Hx
  dsimp only
  rw[en]
  rfl
 refine B5 y.1 X hX t0 ht F 7 0 0 ⟨F,[],[],[],y.2.1,y.2.2.1,y.2.2.2⟩ s (.inl rfl) F.nB (show 0+6*7<=100 by decide) (show 0+6*7<=100 by decide) (show 0+7<=100 by decide) (fun p hp=>nomatch hp) ⟨ii.hr,ii.hf,ii.hh,e0▸hS⟩ fun a b KL F' vU wz fl e1 e2 e3 s' q2 q3 d Y0=> ?_
 rw[e0,q2 (.inr (by decide))]at d
 have d:Done (T:=TW w) s s' ((Hz (w:=w) X F t0 (dT X.sz X.mo X.ss X.rows 7 [] [])).pre y) (fl.flatMap eX++B7 y.1 X F.R F.md F.se F.hd F.tl (ai (a:Nat) (b:Nat)) (HB w F') vU (t0++fl.map jB) wz e1 e2 e3):=d
 obtain⟨s1,s2,s3,s4,s5⟩:=Y0
 have eF:HB w F'=HB w ⟨F'.g,F'.v,F.R,F.md,F.se,F.hd,F.tl⟩:=by
  rw[<-s1,<-s2,<-s3,<-s4,<-s5]
 rw[eF]at d
 rw[List.map_nil,List.nil_append]at q3
 have h8:fl.length<=8:=by
  have h1:=congrArg List.length q3
  rw[List.length_map]at h1
  have h2:=qx X.sz X.mo X.ss X.rows 7 [] []
  lia
 obtain⟨f,Tt⟩:∃f,cA f (dT X.sz X.mo X.ss X.rows 7 [] []) 0=fl:=⟨_,q3▸nR fl ⟨0,0,0,(false,[],[]),fun _=>0,0⟩ h8 fl [] rfl⟩
 rw[<-Tt]at d
 refine kk (fun i=>match i with
  |0=>a|1=>b|2=>e1|3=>e2|4=>e3|i+5=>if i<14 then F'.g i else f (i-19),fun i=>match i with
  |0=>vU|1=>wz|i+2=>[F'.v i]) s' rfl ?_
 have ef:(fun i=>(match i+24 with
  |0=>a|1=>b|2=>e1|3=>e2|4=>e3|i+5=>if i<14 then F'.g i else f (i-19):Nat))=f:=by
  funext i
  show(if i+19<14 then F'.g (i+19)else f (i+19-19))=f i
  rw[if_neg (by lia),Nat.add_sub_cancel]
 refine Done.perm d ?_
 unfold aD.fin
 show List.Perm (((B7 y.1 X F.R F.md F.se F.hd F.tl (ai 0 7) (Sb w F) [] t0 [] y.2.1 y.2.2.1 y.2.2.2).map (·.1)).zip ((Hz (w:=w) X F t0 (dT X.sz X.mo X.ss X.rows 7 [] [])).post y _)++([]++(cA (fun i=>(match i+24 with
  |0=>a|1=>b|2=>e1|3=>e2|4=>e3|i+5=>if i<14 then F'.g i else f (i-19):Nat)) (dT X.sz X.mo X.ss X.rows 7 [] []) 0).flatMap eX)) _
 unfold Hz
 dsimp only
 rw[ef]
 exact dy
def Rb(X:oK)(hX:oG w X)(F:gz)(t0:List Value)(ht:t0.length<1000)(T:List iy)(hT:dT X.sz X.mo X.ss X.rows 7 [] []=T):aJ w:=(Hz X F t0 T).sm (by subst hT;exact Lu X hX F t0 ht)
noncomputable def dX(r0 r1 r2 r3 r4 r5:aQ)(em es:Array DictEntry)(sz mo:Str->Int):oK:=⟨r0,r1,r2,r3,r4,r5,em,es,jR (six r0 r1 r2 r3 r4 r5) 6,sz,mo⟩
theorem U8(R md sd:Addr)(eR e1 e2:Nat)(r0 r1 r2 r3 r4 r5:aQ)(em es:Array DictEntry)(sz mo:Str->Int)(hX:oG w (dX r0 r1 r2 r3 r4 r5 em es sz mo))(hl:∀r∈six r0 r1 r2 r3 r4 r5,r.ys.length<=2)(b:Bool)(hb:(!(itR (six r0 r1 r2 r3 r4 r5) 6).isEmpty)=b)(T:List iy)(hT:dT sz mo (jR (six r0 r1 r2 r3 r4 r5) 6) (six r0 r1 r2 r3 r4 r5) 7 [] []=T)(fs:List Env)(ν:Nu):
  aT 916260039322 (.ok (.ret (.ref ((gz.of (pr (ν 20)) R md ((ν 5).fst 0) ((ν 9).fst 0) ((ν 13).fst 0)).tl)))) (((ν 13).fst 0,aj (.bool b::(cA (fun i=>(pr (ν 20)).1 (i+24)) T 0).map jB) ((pr (ν 20)).1 3))::(R,aj (bB (six r0 r1 r2 r3 r4 r5)) eR)::au r0::au r1::au r2::au r3::au r4::au r5::(md,U em e1)::(sd,U es e2)::(List.flatMap eX (cA (fun i=>(pr (ν 20)).fst (i+24)) T 0)))
   (bX w ν 158 none (some (40,fs)) 318 [.ref R,.ref md,.ref sd] ((R,aj (bB (six r0 r1 r2 r3 r4 r5)) eR)::au r0::au r1::au r2::au r3::au r4::au r5::(md,U em e1)::(sd,U es e2)::(([]:Led))) 0xa4880c708419140f38d30b28901448104104100104104100104000000820034c2ca2481c02001c014518600b2892071850401002c11400451441040040820c30030c0 [(fun ν=>GP md ((ν 3).1 0) ((ν 4).1 0) ((ν 6).1 0) r0 r1 r2 r3 r4 r5 hl),K (GR r0 r1 r2 r3 r4 r5 hl b hb),(fun ν=>Rb (dX r0 r1 r2 r3 r4 r5 em es sz mo) hX ⟨kb [(pr (ν 8)).1 1,(pr (ν 8)).1 2,(pr (ν 8)).1 3,(pr (ν 8)).1 4,(pr (ν 8)).1 5,(ν 10).1 0,(ν 14).1 0],qX [.none,.none,.none,.ref r5.ad,.str (cx (lJ r5)).1 (cx (lJ r5)).2],R,md,(ν 5).1 0,(ν 9).1 0,(ν 13).1 0⟩ [.bool b] (show 1<1000 by decide) T hT)]):=by kernel_rfl
section
variable(r0 r1 r2 r3 r4 r5:aQ)(em es:Array DictEntry)
def OB(b:Bool)(T:List iy):aD w ((Addr×Addr×Addr)×(Nat×Nat×Nat))where
 lv:=some 40
 bare:=true
 find c pre _:=some (((gM (aN c 0)),(gM (aN c 1)),(gM (aN c 2))),(bp (az pre 0).2,wG (az pre 7).2,wG (az pre 8).2))
 code y:=.call (.ref 318) ⟨[.ref y.1.1,.ref y.1.2.1,.ref y.1.2.2],[]⟩
 pre y:=[(y.1.1,aj (bB (six r0 r1 r2 r3 r4 r5)) y.2.1),au r0,au r1,au r2,au r3,au r4,au r5,(y.1.2.1,U em y.2.2.1),(y.1.2.2,U es y.2.2.2)]
 r _ m:=.ok (.ret (.ref (m.1 0)))
 post y _:=[aj (bB (six r0 r1 r2 r3 r4 r5)) y.2.1,(au r0).2,(au r1).2,(au r2).2,(au r3).2,(au r4).2,(au r5).2,U em y.2.2.1,U es y.2.2.2]
 new _ m:=[(m.1 0,aj (.bool b::(cA (fun i=>m.1 (i+2)) T 0).map jB) (m.1 1))]
 rest _ m:=(cA (fun i=>m.1 (i+2)) T 0).flatMap eX
theorem IV(sz mo:Str->Int)(hX:oG w (dX r0 r1 r2 r3 r4 r5 em es sz mo))(hl:∀r∈six r0 r1 r2 r3 r4 r5,r.ys.length<=2)(b:Bool)(hb:(!(itR (six r0 r1 r2 r3 r4 r5) 6).isEmpty)=b)(T:List iy)(hT:dT sz mo (jR (six r0 r1 r2 r3 r4 r5) 6) (six r0 r1 r2 r3 r4 r5) 7 [] []=T):(OB (w:=w) r0 r1 r2 r3 r4 r5 em es b T).Ok:=
 fun y fs A s Rz ii _ kk=>aV (rm:=some (_,fs)) (U8 y.1.1 y.1.2.1 y.1.2.2 y.2.1 y.2.2.1 y.2.2.2 r0 r1 r2 r3 r4 r5 em es sz mo hX hl b hb T hT fs) (ii.hh rfl) ii.hr ii.hf ii.hs fun ν s' d=>kk (fun i=>match i with|0=>(ν 13).1 0|1=>(pr (ν 20)).1 3|i+2=>(pr (ν 20)).1 (i+24),fun _=>[]) s' rfl (d.perm (lY (a:=((ν 13).1 0,_)) (l₁:=[_,_,_,_,_,_,_,_,_])))
noncomputable def KG(sz mo:Str->Int)(hX:oG w (dX r0 r1 r2 r3 r4 r5 em es sz mo))(hl:∀r∈six r0 r1 r2 r3 r4 r5,r.ys.length<=2)(b:Bool)(hb:(!(itR (six r0 r1 r2 r3 r4 r5) 6).isEmpty)=b)(T:List iy)(hT:dT sz mo (jR (six r0 r1 r2 r3 r4 r5) 6) (six r0 r1 r2 r3 r4 r5) 7 [] []=T):aJ w:=(OB r0 r1 r2 r3 r4 r5 em es b T).sm (IV r0 r1 r2 r3 r4 r5 em es sz mo hX hl b hb T hT)
end
theorem Nx(m:Int)(tm:Tok)(fs:List Env)(ν:Nu):
  aT 0 (.ok (.ret (.bool (Builtin.bitAnd m 61440==32768)))) []
   (bX w ν 83 none (some (34,fs)) 206 [.int m tm] [] 0x40001001040fc0040001040 []):=by kernel_rfl
section
variable(m:Int)(b:Bool)
def K8:aD w Tok where
 lv:=some 34
 bare:=true
 find c _ _:=some (bV (aN c 0))
 code t:=.call (.ref 206) ⟨[.int m t],[]⟩
 pre _:=[]
 r _ _:=.ok (.ret (.bool b))
 post _ _:=[]
theorem Hg(hb:(Builtin.bitAnd m 61440==32768)=b):(K8 (w:=w) m b).Ok:=by
 subst hb
 exact fun t fs A s Rz ii _ kk=>aV (rm:=some (_,fs)) (Nx m t fs) (ii.hh rfl) ii.hr ii.hf ii.hs fun _ s' d=>kk eQ s' rfl d
def ED(hb:(Builtin.bitAnd m 61440==32768)=b):aJ w:=(K8 m b).sm (Hg m b hb)
end
end
section
open PySem
theorem Jf(m n k:Nat):m&&&((2^n-1)<<<k)=((m>>>k)%2^n)<<<k:=by
 refine Nat.eq_of_testBit_eq fun i=> ?_
 rw[<-Nat.and_two_pow_sub_one_eq_mod,Nat.testBit_and,Nat.testBit_shiftLeft,Nat.testBit_shiftLeft,Nat.testBit_and,Nat.testBit_shiftRight]
 cases h:decide (i>=k)with
 |false=>simp
 |true=>
  have h:=of_decide_eq_true h
  rw[Nat.add_sub_cancel' h]
  simp
theorem mY(m:Int)(hm:0<=m)(n k:Nat):Builtin.bitAnd m (((2^n-1)<<<k:Nat):Int)=((m.fdiv ((2^k:Nat):Int)).fmod ((2^n:Nat):Int))*((2^k:Nat):Int):=by
 obtain⟨a,rfl⟩:=Int.eq_ofNat_of_zero_le hm
 have e:Builtin.bitAnd (a:Int) (((2^n-1)<<<k:Nat):Int)=((a&&&((2^n-1)<<<k):Nat):Int):=rfl
 rw[e,Jf,Nat.shiftLeft_eq,Nat.shiftRight_eq_div_pow]
 rw[Int.fdiv_eq_ediv_of_nonneg _ (Int.natCast_nonneg _),<-Int.natCast_ediv,Int.fmod_eq_emod_of_nonneg _ (Int.natCast_nonneg _),<-Int.natCast_emod,<-Int.natCast_mul]
theorem yp(m:Int)(hm:0<=m):Builtin.bitAnd m 61440=32768↔(m.fdiv 4096).fmod 16=8:=by
 have:=mY m hm 4 12
 have e:Builtin.bitAnd m 61440=(m.fdiv 4096).fmod 16*4096:=this
 rw[e]
 lia
theorem vq(m:Int)(hm:0<=m):Builtin.bitAnd m 4=4↔(m.fdiv 4).fmod 2=1:=by
 have:=mY m hm 1 2
 have e:Builtin.bitAnd m 4=(m.fdiv 4).fmod 2*4:=this
 rw[e]
 lia
end
section
open PySem PySem.W PySem.W.X PyProof.Rows PySem.Builtin.Str
noncomputable abbrev Ij(w:World):Expr:=valOf (aK w 308 [6,2])
noncomputable abbrev Xc(w:World)(fr loc c1:Addr):Env:=compEnv (dj w 308 fr) loc [(S "modes",c1)] (Ij w)
section
variable(w:World)(fr it acc loc c1:Addr)
noncomputable abbrev Ik:Code:=.compLoop (Ij w) 0 (.ref it) (.ref acc) (Xc w fr loc c1)
noncomputable abbrev Zx:Code:=.compStart (Ij w) 0 (.ref it) (.ref acc) (Xc w fr loc c1)
end
structure Qu where
 it:Addr
 acc:Addr
 loc:Addr
 G:Addr
 c1:Addr
 md:Addr
 eG:Nat
 e1:Nat
def P8(Y:Qu)(io lo:Obj)(zs xs:List Value)(ea:Nat)(em:Array DictEntry):Led:=[(Y.it,io),(Y.acc,aj zs ea),(Y.loc,lo),(Y.G,ae xs.toArray Y.eG),(Y.c1,ay (.ref Y.md)),(Y.md,U em Y.e1)]
section
variable(fr:Addr)(Y:Qu)(em:Array DictEntry)(qh:KeysOf (kS w) em)(m:Int)(t:Tok)(p:Str×Tok)(hm:bo em p.1=some (.int m t))(xs zs:List Value)(ea k:Nat)(hv:xs[k]? =some (ao p))(lo:Option (Tok×Value))(fs:List Env)(ν:Nu)
def TX(w:World)(b:Bool):Led:=P8 Y (cN (.ref Y.G) (k+1)) (bD w "name" (Fg ((ν 1).1 0) lo) (ao p)) (bif b then zs++[ao p]else zs) xs (bif b then ea+1 else ea) em
def NZ(q:List (Nu->aJ w)):=bW w ν 92 none (some (36,fs)) (Ik w fr Y.it Y.acc Y.loc Y.c1) (P8 Y (cN (.ref Y.G) k) (y7 w "name" lo) zs xs ea em) 0x400830010400400401400861860c50000401400861860c50030c00c0003040 (K (ct xs k (ao p) hv)::K (cT p.1 em (.int m t) qh hm)::q)
theorem TU(h1:(Builtin.bitAnd m 61440==32768)=false):aT 3 (.ok (.again (Ik w fr Y.it Y.acc Y.loc Y.c1))) (TX Y em p xs zs ea k lo ν w false) (NZ (w:=w) fr Y em qh m t p hm xs zs ea k hv lo fs ν [K (ED m false h1)]):=by
 cases lo<;>kernel_rfl
theorem TS(h1:(Builtin.bitAnd m 61440==32768)=true)(z:Str)(Sd:(r6 (w:=w) m z).Ok)(c:Nat)(S3:(decide ((7:Int)< -(2^63:Int))||decide ((7:Int)>=2^63))=false)(PO:(seqIndex? 7 z.length).bind (z.cps[·]?)=some c)(b:Bool)(h2:decide ((⟨#[c]⟩:Str)=S "r")=b)(hz:zs.length<1000000):
  aT 3 (.ok (.again (Ik w fr Y.it Y.acc Y.loc Y.c1))) (TX Y em p xs zs ea k lo ν w b) (NZ (w:=w) fr Y em qh m t p hm xs zs ea k hv lo fs ν [K (ED m true h1),K (cT p.1 em (.int m t) qh hm),K ((r6 m z).sm Sd),K (c9 z 7 c S3 PO),K (ko ⟨#[c]⟩ (S "r") b h2),K (av zs hz)]):=by
 cases b<;>cases lo<;>kernel_rfl
end
theorem TV(fr it acc loc G c1:Addr)(xs:List Value)(eG k:Nat)(hv:xs[k]? =none)(fs:List Env)(ν:Nu):
  aT 90 (.ok .next) [(it,⟨(.type "tuple_iterator"),none,(.fields #[.none,(.int ↑k 0)]),#[]⟩),(G,ae xs.toArray eG)]
   (runC w ν 45 none (some (36,fs)) (Ik w fr it acc loc c1) [(it,cN (.ref G) k),(G,ae xs.toArray eG)] 69793230912 [K (dI xs k hv)]):=by kernel_rfl
def dO(mo:Str->Int)(gs:List (Str×Tok)):List (Str×Tok):=gs.filter fun p=>dv (mo p.1)
theorem tH{m:Int}(h0:0<=m):(Builtin.bitAnd m 61440==32768)=decide (Int.fmod (Int.fdiv m 4096) 16=8):=by
 rw[Bool.eq_iff_iff,beq_iff_eq,decide_eq_true_eq]
 exact yp m h0
theorem rW(mo:Str->Int)(l:List (Str×Tok))(p:Str×Tok):dO mo (l++[p])=dO mo l++(match dv (mo p.1)with|true=>[p]|false=>[]):=by
 unfold dO
 rw[List.filter_append,List.filter_cons,List.filter_nil]
 cases dv (mo p.1)<;>rfl
def JU(gs:List (Str×Tok))(j:Nat):Value:=gs[j]?.elim .none ao
section
variable(fr:Addr)(Y:Qu)(em:Array DictEntry)(mo:Str->Int)(gs:List (Str×Tok))(fs:List Env)
def AV(w:World)(io:Obj)(j:Nat)(x:Nat×Tok):Led:=P8 Y io (y7 w "name" (oH (JU gs) x.2 j)) ((dO mo (gs.take j)).map ao) (gs.map ao) x.1 em
theorem CZ(qh:KeysOf (kS w) em)(CK:cC em mo gs)(h0:∀p∈gs,0<=mo p.1)(hn:gs.length<1000){Q:Result->Shared->Prop}{x:Nat×Tok}(ii:In w (some 36) true fs A s (AV Y em mo gs w (cN (.ref Y.G) 0) 0 x))
  (kk:∀u s',Done (T:=TW w) s s' (AV Y em mo gs w (cN (.ref Y.G) 0) 0 x) (AV Y em mo gs w (cN .none gs.length) gs.length u)->Q (.ok .next) s'):codeAny (Mo w) A (Ik w fr Y.it Y.acc Y.loc Y.c1) Q s:=by
 refine forL (N:=gs.length) (L:=fun j=>AV Y em mo gs w (cN (.ref Y.G) j) j) (I:=fun _ _=>True) (E:=AV Y em mo gs w (cN .none gs.length) gs.length) (fun j u hj _=> ?_) (fun u _=> ?_) gs.length 0 x s Q (Nat.zero_add _).symm trivial ii fun u s' _ d=>kk u s' d
 ·have hr:gs[j]? =some gs[j]:=jN hj
  have hp:=List.getElem_mem hj
  have hv:(gs.map ao)[j]? =some (ao gs[j]):=by rw[List.getElem?_map,hr];rfl
  have hz:((dO mo (gs.take j)).map ao).length<1000000:=by
   have:(dO mo (gs.take j)).length<=(gs.take j).length:=List.length_filter_le _ _
   rw[List.length_take]at this
   rw[List.length_map];lia
  obtain⟨t,ht⟩:=CK _ hp
  have go (b:Bool) (hb:dv (mo gs[j].1)=b) (z:eB w 36 fs (Ik w fr Y.it Y.acc Y.loc Y.c1) (AV Y em mo gs w (cN (.ref Y.G) j) j u) fun ν=>TX Y em gs[j] (gs.map ao) ((dO mo (gs.take j)).map ao) u.1 j (oH (JU gs) u.2 j) ν w b):
    E2 fun(y:Nu->Nat×Tok) (_:∀ν:Nu,True)=>eB w 36 fs (Ik w fr Y.it Y.acc Y.loc Y.c1) (AV Y em mo gs w (cN (.ref Y.G) j) j u) fun ν=>AV Y em mo gs w (cN (.ref Y.G) (j+1)) (j+1) (y ν):=by
   refine⟨fun ν=>(bif b then u.1+1 else u.1,Fg ((ν 1).1 0) (oH (JU gs) u.2 j)),fun _=>trivial,?_⟩
   have e:(dO mo (gs.take (j+1))).map ao=bif b then(dO mo (gs.take j)).map ao++[ao gs[j]]else(dO mo (gs.take j)).map ao:=by
    rw[List.take_succ,hr]
    refine(congrArg _ (rW mo _ gs[j])).trans ?_
    rw[hb,List.map_append]
    cases b
    ·exact List.append_nil _
    ·rfl
   unfold AV
   rw[e]
   have f:JU gs j=ao gs[j]:=by unfold JU;rw[hr];rfl
   simp only[oH,f]
   exact z
  cases h1:(Builtin.bitAnd (mo gs[j].1) 61440==32768)with
  |false=>
   obtain⟨y,h,z⟩:=go false (by unfold dv;rw[<-tH (h0 _ hp),h1];rfl) (eB.of (by kernel_rfl) fun ν=>TU fr Y em qh _ t gs[j] ht _ _ u.1 j hv _ fs ν h1)
   exact⟨y,h,z⟩
  |true=>
   obtain⟨z,⟨hz0,JM,YT⟩,Sd⟩:=zE (w:=w) _ (eq_of_beq h1)
   obtain⟨y,h,z⟩:=go (decide (Builtin.bitAnd (mo gs[j].1) 4=4)) (by unfold dv;rw[<-tH (h0 _ hp),h1];exact decide_eq_decide.mpr (vq _ (h0 _ hp)).symm) (eB.of (by kernel_rfl) fun ν=>TS fr Y em qh _ t gs[j] ht _ _ u.1 j hv _ fs ν h1 z Sd _ (by decide) (by rw[JM];exact YT) (decide (Builtin.bitAnd (mo gs[j].1) 4=4)) (by cases decide (Builtin.bitAnd (mo gs[j].1) 4=4)<;>decide) hz)
   exact⟨y,h,z⟩
 ·have hv:(gs.map ao)[gs.length]? =none:=by rw[List.getElem?_map,List.getElem?_eq_none (Nat.le_refl _)];rfl
  exact(ng.of (w:=w) (k:=36) fun ν=>TV fr Y.it Y.acc Y.loc Y.G Y.c1 _ Y.eG gs.length hv fs ν).sw (B:=[_,_,_,_]) ((lY (l₁:=[_,_])).symm.cons _) ((lY (l₁:=[_,_])).symm.cons _)
end
structure Vu where
 x:CX
 G:Addr
 c1:Addr
 md:Addr
 eG:Nat
 e1:Nat
def Vu.Y(y:Vu):Qu:=⟨y.x.it,y.x.acc,y.x.loc,y.G,y.c1,y.md,y.eG,y.e1⟩
section
variable(em:Array DictEntry)
def Xd(gs:List (Str×Tok))(xs zv:List Value):aD w Vu where
 lv:=some 36
 bare:=true
 find c pre _:=match gK c with
  |some x=>some ⟨x,(az pre 3).1,(az pre 4).1,(az pre 5).1,cK (az pre 3).2,cK (az pre 5).2⟩
  |none=>none
 code y:=Zx w y.x.fr y.x.it y.x.acc y.x.loc y.c1
 pre y:=P8 y.Y (cN (.ref y.G) 0) (U #[] 0) [] xs 0 em
 r _ _:=.ok .next
 post y m:=[cN .none gs.length,aj zv (m.1 1),y7 w "name" (oH (JU gs) (m.1 0) gs.length),ae xs.toArray y.eG,ay (.ref y.md),U em y.e1]
theorem NY(qh:KeysOf (kS w) em)(mo:Str->Int)(gs:List (Str×Tok))(CK:cC em mo gs)(h0:∀p∈gs,0<=mo p.1)(hn:gs.length<1000):(Xd (w:=w) em gs (gs.map ao) ((dO mo gs).map ao)).Ok:=by
 intro y fs A s Rz ii _ kk
 have ho:s.heap.get? y.x.it=some (cN (.ref y.G) 0):=ii.hs.at (.head _) (aa rfl)
 refine bO (by kernel_rfl) ?_ fun E=>cM (n:="tuple_iterator") rfl ⟨_,ho,rfl⟩
 refine CZ y.x.fr y.Y em mo gs fs qh CK h0 hn (x:=(0,0)) ii fun u s' d=>kk (fun i=>match i with|0=>u.2|_=>u.1,fun _=>[]) s' rfl ?_
 unfold AV at d
 rw[List.take_length]at d
 exact d
def Rn(qh:KeysOf (kS w) em)(mo:Str->Int)(gs:List (Str×Tok))(CK:cC em mo gs)(h0:∀p∈gs,0<=mo p.1)(hn:gs.length<1000)(xs zv:List Value)(hx:gs.map ao=xs)(hz:(dO mo gs).map ao=zv):aJ w:=(Xd em gs xs zv).sm (by subst hx;subst hz;exact NY em qh mo gs CK h0 hn)
end
noncomputable abbrev T5(w:World)(fr c1:Addr):Env:={dj w 308 fr with cells:=[(S "modes",c1)]}
noncomputable abbrev JY(w:World)(fr it c1:Addr):Code:=cw (aK w 308 [6,4]) (.ref it) (T5 w fr c1)
structure w7 where
 g:Nat->Tok
 v:Nat->Value
 sd:Addr
 bg:Addr
 bR:Int
 tt:Tok
def w7.to(F:w7)(a:Tok)(v:Value)(n:Int)(t:Tok):w7:=⟨fun i=>bif Nat.beq i 12 then a else F.g i,fun i=>bif Nat.beq i 12 then v else F.v i,F.sd,F.bg,n,t⟩
section
variable(w:World)(F:w7)
def Xx:List DictEntry:=[aH w "rows" (F.g 0) (F.v 0),aH w "sizes" (F.g 1) (.ref F.sd),aH w "sorter" (F.g 2) (F.v 2),aH w "row" (F.g 3) (F.v 3),aH w "ring" (F.g 4) (F.v 4),aH w "told" (F.g 5) (F.v 5),aH w "total" (F.g 6) (.int F.bR F.tt),aH w "turn" (F.g 7) (F.v 7),aH w "active" (F.g 8) (F.v 8),aH w "group" (F.g 9) (F.v 9),aH w "good" (F.g 10) (F.v 10),aH w "begins" (F.g 11) (.ref F.bg)]
def ZH:Obj:=aW (Xx w F).toArray 12
def Qk:Obj:=aW (Xx w F++[aH w "name" (F.g 12) (F.v 12)]).toArray 13
end
def Oo(w:World):Nat->w7->Obj
 |0,F=>ZH w F
 |_,F=>Qk w F
def r9(sz:Str->Int):Int->List (Str×Tok)->List Int
 |_,[]=>[]
 |t,p::l=>t::r9 sz (t+sz p.1) l
def oI(sz:Str->Int):Int->List (Str×Tok)->Int
 |t,[]=>t
 |t,p::l=>oI sz (t+sz p.1) l
structure Qv where
 it:Addr
 L:Addr
 fr:Addr
 c1:Addr
 eL:Nat
 e2:Nat
def Oq(Y:Qv)(sd bg:Addr)(io fo:Obj)(es:Array DictEntry)(xs bs:List Value)(eb:Nat):Led:=[(Y.it,io),(Y.L,aj xs Y.eL),(Y.fr,fo),(bg,aj bs eb),(sd,U es Y.e2)]
section
variable(Y:Qv)(sh:Nat)(F:w7)(es:Array DictEntry)(cG:KeysOf (kS w) es)(n:Int)(t:Tok)(p:Str×Tok)(hd:bo es p.1=some (.int n t))(xs bs:List Value)(eb k:Nat)(hv:xs[k]? =some (ao p))(hb:bs.length<1000000)(fs:List Env)(ν:Nu)
def Xv:Nat->Tok
 |0=>(ν 1).1 0
 |_=>F.g 12
def ZG:=bW w ν 88 none (some (36,fs)) (JY w Y.fr Y.it Y.c1) (Oq Y F.sd F.bg (aZ (.ref Y.L) k) (Oo w sh F) es xs bs eb) 0x30c00040021451430c30c00831041040c30c0040003040 [K (cu xs k (ao p) hv),K (av bs hb),K (cT p.1 es (.int n t) cG hd)]
def Xy(w:World):Led:=Oq Y F.sd F.bg (aZ (.ref Y.L) (k+1)) (Qk w (F.to (Xv F ν sh) (ao p) (F.bR+n) ((ν 4).1 0))) es xs (bs++[Value.int F.bR F.tt]) (eb+1)
theorem Om:aT 3 (.ok (.again (JY w Y.fr Y.it Y.c1))) (Xy Y sh F es n p xs bs eb k ν w) (ZG (w:=w) Y sh F es cG n t p hd xs bs eb k hv hb fs ν):=by
 cases sh<;>kernel_rfl
end
theorem Ux(fr it c1 L:Addr)(xs:List Value)(eL k:Nat)(hv:xs[k]? =none)(fs:List Env)(ν:Nu):
  aT 90 (.ok .next) [(it,⟨(.type "list_iterator"),none,(.fields #[.none,(.int ↑k 0)]),#[]⟩),(L,aj xs eL)]
   (runC w ν 46 none (some (36,fs)) (JY w fr it c1) [(it,aZ (.ref L) k),(L,aj xs eL)] 69793230912 [K (da xs k hv)]):=by kernel_rfl
theorem lj(sz:Str->Int)(p:Str×Tok):∀(l:List (Str×Tok)) (t:Int),r9 sz t (l++[p])=r9 sz t l++[oI sz t l]/\oI sz t (l++[p])=oI sz t l+sz p.1
 |[],_=>⟨rfl,rfl⟩
 |q::l,t=>⟨congrArg (t::·) (lj sz p l _).1,(lj sz p l _).2⟩
theorem uK(sz:Str->Int):∀(l:List (Str×Tok)) (t:Int),(r9 sz t l).length=l.length
 |[],_=>rfl
 |_::l,_=>congrArg Nat.succ (uK sz l _)
def Uz(sh:Nat):Nat->Nat
 |0=>sh
 |_=>1
def UA(F:w7)(a:Tok)(v:Value)(n:Int)(t:Tok):Nat->w7
 |0=>F
 |_=>F.to a v n t
def Qj(gs:List (Str×Tok))(j:Nat):Value:=gs[j-1]?.elim .none ao
structure Vw where
 a:Tok
 u:Tok
 g:Nat->Tok
 e:Nat
section
variable(Y:Qv)(sh:Nat)(F:w7)(es:Array DictEntry)(sz:Str->Int)(gs:List (Str×Tok))(fs:List Env)
def FT(w:World)(io:Obj)(j:Nat)(x:Vw):Led:=Oq Y F.sd F.bg io (Oo w (Uz sh j) (UA F x.a (Qj gs j) (oI sz F.bR (gs.take j)) x.u j)) es (gs.map ao) (aq (r9 sz F.bR (gs.take j)) x.g 0) x.e
theorem Dt(cG:KeysOf (kS w) es)(hg:cC es sz gs)(hn:gs.length<1000){Q:Result->Shared->Prop}{x:Vw}(ii:In w (some 36) true fs A s (FT Y sh F es sz gs w (aZ (.ref Y.L) 0) 0 x))
  (kk:∀u s',Done (T:=TW w) s s' (FT Y sh F es sz gs w (aZ (.ref Y.L) 0) 0 x) (FT Y sh F es sz gs w (aZ .none gs.length) gs.length u)->Q (.ok .next) s'):codeAny (Mo w) A (JY w Y.fr Y.it Y.c1) Q s:=by
 refine forL (N:=gs.length) (L:=fun j=>FT Y sh F es sz gs w (aZ (.ref Y.L) j) j) (I:=fun _ _=>True) (E:=FT Y sh F es sz gs w (aZ .none gs.length) gs.length) (fun j u hj _=> ?_) (fun u _=> ?_) gs.length 0 x s Q (Nat.zero_add _).symm trivial ii fun u s' _ d=>kk u s' d
 ·have hr:gs[j]? =some gs[j]:=jN hj
  have hv:(gs.map ao)[j]? =some (ao gs[j]):=by rw[List.getElem?_map,hr];rfl
  have hb:(aq (r9 sz F.bR (gs.take j)) u.g 0).length<1000000:=by rw[aP,uK,List.length_take];lia
  obtain⟨t,ht⟩:=hg _ (List.getElem_mem hj)
  have e:=lj sz gs[j] (gs.take j) F.bR
  have et:gs.take (j+1)=gs.take j++[gs[j]]:=by rw[List.take_succ,hr];rfl
  have f:Qj gs (j+1)=ao gs[j]:=by show gs[j]?.elim _ _=_;rw[hr];rfl
  have go (G:w7) (h1:G.sd=F.sd) (h2:G.bg=F.bg) (h3:G.bR=oI sz F.bR (gs.take j)) (h4:∀a v n t,Qk w (G.to a v n t)=Qk w (F.to a v n t)) (i:Nat):E2 fun(y:Nu->Vw) (_:∀ν:Nu,True)=>eB w 36 fs (JY w Y.fr Y.it Y.c1) (Oq Y F.sd F.bg (aZ (.ref Y.L) j) (Oo w i G) es (gs.map ao) (aq (r9 sz F.bR (gs.take j)) u.g 0) u.e) fun ν=>FT Y sh F es sz gs w (aZ (.ref Y.L) (j+1)) (j+1) (y ν):=by
   refine⟨fun ν=>⟨Xv G ν i,(ν 4).1 0,fun i=>if i=0+(r9 sz F.bR (gs.take j)).length then G.tt else u.g i,u.e+1⟩,fun _=>trivial,?_⟩
   have z:=eB.of (by kernel_rfl) fun ν=>Om Y i G es cG _ t gs[j] ht _ _ u.e j hv hb fs ν
   unfold Xy at z
   rw[h1,h2,di]at z
   simp only[h4,h3]at z
   unfold FT
   rw[et,e.1,e.2,f]
   exact z
  have:=go (UA F u.a (Qj gs j) (oI sz F.bR (gs.take j)) u.u j) (by cases j<;>rfl) (by cases j<;>rfl) (by cases j<;>rfl) (by cases j<;>intros<;>rfl) (Uz sh j)
  obtain⟨y,h,z⟩:=this
  exact⟨y,h,z⟩
 ·have hv:(gs.map ao)[gs.length]? =none:=by rw[List.getElem?_map,List.getElem?_eq_none (Nat.le_refl _)];rfl
  exact(ng.of (w:=w) (k:=36) fun ν=>Ux Y.fr Y.it Y.c1 Y.L _ Y.eL gs.length hv fs ν).sw (.refl _) (.refl _)
end
section
variable(sh:Nat)(F:w7)(es:Array DictEntry)
def Xw(gs:List (Str×Tok))(xs:List Value)(bs:List Int)(bR:Int):aD w Qv where
 lv:=some 36
 bare:=true
 find c pre _:=match c with
  | .forLoop _ _ _ _ env=>some ⟨(az pre 0).1,(az pre 1).1,(az pre 2).1,env.cells[0]?.elim 0 (·.2),cK (az pre 1).2,cK (az pre 4).2⟩
  |_=>none
 code y:=JY w y.fr y.it y.c1
 pre y:=Oq y F.sd F.bg (aZ (.ref y.L) 0) (Oo w sh F) es xs [] 0
 r _ _:=.ok .next
 post y m:=[aZ .none gs.length,aj xs y.eL,Oo w (Uz sh gs.length) (UA F (m.1 0) ((m.2 0).headD .none) bR (m.1 1) gs.length),aj (aq bs (fun i=>m.1 (i+3)) 0) (m.1 2),U es y.e2]
theorem Ol(cG:KeysOf (kS w) es)(sz:Str->Int)(gs:List (Str×Tok))(hg:cC es sz gs)(hn:gs.length<1000):(Xw (w:=w) sh F es gs (gs.map ao) (r9 sz F.bR gs) (oI sz F.bR gs)).Ok:=by
 intro y fs A s Rz ii _ kk
 refine Dt y sh F es sz gs fs cG hg hn (x:=⟨0,0,fun _=>0,0⟩) ii fun u s' d=>kk (fun i=>match i with|0=>u.a|1=>u.u|2=>u.e|i+3=>u.g i,fun _=>[Qj gs gs.length]) s' rfl ?_
 unfold FT at d
 rw[List.take_length]at d
 exact d
def Rr(cG:KeysOf (kS w) es)(sz:Str->Int)(gs:List (Str×Tok))(hg:cC es sz gs)(hn:gs.length<1000)(xs:List Value)(hx:gs.map ao=xs)(bs:List Int)(bR:Int)(hb:r9 sz F.bR gs=bs)(ht:oI sz F.bR gs=bR):aJ w:=(Xw sh F es gs xs bs bR).sm (by subst hx;subst hb;subst ht;exact Ol sh F es cG sz gs hg hn)
end
end
section
open PySem PySem.W PySem.W.X PyProof.Rows
theorem SK(a b:Value):[a,b].length<=sizeLine:=by show 2<=sizeLine;decide
noncomputable def qN(w:World)(N:NM)(S:SO)(f:Nat->ND)(ns:List Nat)(rv:Value)(ea:Nat):Led:=[(S.sf,aG S.d),(S.d,aI w.params S.t1 S.t2 S.t3 S.t4 S.n2 rv S.po S.nf ea),(S.n2,U (ents w N f ns) S.eb)]
def So(res:Option (List Value))(x e:Nat):Led:=res.elim [] fun r=>[(x,aj r e)]
noncomputable def Oj(N:NM)(S:SO)(f:Nat->ND)(ns:List Nat)(rv:Value)(res:Option (List Value)):aD w Nat where
 lv:=some 28
 bare:=true
 find _ pre _:=some (cK (az pre 1).2)
 code _:=.call (.ref 178) ⟨[.ref S.sf],[]⟩
 pre ea:=qN w N S f ns rv ea
 tail _:=aA N f ns
 r _ m:=.ok (.ret (res.elim .none fun _=>.ref (m.1 0)))
 post ea _:=(qN w N S f ns rv ea).map (·.2)
 new _ m:=So res (m.1 0) (m.1 1)
 rest _ _:=aA N f ns
section
variable(N:NM)(S:SO)(g:GG)(ρ:Nat->Nat)(hb:g.ns.length<=1000)(h0:g.ns.length≠0)(xf:List Nat)(wY:g.ns.filter (fun j=>decide (g.np j=0))=xf)(fs:List Env)(ν:Nu)
noncomputable def VX:Led:=((ν 6).1 0,aj (xf.map N.hv) ((pr (ν 8)).1 1))::(qN w N S (aE N g ρ) g.ns (.ref ((ν 6).1 0)) S.ea++aA N (aE N g ρ) g.ns)
theorem BS(ok:∀rv,(Oj (w:=w) N S (aE N g ρ) g.ns rv none).Ok):
  aT 218790 (.ok (.ret .none)) (VX (w:=w) N S g ρ xf ν)
   (bX w ν 175 none (some (34,fs)) 143 [.ref S.sf] (qN w N S (aE N g ρ) g.ns .none S.ea++aA N (aE N g ρ) g.ns) 0x1451401c61491001c60000001800001800001851c71c00060000060060060000001850410470010891411000030410430021041040c00820000020000000810c0082000002000000081001040 [K (gZ (ents w N (aE N g ρ) g.ns)),K (je (ents w N (aE N g ρ) g.ns) g.ns.length (cj N (aE N g ρ) g.ns)),K (o5 N g ρ hb h0 xf wY),(fun ν=>(Oj N S (aE N g ρ) g.ns (.ref ((ν 6).1 0)) none).sm (ok _))]):=by kernel_rfl
theorem BR(a:Value)(l:List Value)(hz:(a::l).length<1000000)(ok:∀rv,(Oj (w:=w) N S (aE N g ρ) g.ns rv (some (a::l))).Ok):
  aT 224041625 (.error (.ref ((pr (ν 15)).1 0))) (((ν 17).1 0,Bk .none ((ν 0).1 0) ((ν 17).2.1 0))::((pr (ν 15)).1 0,⟨.ref 106,none,.fields #[.ref ((ν 16).1 0),.ref ((ν 17).1 0),.none,.none,.bool false,.none],#[]⟩)::VX (w:=w) N S g ρ xf ν)
   (bX w ν 228 none (some (34,fs)) 143 [.ref S.sf] (qN w N S (aE N g ρ) g.ns .none S.ea++aA N (aE N g ρ) g.ns) 0x20800820020820820010010000000400400400000000000000060000000810460011860071852440071800000060000060000061401c71c00060000060060060000001850410470010891411000030410430021041040c0082000002000000081003002080000080000002040041040 [K (gZ (ents w N (aE N g ρ) g.ns)),K (je (ents w N (aE N g ρ) g.ns) g.ns.length (cj N (aE N g ρ) g.ns)),K (o5 N g ρ hb h0 xf wY),(fun ν=>(Oj N S (aE N g ρ) g.ns (.ref ((ν 6).1 0)) (some (a::l))).sm (ok _)),K (eZ (a::l) hz),(fun ν=>KI [.str (Str.ofString "nodes are in a cycle") ((ν 14).1 0),.ref ((pr (ν 11)).1 0)] (SK _ _))]):=by kernel_rfl
end
structure FC where
 N:NM
 S:SO
 t:Nat->Tok
 fr:Addr
 sk:Addr
 ik:Addr
 se:Addr
 nk:Addr
 g:GG
 ρ:Nat->Nat
noncomputable def dF(it:Addr):Obj:={cls:=.type "method-wrapper",data:=.fields #[.builtin "list_iterator.__next__",.ref it]}
structure FX where
 j:Nat
 wa:Addr
 ia:Addr
 k:Nat
 t:Tok
def gE(N:NM)(st:List FX):List Value:=(st.map fun x=>N.hv x.j).reverse
def n4(st:List FX):List Value:=(st.map fun x=>Value.ref x.wa).reverse
def gW(f:Nat->ND)(st:List FX):Led:=st.flatMap fun x=>[(x.wa,dF x.ia),(x.ia,aZ (.ref (f x.j).sa) x.k)]
def j5(w:World)(N:NM):List FX->Array DictEntry
 |[]=> #[]
 |x::st=>bI w (j5 w N st) (N.nm x.j) (N.tk x.j) (.int (gE N st).length x.t)
def jE(su:Nat->List Nat):List FX->Option (Nat×List FX)
 |[]=>none
 |x::st=>match(su x.j)[x.k]? with
  |some v=>some (v,{x with k:=x.k+1}::st)
  |none=>jE su st
theorem pf(N:NM)(x:FX)(st:List FX):gE N (x::st)=gE N st++[N.hv x.j]:=by simp[gE]
theorem qd(x:FX)(st:List FX):n4 (x::st)=n4 st++[Value.ref x.wa]:=by simp[n4]
theorem g0(N:NM)(st:List FX):(gE N st).length=st.length:=by simp[gE]
theorem n3(st:List FX):(n4 st).length=st.length:=by simp[n4]
theorem Jw(f:Nat->ND)(x:FX)(st:List FX):gW f (x::st)=(x.wa,dF x.ia)::(x.ia,aZ (.ref (f x.j).sa) x.k)::gW f st:=rfl
section
variable(N:NM)(st:List FX)
theorem lr:(j5 w N st).size=st.length:=by
 induction st with
 |nil=>rfl
 |cons x st ih=>simp[j5,bI,ih]
theorem dQ:KeysOf (kS w) (j5 w N st):=by
 induction st with
 |nil=>intro e he;exact absurd he (by simp[j5])
 |cons x st ih=>
  intro e he
  rcases Array.mem_push.mp (show e∈(j5 w N st).push _ from he)with q|q
  ·exact ih e q
  ·subst q;exact⟨N.nm x.j,strKind_is pw w _ _,rfl⟩
end
theorem lu(N:NM)(i:Nat)(st:List FX)(h:∀x∈st,x.j≠i):(j5 w N st).findIdx? (fun e=>(kS w).is (N.nm i) e.key)=none:=by
 rw[Array.findIdx?_eq_none_iff]
 induction st with
 |nil=>intro e he;exact absurd he (by simp[j5])
 |cons x st ih=>
  intro e he
  rcases Array.mem_push.mp (show e∈(j5 w N st).push _ from he)with q|q
  ·exact ih (fun y hy=>h y (.tail _ hy)) e q
  ·subst q
   show Value.isStrOf (N.nm i) (.str (N.nm x.j) (N.tk x.j))=false
   rw[fH]
   exact iw (h x (.head _))
def FC.f(C:FC):Nat->ND:=aE C.N C.g C.ρ
section
variable(w:World)(C:FC)
noncomputable def FC.en:Env:=dj w 178 C.fr
noncomputable def r8:Code:=cw (aK w 178 [5,1,1]) .none (C.en w)
noncomputable def qv:Code:=cw (aK w 178 [5,1]) .none (C.en w)
noncomputable def FC.h(l:List DictEntry)(n:Nat):Addr×Obj:=(C.fr,aW ([aH w "self" (C.t 0) (.ref C.S.sf),aH w "n2i" (C.t 1) (.ref C.S.n2),aH w "stack" (C.t 2) (.ref C.sk),aH w "itstack" (C.t 3) (.ref C.ik),aH w "seen" (C.t 4) (.ref C.se),aH w "node2stacki" (C.t 5) (.ref C.nk)]++l).toArray n)
noncomputable def FC.F(v:Value):Addr×Obj:=C.h w [aH w "node" (C.t 6) v] 7
end
section
variable(C:FC)(xs:List Value)(e:Nat)
def FC.z:Addr×Obj:=(C.sk,aj xs e)
def FC.i:Addr×Obj:=(C.ik,aj xs e)
end
def FC.n(C:FC)(es:Array DictEntry)(e:Nat):Addr×Obj:=(C.nk,U es e)
section
variable(C:FC)(i j es e2 e3 k:Nat)(r:ND)(wa ia:Addr)(xs ys zs:List Value)(X:Led)(fs:List Env)(ν:Nu)
theorem wm:aT 3 (.ok .brk) (C.F w (C.N.hv i)::C.z [] es::X) (runC w ν 48 none (some (20,fs)) (r8 w C) (C.F w (C.N.hv i)::C.z [] es::X) 68753563712 [K (eZ [] (by decide))]):=by kernel_rfl
theorem r7(NA:zs.length=xs.length+1)(hz:zs.length<1000000)(hk:r.su[k]? =some (C.N.hv j)):
  aT 3 (.ok .next) (C.F w (C.N.hv j)::C.z zs es::C.i (ys++[Value.ref wa]) e2::(wa,dF ia)::(ia,aZ (.ref r.sa) (k+1))::(r.sa,gr r)::X)
   (runC w ν 76 none (some (20,fs)) (r8 w C) (C.F w (C.N.hv i)::C.z zs es::C.i (ys++[Value.ref wa]) e2::(wa,dF ia)::(ia,aZ (.ref r.sa) k)::(r.sa,gr r)::X) 0x10401440031001020020c30c0041002082040 [K (nC zs xs.length NA hz),K (rh ys (Value.ref wa)),K (jd r.su k (C.N.hv j) hk)]):=by kernel_rfl
theorem mR(hz:(xs++[C.N.hv j]).length<1000000)(NA:(xs++[C.N.hv j]).length=xs.length+1)(JL:xs.length<999999)(HW:ys.length<999999)(hk:r.su[k]? =none)(dk:Array DictEntry)(u:Tok)(vv:Value)(H3:KeysOf (kS w) (bI w dk (C.N.nm j) u vv))(jm:dk.size<1000)(H4:dk.findIdx? (fun e=>(kS w).is (C.N.nm j) e.key)=none):
  aT 3495274 (.ok (.again (r8 w C))) (C.F w (C.N.hv i)::C.z xs (es+1)::C.i ys (e2+1)::(wa,dF ia)::(ia,aZ .none k)::(r.sa,gr r)::C.n dk (e3+1)::X)
   (bW w ν 115 none (some (20,C.en w::fs)) (r8 w C) (C.F w (C.N.hv i)::C.z (xs++[C.N.hv j]) es::C.i (ys++[Value.ref wa]) e2::(wa,dF ia)::(ia,aZ (.ref r.sa) k)::(r.sa,gr r)::C.n (bI w dk (C.N.nm j) u vv) e3::X) 0x14008618618424008a2840021451451040410800800000451000c40040800830c3001001040082081001 [K (nC (xs++[C.N.hv j]) xs.length NA hz),K (rh ys (Value.ref wa)),K (rf r.su k hk),K (EF xs (C.N.hv j) JL),K (KH dk (C.N.nm j) u vv H3 jm H4),K (EF ys (Value.ref wa) HW)]):=by kernel_rfl
end
structure FP where
 i:Nat
 xs:List Value
 ys:List Value
 dk:Array DictEntry
 T:Led
section
variable(w:World)(C:FC)
noncomputable def lL(P:FP)(es e2 e3:Nat):Led:=[C.F w (C.N.hv P.i),C.z P.xs es,C.i P.ys e2,C.n P.dk e3]
noncomputable def JK(P:FP)(es e2 e3:Nat):Led:=lL w C P es e2 e3++P.T
noncomputable def iG(ns:List Nat)(i:Nat)(st:List FX):FP:=⟨i,gE C.N st,n4 st,j5 w C.N st,gW C.f st++aA C.N C.f ns⟩
noncomputable def tJ(P:FP)(v:Nat)(wa:Addr)(u:Tok):FP:=⟨v,P.xs++[C.N.hv P.i],P.ys++[Value.ref wa],bI w P.dk (C.N.nm P.i) (C.N.tk P.i) (.int P.xs.length u),P.T⟩
end
noncomputable def Hr(su:Nat->List Nat)(i:Nat)(st:List FX):Option (Nat×List FX)->Nat×List FX×Result
 |none=>(i,[],.ok .brk)
 |some p=>(p.1,p.2,.ok .next)
theorem dZ(l:Led)(j:List Nat)(T:Led)(h:(List.range l.length).isPerm j=true):(l++T).Perm ((j.map fun k=>l.getD k (0,ae #[] 0))++T):=by
 refine List.Perm.append_right T ?_
 have p:=(List.isPerm_iff.mp h).map fun k=>l.getD k (0,ae #[] 0)
 have e:(List.range l.length).map (fun k=>l.getD k (0,ae #[] 0))=l:=by
  refine List.ext_getElem (by rw[List.length_map,List.length_range]) fun k h1 h2=> ?_
  rw[List.getElem_map,List.getElem_range,List.getD_eq_getElem?_getD,List.getElem?_eq_getElem h2]
  rfl
 rw[e]at p
 exact p
theorem In.perm{lv:Option Nat}{b:Bool}{fs:List Env}{K L:Led}(i:In w lv b fs A s K)(hp:L.Perm K):In w lv b fs A s L:=⟨i.hr,i.hf,i.hh,i.hs.perm hp⟩
theorem Done.from{G:Ground}{s':Shared}{K L L':Led}(d:Done (T:=G) s s' L L')(hp:L.Perm K):Done (T:=G) s s' K L':=d.pre fun a ha=>(hp.map _).subset ha
section
variable(C:FC)(ns:List Nat)(i:Nat)(x:FX)(st:List FX)(es e2 e3:Nat)
theorem jX(h:x.j∈ns):([C.F w (C.N.hv i),C.z (gE C.N st++[C.N.hv x.j]) es,C.i (n4 st++[Value.ref x.wa]) e2,(x.wa,dF x.ia),(x.ia,aZ (.ref (C.f x.j).sa) x.k),((C.f x.j).sa,gr (C.f x.j)),C.n (j5 w C.N (x::st)) e3,((C.f x.j).na,iS (C.N.hv x.j) (C.f x.j))]++(gW C.f st++aA C.N C.f (ns.erase x.j))).Perm (JK w C (iG w C ns i (x::st)) es e2 e3):=by
 unfold JK iG lL
 rw[qd,pf]
 exact(dZ _ [5,7,0,1,2,6,3,4] _ rfl).trans (pull C.N C.f h (C.F w (C.N.hv i)::C.z (gE C.N st++[C.N.hv x.j]) es::C.i (n4 st++[Value.ref x.wa]) e2::C.n (j5 w C.N (x::st)) e3::gW C.f (x::st)))
theorem CE(h:x.j∈ns):([C.F w (C.N.hv i),C.z (gE C.N st) es,C.i (n4 st) e2,((C.f x.j).sa,gr (C.f x.j)),C.n (j5 w C.N st) e3,((C.f x.j).na,iS (C.N.hv x.j) (C.f x.j))]++(gW C.f st++aA C.N C.f (ns.erase x.j))).Perm (JK w C (iG w C ns i st) es e2 e3):=
 (dZ _ [3,5,0,1,2,4] _ rfl).trans (pull C.N C.f h (lL w C (iG w C ns i st) es e2 e3++gW C.f st))
end
theorem qu(C:FC)(ns:List Nat)(i:Nat)(fs:List Env)(st:List FX)(hm:∀x∈st,x.j∈ns)(nd:(st.map (·.j)).Nodup)(hl:st.length<=900):∀(es e2 e3:Nat) (s:Shared) (p:Nat×List FX×Result),p=Hr C.g.su i st (jE C.g.su st)->
  In w (some 20) true (C.en w::fs) A s (JK w C (iG w C ns i st) es e2 e3)->
  (∀a b c s',Done (T:=TW w) s s' (JK w C (iG w C ns i st) es e2 e3) (JK w C (iG w C ns p.1 p.2.1) a b c)->R p.2.2 s')->codeAny (Mo w) A (r8 w C) R s:=by
 induction st with
 |nil=>exact fun es e2 e3 s p e ii kk=>ii.code (fun ν=>wm C i es (C.i [] e2::C.n #[] e3::aA C.N C.f ns) (C.en w::fs) ν) fun ν s' d=>by subst e;exact kk es e2 e3 s' d
 |cons x st ih=>
  intro es e2 e3 s p e ii kk
  have hx:x.j∈ns:=hm x (.head _)
  have lz:(gE C.N st++[C.N.hv x.j]).length=(gE C.N st).length+1:=by rw[List.length_append];rfl
  have ls:(gE C.N st).length<999999:=by rw[g0];exact oE (Nat.lt_of_succ_le hl) (by decide)
  have li:(n4 st).length<999999:=by rw[n3];exact oE (Nat.lt_of_succ_le hl) (by decide)
  have Wk:(gE C.N st++[C.N.hv x.j]).length<1000000:=lz▸Nat.succ_lt_succ ls
  have i2:=ii.perm (jX C ns i x st es e2 e3 hx)
  cases hk:(C.g.su x.j)[x.k]? with
  |some v=>
   have e:p=(v,{x with k:=x.k+1}::st,.ok .next):=by rw[e,jE,hk];rfl
   subst e
   have CL:(C.f x.j).su[x.k]? =some (C.N.hv v):=(List.getElem?_map ..).trans (congrArg (Option.map C.N.hv) hk)
   refine i2.code (fun ν=>r7 C i v es e2 x.k (C.f x.j) x.wa x.ia (gE C.N st) (n4 st) _ _ (C.en w::fs) ν lz Wk CL) fun ν s' d=>kk es e2 e3 s' ((d.from (jX C ns i x st es e2 e3 hx)).perm (jX (w:=w) C ns v {x with k:=x.k+1} st es e2 e3 hx).symm)
  |none=>
   have e:p=Hr C.g.su i st (jE C.g.su st):=by rw[e,jE,hk];subst e;cases jE C.g.su st<;>rfl
   have CL:(C.f x.j).su[x.k]? =none:=(List.getElem?_map ..).trans (congrArg (Option.map C.N.hv) hk)
   obtain⟨n1,n2⟩:=jM nd
   have hn:∀y∈st,y.j≠x.j:=fun y hy q=>n1 (List.mem_map.mpr ⟨y,hy,q⟩)
   have hd:(j5 w C.N st).size<1000:=by rw[lr];exact oE (Nat.lt_of_succ_le hl) (by decide)
   refine i2.turn (by kernel_rfl) (fun ν=>mR C i x.j es e2 e3 x.k (C.f x.j) x.wa x.ia (gE C.N st) (n4 st) _ fs ν Wk lz ls li CL (j5 w C.N st) (C.N.tk x.j) (.int (gE C.N st).length x.t) (dQ C.N (x::st)) hd (lu C.N x.j st hn)) fun ν s' d=> ?_
   have d1:=(d.from (jX C ns i x st es e2 e3 hx)).sel (.cons_cons _ (.cons_cons _ (.cons_cons _ (.cons _ (.cons _ (.refl _))))))
   have d2:=d1.perm (CE C ns i x st (es+1) (e2+1) (e3+1) hx).symm
   exact ih (fun y hy=>hm y (.tail _ hy)) n2 (Nat.le_of_succ_le hl) (es+1) (e2+1) (e3+1) s' p e (ii.go d2) fun a b c dB d3=>kk a b c dB (d2.trans d3)
noncomputable def PD(a b c:Nat):Mu:=(fun k=>[a,b,c].getD k 0,fun _=>[])
theorem pO(X T B:Led):((X++T)++B).Perm ((X++B)++T):=by
 rw[List.append_assoc,List.append_assoc]
 exact dy.append_left X
section
variable(C:FC)(P P':FP)(res:Result)(es e2 e3:Nat)(fs:List Env)
noncomputable def zU:sF w Unit where
 lv:=some 20
 bare:=true
 find _ _ _:=some ()
 qq _ _ _ _:=some ()
 Ir _:=C.en w::fs
 code _:=r8 w C
 pre _:=lL w C P es e2 e3
 tail _:=P.T
 r _ _:=res
 post _ m:=(lL w C P' (m.1 0) (m.1 1) (m.1 2)).map (·.2)
 rest _ _:=P'.T
noncomputable def IL(r:ND)(wa ia u:Nat):sF w Unit where
 lv:=some 20
 bare:=true
 find _ _ _:=some ()
 qq _ _ _ _:=some ()
 Ir _:=C.en w::fs
 code _:=r8 w C
 pre _:=lL w C (tJ w C P P.i wa u) es e2 e3++[(wa,dF ia),(ia,aZ (.ref r.sa) 0),(r.sa,gr r)]
 tail _:=P.T
 r _ _:=res
 post _ m:=(lL w C P' (m.1 0) (m.1 1) (m.1 2)).map (·.2)++[dF ia,aZ .none 0,gr r]
 rest _ _:=P'.T
end
section
variable(C:FC)(ns:List Nat)(i:Nat)(st:List FX)(es e2 e3:Nat)(fs:List Env)(hm:∀x∈st,x.j∈ns)(nd:(st.map (·.j)).Nodup)(hl:st.length<=900)(p:Nat×List FX×Result)(hp:p=Hr C.g.su i st (jE C.g.su st))
include hm nd hl hp
theorem Dr:(zU (w:=w) C (iG w C ns i st) (iG w C ns p.1 p.2.1) p.2.2 es e2 e3 fs).Ok:=fun _ _ s _ ii _ kk=>
 qu C ns i fs st hm nd hl es e2 e3 s p hp ii fun a b c s' d=>kk (PD a b c) s' rfl d
theorem IK(r:ND)(hk:r.su[0]? =none)(hi:∀x∈st,x.j≠i)(wa ia u:Nat):(IL (w:=w) C (iG w C ns i st) (iG w C ns p.1 p.2.1) p.2.2 es e2 e3 fs r wa ia u).Ok:=fun _ _ s _ ii _ kk=>by
 have lz:(gE C.N st++[C.N.hv i]).length=(gE C.N st).length+1:=by rw[List.length_append];rfl
 have ls:(gE C.N st).length<999999:=by rw[g0];exact cW hl (by decide)
 have li:(n4 st).length<999999:=by rw[n3];exact cW hl (by decide)
 have hd:(j5 w C.N st).size<1000:=by rw[lr];exact cW hl (by decide)
 have WL:=dZ [C.F w (C.N.hv i),C.z (gE C.N st++[C.N.hv i]) es,C.i (n4 st++[Value.ref wa]) e2,(wa,dF ia),(ia,aZ (.ref r.sa) 0),(r.sa,gr r),C.n (bI w (j5 w C.N st) (C.N.nm i) (C.N.tk i) (.int (gE C.N st).length u)) e3] [0,1,2,6,3,4,5] (iG w C ns i st).T rfl
 have i2:=ii.perm WL
 refine i2.turn (by kernel_rfl) (fun ν=>mR C i i es e2 e3 0 r wa ia (gE C.N st) (n4 st) _ fs ν (lz▸Nat.succ_lt_succ ls) lz ls li hk (j5 w C.N st) (C.N.tk i) (.int (gE C.N st).length u) (dQ C.N (⟨i,wa,ia,0,u⟩::st)) hd (lu C.N i st hi)) fun ν s' d=> ?_
 have hq:=(pO (lL w C (iG w C ns i st) (es+1) (e2+1) (e3+1)) (iG w C ns i st).T [(wa,dF ia),(ia,aZ .none 0),(r.sa,gr r)]).trans (dZ (lL w C (iG w C ns i st) (es+1) (e2+1) (e3+1)++[(wa,dF ia),(ia,aZ .none 0),(r.sa,gr r)]) [0,1,2,4,5,6,3] (iG w C ns i st).T rfl)
 have i3:=i2.go d
 exact qu C ns i fs st hm nd hl _ _ _ s' p hp (i3.part hq) fun a b c dB d2=>kk (PD a b c) dB rfl (((d.from WL).trans (d2.at i3 hq)).perm (pO (lL w C (iG w C ns p.1 p.2.1) a b c) _ _).symm)
end
noncomputable def FC.q(w:World)(C:FC)(l:List Str)(m:Mu):Addr×Obj:=(C.se,eN (fA w l m))
def FC.d(C:FC)(dn:Array DictEntry):Addr×Obj:=(C.S.n2,U dn C.S.eb)
def FC.r(C:FC)(i:Nat)(r:ND):Led:=[(r.na,iS (C.N.hv i) r),(r.sa,gr r)]
noncomputable def Qi(b:Bool):Result:=bif b then .ok .next else .ok .brk
noncomputable def Xu(w:World)(C:FC)(b:Bool):PySem.Fin:=bif b then .again (qv w C)else .done .next
section
variable(C:FC)(P P':FP)(es e2 e3:Nat)(l:List Str)(m:Mu)(dn:Array DictEntry)(H3:KeysOf (kS w) P.dk)(fs JV:List Env)(ν:Nu)
section
variable(r:ND)(cG:KeysOf (kS w) dn)(hi:bo dn (C.N.nm P.i)=some (.ref r.na))(hl:l.length+1<scanBound)(hx:C.N.nm P.i∉l)(hb:decide (C.N.nm P.i∈l)=false)(hz:P.xs.length<1000000)(hy:P.ys.length<1000000)(jm:P.dk.size<1000)(H4:P.dk.findIdx? (fun e=>(kS w).is (C.N.nm P.i) e.key)=none)
theorem oq(v:Nat)(JL:(P.xs++[C.N.hv P.i]).length<1000000)(NA:(P.xs++[C.N.hv P.i]).length=P.xs.length+1)(hk:r.su[0]? =some (C.N.hv v)):
  aT 3 (.ok (.again (qv w C))) (((ν 6).1 0,dF ((ν 4).1 0))::((ν 4).1 0,aZ (.ref r.sa) 1)::(lL w C (tJ w C P v ((ν 6).1 0) ((pr (ν 8)).1 0)) (es+1) (e2+1) (e3+1)++(C.q w (l++[C.N.nm P.i]) (pr (ν 1))::C.d dn::(C.r P.i r++P.T))))
   (bW w ν 227 none (some (22,C.en w::fs)) (qv w C) (lL w C P es e2 e3++(C.q w l m::C.d dn::(C.r P.i r++P.T))) 0x30c02410030400440021451400c30021040c00030020c41041031400861830c30020c00040020010010410400412000482000070070000000070000000000000000001c00000071400861860410000c30c3044002045145141100085141040 [K (eK l (sE hl) m (C.N.nm P.i) false hb),K (oZ l hl m (C.N.nm P.i) hx),K (cT (C.N.nm P.i) dn (.ref r.na) cG hi),K (av P.ys hy),K (fS P.xs hz),K (xR (C.N.nm P.i) P.dk H3 jm H4),K (av P.xs hz),K (nC (P.xs++[C.N.hv P.i]) P.xs.length NA JL),(fun ν=>rh P.ys (Value.ref ((ν 6).1 0))),K (jd r.su 0 (C.N.hv v) hk)]):=by kernel_rfl
theorem qt(b:Bool)(ok:∀wa ia u,(IL (w:=w) C P P' (Qi b) (es+1) (e2+1) (e3+1) JV r wa ia u).Ok):
  aT 3495258 (.ok (Xu w C b)) (lL w C P' ((pr (ν 11)).1 0) ((pr (ν 11)).1 1) ((pr (ν 11)).1 2)++(C.q w (l++[C.N.nm P.i]) (pr (ν 1))::C.d dn::(C.r P.i r++P'.T)))
   (bW w ν 191 none (some (22,C.en w::JV)) (qv w C) (lL w C P es e2 e3++(C.q w l m::C.d dn::(C.r P.i r++P.T))) 0x24100510308b2030020c41041031400861830c30020c00040020010010410400412000482000070070000000070000000000000000001c00000071400861860410000c30c3044002045145141100085141040 [K (eK l (sE hl) m (C.N.nm P.i) false hb),K (oZ l hl m (C.N.nm P.i) hx),K (cT (C.N.nm P.i) dn (.ref r.na) cG hi),K (av P.ys hy),K (fS P.xs hz),K (xR (C.N.nm P.i) P.dk H3 jm H4),K (av P.xs hz),(fun ν=>(IL (w:=w) C P P' (Qi b) (es+1) (e2+1) (e3+1) JV r ((ν 6).1 0) ((ν 4).1 0) ((pr (ν 8)).1 0)).sm (ok _ _ _))]):=by cases b<;>kernel_rfl
end
section
variable(hl:l.length<scanBound)(hb:decide (C.N.nm P.i∈l)=true)
theorem zS(jm:(bo P.dk (C.N.nm P.i)).isSome=false)(b:Bool)(ok:(zU (w:=w) C P P' (Qi b) es e2 e3 JV).Ok):
  aT 3 (.ok (Xu w C b)) (lL w C P' ((pr (ν 2)).1 0) ((pr (ν 2)).1 1) ((pr (ν 2)).1 2)++(C.q w l m::C.d dn::P'.T))
   (bW w ν 62 none (some (22,C.en w::JV)) (qv w C) (lL w C P es e2 e3++(C.q w l m::C.d dn::P.T)) 0x3081007143002104041100085141040 [K (eK l hl m (C.N.nm P.i) true hb),K (EG (C.N.nm P.i) P.dk false H3 jm),K ((zU (w:=w) C P P' (Qi b) es e2 e3 JV).sm ok)]):=by cases b<;>kernel_rfl
theorem Dp(p:Nat)(u:Tok)(jm:(bo P.dk (C.N.nm P.i)).isSome=true)(AR:bo P.dk (C.N.nm P.i)=some (.int p u))(hz:P.xs.length<1000000)(hp:p<=P.xs.length)(JM:(P.xs.drop p).length+[C.N.hv P.i].length<1000000)(X:Led):
  aT 218537 (.ok (.done (.ret (.ref ((pr (ν 6)).1 0))))) (((pr (ν 6)).1 0,aj (P.xs.drop p++[C.N.hv P.i]) 0)::C.F w (C.N.hv P.i)::C.z P.xs es::C.n P.dk e3::C.q w l m::X)
   (bW w ν 90 none (some (22,C.en w::fs)) (qv w C) (C.F w (C.N.hv P.i)::C.z P.xs es::C.n P.dk e3::C.q w l m::X) 0x400c20420c00800c30c30800830c30410420020c30410c0084101040 [K (eK l hl m (C.N.nm P.i) true hb),K (EG (C.N.nm P.i) P.dk true H3 jm),K (cT (C.N.nm P.i) P.dk (.int p u) H3 AR),K (nE P.xs p hz hp),K (ro (P.xs.drop p) [C.N.hv P.i] JM)]):=by kernel_rfl
end
end
def eO(su:Nat->List Nat):List (Nat×Nat)->Option (Nat×List (Nat×Nat))
 |[]=>none
 |p::ps=>match(su p.1)[p.2]? with
  |some v=>some (v,(p.1,p.2+1)::ps)
  |none=>eO su ps
noncomputable def rE(i:Nat):List (Nat×Nat)->Nat
 |[]=>0
 |p::ps=>if p.1=i then ps.length else rE i ps
def pz(i:Nat)(ps:List (Nat×Nat)):List Nat:=(ps.map (·.1)).reverse.drop (rE i ps)++[i]
noncomputable def qS(su:Nat->List Nat):Nat->Nat->List Nat->List (Nat×Nat)->Option (Option (List Nat)×List Nat)
 |0,_,_,_=>none
 |n+1,i,seen,ps=>
  if i∈seen then
   if i∈ps.map (·.1)then some (some (pz i ps),seen)
   else match eO su ps with
    |none=>some (none,seen)
    |some (v,lK)=>qS su n v seen lK
  else match eO su ((i,0)::ps)with
   |none=>some (none,seen++[i])
   |some (v,lK)=>qS su n v (seen++[i]) lK
def jk(x:FX):Nat×Nat:=(x.j,x.k)
section
variable(su:Nat->List Nat)
theorem nK(st:List FX):eO su (st.map jk)=(jE su st).map fun y=>(y.1,y.2.map jk):=by
 induction st with
 |nil=>rfl
 |cons x st ih=>
  show(match(su x.j)[x.k]? with|some v=>some (v,(x.j,x.k+1)::st.map jk)|none=>eO su (st.map jk))=_
  unfold jE
  cases (su x.j)[x.k]? with
  |some v=>rfl
  |none=>exact ih
theorem yy{v:Nat}{lK:List (Nat×Nat)}(ps:List (Nat×Nat))(h:eO su ps=some (v,lK)):(lK.map (·.1))<:+(ps.map (·.1))/\∃j∈ps.map (·.1),v∈su j:=by
 induction ps with
 |nil=>nomatch h
 |cons p ps ih=>
  rw[eO]at h
  cases hk:(su p.1)[p.2]? with
  |some u=>rw[hk]at h;cases h;exact⟨List.suffix_refl _,p.1,.head _,ir hk⟩
  |none=>rw[hk]at h;obtain⟨a,b,c,d⟩:=ih h;exact⟨a.trans (List.suffix_cons ..),b,.tail _ c,d⟩
end
theorem iQ [DecidableEq α]{l m:List α}(nd:l.Nodup)(h:∀x∈l,x∈m):l.length<=m.length:=by
 induction l generalizing m with
 |nil=>exact cY _
 |cons a l ih=>
  obtain⟨n1,n2⟩:=jM nd
  have ha:a∈m:=h a (.head _)
  have q:=ih (m:=m.erase a) n2 fun x hx=>(List.mem_erase_of_ne fun e=>n1 (by rw[<-e];exact hx)).mpr (h x (.tail _ hx))
  rw[List.length_erase_of_mem ha]at q
  exact Nat.lt_of_le_pred (List.length_pos_of_mem ha) q
theorem sv(es:Array DictEntry)(x y:Str)(t:Tok)(v:Value):bo (bI w es x t v) y=(bo es y).or (if x=y then some v else none):=by
 unfold bo findBy bI
 rw[Array.find?_push]
 have e:Value.isStrOf y (.str x t)=decide (x=y):=by
  show(x==y)=_
  by_cases h:x=y
  ·subst h;simp
  ·rw[decide_eq_false h];exact beq_eq_false_iff_ne.mpr h
 cases hf:es.find? fun e=>Value.isStrOf y e.key with
 |some a=>simp
 |none=>
  by_cases h:x=y
  ·subst h;rw[decide_eq_true rfl]at e;simp[e]
  ·rw[decide_eq_false h]at e;simp[e,h]
def QV(i:Nat):List FX->Tok
 |[]=>0
 |x::st=>if x.j=i then x.t else QV i st
theorem Ai(N:NM)(i:Nat)(st:List FX)(nd:(st.map (·.j)).Nodup):bo (j5 w N st) (N.nm i)=if i∈st.map (·.j)then some (.int (rE i (st.map jk)) (QV i st))else none:=by
 induction st with
 |nil=>rfl
 |cons x st ih=>
  obtain⟨n1,n2⟩:=jM nd
  refine(sv (w:=w) (j5 w N st) (N.nm x.j) _ (N.tk x.j) (.int (gE N st).length x.t)).trans ?_
  rw[ih n2,List.map_cons]
  by_cases hx:x.j=i
  ·subst hx
   rw[if_neg n1,if_pos rfl,if_pos (.head _),g0]
   show _=some (Value.int ((if x.j=x.j then(st.map jk).length else _:Nat):Int) (if x.j=x.j then x.t else _))
   rw[if_pos rfl,if_pos rfl,List.length_map];rfl
  ·rw[if_neg fun q=>hx (N.inj _ _ q),Option.or_none]
   show _=if _ then some (Value.int ((if x.j=i then(st.map jk).length else rE i (st.map jk):Nat):Int) (if x.j=i then x.t else QV i st))else none
   rw[if_neg hx,if_neg hx]
   by_cases h:i∈st.map (·.j)
   ·rw[if_pos h,if_pos (.tail _ h)]
   ·rw[if_neg h,if_neg fun q=>(List.mem_cons.mp q).elim (fun e=>hx e.symm) h]
theorem tM(i:Nat):∀ps:List (Nat×Nat),rE i ps<=ps.length
 |[]=>bC _
 |p::ps=>by
  unfold rE
  split
  ·exact Nat.le_succ _
  ·exact jK (tM i ps)
theorem nQ(N:NM)(i:Nat)(l:List Nat):N.nm i∈l.map N.nm↔i∈l:=by
 rw[List.mem_map]
 exact⟨fun⟨j,hj,e⟩=>N.inj _ _ e▸hj,fun h=>⟨i,h,rfl⟩⟩
def Ap(su:Nat->List Nat)(n:Nat)(seen:List Nat)(o:Option (Nat×List (Nat×Nat))):Option (Option (List Nat)×List Nat):=o.elim (some (none,seen)) fun p=>qS su n p.1 seen p.2
section
variable{su:Nat->List Nat}{n i:Nat}{seen:List Nat}{ps:List (Nat×Nat)}
theorem lB(h:i∈seen)(h2:i∈ps.map (·.1)):qS su (n+1) i seen ps=some (some (pz i ps),seen):=(if_pos h).trans (if_pos h2)
theorem ou(h:i∈seen)(h2:i∉ps.map (·.1)):qS su (n+1) i seen ps=Ap su n seen (eO su ps):=(if_pos h).trans ((if_neg h2).trans (by cases eO su ps<;>rfl))
theorem ow(h:i∉seen):qS su (n+1) i seen ps=Ap su n (seen++[i]) (eO su ((i,0)::ps)):=(if_neg h).trans (by cases eO su ((i,0)::ps)<;>rfl)
end
theorem In.done{fs:List Env}{L:Led}{k n hs m:Nat}{xs:List (Nu->aJ w)}{sel:Nu->Led}{c:Code}{f:Nu->Flow}(i:In w (some k) true fs A s L)(e:∀ν,aT m (.ok (.done (f ν))) (sel ν) (bW w ν n none (some (k,fs)) c L hs xs))(kk:∀ν s',Done (T:=TW w) s s' L (sel ν)->R (.ok (f ν)) s'):codeAny (Mo w) A c R s:=
 x_code (fU (rm:=some (k,fs)) e (i.hh rfl) i.hr i.hf i.hs fun ν s' d=>kk ν s' d)
structure lG(g:GG)(i:Nat)(seen js:List Nat):Prop where
 hm:∀j∈js,j∈seen
 nd:js.Nodup
 sn:∀j∈seen,j∈g.ns
 ns:seen.Nodup
 hi:i∈g.ns
section
variable{g:GG}{i v:Nat}{seen js:List Nat}(I:lG g i seen js)
include I
theorem lG.pop(hc:∀j∈g.ns,∀v∈g.su j,v∈g.ns){ps lK:List (Nat×Nat)}(hj:∀j∈js,j∈g.ns)(h:eO g.su ps=some (v,lK))(e:ps.map (·.1)=js):lG g v seen (lK.map (·.1)):=by
 subst e
 obtain⟨a,j,b,c⟩:=yy g.su ps h
 exact⟨fun j hj=>I.hm j (a.subset hj),a.sublist.nodup I.nd,I.sn,I.ns,hc j (hj j b) v c⟩
theorem lG.push(hn:i∉seen):lG g i (seen++[i]) (i::js):=
 ⟨fun j hj=>(bu hj).elim (fun e=>e▸jI _ (.head _)) fun q=>jH _ (I.hm j q),List.nodup_cons.mpr ⟨fun q=>hn (I.hm i q),I.nd⟩,
  fun j hj=>(bw hj).elim (I.sn j) fun q=>lZ q▸I.hi,(dy (l₁:=[i]) (l₂:=seen)).nodup (List.nodup_cons.mpr ⟨hn,I.ns⟩),I.hi⟩
end
def FR(C:FC)(res:Option (List Nat))(x:Addr):Led:=res.elim [] fun r=>[(x,aj (r.map C.N.hv) 0)]
def Oi(res:Option (List Nat))(x:Addr):Result:=res.elim (.ok .next) fun _=>.ok (.ret (.ref x))
noncomputable def FC.dn(w:World)(C:FC):Array DictEntry:=ents w C.N C.f C.g.ns
noncomputable def xg(w:World)(C:FC)(i:Nat)(st:List FX)(l:List Nat)(m:Mu)(es e2 e3:Nat):Led:=
 lL w C (iG w C C.g.ns i st) es e2 e3++(C.q w (l.map C.N.nm) m::C.d (C.dn w)::(gW C.f st++aA C.N C.f C.g.ns))
theorem nq(C:FC){i:Nat}{ns:List Nat}(h:i∈ns)(W:Led):(C.r i (C.f i)++(W++aA C.N C.f (ns.erase i))).Perm (W++aA C.N C.f ns):=(List.Perm.swap ..).trans (pull C.N C.f h W)
theorem zQ{C:FC}(nd:C.g.ns.Nodup)(hb:C.g.ns.length<=800)(hc:∀j∈C.g.ns,∀v∈C.g.su j,v∈C.g.ns)(fs:List Env)(res:Option (List Nat))(yh:List Nat)(fuel:Nat):∀(i:Nat) (seen:List Nat) (st:List FX) (m:Mu) (es e2 e3:Nat) (s:Shared),
  qS C.g.su fuel i seen (st.map jk)=some (res,yh)->lG C.g i seen ((st.map jk).map (·.1))->In w (some 22) true (C.en w::fs) A s (xg w C i st seen m es e2 e3)->
  (∀i' st' m' a b c x s',(res=none->st'=[])->Done (T:=TW w) s s' (xg w C i st seen m es e2 e3) (FR C res x++xg w C i' st' yh m' a b c)->R (Oi res x) s')->codeAny (Mo w) A (qv w C) R s:=by
 induction fuel with
 |zero=>exact fun _ _ _ _ _ _ _ _ h=>nomatch h
 |succ fuel ih=>
  intro i seen st m es e2 e3 s h I ii kk
  have ej:(st.map jk).map (·.1)=st.map (·.j):=List.map_map ..
  have vR:seen.length<=800:=bP (iQ I.ns I.sn) hb
  have rV:st.length<=800:=by
   have:=iQ I.nd I.hm
   rw[List.length_map,List.length_map]at this
   exact bP this vR
  have hm:∀x∈st,x.j∈C.g.ns:=fun x hx=>I.sn _ (I.hm _ (gN (gN hx)))
  have nj:=I.nd
  have vT:(seen.map C.N.nm).length+1<scanBound:=by rw[List.length_map];exact cW (jJ vR) (by decide)
  have NB:(gE C.N st).length<999999:=by rw[g0];exact cW rV (by decide)
  have HW:(n4 st).length<1000000:=by rw[n3];exact cW rV (by decide)
  have WR:st.length<=900:=bP rV (by decide)
  have hf:=Ai (w:=w) C.N i st (ej▸nj)
  rw[<-ej]at hf
  have K:∀y,some y=some (res,yh)->∀i' st' m' a b c x s',(y.1=none->st'=[])->Done (T:=TW w) s s' (xg w C i st seen m es e2 e3) (FR C y.1 x++xg w C i' st' y.2 m' a b c)->R (Oi y.1 x) s':=fun y e=>by cases e;exact kk
  by_cases c5:i∈seen
  ·have vV:decide (C.N.nm i∈seen.map C.N.nm)=true:=iu ((nQ C.N i seen).mpr c5)
   by_cases JO:i∈(st.map jk).map (·.1)
   ·rw[if_pos JO]at hf
    have PU:=tM i (st.map jk)
    rw[List.length_map,<-g0 C.N st]at PU
    have hp:=dZ [C.F w (C.N.hv i),C.z (gE C.N st) es,C.n (j5 w C.N st) e3,C.q w (seen.map C.N.nm) m,C.i (n4 st) e2,C.d (C.dn w)] [0,1,4,2,3,5] (gW C.f st++aA C.N C.f C.g.ns) rfl
    refine(ii.perm hp).done (fun ν=>Dp C (iG w C C.g.ns i st) es e3 (seen.map C.N.nm) m (dQ C.N st) fs ν (sE vT) vV _ _ (congrArg Option.isSome hf) hf (Nat.lt_trans NB (by decide)) PU (by rw[List.length_drop];exact cW (jJ (Nat.sub_le ..)) (Nat.succ_lt_succ NB)) _) fun ν s' d=> ?_
    have er:(pz i (st.map jk)).map C.N.hv=(gE C.N st).drop (rE i (st.map jk))++[C.N.hv i]:=by
     unfold pz gE
     rw[List.map_append,List.map_drop,List.map_reverse,List.map_map,List.map_map]
     rfl
    refine K _ ((lB c5 JO).symm.trans h) i st m es e2 e3 ((pr (ν 6)).1 0) s' (fun e=>nomatch e) ((d.from hp).perm ?_)
    unfold FR
    rw[Option.elim_some,er]
    exact(hp.symm).cons _
   ·rw[if_neg JO]at hf
    have h:=(ou c5 JO).symm.trans h
    have ho:=congrArg Option.isSome hf
    rw[nK]at h
    have ok:=fun p hp=>Dr (w:=w) C C.g.ns i st es e2 e3 fs hm (ej▸nj) WR p hp
    cases hq:jE C.g.su st with
    |none=>
     rw[hq]at h
     exact ii.done (fun ν=>zS C _ _ es e2 e3 (seen.map C.N.nm) m (C.dn w) (dQ C.N st) fs ν (sE vT) vV ho false (ok _ (by rw[hq]))) fun ν s' d=>K _ h i [] m _ _ _ 0 s' (fun _=>rfl) d
    |some y=>
     rw[hq]at h
     have I2:=I.pop hc (fun j hj=>I.sn j (I.hm j hj)) (nK C.g.su st|>.trans (by rw[hq];rfl)) rfl
     exact ii.turn (by kernel_rfl) (fun ν=>zS C _ _ es e2 e3 (seen.map C.N.nm) m (C.dn w) (dQ C.N st) fs ν (sE vT) vV ho true (ok _ (by rw[hq]))) fun ν s' d=>ih y.1 seen y.2 m _ _ _ s' h I2 (ii.go d) fun i' st' m' a b c x dB e d2=>kk i' st' m' a b c x dB e (d.trans d2)
  ·have h:=(ow c5).symm.trans h
   have Th:C.N.nm i∉seen.map C.N.nm:=fun q=>c5 ((nQ C.N i seen).mp q)
   have vV:=iw Th
   have hZ:∀x∈st,x.j≠i:=fun x hx e=>c5 (e▸I.hm _ (gN (gN hx)))
   have H4:=lu (w:=w) C.N i st hZ
   have jm:(j5 w C.N st).size<1000:=by rw[lr];exact cW rV (by decide)
   have WX:bo (C.dn w) (C.N.nm i)=some (.ref (C.f i).na):=(cL ..).trans (if_pos I.hi)
   have XA:seen.map C.N.nm++[C.N.nm i]=(seen++[i]).map C.N.nm:=by rw[List.map_append];rfl
   have hp:=(nq C I.hi (gW C.f st)).append_left (lL w C (iG w C C.g.ns i st) es e2 e3++[C.q w (seen.map C.N.nm) m,C.d (C.dn w)])
   have i2:=ii.perm hp
   have I2:=I.push c5
   have WW:∀j∈i::(st.map jk).map (·.1),j∈C.g.ns:=fun j hj=>I2.sn j (I2.hm j hj)
   cases hk:(C.g.su i)[0]? with
   |some v=>
    have CL:(C.f i).su[0]? =some (C.N.hv v):=(List.getElem?_map ..).trans (congrArg (Option.map C.N.hv) hk)
    have e1:eO C.g.su ((i,0)::st.map jk)=some (v,(i,1)::st.map jk):=by rw[eO,hk]
    rw[e1]at h
    refine i2.turn (by kernel_rfl) (fun ν=>oq C (iG w C (C.g.ns.erase i) i st) es e2 e3 (seen.map C.N.nm) m (C.dn w) (dQ C.N st) fs ν (C.f i) (cO C.N _ _) WX vT Th vV (Nat.lt_trans NB (by decide)) HW jm H4 v (by rw[List.length_append];exact Nat.succ_lt_succ NB) (List.length_append ..) CL) fun ν s' d=> ?_
    have d1:Done (T:=TW w) s s' (xg w C i st seen m es e2 e3) (xg w C v (⟨i,(ν 6).1 0,(ν 4).1 0,1,(pr (ν 8)).1 0⟩::st) (seen++[i]) (pr (ν 1)) (es+1) (e2+1) (e3+1)):=by
     refine(d.from hp).perm ?_
     rw[xg,iG,pf,qd,<-XA]
     exact(((nq C I.hi (gW C.f st)).append_left (((ν 6).1 0,dF ((ν 4).1 0))::((ν 4).1 0,aZ (.ref (C.f i).sa) 1)::(lL w C (tJ w C (iG w C C.g.ns i st) v ((ν 6).1 0) ((pr (ν 8)).1 0)) (es+1) (e2+1) (e3+1)++[C.q w (seen.map C.N.nm++[C.N.nm i]) (pr (ν 1)),C.d (C.dn w)]))).trans (dZ (((ν 6).1 0,dF ((ν 4).1 0))::((ν 4).1 0,aZ (.ref (C.f i).sa) 1)::(lL w C (tJ w C (iG w C C.g.ns i st) v ((ν 6).1 0) ((pr (ν 8)).1 0)) (es+1) (e2+1) (e3+1)++[C.q w (seen.map C.N.nm++[C.N.nm i]) (pr (ν 1)),C.d (C.dn w)])) [2,3,4,5,6,7,0,1] _ rfl)).symm
    exact ih v (seen++[i]) (⟨i,(ν 6).1 0,(ν 4).1 0,1,(pr (ν 8)).1 0⟩::st) _ _ _ _ s' h (I2.pop hc WW e1 rfl) (ii.go d1) fun i' st' m' a b c x dB e d2=>kk i' st' m' a b c x dB e (d1.trans d2)
   |none=>
    have CL:(C.f i).su[0]? =none:=(List.getElem?_map ..).trans (congrArg (Option.map C.N.hv) hk)
    have e1:eO C.g.su ((i,0)::st.map jk)=(jE C.g.su st).map fun y=>(y.1,y.2.map jk):=by rw[eO,hk];exact nK _ _
    rw[e1]at h
    have Zb:∀x∈st,x.j∈C.g.ns.erase i:=fun x hx=>(List.mem_erase_of_ne (hZ x hx)).mpr (hm x hx)
    have ok:=fun p hp wa ia u=>IK (w:=w) C (C.g.ns.erase i) i st (es+1) (e2+1) (e3+1) fs Zb (ej▸nj) WR p hp (C.f i) CL hZ wa ia u
    have go:=fun b P' o=>fun ν=>qt C (iG w C (C.g.ns.erase i) i st) P' es e2 e3 (seen.map C.N.nm) m (C.dn w) (dQ C.N st) fs ν (C.f i) (cO C.N _ _) WX vT Th vV (Nat.lt_trans NB (by decide)) HW jm H4 b o
    have pm:∀j st' a b c m',(xg w C j st' (seen++[i]) m' a b c).Perm (lL w C (iG w C (C.g.ns.erase i) j st') a b c++(C.q w (seen.map C.N.nm++[C.N.nm i]) m'::C.d (C.dn w)::(C.r i (C.f i)++(gW C.f st'++aA C.N C.f (C.g.ns.erase i))))):=fun j st' a b c m'=>by
     rw[xg,<-XA]
     exact((nq C I.hi (gW C.f st')).append_left (lL w C (iG w C C.g.ns j st') a b c++[C.q w (seen.map C.N.nm++[C.N.nm i]) m',C.d (C.dn w)])).symm
    cases hq:jE C.g.su st with
    |none=>
     rw[hq]at h
     exact i2.done (go false _ (ok _ (by rw[hq]))) fun ν s' d=>K _ h i [] _ _ _ _ 0 s' (fun _=>rfl) ((d.from hp).perm (pm i [] _ _ _ _))
    |some y=>
     rw[hq]at h e1
     refine i2.turn (by kernel_rfl) (go true _ (ok _ (by rw[hq]))) fun ν s' d=> ?_
     have d1:=(d.from hp).perm (pm y.1 y.2 _ _ _ _)
     exact ih y.1 (seen++[i]) y.2 _ _ _ _ s' h (I2.pop hc WW e1 rfl) (ii.go d1) fun i' st' m' a b c x dB e d2=>kk i' st' m' a b c x dB e (d1.trans d2)
noncomputable def RA(m:Mu):Mu:=(fun k=>m.1 (k+8),fun k=>m.2 (k+8))
noncomputable def Ye(t:Nat->Tok)(x:Tok)(k:Nat):Tok:=bif Nat.beq k 6 then x else t k
def FC.tt(C:FC)(t:Nat->Tok):FC:={C with t:=t}
def FC.uo(C:FC)(o:Option Nat)(x:Tok):FC:=C.tt (o.elim (Ye C.t x) fun _=>C.t)
noncomputable def ig(w:World)(C:FC)(it:Addr):Code:=cw (aK w 178 [5]) (.ref it) (C.en w)
noncomputable def JX(w:World)(C:FC)(o:Option Nat):Addr×Obj:=o.elim (C.h w [] 6) fun j=>C.F w (C.N.hv j)
def FC.I(C:FC)(it:Addr)(v:Value)(k n:Nat):Addr×Obj:=(it,bZ "dict_keyiterator" v k n C.S.eb)
def IJ(res:Option (List Value))(x:Addr):Led:=res.elim [] fun r=>[(x,aj r 0)]
noncomputable def zT(C:FC)(i:Nat)(l:List Str)(m0:Mu)(dn:Array DictEntry)(T:Led)(l':List Str)(T':Mu->Led)(res:Option (List Value))(fs:List Env):sF w Unit where
 lv:=some 22
 bare:=true
 find _ _ _:=some ()
 qq _ _ _ _:=some ()
 Ir _:=C.en w::fs
 code _:=qv w C
 pre _:=[C.F w (C.N.hv i),C.q w l m0,C.d dn]
 tail _:=T
 r _ m:=res.elim (.ok .next) fun _=>.ok (.ret (.ref (m.1 1)))
 post _ m:=[(C.F w (C.N.hv (m.1 0))).2,(C.q w l' (RA m)).2,(C.d dn).2]
 new _ m:=IJ res (m.1 1)
 rest _ m:=T' m
section
variable(C:FC)(it:Addr)(i k n:Nat)(dn:Array DictEntry)(hK:dn.size=n)(l:List Str)(hl:l.length<scanBound)(m:Mu)(o:Option Nat)(T:Led)(fs:List Env)(ν:Nu)
section
variable(e:DictEntry)(he:dn[k]? =some e)(WZ:e.key=C.N.hv i)
theorem C7(hb:decide (C.N.nm i∈l)=false)(l':List Str)(T':Mu->Led)(res:Option (List Value))(ok:∀x,(zT (w:=w) (C.uo o x) i l m dn T l' T' res fs).Ok):
  aT 3 (.ok (res.elim (.again (ig w C it)) fun _=>.done (.ret (.ref ((pr (ν 3)).1 1))))) (IJ res ((pr (ν 3)).1 1)++(C.I it (.ref C.S.n2) (k+1) n::(C.uo o ((ν 1).1 0)).F w (C.N.hv ((pr (ν 3)).1 0))::C.q w l' (RA (pr (ν 3)))::C.d dn::T' (pr (ν 3))))
   (bW w ν 62 none (some (24,C.en w::fs)) (ig w C it) (C.I it (.ref C.S.n2) k n::JX w C o::C.q w l m::C.d dn::T) 0x30811440800830c20820800c0003040 [K (ku dn k n (C.N.hv i) e hK he WZ),K (eK l hl m (C.N.nm i) false hb),(fun ν=>(zT (w:=w) (C.uo o ((ν 1).1 0)) i l m dn T l' T' res fs).sm (ok _))]):=by cases o<;>cases res<;>kernel_rfl
theorem T9(hb:decide (C.N.nm i∈l)=true):
  aT 3 (.ok (.again (ig w C it))) (C.I it (.ref C.S.n2) (k+1) n::(C.uo o ((ν 1).1 0)).F w (C.N.hv i)::C.q w l m::C.d dn::T)
   (bW w ν 61 none (some (24,C.en w::fs)) (ig w C it) (C.I it (.ref C.S.n2) k n::JX w C o::C.q w l m::C.d dn::T) 0x800830c20820800c0003040 [K (ku dn k n (C.N.hv i) e hK he WZ),K (eK l hl m (C.N.nm i) true hb)]):=by cases o<;>kernel_rfl
end
theorem T8(he:dn[k]? =none)(j:Nat):
  aT 3418 (.ok .next) (C.I it .none k n::C.F w (C.N.hv j)::C.d dn::T)
   (runC w ν 46 none (some (24,fs)) (ig w C it) (C.I it (.ref C.S.n2) k n::C.F w (C.N.hv j)::C.d dn::T) 70866972736 [K (vj dn k n hK he)]):=by kernel_rfl
end
def sx(h k v:List Value):Array DictEntry:=((h.zip (k.zip v)).map fun p=>⟨rS p.1,p.2.1,p.2.2⟩).toArray
section
variable(es:Array DictEntry)
def encD:List (List Value):=[es.toList.map fun e=>.int e.hash 0,es.toList.map (·.key),es.toList.map (·.val)]
theorem DV:sx (es.toList.map fun e=>.int e.hash 0) (es.toList.map (·.key)) (es.toList.map (·.val))=es:=by
 have h:∀l:List DictEntry,((l.map fun e=>Value.int e.hash 0).zip ((l.map (·.key)).zip (l.map (·.val)))).map (fun p=>(⟨rS p.1,p.2.1,p.2.2⟩:DictEntry))=l:=fun l=>by
  induction l with
  |nil=>rfl
  |cons e l ih=>exact congrArg (e::·) ih
 unfold sx
 rw[h]
end
theorem Ao{g:GG}(hc:∀j∈g.ns,∀v∈g.su j,v∈g.ns){y:Option (List Nat)×List Nat}(fuel:Nat):∀(i:Nat) (se:List Nat) (ps:List (Nat×Nat)),qS g.su fuel i se ps=some y->lG g i se (ps.map (·.1))->y.2.Nodup/\∀j∈y.2,j∈g.ns:=by
 induction fuel with
 |zero=>exact fun _ _ _ h=>nomatch h
 |succ fuel ih=>
  have go:∀i se ps js,Ap g.su fuel se (eO g.su ps)=some y->lG g i se js->ps.map (·.1)=js->y.2.Nodup/\∀j∈y.2,j∈g.ns:=fun i se ps js h I e=>by
   cases hq:eO g.su ps with
   |none=>rw[hq]at h;cases h;exact⟨I.ns,I.sn⟩
   |some p=>rw[hq]at h;exact ih p.1 se p.2 h (I.pop hc (fun j hj=>I.sn j (I.hm j hj)) hq e)
  intro i se ps h I
  by_cases c5:i∈se
  ·by_cases rV:i∈ps.map (·.1)
   ·rw[lB c5 rV]at h;cases h;exact⟨I.ns,I.sn⟩
   ·exact go i se ps _ ((ou c5 rV).symm.trans h) I rfl
  ·exact go i _ ((i,0)::ps) _ ((ow c5).symm.trans h) (I.push c5) rfl
noncomputable def gJ(su:Nat->List Nat)(fuel:Nat):List Nat->List Nat->Option (Option (List Nat))
 |[],_=>some none
 |i::is,se=>if i∈se then gJ su fuel is se else match qS su fuel i se []with
  |none=>none
  |some (some r,_)=>some (some r)
  |some (none,Yr)=>gJ su fuel is Yr
def FJ(su:Nat->List Nat)(fuel:Nat)(is:List Nat)(o:Option (Option (List Nat)×List Nat)):Option (Option (List Nat)):=o.elim none fun p=>p.1.elim (gJ su fuel is p.2) fun r=>some (some r)
def jq(su:Nat->List Nat)(fuel:Nat):List Nat->List Nat->List Nat
 |[],se=>se
 |i::is,se=>if i∈se then jq su fuel is se else(qS su fuel i se []).elim [] fun p=>p.1.elim (jq su fuel is p.2) fun _=>p.2
noncomputable def AW(C:FC)(xs ys:List Value)(dk:Array DictEntry)(es e2 e3:Nat):Led:=[C.z xs es,C.i ys e2,C.n dk e3]++aA C.N C.f C.g.ns
noncomputable def JW(C:FC)(res:Option (List Nat))(m:Mu):Led:=res.elim (AW C [] [] #[] (m.1 2) (m.1 3) (m.1 4)) fun _=>AW C (m.2 0) (m.2 1) (sx (m.2 2) (m.2 3) (m.2 4)) (m.1 2) (m.1 3) (m.1 4)
noncomputable def Gn(n:List Nat)(l:List (List Value))(m':Mu):Mu:=
 (fun k=>bif Nat.blt k 8 then n.getD k 0 else m'.1 (k-8),fun k=>bif Nat.blt k 8 then l.getD k []else m'.2 (k-8))
section
variable(C:FC)(res:Option (List Nat))
def Ds:Option (List Value):=res.map fun r=>r.map C.N.hv
theorem Gm(i:Nat)(st:List FX)(l:List Nat)(m:Mu)(a b c x:Nat)(he:res=none->st=[]):∃μ:Mu,Oi res x=(Ds C res).elim (.ok .next) (fun _=>.ok (.ret (.ref (μ.1 1))))/\∃M:Led,([C.F w (C.N.hv (μ.1 0)),C.q w (l.map C.N.nm) (RA μ),C.d (C.dn w)]++(IJ (Ds C res) (μ.1 1)++JW C res μ)).Perm M/\M.Sublist (FR C res x++xg w C i st l m a b c):=by
 cases res with
 |none=>
  rw[he rfl]
  exact⟨Gn [i,0,a,b,c] [] m,rfl,_,(dZ [C.F w (C.N.hv i),C.z [] a,C.i [] b,C.n #[] c,C.q w (l.map C.N.nm) m,C.d (C.dn w)] [0,4,5,1,2,3] (aA C.N C.f C.g.ns) rfl).symm,.refl _⟩
 |some ring=>
  let μ:=Gn [i,x,a,b,c] (gE C.N st::n4 st::encD (j5 w C.N st)) m
  have q:=dZ [(x,aj (ring.map C.N.hv) 0),C.F w (C.N.hv i),C.z (gE C.N st) a,C.i (n4 st) b,C.n (sx (μ.2 2) (μ.2 3) (μ.2 4)) c,C.q w (l.map C.N.nm) m,C.d (C.dn w)] [1,5,6,0,2,3,4] (aA C.N C.f C.g.ns) rfl
  refine⟨μ,rfl,_,q.symm,?_⟩
  rw[show sx (μ.2 2) (μ.2 3) (μ.2 4)=_ from DV (j5 w C.N st)]
  exact(List.sublist_append_right (gW C.f st) _).append_left [_,_,_,_,_,_,_]
end
theorem Kc(C:FC)(nd:C.g.ns.Nodup)(hb:C.g.ns.length<=800)(hc:∀j∈C.g.ns,∀v∈C.g.su j,v∈C.g.ns)(fs:List Env)(fuel i:Nat)(sl rq:List Nat)(m:Mu)(es e2 e3:Nat)(res:Option (List Nat))(h:qS C.g.su fuel i sl []=some (res,rq))(I:lG C.g i sl []):
  (zT (w:=w) C i (sl.map C.N.nm) m (C.dn w) (AW C [] [] #[] es e2 e3) (rq.map C.N.nm) (JW C res) (Ds C res) fs).Ok:=fun _ A s R ii _ kk=>by
 have hp:=dZ [C.F w (C.N.hv i),C.z [] es,C.i [] e2,C.n #[] e3,C.q w (sl.map C.N.nm) m,C.d (C.dn w)] [0,4,5,1,2,3] (aA C.N C.f C.g.ns) rfl
 refine zQ nd hb hc fs res rq fuel i sl [] m es e2 e3 s h I (ii.perm hp) fun i' st' m' a b c x s' e d=> ?_
 obtain⟨μ,e1,_,q1,q2⟩:=Gm (w:=w) C res i' st' rq m' a b c x e
 exact wo e1.symm (kk μ s' rfl (((d.from hp).sel q2).perm q1))
section
variable{su:Nat->List Nat}{fuel i:Nat}{is se:List Nat}
theorem uJ(h:i∈se):gJ su fuel (i::is) se=gJ su fuel is se/\jq su fuel (i::is) se=jq su fuel is se:=⟨if_pos h,if_pos h⟩
theorem ie(h:i∉se){o:Option (Option (List Nat)×List Nat)}(d:qS su fuel i se []=o):gJ su fuel (i::is) se=FJ su fuel is o/\jq su fuel (i::is) se=o.elim [] fun p=>p.1.elim (jq su fuel is p.2) fun _=>p.2:=by
 subst d
 refine⟨(if_neg h).trans ?_,if_neg h⟩
 cases qS su fuel i se []with
 |none=>rfl
 |some p=>
  obtain⟨a,b⟩:=p
  cases a<;>rfl
end
theorem lp(N:NM)(f:Nat->ND)(ns:List Nat)(k:Nat):(ents w N f ns)[k]? =ns[k]?.map fun i=>⟨hashStr w (N.nm i),.str (N.nm i) (N.tk i),.ref (f i).na⟩:=by
 unfold ents
 rw[List.getElem?_toArray,List.getElem?_map]
noncomputable def Iw(w:World)(C:FC)(it:Addr)(v:Value)(k:Nat)(F:Addr×Obj)(l:List Nat)(m:Mu)(X:Led):Led:=
 C.I it v k C.g.ns.length::F::C.q w (l.map C.N.nm) m::C.d (C.dn w)::X
def Ua(C:FC)(res:Option (List Nat)):Value:=res.elim .none fun _=>.ref C.S.n2
section
variable{C:FC}(it:Addr)(nd:C.g.ns.Nodup)(hb:C.g.ns.length<=800)(hc:∀j∈C.g.ns,∀v∈C.g.su j,v∈C.g.ns)(fs:List Env)(fuel:Nat)
include nd hb hc
theorem C8(i k:Nat)(sl:List Nat)(o:Option Nat)(m:Mu)(es e2 e3:Nat)(s:Shared)(y:Option (List Nat)×List Nat)(vR:(sl.map C.N.nm).length<scanBound)(hk:C.g.ns[k]? =some i)(c5:i∉sl)(AR:qS C.g.su fuel i sl []=some y)(I:lG C.g i sl [])(L:Led)(hL:L=Iw w C it (.ref C.S.n2) k (JX w C o) sl m (AW C [] [] #[] es e2 e3))(ii:In w (some 24) true (C.en w::fs) A s L)
  (k1:y.1=none->∀t j m' a b c s',Done (T:=TW w) s s' L (Iw w C it (.ref C.S.n2) (k+1) (JX w (C.tt t) (some j)) y.2 m' (AW C [] [] #[] a b c))->codeAny (Mo w) A (ig w C it) R s')
  (k2:∀r,y.1=some r->∀t j m' μ x s',Done (T:=TW w) s s' L (FR C (some r) x++Iw w C it (.ref C.S.n2) (k+1) ((C.tt t).F w (C.N.hv j)) y.2 m' (JW C (some r) μ))->R (.ok (.ret (.ref x))) s'):codeAny (Mo w) A (ig w C it) R s:=by
 have he:(C.dn w)[k]? =some ⟨hashStr w (C.N.nm i),.str (C.N.nm i) (C.N.tk i),.ref (C.f i).na⟩:=(lp ..).trans (by rw[hk];rfl)
 have ok:=fun x=>Kc (w:=w) (C.uo o x) nd hb hc fs fuel i sl y.2 m es e2 e3 y.1 AR I
 have T:=fun ν=>C7 C it i k C.g.ns.length (C.dn w) (cj ..) (sl.map C.N.nm) vR m o (AW C [] [] #[] es e2 e3) fs ν _ he rfl (iw fun q=>c5 ((nQ C.N i sl).mp q)) (y.2.map C.N.nm) (JW C y.1) (Ds C y.1) ok
 subst hL
 clear AR
 obtain⟨rr,rq⟩:=y
 cases rr with
 |none=>exact ii.turn (by kernel_rfl) T fun ν s' d=>k1 rfl _ _ _ _ _ _ s' d
 |some ring=>exact ii.done T fun ν s' d=>k2 ring rfl _ _ _ _ _ s' d
theorem II(is:List Nat):∀(k:Nat) (sl:List Nat) (o:Option Nat) (t:Nat->Tok) (m:Mu) (es e2 e3:Nat) (s:Shared) (L:Led),L=Iw w C it (.ref C.S.n2) k (JX w (C.tt t) o) sl m (AW C [] [] #[] es e2 e3)->
  C.g.ns.drop k=is->(gJ C.g.su fuel is sl).isSome=true->(is=[]->o.isSome=true)->sl.Nodup->(∀j∈sl,j∈C.g.ns)->In w (some 24) true (C.en w::fs) A s L->
  (∀y z,gJ C.g.su fuel is sl=some y->jq C.g.su fuel is sl=z->∀t' j k' m' μ x s',Done (T:=TW w) s s' L (FR C y x++Iw w C it (Ua C y) k' ((C.tt t').F w (C.N.hv j)) z m' (JW C y μ))->R (Oi y x) s')->codeAny (Mo w) A (ig w C it) R s:=by
 induction is with
 |nil=>
  intro k sl o t m es e2 e3 s L hL hd _ ho _ _ ii kk
  obtain⟨j,e⟩:=Option.isSome_iff_exists.mp (ho rfl)
  have he:(C.dn w)[k]? =none:=by
   refine(lp ..).trans ?_
   rw[List.getElem?_eq_none (List.drop_eq_nil_iff.mp hd)];rfl
  have hp:=fun v=>dZ [C.I it v k C.g.ns.length,(C.tt t).F w (C.N.hv j),C.d (C.dn w),C.q w (sl.map C.N.nm) m] [0,1,3,2] (AW C [] [] #[] es e2 e3) rfl
  have hq:=(hp (.ref C.S.n2)).trans (.of_eq (hL.trans (congrArg (fun o=>Iw w C it (.ref C.S.n2) k (JX w (C.tt t) o) sl m (AW C [] [] #[] es e2 e3)) e)).symm)
  exact(ii.perm hq).code (fun ν=>T8 (C.tt t) it k _ (C.dn w) (cj ..) _ (C.en w::fs) ν he j) fun ν s' d=>kk none sl rfl rfl t j k m (Gn [0,0,es,e2,e3] [] m) 0 s' ((d.from hq).perm (hp _).symm)
 |cons i is ih=>
  intro k sl o t m es e2 e3 s L hL hd h _ hn S5 ii kk
  have hk:C.g.ns[k]? =some i:=by rw[<-Nat.add_zero k,<-List.getElem?_drop,hd];rfl
  have qP:C.g.ns.drop (k+1)=is:=by rw[<-List.drop_drop,hd];rfl
  have vR:(sl.map C.N.nm).length<scanBound:=by rw[List.length_map];exact cW (bP (iQ hn S5) hb) (by decide)
  by_cases c5:i∈sl
  ·obtain⟨f1,f2⟩:=uJ (su:=C.g.su) (fuel:=fuel) (is:=is) c5
   rw[f1]at h
   have he:(C.dn w)[k]? =some ⟨hashStr w (C.N.nm i),.str (C.N.nm i) (C.N.tk i),.ref (C.f i).na⟩:=(lp ..).trans (by rw[hk];rfl)
   subst hL
   exact ii.turn (by kernel_rfl) (fun ν=>T9 (C.tt t) it i k _ (C.dn w) (cj ..) _ vR m o _ fs ν _ he rfl (iu ((nQ C.N i sl).mpr c5))) fun ν s' d=>
    ih (k+1) sl (some i) _ m es e2 e3 s' _ rfl qP h (fun _=>rfl) hn S5 (ii.go d) fun y z e1 e2 t' j k' m' μ x dB d2=>kk y z (f1.trans e1) (f2.trans e2) t' j k' m' μ x dB (d.trans d2)
  ·have I:lG C.g i sl []:=⟨fun _ q=>(nomatch q),.nil,S5,hn,ir hk⟩
   cases AR:qS C.g.su fuel i sl []with
   |none=>rw[(ie c5 AR).1]at h;cases h
   |some y=>
    obtain⟨n2,Ym⟩:=Ao hc fuel i sl [] AR I
    refine C8 (C:=C.tt t) it nd hb hc fs fuel i k sl o m es e2 e3 s y vR hk c5 AR I L hL ii (fun e t' j m' a b c s' d=> ?_) fun r e t' j m' μ x s' d=> ?_
    ·obtain⟨f1,f2⟩:=ie (is:=is) c5 (AR.trans (congrArg (fun a=>some (a,y.2)) e))
     exact ih (k+1) y.2 (some j) t' m' a b c s' _ rfl qP ((congrArg Option.isSome f1).symm.trans h) (fun _=>rfl) n2 Ym (ii.go d) fun y' z e1 e2 t' j k' m' μ x dB d2=>kk y' z (f1.trans e1) (f2.trans e2) t' j k' m' μ x dB (d.trans d2)
    ·obtain⟨f1,f2⟩:=ie (is:=is) c5 (AR.trans (congrArg (fun a=>some (a,y.2)) e))
     exact kk (some r) y.2 f1 f2 t' j _ m' μ x s' d
end
def Uw(C:FC)(res:Option (List Nat))(m:Mu):Led:=res.elim [C.z [] (m.1 2),C.i [] (m.1 3),C.n #[] (m.1 4)] fun _=>[C.z (m.2 0) (m.1 2),C.i (m.2 1) (m.1 3),C.n (sx (m.2 2) (m.2 3) (m.2 4)) (m.1 4)]
structure Pc where
 t:Nat->Tok
 fr:Addr
 it:Addr
 sk:Addr
 ik:Addr
 se:Addr
 nk:Addr
 es:Nat
 e2:Nat
 e3:Nat
 fs:List Env
noncomputable def ye(w:World):Obj:={cls:=.type "set",data:=.set #[] 0 (SetTable.fresh 0 0 (!w.params.followText "set-order"))}
noncomputable def Yq(m:Mu):Mu:=(fun k=>m.1 (k+20),fun k=>m.2 (k+8))
noncomputable def Iv(j x k:Nat)(t:Nat->Tok)(μ m:Mu):Mu:=(fun i=>bif Nat.blt i 10 then [j,0,μ.1 2,μ.1 3,μ.1 4,0,0,0,x,k].getD i 0 else bif Nat.blt i 20 then t (i-10)else m.1 (i-20),fun i=>bif Nat.blt i 8 then μ.2 i else m.2 (i-8))
def Iy(fs:List Env)(pre:Led):Option Pc:=
 let f:=(az pre 1).2
 some ⟨fun k=>[lI f 0,lI f 1,lI f 2,lI f 3,lI f 4,lI f 5].getD k 0,(az pre 1).1,(az pre 0).1,(az pre 4).1,(az pre 5).1,(az pre 2).1,(az pre 6).1,cK (az pre 4).2,cK (az pre 5).2,cK (az pre 6).2,fs.tail⟩
section
variable(N:NM)(S:SO)(g:GG)(ρ:Nat->Nat)(l:List Nat)(res:Option (List Nat))
def Pc.C(x:Pc):FC:=⟨N,S,x.t,x.fr,x.sk,x.ik,x.se,x.nk,g,ρ⟩
noncomputable def fL:sF w Pc where
 lv:=some 24
 bare:=true
 find _ _ _:=none
 qq fs _ pre _:=Iy fs pre
 Ir x:=(x.C N S g ρ).en w::x.fs
 code x:=ig w (x.C N S g ρ) x.it
 pre x:=let C:=x.C N S g ρ;[C.I x.it (.ref S.n2) 0 g.ns.length,C.h w [] 6,(x.se,ye w),(S.n2,U (ents w N (aE N g ρ) g.ns) S.eb),(x.sk,ah #[] x.es),(x.ik,ah #[] x.e2),(x.nk,U #[] x.e3)]
 tail _:=aA N (aE N g ρ) g.ns
 r _ m:=Oi res (m.1 8)
 post x m:=let C:=x.C N S g ρ;[(C.I x.it (Ua C res) (m.1 9) g.ns.length).2,((C.tt fun k=>m.1 (k+10)).F w (N.hv (m.1 0))).2,(C.q w (l.map N.nm) (Yq m)).2,U (ents w N (aE N g ρ) g.ns) S.eb]++(Uw C res m).map (·.2)
 new x m:=FR (x.C N S g ρ) res (m.1 8)
 rest _ _:=aA N (aE N g ρ) g.ns
end
theorem vn(w:World):cD w (ye w) []:=by
 refine⟨#[],0,_,⟨rfl,rfl,rfl⟩,rfl,fun e he=>(nomatch he),fun k=>⟨fun h=>(nomatch h),fun⟨e,he,_⟩=>(nomatch he)⟩,by decide,?_,rfl⟩
 rfl
section
variable(N:NM)(S:SO)(g:GG)(ρ:Nat->Nat)
theorem Iu(x:Pc)(res:Option (List Nat))(k:Nat)(t:Nat->Tok)(j:Nat)(l:List Nat)(m μ:Mu)(a:Addr):((fL (w:=w) N S g ρ l res).post x (Iv j a k t μ m)).length=((fL (w:=w) N S g ρ l res).pre x).length/\((fL (w:=w) N S g ρ l res).fin x (Iv j a k t μ m)).Perm (FR (x.C N S g ρ) res a++Iw w (x.C N S g ρ) x.it (Ua (x.C N S g ρ) res) k (((x.C N S g ρ).tt t).F w (N.hv j)) l m (JW (x.C N S g ρ) res μ)):=by
 cases res with
 |none=>exact⟨rfl,.refl _⟩
 |some r=>
  let C:=x.C N S g ρ
  exact⟨rfl,(dZ [(a,aj (r.map N.hv) 0),C.I x.it (.ref S.n2) k g.ns.length,(C.tt t).F w (N.hv j),C.q w (l.map N.nm) m,C.d (C.dn w),C.z (μ.2 0) (μ.1 2),C.i (μ.2 1) (μ.1 3),C.n (sx (μ.2 2) (μ.2 3) (μ.2 4)) (μ.1 4)] [1,2,3,4,5,6,7,0] (aA N (aE N g ρ) g.ns) rfl).symm⟩
theorem zV(nd:g.ns.Nodup)(hb:g.ns.length<=800)(h0:g.ns.length≠0)(hc:∀j∈g.ns,∀v∈g.su j,v∈g.ns)(fuel:Nat)(res:Option (List Nat))(h:gJ g.su fuel g.ns []=some res):(fL (w:=w) N S g ρ (jq g.su fuel g.ns []) res).Ok:=by
 intro x A s Rz ii _ kk
 obtain⟨m0,n7⟩:=tA (vn w)
 let C:=x.C N S g ρ
 refine II (C:=C) x.it nd hb hc x.fs fuel g.ns 0 [] none C.t m0 x.es x.e2 x.e3 s _ (congrArg (fun o=>C.I x.it (.ref S.n2) 0 g.ns.length::C.h w [] 6::(x.se,o)::C.d (C.dn w)::AW C [] [] #[] x.es x.e2 x.e3) n7.symm) rfl (congrArg Option.isSome h) (fun e=>absurd (congrArg List.length e) h0) .nil (fun _ q=>nomatch q) ii fun y z e1 e2 t' j k' m' μ a s' d=> ?_
 obtain⟨k1,k2⟩:=Iu (w:=w) N S g ρ x res k' t' j z m' μ a
 cases Option.some.inj (e1.symm.trans h)
 cases e2
 exact kk (Iv j a k' t' μ m') s' k1 (d.perm k2)
end
section
variable(N:NM)(S:SO)(g:GG)(ρ:Nat->Nat)(rv:Value)
section
variable(ea:Nat)(l:List Nat)(fs:List Env)(ν:Nu)
theorem Dq(ok:(fL (w:=w) N S g ρ l none).Ok):
  aT 875178 (.ok (.ret .none)) (qN w N S (aE N g ρ) g.ns rv ea++aA N (aE N g ρ) g.ns)
   (bX w ν 147 none (some (28,fs)) 178 [.ref S.sf] (qN w N S (aE N g ρ) g.ns rv ea++aA N (aE N g ρ) g.ns) NP [K (kx (ents w N (aE N g ρ) g.ns) g.ns.length (cj N (aE N g ρ) g.ns)),K ((fL (w:=w) N S g ρ l none).sm ok)]):=by kernel_rfl
theorem zR(r:List Nat)(ok:(fL (w:=w) N S g ρ l (some r)).Ok):
  aT 3500713 (.ok (.ret (.ref ((pr (ν 13)).1 8)))) (((pr (ν 13)).1 8,aj (r.map N.hv) 0)::(qN w N S (aE N g ρ) g.ns rv ea++aA N (aE N g ρ) g.ns))
   (bX w ν 146 none (some (28,fs)) 178 [.ref S.sf] (qN w N S (aE N g ρ) g.ns rv ea++aA N (aE N g ρ) g.ns) NP [K (kx (ents w N (aE N g ρ) g.ns) g.ns.length (cj N (aE N g ρ) g.ns)),K ((fL (w:=w) N S g ρ l (some r)).sm ok)]):=by kernel_rfl
end
theorem FQ(nd:g.ns.Nodup)(hb:g.ns.length<=800)(h0:g.ns.length≠0)(hc:∀j∈g.ns,∀v∈g.su j,v∈g.ns)(fuel:Nat)(res:Option (List Nat))(h:gJ g.su fuel g.ns []=some res):(Oj (w:=w) N S (aE N g ρ) g.ns rv (res.map fun r=>r.map N.hv)).Ok:=fun ea fs A s R ii _ kk=>by
 have ok:=zV (w:=w) N S g ρ nd hb h0 hc fuel res h
 cases res with
 |none=>exact ii.fn (fun ν=>Dq N S g ρ rv ea _ fs ν ok) fun ν s' d=>kk eQ s' rfl d
 |some r=>exact ii.fn (fun ν=>zR N S g ρ rv ea _ fs ν r ok) fun ν s' d=>kk (PD ((pr (ν 13)).1 8) 0 0) s' rfl (d.perm (dZ ((qN w N S (aE N g ρ) g.ns rv ea)++[((pr (ν 13)).1 8,aj (r.map N.hv) 0)]) [3,0,1,2] _ rfl))
end
section
variable(N:NM)(S:SO)(g:GG)(ρ:Nat->Nat)(xf:List Nat)
noncomputable def Hq:aD w Unit where
 lv:=some 34
 bare:=true
 find _ _ _:=some ()
 code _:=.call (.ref 143) ⟨[.ref S.sf],[]⟩
 pre _:=qN w N S (aE N g ρ) g.ns .none S.ea
 tail _:=aA N (aE N g ρ) g.ns
 r _ _:=.ok (.ret .none)
 post _ m:=(qN w N S (aE N g ρ) g.ns (.ref (m.1 0)) S.ea).map (·.2)
 new _ m:=[(m.1 0,aj (xf.map N.hv) (m.1 1))]
 rest _ _:=aA N (aE N g ρ) g.ns
noncomputable def Ho:aD w Unit where
 lv:=some 34
 bare:=true
 find _ _ _:=some ()
 code _:=.call (.ref 143) ⟨[.ref S.sf],[]⟩
 pre _:=qN w N S (aE N g ρ) g.ns .none S.ea
 tail _:=aA N (aE N g ρ) g.ns
 r _ m:=.error (.ref (m.1 2))
 post _ m:=(qN w N S (aE N g ρ) g.ns (.ref (m.1 0)) S.ea).map (·.2)
 new _ m:=[(m.1 3,Bk .none (m.1 4) (m.2 0)),(m.1 2,{cls:=.ref 106,data:=.fields #[.ref (m.1 5),.ref (m.1 3),.none,.none,.bool false,.none]}),(m.1 0,aj (xf.map N.hv) (m.1 1))]
 rest _ _:=aA N (aE N g ρ) g.ns
variable(nd:g.ns.Nodup)(hb:g.ns.length<=800)(h0:g.ns.length≠0)(hc:∀j∈g.ns,∀v∈g.su j,v∈g.ns)(wY:g.ns.filter (fun j=>decide (g.np j=0))=xf)(fuel:Nat)
include nd hb h0 hc wY
theorem Hp(h:gJ g.su fuel g.ns []=some none):(Hq (w:=w) N S g ρ xf).Ok:=fun _ fs A s R ii _ kk=>
 In.fn (k:=34) ii (fun ν=>BS N S g ρ (bP hb (by decide)) h0 xf wY fs ν fun rv=>FQ N S g ρ rv nd hb h0 hc fuel none h) fun ν s' d=>kk (PD ((ν 6).1 0) ((pr (ν 8)).1 1) 0) s' rfl (d.perm (dZ (qN w N S (aE N g ρ) g.ns (.ref ((ν 6).1 0)) S.ea++[((ν 6).1 0,aj (xf.map N.hv) ((pr (ν 8)).1 1))]) [3,0,1,2] _ rfl))
theorem Hn(ring:List Nat)(h:gJ g.su fuel g.ns []=some (some ring))(Y1:ring≠[])(Y2:ring.length<1000000):(Ho (w:=w) N S g ρ xf).Ok:=fun _ fs A s R ii _ kk=>by
 cases ring with
 |nil=>exact absurd rfl Y1
 |cons a l=>
  exact In.fn (k:=34) ii (fun ν=>BR N S g ρ (bP hb (by decide)) h0 xf wY fs ν (N.hv a) (l.map N.hv) (by rw[List.length_cons,List.length_map];exact Y2) fun rv=>FQ N S g ρ rv nd hb h0 hc fuel (some (a::l)) h) fun ν s' d=>kk (fun k=>[(ν 6).1 0,(pr (ν 8)).1 1,(pr (ν 15)).1 0,(ν 17).1 0,(ν 0).1 0,(ν 16).1 0].getD k 0,fun _=>(ν 17).2.1 0) s' rfl (d.perm (dZ (qN w N S (aE N g ρ) g.ns (.ref ((ν 6).1 0)) S.ea++[((ν 17).1 0,Bk .none ((ν 0).1 0) ((ν 17).2.1 0)),((pr (ν 15)).1 0,{cls:=.ref 106,data:=.fields #[.ref ((ν 16).1 0),.ref ((ν 17).1 0),.none,.none,.bool false,.none]}),((ν 6).1 0,aj (xf.map N.hv) ((pr (ν 8)).1 1))]) [3,4,5,0,1,2] _ rfl))
end
end
section
open PySem PySem.W PySem.W.X PyProof.Rows PySem.Builtin.Str
theorem yL(ρ τ:Nat->Nat)(i:Nat):df (aR ρ τ) i=aR ρ (df τ i):=by
 funext k
 unfold df lS aR
 by_cases h:k=8*i+2
 ·rw[if_pos h,if_pos (by lia)];exact(if_pos h).symm
 ·rw[if_neg h]
  by_cases h2:k%8=2
  ·rw[if_pos h2,if_pos h2];exact(if_neg h).symm
  ·rw[if_neg h2,if_neg h2]
theorem E0(ρ:Nat->Nat):∀(rs:List Nat) (τ:Nat->Nat),rs.foldl df (aR ρ τ)=aR ρ (rs.foldl df τ)
 |[],_=>rfl
 |i::rs,τ=>by rw[List.foldl_cons,yL,E0 ρ rs,List.foldl_cons]
theorem oS(ρ:Nat->Nat):aR ρ ρ=ρ:=by
 funext k
 unfold aR
 split<;>rfl
theorem E8:∀(rs:List Nat) (g:GG),(rs.foldl bT g).ns=g.ns/\(rs.foldl bT g).su=g.su
 |[],_=>⟨rfl,rfl⟩
 |i::rs,g=>E8 rs (bT g i)
theorem Ov(N:NM)(ρ:Nat->Nat)(ns:List Nat)(g g':GG)(τ nh:Nat->Nat):ents w N (aE N g (aR ρ τ)) ns=ents w N (aE N g' (aR ρ nh)) ns:=by
 unfold ents
 congr 1
 refine List.map_congr_left fun j _=> ?_
 have h:∀(g:GG) (τ:Nat->Nat),(aE N g (aR ρ τ) j).na=ρ (8*j):=fun g τ=>by
  show aR ρ τ (8*j)=_
  unfold aR
  rw[if_neg (by lia)]
 rw[h,h]
section
variable(N:NM)(S:SO)(p q:Int)(u v:Tok)(ns:List Nat)
def Ie(ρ τ El:Nat->Nat)(es:Array DictEntry)(g gf:GG)(rs:List Nat)(ra:Addr)(er:Nat):aD w Unit where
 lv:=some 30
 bare:=true
 find _ _ _:=some ()
 code _:=.call (.ref 150) ⟨[.ref S.sf],[]⟩
 pre _:=[(S.sf,aG S.d),(S.d,aI w.params S.t1 S.t2 S.t3 S.t4 S.n2 (.ref ra) (.int p u) (.int q v) S.ea),(S.n2,U es S.eb),(ra,aj (rs.map N.hv) er)]
 tail _:=aA N (aE N g (aR ρ τ)) ns
 r _ m:=.ok (.ret (.ref (m.1 0)))
 post _ m:=[aG S.d,aI w.params S.t1 S.t2 S.t3 S.t4 S.n2 (.ref ra) (.int (p+rs.length) (m.1 1)) (.int q v) S.ea,U es S.eb,ah #[] (m.1 2)]
 new _ m:=[(m.1 0,ae (rs.map N.hv).toArray 0)]
 rest _ _:=aA N (aE N gf (aR ρ El)) ns
theorem Ic(nd:ns.Nodup)(ρ τ:Nat->Nat)(es:Array DictEntry)(cG:∀g τ,es=ents w N (aE N g (aR ρ τ)) ns)(g:GG)(gU:g.ns=ns)(rs:List Nat)(c5:∀i∈rs,i∈ns)(hz:rs.length<1000000)(ra:Addr)(er:Nat):(Ie (w:=w) N S p q u v ns ρ τ (rs.foldl df τ) es g (rs.foldl bT g) rs ra er).Ok:=by
 subst gU
 intro x fs A s Rz ii ho kk
 have e1:(Ie (w:=w) N S p q u v g.ns ρ τ (rs.foldl df τ) es g (rs.foldl bT g) rs ra er).pre x=(JS (w:=w) N S p q u v g (aR ρ τ) rs (rs.foldl bT g) (aR ρ (rs.foldl df τ)) ra er).pre x:=by
  unfold Ie JS EJ
  dsimp only
  rw[cG g τ]
 have e2:∀μ,(Ie (w:=w) N S p q u v g.ns ρ τ (rs.foldl df τ) es g (rs.foldl bT g) rs ra er).fin x μ=(JS (w:=w) N S p q u v g (aR ρ τ) rs (rs.foldl bT g) (aR ρ (rs.foldl df τ)) ra er).fin x μ:=fun μ=>by
  have e3:(Ie (w:=w) N S p q u v g.ns ρ τ (rs.foldl df τ) es g (rs.foldl bT g) rs ra er).post x μ=(JS (w:=w) N S p q u v g (aR ρ τ) rs (rs.foldl bT g) (aR ρ (rs.foldl df τ)) ra er).post x μ:=by
   unfold Ie JS
   dsimp only
   rw[cG (rs.foldl bT g) (rs.foldl df τ)]
  unfold aD.fin
  rw[e1,e3]
  rfl
 refine NS (w:=w) N S p q u v g (aR ρ τ) nd rs c5 hz (rs.foldl bT g) rfl (aR ρ (rs.foldl df τ)) (E0 ρ rs τ) ra er x fs A s Rz ⟨ii.hr,ii.hf,ii.hh,by rw[<-e1];exact ii.hs⟩ ho fun μ s' _ d=>kk μ s' rfl ?_
 rw[e1,e2]
 exact d
def Kz(nd:ns.Nodup)(ρ τ:Nat->Nat)(es:Array DictEntry)(cG:∀g τ,es=ents w N (aE N g (aR ρ τ)) ns)(g:GG)(gU:g.ns=ns)(rs:List Nat)(c5:∀i∈rs,i∈ns)(hz:rs.length<1000000)(ra:Addr)(er:Nat)(gf:GG)(eC:rs.foldl bT g=gf)(El:Nat->Nat)(S2:rs.foldl df τ=El):aJ w:=(Ie N S p q u v ns ρ τ El es g gf rs ra er).sm (by subst eC;subst S2;exact Ic N S p q u v ns nd ρ τ es cG g gU rs c5 hz ra er)
end
end
section
open PySem PySem.W PySem.W.X PyProof.Rows
theorem oA{l:Addr}{ep:Nat}(hz:xs.length<1000000)(ho:s.heap.get? l=some (aj xs ep))
  (h:R (.ok (.ret (.ref s.heap.objs.size))) {s with heap:=(s.heap.push (ah #[] 0)).update s.heap.objs.size (Obj.mapSeq (·++xs.toArray))}):codeAny (Mo w) A (.builtin "proto.collect" ⟨[.ref l],[]⟩) R s:=by
 refine codeAny_builtin entry_proto_collect' ?_
 show wpAny _ _ (do again (.builtin "list.__iadd__" ⟨[<-newList [],.ref l],[]⟩)) _ _ s
 refine aw (wpAny_newList (aX ⟨Code.quiet_builtin _ (by decide+kernel),codeAny_builtin entry_list_iadd' ?_⟩) (cY _))
 show wpAny _ _ (Builtin.List.listExtendWith (.ref s.heap.objs.size) (.ref l) (.ref s.heap.objs.size)) _ _ {s with heap:=s.heap.push (ah #[] 0)}
 unfold Builtin.List.listExtendWith
 have PY:(s.heap.push (ah #[] 0)).get? l=some (aj xs ep):=iq _ ho
 refine aw (wpAny_typeOf (T:="list") ⟨_,PY,rfl⟩ ?_)
 have ht:(Value.type "list"==Value.type "list")=true:=by rfl
 rw[if_pos (by rw[ht];simp)]
 refine aw (listItems_at PY rfl ?_)
 refine aw (listItems_at (xs:= #[]) (n:=0) (Heap.get?_push_size _ rfl) rfl ?_)
 rw[if_neg (by simp)]
 refine aw (listUpdate_at (xs:= #[]) (n:=0) (Heap.get?_push_size _ rfl) rfl ?_ (cY _) (by show(#[]++xs.toArray).size<=sizeLine+1;rw[Array.size_append];exact jK (bP (Nat.le_of_eq (Nat.zero_add _)) (tY hz))))
 exact aX h
section
variable(xs:List Value)
def OV:aD w (Addr×Nat)where
 find _ pre _:=some ((az pre 0).1,bp (az pre 0).2)
 code y:=.builtin "proto.collect" ⟨[.ref y.1],[]⟩
 pre y:=[(y.1,aj xs y.2)]
 r _ m:=.ok (.ret (.ref (m.1 0)))
 post y _:=[aj xs y.2]
 new _ m:=[(m.1 0,aj xs (m.1 1))]
theorem Jb(hz:xs.length<1000000):(OV (w:=w) xs).Ok:=by
 refine aD.old fun y fs A s _ _ _ _ h=> ?_
 have ho:s.heap.get? y.1=some (aj xs y.2):=h.at (.head _) (ar _ _)
 obtain⟨e,he⟩:∃e,((s.heap.push (ah #[] 0)).update s.heap.objs.size (Obj.mapSeq (·++xs.toArray))).get? s.heap.objs.size=some (ah (#[]++xs.toArray) e):=⟨_,get?_update_seq (Heap.get?_push_size _ rfl) (·++xs.toArray)⟩
 rw[show(#[]:Array Value)++xs.toArray=xs.toArray by simp]at he
 refine oA hz ho ⟨(fun i=>match i with|0=>s.heap.objs.size|_=>e,fun _=>[]),rfl,rfl,?_⟩
 have d0:=bk (o:=ah #[] 0) h rfl rfl (ar _ _)
 have d1:=f9 (k:=s.toks) (h':=(s.heap.push (ah #[] 0)).update s.heap.objs.size (Obj.mapSeq (·++xs.toArray))) d0.sat (fun b x hb q=>by rw[Heap.get?_update_ne _ _ _ _ hb];exact q) (ar _ _) he rfl (ar _ _)
 exact(d0.trans d1).perm (dy (l₁:=[_]) (l₂:=[_]))
def EI(hz:xs.length<1000000):aJ w:=(OV xs).sm (Jb xs hz)
end
end
section
open PySem PySem.W PySem.W.X PyProof.Rows PySem.Builtin.Str
noncomputable abbrev FI(w:World)(fr it c1:Addr):Code:=cw (aK w 308 [6]) (.ref it) (T5 w fr c1)
structure mh where
 g:Nat->Tok
 v:Nat->Value
 sd:Addr
 tl:Addr
 bR:Int
 tt:Tok
section
variable(w:World)(F:mh)
def T4(sf:Addr):List DictEntry:=[aH w "rows" (F.g 0) (F.v 0),aH w "sizes" (F.g 1) (.ref F.sd),aH w "sorter" (F.g 2) (.ref sf),aH w "row" (F.g 3) (F.v 3),aH w "ring" (F.g 4) (F.v 4),aH w "told" (F.g 5) (.ref F.tl),aH w "total" (F.g 6) (.int F.bR F.tt)]
def Xg:List DictEntry:=[aH w "turn" (F.g 7) (F.v 7),aH w "active" (F.g 8) (F.v 8),aH w "group" (F.g 9) (F.v 9),aH w "good" (F.g 10) (F.v 10),aH w "begins" (F.g 11) (F.v 11)]
def Qb(sf:Addr):Obj:=aW (T4 w F sf).toArray 7
def ZA(sf:Addr):Obj:=aW (T4 w F sf++Xg w F).toArray 12
def Zz(sf:Addr):Obj:=aW (T4 w F sf++(Xg w F++[aH w "name" (F.g 12) (F.v 12)])).toArray 13
end
def mh.fb(F:mh)(sf:Addr)(ts:List Tok)(vs:List Value)(bg:Addr):w7:=⟨kb (F.g 0::F.g 1::F.g 2::F.g 3::F.g 4::F.g 5::F.g 6::ts),qX (F.v 0:: .none:: .ref sf::F.v 3::F.v 4:: .ref F.tl:: .none::vs),F.sd,bg,F.bR,F.tt⟩
def mh.nx(F:mh)(ts:List Tok)(vs:List Value)(bR:Int)(tt:Tok):mh:=⟨kb (F.g 0::F.g 1::F.g 2::F.g 3::F.g 4::F.g 5::F.g 6::ts),qX (F.v 0:: .none:: .none::F.v 3::F.v 4:: .none:: .none::vs),F.sd,F.tl,bR,tt⟩
def NM.pr(N:NM)(i:Nat):Str×Tok:=(N.nm i,N.tk i)
theorem jl(N:NM)(ps:List Nat):(ps.map N.pr).map ao=ps.map N.hv:=by rw[List.map_map];rfl
structure A3 where
 it:Addr
 fr:Addr
 c1:Addr
 md:Addr
 e1:Nat
 e2:Nat
 ra:Addr
structure qU where
 N:NM
 S:SO
 ns:List Nat
 ρ:Nat->Nat
 em:Array DictEntry
 es:Array DictEntry
 de:Array DictEntry
 sz:Str->Int
 mo:Str->Int
structure AF(w:World)(X:qU):Prop where
 nd:X.ns.Nodup
 de:∀g τ,X.de=ents w X.N (aE X.N g (aR X.ρ τ)) X.ns
 em:KeysOf (kS w) X.em
 es:KeysOf (kS w) X.es
 hm:∀i∈X.ns,∃t,bo X.em (X.N.nm i)=some (.int (X.mo (X.N.nm i)) t)
 hz:∀i∈X.ns,∃t,bo X.es (X.N.nm i)=some (.int (X.sz (X.N.nm i)) t)
 h0:∀x,0<=X.mo x
def C1(w:World)(F:mh)(sf:Addr):Nat->Obj
 |0=>Qb w F sf
 |1=>ZA w F sf
 |_=>Zz w F sf
def FL(w:World)(Y:A3)(X:qU)(sd tl:Addr)(io fo:Obj)(lO:List Value)(eT:Nat)(p q:Int)(u v:Tok)(rs:List Nat)(er:Nat):Led:=[(Y.it,io),(Y.fr,fo),(Y.c1,ay (.ref Y.md)),(Y.md,U X.em Y.e1),(sd,U X.es Y.e2),(tl,aj lO eT),(X.S.sf,aG X.S.d),(X.S.d,aI w.params X.S.t1 X.S.t2 X.S.t3 X.S.t4 X.S.n2 (.ref Y.ra) (.int p u) (.int q v) X.S.ea),(X.S.n2,U X.de X.S.eb),(Y.ra,aj (rs.map X.N.hv) er)]
def bt(N:NM)(mo:Str->Int)(rs:List Nat):List Nat:=rs.filter fun i=>dv (mo (N.nm i))
noncomputable def yQ:Nat->List Nat->Nat
 |0,[]=>1
 |0,_::_=>2
 |n,_=>n
noncomputable def Ox(c:Code):List Nat->Except Value Fin
 |[]=>.ok (.done .next)
 |_::_=>.ok (.again c)
structure A2 where
 F:mh
 tn:Nat
 left:Int
 lO:List Value
 eT:Nat
 er:Nat
 p:Int
 q:Int
 u:Tok
 v:Tok
 g:GG
 τ:Nat->Nat
structure Pa where
 gf:GG
 El:Nat->Nat
 b1:Bool
 b2:Bool
 bs:List Int
 bR:Int
 xf:GG×List Nat
 qf:Int
structure XZ(w:World)(X:qU)(Z:A2)(rs no:List Nat)(V:Pa):Prop where
 hX:AF w X
 hl:0<Z.left
 l4:Z.lO.length<1000000
 gU:Z.g.ns=X.ns
 Tg:V.gf.ns=X.ns
 S3:(rs.map X.N.hv).length<1000000
 Zo:(decide (Z.q<Z.p)|| !(rs.map X.N.hv).isEmpty)=V.b1
 c5:∀i∈rs,i∈X.ns
 YS:rs.length<1000000
 eC:rs.foldl bT Z.g=V.gf
 S2:rs.foldl df Z.τ=V.El
 CK:cC X.em X.mo (rs.map X.N.pr)
 Y6:(rs.map X.N.pr).length<1000
 Ze:(dO X.mo (rs.map X.N.pr)).map ao=no.map X.N.hv
 hsz:cC X.es X.sz (no.map X.N.pr)
 Y5:(no.map X.N.pr).length<1000
 Zm:r9 X.sz Z.F.bR (no.map X.N.pr)=V.bs
 S4:oI X.sz Z.F.bR (no.map X.N.pr)=V.bR
 W5:(decide (Z.q<Z.p+(rs.length:Int))|| !([]:List Value).isEmpty)=V.b2
 WS:no.length<=6
 eW:qT X.ns no (V.gf,[])
 wY:no.foldl gb (V.gf,[])=V.xf
 hq:Z.q+no.length=V.qf
 TB:(no.map X.N.hv).length<1000000
def Ip(F:mh)(ν:Nu):Nat->List Tok
 |0=>[(ν 1).1 0,(ν 3).1 0,(ν 5).1 0,(ν 10).1 0,(ν 12).1 0]
 |_=>[F.g 7,F.g 8,F.g 9,F.g 10,F.g 11]
def Io(Z:A2)(V:Pa)(ν:Nu)(b l:Value):List Value:=[.int Z.tn ((pr (ν 0)).1 0),.bool V.b1,.ref ((pr (ν 4)).1 0),.ref ((ν 7).1 0),b,l]
def C3(Z:A2)(V:Pa)(sh:Nat)(ν:Nu):List Nat->mh
 |[]=>Z.F.nx (Ip Z.F ν sh++[Z.F.g 12]) (Io Z V ν (.ref ((ν 11).1 0)) (Z.F.v 12)) Z.F.bR Z.F.tt
 |_::_=>Z.F.nx (Ip Z.F ν sh++[(pr (ν 14)).1 0]) (Io Z V ν (.ref ((ν 11).1 0)) (((pr (ν 14)).2 0).headD .none)) V.bR ((pr (ν 14)).1 1)
def Uy:Nat->Nat
 |0=>0
 |1=>0
 |_=>1
noncomputable def T3:List Nat->Nat
 |[]=>0x900304a04a00b0010524503d41420000811400862800000003c038e00000000038000000e24030008f34c00400e34000000d00000d00000d20820830c30c2002811c30001810c00430c70071c00011860071830010801c10400410430030c02481c62c50081c00000070000070000070800820091c60040081c0000007000007000007080082000002041
 |_::_=>0x900304a04a00b0010524503d41420000811400862800000003c038e00000000038000000e24030008f34c00400e34000000d00000d00000d20820830c30c2002811c30001810c00430c70071c00010411860071830010801c10400410430030c02481c62c50081c00000070000070000070800820091c60040081c0000007000007000007080082000002041
section
variable(Y:A3)(X:qU)(Z:A2)(sh:Nat)(rs no:List Nat)(V:Pa)(h:XZ w X Z rs no V)(fs:List Env)(ν:Nu)
def Zy:List (Nu->aJ w):=[K (fR Z.tn Z.left h.hl),K (Ky X.S Z.p Z.q Z.u Z.v Y.ra (rs.map X.N.hv) h.S3 Z.er V.b1 h.Zo),K (Kz X.N X.S Z.p Z.q Z.u Z.v X.ns h.hX.nd X.ρ Z.τ X.de h.hX.de Z.g h.gU rs h.c5 h.YS Y.ra Z.er V.gf h.eC V.El h.S2),
 K (Rn X.em h.hX.em X.mo (rs.map X.N.pr) h.CK (fun x _=>h.hX.h0 x.1) h.Y6 (rs.map X.N.hv) (no.map X.N.hv) (jl X.N rs) h.Ze),
 fun ν=>Rr (Uy sh) (Z.F.fb X.S.sf (Ip Z.F ν sh++[Z.F.g 12]) (Io Z V ν .none (Z.F.v 12)) ((ν 11).1 0)) X.es h.hX.es X.sz (no.map X.N.pr) h.hsz h.Y5 (no.map X.N.hv) (jl X.N no) V.bs V.bR h.Zm h.S4,
 fun ν=>Ky X.S (Z.p+(rs.length:Int)) Z.q ((pr (ν 4)).1 1) Z.v Y.ra [] (by decide) ((pr (ν 4)).1 2) V.b2 h.W5,K (av Z.lO h.l4),K (EI (no.map X.N.hv) h.TB),
 fun ν=>G4 X.N X.S (Z.p+(rs.length:Int)) Z.q V.qf ((pr (ν 4)).1 1) Z.v X.ns h.hX.nd X.ρ V.El X.de h.hX.de no h.WS (V.gf,[]) V.xf h.Tg h.eW h.wY h.hq Y.ra ((pr (ν 4)).1 2),K (xJ (rs.map X.N.hv) (rs.map X.N.hv).isEmpty rfl)]
def Xf:Out pw w (TW w) Fin:=bW w ν 272 none (some (38,fs)) (FI w Y.fr Y.it Y.c1) (FL w Y X Z.F.sd Z.F.tl (ai Z.tn Z.left) (C1 w Z.F X.S.sf sh) Z.lO Z.eT Z.p Z.q Z.u Z.v rs Z.er++aA X.N (aE X.N Z.g (aR X.ρ Z.τ)) X.ns) (T3 rs) (Zy Y X Z sh rs no V h)
def T1(w:World):Led:=[((ν 16).1 0,ae #[.bool V.b1,.ref ((pr (ν 4)).1 0),.ref ((ν 11).1 0),.bool V.b2] 0),((ν 11).1 0,aj (aq V.bs (fun i=>(pr (ν 14)).1 (i+3)) 0) ((pr (ν 14)).1 2)),((pr (ν 4)).1 0,ae (rs.map X.N.hv).toArray 0)]++
 (FL w Y X Z.F.sd Z.F.tl (ai (Z.tn+1) (Z.left-1)) (C1 w (C3 Z V sh ν no) X.S.sf (yQ sh no)) (Z.lO++[.ref ((ν 16).1 0)]) (Z.eT+1) (Z.p+rs.length) V.qf ((pr (ν 4)).1 1) ((pr (ν 21)).1 1) V.xf.2 ((pr (ν 21)).1 2)++aA X.N (aE X.N V.xf.1 (aR X.ρ fun k=>(pr (ν 21)).1 (k+3))) X.ns)
def T2:=dJ 3665038845546 (Xf Y X Z sh rs no V h fs ν)
def TZ:=asked (Ox (FI w Y.fr Y.it Y.c1) rs) (T1 Y X Z sh rs no V ν w) (Xf Y X Z sh rs no V h fs ν)
theorem N1(fj:sh=0\/sh=1/\rs=[]\/sh=2)(JP:rs=[]->no=[]):T2 Y X Z sh rs no V h fs ν=TZ Y X Z sh rs no V h fs ν:=by
 cases rs with
 |nil=>
  cases JP rfl
  rcases fj with rfl|⟨rfl,_⟩|rfl
  ·kernel_rfl
  ·kernel_rfl
  ·kernel_rfl
 |cons r rs=>
  have hs:sh=0\/sh=2:=fj.imp id fun h=>h.elim (fun h=>nomatch h.2) id
  have h6:=h.WS
  revert h
  rcases hs with rfl|rfl
  ·refine zd (P:=fun no=>∀h,T2 Y X Z 0 (r::rs) no V h fs ν=TZ Y X Z 0 (r::rs) no V h fs ν) ?_ ?_ ?_ ?_ ?_ ?_ ?_ no h6<;>intros<;>kernel_rfl
  ·refine zd (P:=fun no=>∀h,T2 Y X Z 2 (r::rs) no V h fs ν=TZ Y X Z 2 (r::rs) no V h fs ν) ?_ ?_ ?_ ?_ ?_ ?_ ?_ no h6<;>intros<;>kernel_rfl
end
noncomputable abbrev JF(w:World)(fr it c1:Addr):Code:=cw (aK w 308 [1]) (.ref it) (T5 w fr c1)
section
variable(w:World)(t:Nat->Tok)(R sf:Addr)
def VT(v1:Value):List DictEntry:=[aH w "rows" (t 0) (.ref R),aH w "sizes" (t 1) v1,aH w "sorter" (t 2) (.ref sf)]
def VW(v1:Value):Obj:=aW (VT w t R sf v1).toArray 3
def RX(v1 v3:Value):Obj:=aW (VT w t R sf v1++[aH w "row" (t 3) v3]).toArray 4
end
def Lf(t:Nat->Tok)(a:Tok):Nat->Tok:=fun i=>bif Nat.beq i 3 then a else t i
def VS(w:World)(t:Nat->Tok)(R sf:Addr)(v1:Value):Option Value->Obj
 |none=>VW w t R sf v1
 |some v=>RX w t R sf v1 v
def VV(t:Nat->Tok)(ν:Nu):Option Value->Tok
 |none=>(ν 1).1 0
 |some _=>t 3
structure Qs where
 it:Addr
 fr:Addr
 c1:Addr
 eR:Nat
def Py(w:World)(Y:Qs)(R:Addr)(N:NM)(S:SO)(g:GG)(ρ:Nat->Nat)(eb:Nat)(io fo:Obj)(fw:List Value):Led:=[(Y.it,io),(R,aj fw Y.eR),(Y.fr,fo),(S.sf,aG S.d),(S.d,aI w.params S.t1 S.t2 S.t3 S.t4 S.n2 .none S.po S.nf S.ea),(S.n2,U (ents w N (aE N g ρ) g.ns) eb)]
def KS(N:NM)(rk:Addr)(i:Nat)(ps:List Nat)(er:Nat):Addr×Obj:=(rk,aj (N.hv i::ps.map N.hv) er)
section
variable(Y:Qs)(R rk:Addr)(t:Nat->Tok)(v1:Value)(lo:Option Value)(N:NM)(S:SO)(g gf:GG)(ρ:Nat->Nat)(i:Nat)(ps:List Nat)(hp:ps.length<=2)(eC:fc g i ps=gf)(b:Nat)(ho:jx g b)(hb:b+3<=900)(fw:List Value)(er k:Nat)(hv:fw[k]? =some (.ref rk))(hy:(N.hv i::ps.map N.hv).length<1000000)(hc:(ps.map N.hv).length<1000000)(fs:List Env)(ν:Nu)
def VQ:=bW w ν 111 none (some (36,fs)) (JF w Y.fr Y.it Y.c1) (Py w Y R N S g ρ S.eb (aZ (.ref R) k) (VS w t R S.sf v1 lo) fw++(KS N rk i ps er::aA N (aE N g ρ) g.ns)) 0x2481cc1040001010000810080032492441c00882081000000001401040000000001000000040c30c0040003040 [K (cu fw k (.ref rk) hv),K (bQ (N.hv i::ps.map N.hv) 0 (N.hv i) (Int.le_refl 0) hy rfl),K (nE (N.hv i::ps.map N.hv) 1 hy (Nat.le_add_left 1 _)),K (EI (ps.map N.hv) hc),K (KJ N S g ρ i ps hp gf eC b ho hb)]
def VU(w:World):Led:=Py w Y R N S gf (fun k=>(pr (ν 10)).1 (k+1)) ((pr (ν 10)).1 0) (aZ (.ref R) (k+1)) (RX w (Lf t (VV t ν lo)) R S.sf v1 (.ref rk)) fw++(KS N rk i ps er::aA N (aE N gf fun k=>(pr (ν 10)).1 (k+1)) gf.ns)
theorem Le:aT 13981098 (.ok (.again (JF w Y.fr Y.it Y.c1))) (VU Y R rk t v1 lo N S gf i ps fw er k ν w) (VQ (w:=w) Y R rk t v1 lo N S g gf ρ i ps hp eC b ho hb fw er k hv hy hc fs ν):=by
 have h6:=bP hp (show 2<=6 by decide)
 revert hp eC hy hc
 refine zd (P:=fun ps=>∀hp eC hy hc,aT 13981098 (.ok (.again (JF w Y.fr Y.it Y.c1))) (VU Y R rk t v1 lo N S gf i ps fw er k ν w) (VQ (w:=w) Y R rk t v1 lo N S g gf ρ i ps hp eC b ho hb fw er k hv hy hc fs ν)) ?_ ?_ ?_ ?_ ?_ ?_ ?_ ps h6<;>intros<;>first|contradiction|(cases lo<;>kernel_rfl)
end
theorem RW(fr it c1 R:Addr)(fw:List Value)(eR k:Nat)(hv:fw[k]? =none)(fs:List Env)(ν:Nu):
  aT 90 (.ok .next) [(it,⟨(.type "list_iterator"),none,(.fields #[.none,(.int ↑k 0)]),#[]⟩),(R,aj fw eR)]
   (runC w ν 46 none (some (36,fs)) (JF w fr it c1) [(it,aZ (.ref R) k),(R,aj fw eR)] 69793230912 [K (da fw k hv)]):=by kernel_rfl
theorem D8{g:GG}{b:Nat}(h:jx g b)(i:Nat)(ps:List Nat)(hp:ps.length<=2):jx (fc g i ps) (b+3):=by
 obtain⟨h1,h2,h3⟩:=oe h i
 have k0:jx {cb g i with np:=aY (cb g i).np i ((cb g i).np i+ps.length)} (b+1):=⟨h1,h2,fun j hj=>jK (h3 j hj)⟩
 unfold fc
 match ps,hp with
 |[],_=>exact k0.le (by lia)
 |[a],_=>exact(g9 k0 i a).le (by lia)
 |[a,c],_=>exact g9 (g9 k0 i a) i c
 |_::_::_::_,hp=>exact absurd hp (by simp)
structure qH where
 r:aQ
 i:Nat
 ps:List Nat
structure qK(N:NM)(x:qH):Prop where
 h:x.r.h=N.pr x.i
 y:x.r.ys=x.ps.map N.pr
 l:x.ps.length<=2
theorem Hd{N:NM}{x:qH}(h:qK N x):au x.r=(x.r.ad,aj (N.hv x.i::x.ps.map N.hv) x.r.e):=by
 unfold au
 rw[h.h,h.y,jl]
 rfl
def fM(g:GG)(rows:List qH):GG:=rows.foldl (fun g x=>fc g x.i x.ps) g
theorem nc:∀(rows:List qH) (g:GG) (b:Nat),jx g b->(∀x∈rows,x.ps.length<=2)->jx (fM g rows) (b+3*rows.length)
 |[],_,_,h,_=>h
 |x::rows,g,b,h,hp=>by
  have:=nc rows (fc g x.i x.ps) (b+3) (D8 h x.i x.ps (hp x (.head _))) fun y hy=>hp y (.tail _ hy)
  exact this.le (by rw[List.length_cons];lia)
noncomputable def C0:GG:=⟨[],fun _=>0,fun _=>[]⟩
section
variable(Y:Qs)(R:Addr)(t:Nat->Tok)(v1:Value)(N:NM)(S:SO)(rows:List qH)(fs:List Env)
def ER(j:Nat):GG:=fM C0 (rows.take j)
def JE(w:World)(io:Obj)(j:Nat)(x:(Nat->Nat)×Nat×Tok):Led:=Py w Y R N S (ER rows j) x.1 x.2.1 io (VS w (Lf t x.2.2) R S.sf v1 (match j with|0=>none|j+1=>some (.ref (rows[j]?.elim 0 (·.r.ad))))) (rows.map fun x=>.ref x.r.ad)++((rows.map fun x=>au x.r)++aA N (aE N (ER rows j) x.1) (ER rows j).ns)
theorem BP(hx:∀x∈rows,qK N x)(hn:rows.length<100){Q:Result->Shared->Prop}{x:(Nat->Nat)×Nat×Tok}(ii:In w (some 36) true fs A s (JE Y R t v1 N S rows w (aZ (.ref R) 0) 0 x))
  (kk:∀u s',Done (T:=TW w) s s' (JE Y R t v1 N S rows w (aZ (.ref R) 0) 0 x) (JE Y R t v1 N S rows w (aZ .none rows.length) rows.length u)->Q (.ok .next) s'):codeAny (Mo w) A (JF w Y.fr Y.it Y.c1) Q s:=by
 refine forL (N:=rows.length) (L:=fun j=>JE Y R t v1 N S rows w (aZ (.ref R) j) j) (I:=fun _ _=>True) (E:=JE Y R t v1 N S rows w (aZ .none rows.length) rows.length) (fun j u hj _=> ?_) (fun u _=> ?_) rows.length 0 x s Q (Nat.zero_add _).symm trivial ii fun u s' _ d=>kk u s' d
 ·have hr:rows[j]? =some rows[j]:=jN hj
  have h:=hx _ (List.getElem_mem hj)
  have hl:=h.l
  have hv:(rows.map fun x=>Value.ref x.r.ad)[j]? =some (.ref rows[j].r.ad):=by rw[List.getElem?_map,hr];rfl
  obtain⟨B,_,hB⟩:=tK (f:=fun x:qH=>au x.r) hr
  have ho:jx (ER rows j) (0+3*(rows.take j).length):=nc _ _ _ ⟨List.nodup_nil,bC 0,fun j hj=>nomatch hj⟩ fun y hy=>(hx y (List.mem_of_mem_take hy)).l
  have e:ER rows (j+1)=fc (ER rows j) rows[j].i rows[j].ps:=by
   unfold ER fM
   rw[List.take_succ,hr,List.foldl_append];rfl
  have z:=eB.mid (eB.of (by kernel_rfl) fun ν=>Le (w:=w) Y R rows[j].r.ad (Lf t u.2.2) v1 (match j with|0=>none|j+1=>some (.ref (rows[j]?.elim 0 (·.r.ad)))) N {S with eb:=u.2.1} (ER rows j) _ u.1 rows[j].i rows[j].ps hl rfl _ ho (by rw[List.length_take];lia) _ rows[j].r.e j hv (by rw[List.length_cons,List.length_map];lia) (by rw[List.length_map];lia) fs ν) (Hd h▸hB)
  refine⟨fun ν=>(fun k=>(pr (ν 10)).1 (k+1),(pr (ν 10)).1 0,VV (Lf t u.2.2) ν (match j with|0=>none|j+1=>some (.ref (rows[j]?.elim 0 (·.r.ad))))),fun _=>trivial,?_⟩
  unfold JE
  rw[e]
  simp only[hr]
  exact z
 ·have hv:(rows.map fun x=>Value.ref x.r.ad)[rows.length]? =none:=by rw[List.getElem?_map,List.getElem?_eq_none (Nat.le_refl _)];rfl
  exact(ng.of (w:=w) (k:=36) fun ν=>RW Y.fr Y.it Y.c1 R _ Y.eR rows.length hv fs ν).sw (.refl _) (.refl _)
end
def VR(N:NM)(S:SO)(t:Nat->Tok)(v1:Value)(r0 r1 r2 r3 r4 r5:aQ)(gf:GG):aD w (Qs×Addr)where
 lv:=some 36
 bare:=true
 find c pre _:=match c with
  | .forLoop _ _ _ _ env=>some (⟨(az pre 0).1,(az pre 2).1,env.cells[0]?.elim 0 (·.2),cK (az pre 1).2⟩,(az pre 1).1)
  |_=>none
 code y:=JF w y.1.fr y.1.it y.1.c1
 pre y:=Py w y.1 y.2 N S C0 (fun _=>0) S.eb (aZ (.ref y.2) 0) (VW w t y.2 S.sf v1) (bB (six r0 r1 r2 r3 r4 r5))++[au r0,au r1,au r2,au r3,au r4,au r5]
 r _ _:=.ok .next
 post y m:=[aZ .none 6,aj (bB (six r0 r1 r2 r3 r4 r5)) y.1.eR,RX w (Lf t (m.1 0)) y.2 S.sf v1 ((m.2 0).headD .none),aG S.d,aI w.params S.t1 S.t2 S.t3 S.t4 S.n2 .none S.po S.nf S.ea,U (ents w N (aE N gf fun k=>m.1 (k+2)) gf.ns) (m.1 1),(au r0).2,(au r1).2,(au r2).2,(au r3).2,(au r4).2,(au r5).2]
 rest _ m:=aA N (aE N gf fun k=>m.1 (k+2)) gf.ns
abbrev jC(r0 r1 r2 r3 r4 r5:aQ)(p0 p1 p2 p3 p4 p5:List Nat):List qH:=[⟨r0,0,p0⟩,⟨r1,1,p1⟩,⟨r2,2,p2⟩,⟨r3,3,p3⟩,⟨r4,4,p4⟩,⟨r5,5,p5⟩]
section
variable(N:NM)(S:SO)(t:Nat->Tok)(v1:Value)(r0 r1 r2 r3 r4 r5:aQ)(p0 p1 p2 p3 p4 p5:List Nat)
theorem Ld(hx:∀x∈jC r0 r1 r2 r3 r4 r5 p0 p1 p2 p3 p4 p5,qK N x):(VR (w:=w) N S t v1 r0 r1 r2 r3 r4 r5 (fM C0 (jC r0 r1 r2 r3 r4 r5 p0 p1 p2 p3 p4 p5))).Ok:=by
 intro y fs A s Rz ii _ kk
 refine BP y.1 y.2 t v1 N S (jC r0 r1 r2 r3 r4 r5 p0 p1 p2 p3 p4 p5) fs hx (show 6<100 by decide) (x:=(fun _=>0,S.eb,0)) ii fun u s' d=>kk (fun i=>match i with|0=>u.2.2|1=>u.2.1|i+2=>u.1 i,fun _=>[.ref r5.ad]) s' rfl d
def Ra(hx:∀x∈jC r0 r1 r2 r3 r4 r5 p0 p1 p2 p3 p4 p5,qK N x)(gf:GG)(eC:fM C0 (jC r0 r1 r2 r3 r4 r5 p0 p1 p2 p3 p4 p5)=gf):aJ w:=(VR N S t v1 r0 r1 r2 r3 r4 r5 gf).sm (by subst eC;exact Ld N S t v1 r0 r1 r2 r3 r4 r5 p0 p1 p2 p3 p4 p5 hx)
end
theorem zx(N:NM)(mo:Str->Int)(rs:List Nat):(dO mo (rs.map N.pr)).map ao=(bt N mo rs).map N.hv:=by
 unfold dO bt
 rw[List.filter_map,jl]
 rfl
theorem Gu(N:NM)(ad ga ba:Addr)(b:Bool)(rs:List Nat)(bs:List Int)(tg:Nat->Tok)(eb:Nat):eX (Kj ad ga ba (b,rs.map N.pr,bs) tg eb)=[(ad,ae #[.bool b,.ref ga,.ref ba,.bool b] 0),(ba,aj (aq bs tg 0) eb),(ga,ae (rs.map N.hv).toArray 0)]:=by
 unfold eX Kj
 dsimp only
 rw[jl]
section
variable(Z:A2)(V:Pa)(sh:Nat)(ν:Nu)
theorem C2(no:List Nat):(C3 Z V sh ν no).sd=Z.F.sd/\(C3 Z V sh ν no).tl=Z.F.tl:=by
 cases no<;>exact⟨rfl,rfl⟩
theorem zA(N:NM)(sz:Str->Int)(no:List Nat)(h:oI sz Z.F.bR (no.map N.pr)=V.bR):(C3 Z V sh ν no).bR=oI sz Z.F.bR (no.map N.pr):=by
 cases no with
 |nil=>rfl
 |cons=>exact h.symm
end
def Ow(rs:List Nat)(P Q:Prop):Prop:=match rs with
 |[]=>P
 |_::_=>Q
theorem zX{c:Code}{s':Shared}(hq:c.quiet=true)(rs:List Nat)(h:Ow rs (R (.ok .next) s') (codeAny (Mo w) A c R s')):AX (fun fin s'=>match fin with| .done f=>R (.ok f) s'| .again c'=>c'.quiet=true/\codeAny (Mo w) A c' R s') (fun e s'=>R (.error e) s') (Ox c rs) s':=by
 cases rs with
 |nil=>exact h
 |cons=>exact⟨hq,h⟩
def og(X:qU)(Z:A2)(rs:List Nat):iy:=(decide (Z.q<Z.p)|| !rs.isEmpty,rs.map X.N.pr,r9 X.sz Z.F.bR ((bt X.N X.mo rs).map X.N.pr))
def Oa(w:World)(Y:A3)(X:qU)(sd tl:Addr)(io fo:Obj)(lO:List Value)(eT:Nat)(p q:Int)(u v:Tok)(g:GG)(τ:Nat->Nat)(rs:List Nat)(er:Nat):Led:=FL w Y X sd tl io fo lO eT p q u v rs er++aA X.N (aE X.N g (aR X.ρ τ)) X.ns
section
variable(w:World)(Y:A3)(X:qU)(Z:A2)(sh:Nat)(rs:List Nat)
def Iq:Led:=Oa w Y X Z.F.sd Z.F.tl (ai Z.tn Z.left) (C1 w Z.F X.S.sf sh) Z.lO Z.eT Z.p Z.q Z.u Z.v Z.g Z.τ rs Z.er
def C4(F':mh)(e:i9)(Dv u' v':Nat)(nh:Nat->Nat):Led:=eX e++Oa w Y X Z.F.sd Z.F.tl (ai (Z.tn+1) (Z.left-1)) (C1 w F' X.S.sf (yQ sh (bt X.N X.mo rs))) (Z.lO++[jB e]) (Z.eT+1) (Z.p+rs.length) (Z.q+(bt X.N X.mo rs).length) u' v' ((bt X.N X.mo rs).foldl gb (rs.foldl bT Z.g,[])).1 nh ((bt X.N X.mo rs).foldl gb (rs.foldl bT Z.g,[])).2 Dv
end
theorem TY(X:qU)(Z:A2)(rs:List Nat)(hX:AF w X)(hl:0<Z.left)(l4:Z.lO.length<1000000)(WK:Z.q<=Z.p)(gU:Z.g.ns=X.ns)(c5:∀i∈rs,i∈X.ns)(h6:rs.length<=6)(eW:qT X.ns (bt X.N X.mo rs) (rs.foldl bT Z.g,[])):
  XZ w X Z rs (bt X.N X.mo rs) ⟨rs.foldl bT Z.g,rs.foldl df Z.τ,(og X Z rs).1,(og X Z rs).1,(og X Z rs).2.2,oI X.sz Z.F.bR ((bt X.N X.mo rs).map X.N.pr),(bt X.N X.mo rs).foldl gb (rs.foldl bT Z.g,[]),Z.q+(bt X.N X.mo rs).length⟩:=by
 have hg:(bt X.N X.mo rs).length<=6:=bP (List.length_filter_le _ _) h6
 have big:∀{α:Type} {l:List α} {k:Nat},6<k->l.length<=6->∀{β:Type} (f:α->β),(l.map f).length<k:=fun hk hl _ _=>by rw[List.length_map];exact cW hl hk
 refine⟨hX,hl,l4,gU,(E8 rs Z.g).1.trans gU,big (by decide) h6 _,?_,c5,cW h6 (by decide),rfl,rfl,fun x hx=> ?_,big (by decide) h6 _,zx X.N X.mo rs,fun x hx=> ?_,big (by decide) hg _,rfl,rfl,?_,hg,eW,rfl,rfl,big (by decide) hg _⟩
 ·rw[List.isEmpty_map];rfl
 ·obtain⟨i,hi,rfl⟩:=cz hx
  exact hX.hm i (c5 i hi)
 ·obtain⟨i,hi,rfl⟩:=cz hx
  exact hX.hz i (c5 i (List.mem_filter.mp hi).1)
 ·unfold og
  cases rs with
  |nil=>rw[show Z.p+(([]:List Nat).length:Int)=Z.p from Int.add_zero _];rfl
  |cons r rs=>
   rw[show decide (Z.q<Z.p+((r::rs).length:Int))=true from decide_eq_true (by rw[List.length_cons];lia)]
   exact(Bool.or_true _).symm
theorem De(Y:A3)(X:qU)(Z:A2)(sh:Nat)(rs:List Nat)(hX:AF w X)(hl:0<Z.left)(l4:Z.lO.length<1000000)(WK:Z.q<=Z.p)(gU:Z.g.ns=X.ns)(fj:sh=0\/sh=1/\rs=[]\/sh=2)(c5:∀i∈rs,i∈X.ns)(h6:rs.length<=6)(eW:qT X.ns (bt X.N X.mo rs) (rs.foldl bT Z.g,[]))
  {fs:List Env}(ii:In w (some 38) true fs A s (Iq w Y X Z sh rs))
  (kk:∀(F':mh) (e:i9) (Dv u' v':Nat) (nh:Nat->Nat) (s':Shared),(F'.sd=Z.F.sd/\F'.tl=Z.F.tl)->F'.bR=oI X.sz Z.F.bR ((bt X.N X.mo rs).map X.N.pr)->e.d=og X Z rs->
   Done (T:=TW w) s s' (Iq w Y X Z sh rs) (C4 w Y X Z sh rs F' e Dv u' v' nh)->Ow rs (R (.ok .next) s') (codeAny (Mo w) A (FI w Y.fr Y.it Y.c1) R s')):codeAny (Mo w) A (FI w Y.fr Y.it Y.c1) R s:=by
 have h:=TY X Z rs hX hl l4 WK gU c5 h6 eW
 refine x_code (fU (rm:=some (38,fs)) (fun ν=>N1 Y X Z sh rs _ _ h fs ν fj fun e=>by rw[e];rfl) (ii.hh rfl) ii.hr ii.hf ii.hs fun ν s' d=> ?_)
 exact zX (by kernel_rfl) rs (kk _ (Kj ((ν 16).1 0) ((pr (ν 4)).1 0) ((ν 11).1 0) (og X Z rs) (fun i=>(pr (ν 14)).1 (i+3)) ((pr (ν 14)).1 2)) ((pr (ν 21)).1 2) ((pr (ν 4)).1 1) ((pr (ν 21)).1 1) (fun k=>(pr (ν 21)).1 (k+3)) s' (C2 Z _ sh ν _) (zA Z _ sh ν X.N X.sz _ rfl) rfl (by
  unfold C4 og
  rw[Gu]
  exact d))
theorem Uc(fr it c1:Addr)(k:Nat)(fs:List Env)(ν:Nu):
  aT 26 (.ok .next) [(it,ai k 0)]
   (runC w ν 46 none (some (38,fs)) (FI w fr it c1) [(it,ai k 0)] 1073750080 [K (iI k 0 (Int.le_refl 0))]):=by kernel_rfl
def lV(N:NM)(mo:Str->Int)(g:GG)(rs:List Nat):GG×List Nat:=(bt N mo rs).foldl gb (rs.foldl bT g,[])
def dx(N:NM)(sz mo:Str->Int):Nat->GG->List Nat->Nat->Nat->Int->List iy
 |0,_,_,_,_,_=>[]
 |Nat.succ n,g,rs,p,q,bR=>(decide ((q:Int)<(p:Int))|| !rs.isEmpty,rs.map N.pr,r9 sz bR ((bt N mo rs).map N.pr))::(match rs with
  |[]=>[]
  |r::rs=>dx N sz mo n (lV N mo g (r::rs)).1 (lV N mo g (r::rs)).2 (p+(r::rs).length) (q+(bt N mo (r::rs)).length) (oI sz bR ((bt N mo (r::rs)).map N.pr)))
def jy(N:NM)(mo:Str->Int)(ns:List Nat):Nat->GG->List Nat->Nat->Nat->Prop
 |0,_,_,_,_=>True
 |Nat.succ n,g,rs,p,q=>(g.ns=ns/\(∀i∈rs,i∈ns)/\rs.length<=6/\q<=p/\qT ns (bt N mo rs) (rs.foldl bT g,[]))/\(rs≠[]->jy N mo ns n (lV N mo g rs).1 (lV N mo g rs).2 (p+rs.length) (q+(bt N mo rs).length))
theorem HG{sh:Nat}{rs:List Nat}{N:NM}{mo:Str->Int}(h:sh=0\/sh=1/\rs=[]\/sh=2)(g:GG):yQ sh (bt N mo rs)=1/\(lV N mo g rs).2=[]\/yQ sh (bt N mo rs)=2:=by
 rcases h with rfl|⟨rfl,rfl⟩|rfl
 ·unfold lV
  cases bt N mo rs with
  |nil=>exact .inl ⟨rfl,rfl⟩
  |cons=>exact .inr rfl
 ·exact .inl ⟨rfl,rfl⟩
 ·exact .inr rfl
theorem HH:∀{k:Nat} (l:List Nat),k=1\/k=2->yQ k l=k
 |_,_,.inl rfl=>rfl
 |_,_,.inr rfl=>rfl
def DA:Nat->Nat->List Nat->Nat
 |0,sh,_=>sh
 |_+1,sh,no=>yQ sh no
structure sH where
 F:mh
 fl:List i9
 eT:Nat
 er:Nat
 p:Nat
 q:Nat
 u:Tok
 v:Tok
 g:GG
 τ:Nat->Nat
 rs:List Nat
section
variable(w:World)(Y:A3)(X:qU)
def Xm(sd tl:Addr)(t0:List Value)(io:Obj)(sh:Nat)(Z:sH):Led:=Z.fl.flatMap eX++FL w Y X sd tl io (C1 w Z.F X.S.sf sh) (t0++Z.fl.map jB) Z.eT Z.p Z.q Z.u Z.v Z.rs Z.er
def Dg(t0:List Value)(io:Obj)(sh:Nat)(Z:sH):Led:=Z.fl.flatMap eX++Oa w Y X Z.F.sd Z.F.tl io (C1 w Z.F X.S.sf sh) (t0++Z.fl.map jB) Z.eT Z.p Z.q Z.u Z.v Z.g Z.τ Z.rs Z.er
end
theorem FN(Y:A3)(X:qU)(t0:List Value)(io:Obj)(sh:Nat)(Z:sH)(sd tl:Addr)(h:Z.F.sd=sd/\Z.F.tl=tl):(Xm w Y X sd tl t0 io sh Z).Sublist (Dg w Y X t0 io sh Z):=by
 obtain⟨rfl,rfl⟩:=h
 exact(jO _ _).append_left _
def sH.T(Z:sH)(t0:List Value)(tn n:Nat):A2:=⟨Z.F,tn,((n+1:Nat):Int),t0++Z.fl.map jB,Z.eT,Z.er,Z.p,Z.q,Z.u,Z.v,Z.g,Z.τ⟩
def sH.nx(X:qU)(Z:sH)(F:mh)(e:i9)(er u v:Nat)(τ:Nat->Nat):sH:=⟨F,Z.fl++[e],Z.eT+1,er,Z.p+Z.rs.length,Z.q+(bt X.N X.mo Z.rs).length,u,v,(lV X.N X.mo Z.g Z.rs).1,τ,(lV X.N X.mo Z.g Z.rs).2⟩
theorem zJ(Y:A3)(X:qU)(t0:List Value)(tn n sh:Nat)(Z:sH)(F:mh)(e:i9)(er u v:Nat)(τ:Nat->Nat)(h:F.sd=Z.F.sd/\F.tl=Z.F.tl):
  (C4 w Y X (Z.T t0 tn n) sh Z.rs F e er u v τ++Z.fl.flatMap eX).Perm (Dg w Y X t0 (ai ((tn+1:Nat):Int) n) (yQ sh (bt X.N X.mo Z.rs)) (Z.nx X F e er u v τ)):=by
 refine dy.trans (List.Perm.of_eq ?_)
 unfold Dg C4 sH.T sH.nx
 dsimp only
 rw[h.1,h.2,List.flatMap_append,List.flatMap_singleton,List.append_assoc,List.map_append,List.append_assoc,show((n+1:Nat):Int)-1=(n:Int)from Int.add_sub_cancel (n:Int) 1]
 rfl
theorem Dz(n sh:Nat)(no YI:List Nat)(h:yQ sh no=1\/yQ sh no=2):DA n (yQ sh no) YI=DA (n+1) sh no:=by
 cases n with
 |zero=>rfl
 |succ n=>exact HH _ h
theorem Dm(X:qU)(Z:sH)(n:Nat)(t0:List Value)(tn:Nat)(F:mh)(e:i9)(er u v:Nat)(τ:Nat->Nat)(h:F.bR=oI X.sz Z.F.bR ((bt X.N X.mo Z.rs).map X.N.pr)){r:Nat}{rs:List Nat}(hr:Z.rs=r::rs):
  og X (Z.T t0 tn n) Z.rs::dx X.N X.sz X.mo n (Z.nx X F e er u v τ).g (Z.nx X F e er u v τ).rs (Z.nx X F e er u v τ).p (Z.nx X F e er u v τ).q (Z.nx X F e er u v τ).F.bR=dx X.N X.sz X.mo (n+1) Z.g Z.rs Z.p Z.q Z.F.bR:=by
 unfold sH.nx
 dsimp only
 rw[h,hr]
 rfl
theorem Df(Y:A3)(X:qU)(hX:AF w X)(t0:List Value)(YZ:t0.length<1000)(sd tl:Addr){fs:List Env}(n:Nat):∀(sh tn:Nat) (Z:sH) (s:Shared),
  Z.F.sd=sd/\Z.F.tl=tl->(sh=0\/sh=1/\Z.rs=[]\/sh=2)->Z.fl.length+n<=100->jy X.N X.mo X.ns n Z.g Z.rs Z.p Z.q->In w (some 38) true fs A s (Dg w Y X t0 (ai tn n) sh Z)->
  (∀(a b:Nat) (Z':sH) (s':Shared),(Z'.F.sd=sd/\Z'.F.tl=tl)->Z'.fl.map (·.d)=Z.fl.map (·.d)++dx X.N X.sz X.mo n Z.g Z.rs Z.p Z.q Z.F.bR->
   Done (T:=TW w) s s' (Dg w Y X t0 (ai tn n) sh Z) (Xm w Y X sd tl t0 (ai a b) (DA n sh (bt X.N X.mo Z.rs)) Z')->R (.ok .next) s')->
  codeAny (Mo w) A (FI w Y.fr Y.it Y.c1) R s:=by
 induction n with
 |zero=>
  intro sh tn Z s hF fj lf eW ii kk
  have hp:([(Y.it,ai tn 0)]++(Z.fl.flatMap eX++(Oa w Y X Z.F.sd Z.F.tl (ai tn 0) (C1 w Z.F X.S.sf sh) (t0++Z.fl.map jB) Z.eT Z.p Z.q Z.u Z.v Z.g Z.τ Z.rs Z.er).tail)).Perm (Dg w Y X t0 (ai tn 0) sh Z):=
   (lY (a:=(Y.it,ai tn 0)) (l₁:=Z.fl.flatMap eX)).symm
  exact(ii.part hp).code (fun ν=>Uc Y.fr Y.it Y.c1 tn fs ν) fun ν s' d=>kk tn 0 Z s' hF (List.append_nil _).symm (((d.at ii hp).perm hp.symm).sel (FN Y X t0 _ sh Z sd tl hF))
 |succ n ih=>
  intro sh tn Z s hF fj lf eW ii kk
  obtain⟨⟨k1,k2,k3,k4,k5⟩,eW⟩:=eW
  have lt:(t0++Z.fl.map jB).length<1000000:=by rw[List.length_append,List.length_map];lia
  have hp:(Iq w Y X (Z.T t0 tn n) sh Z.rs++Z.fl.flatMap eX).Perm (Dg w Y X t0 (ai tn ((n+1:Nat):Int)) sh Z):=dy
  refine De Y X (Z.T t0 tn n) sh Z.rs hX (Int.natCast_pos.mpr (Nat.succ_pos n)) lt (Int.ofNat_le.mpr k4) k1 fj k2 k3 k5 (ii.part hp) fun F' e Dv u' v' nh s' h1 h2 h3 d=> ?_
  have d2:=(d.at ii hp).perm (zJ Y X t0 tn n sh Z F' e Dv u' v' nh h1).symm
  have TJ:F'.sd=sd/\F'.tl=tl:=⟨h1.1.trans hF.1,h1.2.trans hF.2⟩
  have em:(Z.nx X F' e Dv u' v' nh).fl.map (·.d)=Z.fl.map (·.d)++[og X (Z.T t0 tn n) Z.rs]:=by
   show(Z.fl++[e]).map (·.d)=_
   rw[List.map_append,List.map_singleton,h3]
  have hk:=HG (N:=X.N) (mo:=X.mo) fj Z.g
  have YP:∀(r:Nat) (rs:List Nat),Z.rs=r::rs->codeAny (Mo w) A (FI w Y.fr Y.it Y.c1) R s':=fun r rs er=>by
   refine ih _ (tn+1) (Z.nx X F' e Dv u' v' nh) s' TJ (.inr hk) (by show(Z.fl++[e]).length+n<=100;rw[List.length_append,List.length_singleton];lia) (eW (er▸eU _ _)) (ii.go d2) fun a b Z' dB z1 z2 z3=> ?_
   refine kk a b Z' dB z1 ?_ (Dz n sh _ _ (hk.imp And.left id)▸d2.trans z3)
   rw[z2,em,List.append_assoc]
   exact congrArg (Z.fl.map (·.d)++·) (Dm X Z n t0 tn F' e Dv u' v' nh h2 er)
  have YQ:Z.rs=[]->R (.ok .next) s':=fun er=>by
   refine kk _ _ (Z.nx X F' e Dv u' v' nh) s' TJ ?_ (d2.sel (FN Y X t0 _ _ _ sd tl TJ))
   rw[em,er]
   rfl
  cases er:Z.rs with
  |nil=>exact YQ er
  |cons r rs=>exact YP r rs er
section
variable(w:World)(tl:Addr)(g:Nat->Tok)(v:Nat->Value)
def Xe:List DictEntry:=[aH w "rows" (g 0) (v 0),aH w "sizes" (g 1) (v 1),aH w "sorter" (g 2) (v 2),aH w "row" (g 3) (v 3),aH w "ring" (g 4) (v 4),aH w "told" (g 5) (.ref tl),aH w "total" (g 6) (v 6),aH w "turn" (g 7) (v 7),aH w "active" (g 8) (v 8),aH w "group" (g 9) (v 9),aH w "good" (g 10) (v 10),aH w "begins" (g 11) (v 11)]
def P9:Nat->Obj
 |1=>aW (Xe w tl g v).toArray 12
 |_=>aW (Xe w tl g v++[aH w "name" (g 12) (v 12)]).toArray 13
end
def Qa(F:mh)(sf:Addr):Nat->Value
 |1=>.ref F.sd
 |2=>.ref sf
 |6=>.int F.bR F.tt
 |i=>F.v i
theorem Im(F:mh)(sf:Addr){k:Nat}(h:k=1\/k=2):C1 w F sf k=P9 w F.tl F.g (Qa F sf) k:=by
 rcases h with rfl|rfl
 ·rfl
 ·rfl
theorem qr(N:NM)(sz mo:Str->Int):∀(n:Nat) (g:GG) (rs:List Nat) (p q:Nat) (bR:Int),(dx N sz mo n g rs p q bR).length<=n
 |0,_,_,_,_,_=>bC 0
 |n+1,g,rs,p,q,bR=>by
  cases rs with
  |nil=>exact jJ (cY n)
  |cons r rs=>exact jJ (qr N sz mo n _ _ _ _ _)
def FK(w:World)(N:NM)(S:SO)(g:GG)(ρ:Nat->Nat)(em es:Array DictEntry)(sz mo:Str->Int):qU:=⟨N,S,g.ns,ρ,em,es,ents w N (aE N g ρ) g.ns,sz,mo⟩
def Oc(N:NM)(S:SO)(u v:Tok)(g:GG)(ρ:Nat->Nat)(em es:Array DictEntry)(sz mo:Str->Int)(F:mh)(t0:List Value)(rs:List Nat)(k:Nat)(T:List iy):aD w (A3×Nat×Nat)where
 lv:=some 38
 bare:=true
 find _ pre _:=some (⟨(az pre 0).1,(az pre 1).1,(az pre 2).1,(az pre 3).1,wG (az pre 3).2,wG (az pre 4).2,(az pre 9).1⟩,bp (az pre 5).2,bp (az pre 9).2)
 code y:=FI w y.1.fr y.1.it y.1.c1
 pre y:=FL w y.1 (FK w N S g ρ em es sz mo) F.sd F.tl (ai 0 7) (Qb w F S.sf) t0 y.2.1 0 0 u v rs y.2.2
 tail _:=aA N (aE N g ρ) g.ns
 r _ _:=.ok .next
 post y m:=[ai (m.1 0:Nat) (m.1 1:Nat),P9 w F.tl (fun i=>m.1 (i+8)) (fun i=>(m.2 (i+1)).headD .none) k,ay (.ref y.1.md),U em y.1.e1,U es y.1.e2,aj (t0++(cA (fun i=>m.1 (i+24)) T 0).map jB) (m.1 2),aG S.d,aI w.params S.t1 S.t2 S.t3 S.t4 S.n2 (.ref y.1.ra) (.int (m.1 4:Nat) (m.1 6)) (.int (m.1 5:Nat) (m.1 7)) S.ea,U (ents w N (aE N g ρ) g.ns) S.eb,aj (m.2 0) (m.1 3)]
 rest _ m:=(cA (fun i=>m.1 (i+24)) T 0).flatMap eX
structure Ei(w:World)(N:NM)(g:GG)(em es:Array DictEntry)(sz mo:Str->Int):Prop where
 nd:g.ns.Nodup
 ke:KeysOf (kS w) em
 ks:KeysOf (kS w) es
 hm:∀i∈g.ns,∃t,bo em (N.nm i)=some (.int (mo (N.nm i)) t)
 hz:∀i∈g.ns,∃t,bo es (N.nm i)=some (.int (sz (N.nm i)) t)
 h0:∀x,0<=mo x
section
variable(N:NM)(mo:Str->Int)(rs:List Nat)
def iK:Nat:=yQ 0 (bt N mo rs)
theorem nF:iK N mo rs=1\/iK N mo rs=2:=by
 unfold iK
 cases bt N mo rs with
 |nil=>exact .inl rfl
 |cons=>exact .inr rfl
end
section
variable(N:NM)(S:SO)(u v:Tok)(g:GG)(ρ:Nat->Nat)(em es:Array DictEntry)(sz mo:Str->Int)
theorem N9(hX:Ei w N g em es sz mo)(F:mh)(t0:List Value)(ht:t0.length<1000)(rs:List Nat)(eW:jy N mo g.ns 7 g rs 0 0):(Oc (w:=w) N S u v g ρ em es sz mo F t0 rs (iK N mo rs) (dx N sz mo 7 g rs 0 0 F.bR)).Ok:=by
 intro y fs A s Rz ii _ kk
 have hF:AF w (FK w N S g ρ em es sz mo):=⟨hX.nd,fun g' τ=>by
  have e:=Ov (w:=w) N ρ g.ns g g' ρ τ
  rw[oS]at e
  exact e,hX.ke,hX.ks,hX.hm,hX.hz,hX.h0⟩
 have en:t0++([]:List i9).map jB=t0:=List.append_nil t0
 have e0:Dg w y.1 (FK w N S g ρ em es sz mo) t0 (ai (0:Nat) (7:Nat)) 0 ⟨F,[],y.2.1,y.2.2,0,0,u,v,g,ρ,rs⟩=(Oc (w:=w) N S u v g ρ em es sz mo F t0 rs (iK N mo rs) (dx N sz mo 7 g rs 0 0 F.bR)).pre y++aA N (aE N g ρ) g.ns:=by
  show _=FL w y.1 (FK w N S g ρ em es sz mo) F.sd F.tl (ai 0 7) (Qb w F S.sf) t0 y.2.1 0 0 u v rs y.2.2++_
  unfold Dg Oa
  dsimp only
  rw[en,show aR (FK w N S g ρ em es sz mo).ρ ρ=ρ from oS ρ]
  rfl
 refine Df y.1 (FK w N S g ρ em es sz mo) hF t0 ht F.sd F.tl 7 0 0 ⟨F,[],y.2.1,y.2.2,0,0,u,v,g,ρ,rs⟩ s ⟨rfl,rfl⟩ (.inl rfl) (show 0+7<=100 by decide) eW ⟨ii.hr,ii.hf,ii.hh,e0▸ii.hs⟩ fun a b Z' s' X3 z3 d=> ?_
 rw[e0]at d
 obtain⟨F',fl,e1,e2,p2,q2,u2,v2,_,_,VM⟩:=Z'
 obtain⟨z5,z6⟩:=X3
 rw[List.map_nil,List.nil_append]at z3
 have hk:DA 7 0 (bt N mo rs)=iK N mo rs:=rfl
 have h8:fl.length<=8:=by
  have h1:=congrArg List.length z3
  rw[List.length_map]at h1
  have h2:=qr N sz mo 7 g rs 0 0 F.bR
  have h3:fl.length=(dx N sz mo 7 g rs 0 0 F.bR).length:=h1
  lia
 obtain⟨f,Tt⟩:∃f,cA f (dx N sz mo 7 g rs 0 0 F.bR) 0=fl:=⟨_,z3▸nR fl ⟨0,0,0,(false,[],[]),fun _=>0,0⟩ h8 fl [] rfl⟩
 rw[<-Tt]at d
 have ef:(fun i=>(match i+24 with
  |0=>a|1=>b|2=>e1|3=>e2|4=>p2|5=>q2|6=>u2|7=>v2|i+8=>if i<16 then F'.g i else f (i-16):Nat))=f:=by
  funext i
  show(if i+16<16 then F'.g (i+16)else f (i+16-16))=f i
  rw[if_neg (by lia),Nat.add_sub_cancel]
 refine kk (fun i=>match i with
  |0=>a|1=>b|2=>e1|3=>e2|4=>p2|5=>q2|6=>u2|7=>v2|i+8=>if i<16 then F'.g i else f (i-16),fun i=>match i with
  |0=>VM.map N.hv|i+1=>[Qa F' S.sf i]) s' rfl ?_
 have d2:=d.perm (M:=(FL w y.1 (FK w N S g ρ em es sz mo) F.sd F.tl (ai (a:Nat) (b:Nat)) (C1 w F' S.sf (iK N mo rs)) (t0++(cA f (dx N sz mo 7 g rs 0 0 F.bR) 0).map jB) e1 (p2:Nat) (q2:Nat) u2 v2 VM e2)++(cA f (dx N sz mo 7 g rs 0 0 F.bR) 0).flatMap eX) dy
 rw[Im F' S.sf (nF N mo rs),z6]at d2
 refine(show Done (T:=TW w) s s' _ _ from d2).perm ?_
 unfold aD.fin
 show List.Perm (((FL w y.1 (FK w N S g ρ em es sz mo) F.sd F.tl (ai 0 7) (Qb w F S.sf) t0 y.2.1 0 0 u v rs y.2.2).map (·.1)).zip ((Oc (w:=w) N S u v g ρ em es sz mo F t0 rs (iK N mo rs) (dx N sz mo 7 g rs 0 0 F.bR)).post y _)++([]++(cA (fun i=>(match i+24 with
  |0=>a|1=>b|2=>e1|3=>e2|4=>p2|5=>q2|6=>u2|7=>v2|i+8=>if i<16 then F'.g i else f (i-16):Nat)) (dx N sz mo 7 g rs 0 0 F.bR) 0).flatMap eX)) _
 unfold Oc
 dsimp only
 rw[ef]
 have eg:P9 w F.tl F'.g (Qa F' S.sf) (iK N mo rs)=P9 w F.tl (fun i=>if i<16 then F'.g i else f (i-16)) (fun i=>[Qa F' S.sf i].headD .none) (iK N mo rs):=by
  rcases nF N mo rs with e|e<;>rw[e]<;>rfl
 rw[eg]
 exact List.Perm.refl _
def Rp(hX:Ei w N g em es sz mo)(F:mh)(t0:List Value)(ht:t0.length<1000)(rs:List Nat)(eW:jy N mo g.ns 7 g rs 0 0)(k:Nat)(hk:iK N mo rs=k)(T:List iy)(hT:dx N sz mo 7 g rs 0 0 F.bR=T):aJ w:=(Oc N S u v g ρ em es sz mo F t0 rs k T).sm (by subst hk;subst hT;exact N9 N S u v g ρ em es sz mo hX F t0 ht rs eW)
end
section
variable(R md sd:Addr)(eR e1 e2:Nat)(N:NM)(r0 r1 r2 r3 r4 r5:aQ)(p0 p1 p2 p3 p4 p5:List Nat)(hx:∀x∈jC r0 r1 r2 r3 r4 r5 p0 p1 p2 p3 p4 p5,qK N x)(em es:Array DictEntry)(sz mo:Str->Int)(gf:GG)(eC:fM C0 (jC r0 r1 r2 r3 r4 r5 p0 p1 p2 p3 p4 p5)=gf)(xf:List Nat)(hX:Ei w N gf em es sz mo)(eW:jy N mo gf.ns 7 gf xf 0 0)(b:Bool)(hk:iK N mo xf=bif b then 1 else 2)(T:List iy)(hT:dx N sz mo 7 gf xf 0 0 0=T)(fs:List Env)(ν:Nu)
def Qh(e:Nat):SO:=⟨(ν 5).1 0,(ν 4).1 0,(ν 9).1 0,(ν 11).1 0,(ν 13).1 0,(ν 16).1 0,(ν 19).1 0,.none,.int 0 ((ν 14).1 0),.int 0 ((ν 17).1 0),4,e⟩
def Uu(k:Nat):Nat:=(pr (ν 22)).1 (k+2)
noncomputable def Uv:Led:=[(R,aj (bB (six r0 r1 r2 r3 r4 r5)) eR),au r0,au r1,au r2,au r3,au r4,au r5,(md,U em e1),(sd,U es e2)]
noncomputable def Xq(a c:Nat)(v:Bool):Led:=((ν a).1 0,aj (.bool v::(cA (fun i=>(pr (ν c)).1 (i+24)) T 0).map jB) ((pr (ν c)).1 2))::(Uv R md sd eR e1 e2 r0 r1 r2 r3 r4 r5 em es++List.flatMap eX (cA (fun i=>(pr (ν c)).1 (i+24)) T 0))
noncomputable def Xr(ν:Nu):aJ w:=Ra N (Qh ν 0) (kb [(ν 2).1 0,(ν 3).1 0,(ν 20).1 0,0]) (.ref sd) r0 r1 r2 r3 r4 r5 p0 p1 p2 p3 p4 p5 hx gf eC
noncomputable def Xp(c d l:Nat)(v:Bool)(ν:Nu):aJ w:=Rp N (Qh ν ((pr (ν 22)).1 1)) ((ν 14).1 0) ((ν 17).1 0) gf (Uu ν) em es sz mo hX ⟨kb [(ν 2).1 0,(ν 3).1 0,(ν 20).1 0,(pr (ν 22)).1 0,(ν 23).1 0,(ν c).1 0,(ν (c+2)).1 0],qX [.ref R,.none,.none,((pr (ν 22)).2 0).headD .none,.bool v],sd,(ν d).1 0,0,(ν l).1 0⟩ [.bool v] (show 1<1000 by decide) xf eW (bif b then 1 else 2) hk T hT
theorem Ut(Se:∀S ρ,(Hq (w:=w) N S gf ρ xf).Ok):aT 3665040157338 (.ok (.ret (.ref ((ν 25).1 0)))) (Xq R md sd eR e1 e2 r0 r1 r2 r3 r4 r5 em es T ν 25 34 false)
  (bX w ν 348 none (some (44,fs)) 308 [.ref R,.ref md,.ref sd] (Uv R md sd eR e1 e2 r0 r1 r2 r3 r4 r5 em es) 0x2c31481c24d224a0152c10410410010410410010400000092402490080440d11001440000001000001000001071c700d30b2892011031870113411c00471c61860021041000030000030030030000000c21041000030000030030030000000c21041000030000030030030000000c21041000030000030030030000000c2001040041000fc0000001001000000000000000000000000000000000000000002082001042080 [Xr sd N r0 r1 r2 r3 r4 r5 p0 p1 p2 p3 p4 p5 hx gf eC,fun ν=>(Hq N (Qh ν ((pr (ν 22)).1 1)) gf (Uu ν) xf).sm (Se _ _),Xp R sd N em es sz mo gf xf hX eW b hk T hT 26 25 27 false]):=by cases b<;>kernel_rfl
theorem Us(Se:∀S ρ,(Ho (w:=w) N S gf ρ xf).Ok):aT 0xd5555aaaaa9a (.ok (.ret (.ref ((ν 27).1 0)))) (Xq R md sd eR e1 e2 r0 r1 r2 r3 r4 r5 em es T ν 27 36 true)
  (bX w ν 378 none (some (44,fs)) 308 [.ref R,.ref md,.ref sd] (Uv R md sd eR e1 e2 r0 r1 r2 r3 r4 r5 em es) 0xe00620b28259530d0182c104104100104104100104000000030c00030c00b00b2c00410c00030000000010811034440051000000040000040000041c20471c000d30b2892011031870113411c00471c60061800841040000c00000c00c00c00000030841040000c00000c00c00c00000030841040000c00000c00c00c00000030841040000c00000c00c00c000000308004100104003f000000040040000000000000000000000000000000000000000003082001042080 [Xr sd N r0 r1 r2 r3 r4 r5 p0 p1 p2 p3 p4 p5 hx gf eC,fun ν=>(Ho N (Qh ν ((pr (ν 22)).1 1)) gf (Uu ν) xf).sm (Se _ _),Xp R sd N em es sz mo gf xf hX eW b hk T hT 28 27 29 true]):=by cases b<;>kernel_rfl
end
def IH(r0 r1 r2 r3 r4 r5:aQ)(em es:Array DictEntry)(b:Bool)(T:List iy):aD w ((Addr×Addr×Addr)×(Nat×Nat×Nat))where
 lv:=some 44
 bare:=true
 find c pre _:=some (((gM (aN c 0)),(gM (aN c 1)),(gM (aN c 2))),(bp (az pre 0).2,wG (az pre 7).2,wG (az pre 8).2))
 code y:=.call (.ref 308) ⟨[.ref y.1.1,.ref y.1.2.1,.ref y.1.2.2],[]⟩
 pre y:=[(y.1.1,aj (bB (six r0 r1 r2 r3 r4 r5)) y.2.1),au r0,au r1,au r2,au r3,au r4,au r5,(y.1.2.1,U em y.2.2.1),(y.1.2.2,U es y.2.2.2)]
 r _ m:=.ok (.ret (.ref (m.1 0)))
 post y _:=[aj (bB (six r0 r1 r2 r3 r4 r5)) y.2.1,(au r0).2,(au r1).2,(au r2).2,(au r3).2,(au r4).2,(au r5).2,U em y.2.2.1,U es y.2.2.2]
 new _ m:=[(m.1 0,aj (.bool b::(cA (fun i=>m.1 (i+2)) T 0).map jB) (m.1 1))]
 rest _ m:=(cA (fun i=>m.1 (i+2)) T 0).flatMap eX
structure Gj(w:World)(N:NM)(gf:GG)(em es:Array DictEntry)(sz mo:Str->Int)(xf:List Nat)(res:Option (List Nat)):Prop where
 X:Ei w N gf em es sz mo
 ok:jy N mo gf.ns 7 gf xf 0 0
 hb:gf.ns.length<=800
 h0:gf.ns.length≠0
 hc:∀j∈gf.ns,∀v∈gf.su j,v∈gf.ns
 hx:gf.ns.filter (fun j=>decide (gf.np j=0))=xf
 hf:∃fuel,gJ gf.su fuel gf.ns []=some res
 hr:∀ring,res=some ring->ring≠[]/\ring.length<1000000
theorem IG(N:NM)(r0 r1 r2 r3 r4 r5:aQ)(p0 p1 p2 p3 p4 p5:List Nat)(hx:∀x∈jC r0 r1 r2 r3 r4 r5 p0 p1 p2 p3 p4 p5,qK N x)(em es:Array DictEntry)(sz mo:Str->Int)(gf:GG)(eC:fM C0 (jC r0 r1 r2 r3 r4 r5 p0 p1 p2 p3 p4 p5)=gf)(xf:List Nat)(res:Option (List Nat))(hI:Gj w N gf em es sz mo xf res):
  (IH (w:=w) r0 r1 r2 r3 r4 r5 em es res.isSome (dx N sz mo 7 gf xf 0 0 0)).Ok:=by
 obtain⟨fuel,hf⟩:=hI.hf
 obtain⟨b,hk⟩:∃b:Bool,iK N mo xf=bif b then 1 else 2:=(nF N mo xf).elim (⟨true,·⟩) (⟨false,·⟩)
 cases res with
 |none=>
  exact fun y fs A s Rz ii _ kk=>In.fn (k:=44) ii (fun ν=>Ut y.1.1 y.1.2.1 y.1.2.2 y.2.1 y.2.2.1 y.2.2.2 N r0 r1 r2 r3 r4 r5 p0 p1 p2 p3 p4 p5 hx em es sz mo gf eC xf hI.X hI.ok b hk _ rfl fs ν fun S ρ=>Hp N S gf ρ xf hI.X.nd hI.hb hI.h0 hI.hc hI.hx fuel hf)
   fun ν s' d=>kk (fun i=>match i with|0=>(ν 25).1 0|1=>(pr (ν 34)).1 2|i+2=>(pr (ν 34)).1 (i+24),fun _=>[]) s' rfl (d.perm (lY (a:=((ν 25).1 0,_)) (l₁:=[_,_,_,_,_,_,_,_,_])))
 |some ring=>
  obtain⟨h1,h2⟩:=hI.hr ring rfl
  exact fun y fs A s Rz ii _ kk=>In.fn (k:=44) ii (fun ν=>Us y.1.1 y.1.2.1 y.1.2.2 y.2.1 y.2.2.1 y.2.2.2 N r0 r1 r2 r3 r4 r5 p0 p1 p2 p3 p4 p5 hx em es sz mo gf eC xf hI.X hI.ok b hk _ rfl fs ν fun S ρ=>Hn N S gf ρ xf hI.X.nd hI.hb hI.h0 hI.hc hI.hx fuel ring hf h1 h2)
   fun ν s' d=>kk (fun i=>match i with|0=>(ν 27).1 0|1=>(pr (ν 36)).1 2|i+2=>(pr (ν 36)).1 (i+24),fun _=>[]) s' rfl (d.perm (lY (a:=((ν 27).1 0,_)) (l₁:=[_,_,_,_,_,_,_,_,_])))
def Jx(d:iy):PyData:=.tuple [.bool d.1,.tuple (d.2.1.map fun p=>.str p.1),.list (d.2.2.map .int),.bool d.1]
def O5(T:List iy):Prop:=∀d∈T,∀p∈d.2.1,PyData.strOk p.1=true
theorem sW(h:Heap):∀l:List (Str×Tok),∃as,ReadsAll h (l.map ao) (l.map fun p=>.str p.1) as
 |[]=>⟨_,.nil⟩
 |p::l=>by
  obtain⟨as,r⟩:=sW h l
  exact⟨_,.cons (.str p.1 p.2) r⟩
theorem uv(h:Heap)(g:Nat->Tok):∀(l:List Int) (k:Nat),∃as,ReadsAll h (aq l g k) (l.map .int) as
 |[],_=>⟨_,.nil⟩
 |n::l,k=>by
  obtain⟨as,r⟩:=uv h g l (Nat.succ k)
  exact⟨_,.cons (.int n (g k)) r⟩
theorem Ki{h:Heap}(e:i9)(H:∀p∈eX e,h.get? p.1=some p.2):∃as,Reads h (jB e) (Jx e.d) as:=by
 have h1:=H _ (.head _)
 have h2:=H _ (.tail _ (.head _))
 have h3:=H _ (.tail _ (.tail _ (.head _)))
 obtain⟨as,ra⟩:=sW h e.d.2.1
 obtain⟨bs,rb⟩:=uv h e.tg e.d.2.2 0
 exact⟨_,.tuple h1 rfl rfl (.cons (.bool _) (.cons (.tuple h3 rfl rfl ra) (.cons (.list h2 rfl rfl rb) (.cons (.bool _) .nil))))⟩
theorem xj{h:Heap}:∀l:List i9,(∀p∈l.flatMap eX,h.get? p.1=some p.2)->∃as,ReadsAll h (l.map jB) ((l.map (·.d)).map Jx) as
 |[],_=>⟨_,.nil⟩
 |e::l,H=>by
  obtain⟨as,ra⟩:=Ki e fun p hp=>H p (jH _ hp)
  obtain⟨bs,rb⟩:=xj l fun p hp=>H p (jI _ hp)
  exact⟨_,.cons ra rb⟩
theorem yX(f:Nat->Nat):∀(T:List iy) (j:Nat),(cA f T j).map (·.d)=T
 |[],_=>rfl
 |d::T,j=>congrArg (d::·) (yX f T (Nat.succ j))
theorem xB:∀l:List (Str×Tok),(∀p∈l,PyData.strOk p.1=true)->PyData.canLayAll0 (l.map fun p=>.str p.1)=true/\PyData.depthAll (l.map fun p=>.str p.1)<=1
 |[],_=>⟨by rw[List.map_nil,PyData.canLayAll0],by rw[List.map_nil,PyData.depthAll];exact cY _⟩
 |p::l,H=>by
  obtain⟨c,d⟩:=xB l fun q hq=>H q (.tail _ hq)
  refine⟨?_,?_⟩
  ·rw[List.map_cons,PyData.canLayAll0,PyData.canLay0,H p (.head _),c];rfl
  ·rw[List.map_cons,PyData.depthAll,PyData.depth];exact Nat.max_le.mpr ⟨by decide,d⟩
theorem zp:∀l:List Int,PyData.canLayAll0 (l.map .int)=true/\PyData.depthAll (l.map .int)<=1
 |[]=>⟨by rw[List.map_nil,PyData.canLayAll0],by rw[List.map_nil,PyData.depthAll];exact cY _⟩
 |n::l=>by
  obtain⟨c,d⟩:=zp l
  refine⟨?_,?_⟩
  ·rw[List.map_cons,PyData.canLayAll0,PyData.canLay0,c];rfl
  ·rw[List.map_cons,PyData.depthAll,PyData.depth];exact Nat.max_le.mpr ⟨by decide,d⟩
theorem En:∀T:List iy,O5 T->PyData.canLayAll0 (T.map Jx)=true/\PyData.depthAll (T.map Jx)<=3
 |[],_=>⟨by rw[List.map_nil,PyData.canLayAll0],by rw[List.map_nil,PyData.depthAll];exact cY _⟩
 |e::T,H=>by
  obtain⟨c,d⟩:=En T fun q hq=>H q (.tail _ hq)
  obtain⟨c1,d1⟩:=xB e.2.1 (H e (.head _))
  obtain⟨c2,d2⟩:=zp e.2.2
  rw[List.map_cons]
  unfold Jx
  refine⟨?_,?_⟩
  ·simp only[PyData.canLayAll0,PyData.canLay0,c1,c2,Bool.and_self,Bool.true_and];exact c
  ·simp only[PyData.depthAll,PyData.depth];exact Nat.max_le.mpr ⟨by lia,d⟩
def told(f:Nat->Nat)(b:Bool)(T:List iy)(e:Nat):Obj:=aj (.bool b::(cA f T 0).map jB) e
theorem sV{h:Heap}{a:Addr}{f:Nat->Nat}{b:Bool}{T:List iy}{e:Nat}(h1:h.get? a=some (told f b T e))(H:∀p∈(cA f T 0).flatMap eX,h.get? p.1=some p.2):∃as,Reads h (.ref a) (.list (.bool b::T.map Jx)) as:=by
 obtain⟨as,r⟩:=xj _ H
 rw[yX]at r
 exact⟨_,.list h1 rfl rfl (.cons (.bool b) r)⟩
def Ot(f g:Nat->Nat)(b:Bool)(T:List iy):aD w ((Addr×Addr)×Nat×Nat)where
 lv:=some 8
 find c pre _:=some (((gM (aN c 0)),(gM (aN c 1))),bp (az pre 0).2,bp (az pre 1).2)
 code y:=.call (.builtin "list.__eq__") ⟨[.ref y.1.1,.ref y.1.2],[]⟩
 pre y:=[(y.1.1,told f b T y.2.1),(y.1.2,told g b T y.2.2)]
 tail _:=(cA f T 0).flatMap eX++(cA g T 0).flatMap eX
 r _ _:=.ok (.ret (.bool true))
 post y _:=[told f b T y.2.1,told g b T y.2.2]
 rest _ _:=(cA f T 0).flatMap eX++(cA g T 0).flatMap eX
theorem xm{l:List i9}{p:Addr×Obj}(h:p∈l.flatMap eX):¬bh p.2:=by
 obtain⟨e,_,h⟩:=List.mem_flatMap.mp h
 unfold eX at h
 rcases bu h with rfl|h
 ·exact bb fun _ _ q=>nomatch q
 rcases bu h with rfl|h
 ·exact bb fun _ _ q=>nomatch q
 rcases bu h with rfl|h
 ·exact bb fun _ _ q=>nomatch q
 ·cases h
section
variable(f g:Nat->Nat)(b:Bool)(T:List iy)
theorem IQ(hT:O5 T):(Ot (w:=w) f g b T).Ok:=by
 refine aD.old fun y fs A s hr _ _ _ h=> ?_
 have h':Sat (TW w) s ([(y.1.1,told f b T y.2.1),(y.1.2,told g b T y.2.2)]++((cA f T 0).flatMap eX++(cA g T 0).flatMap eX)):=h
 have a1:=h'.at (.head _) (bb fun _ _ q=>nomatch q)
 have a2:=h'.at (.tail _ (.head _)) (bb fun _ _ q=>nomatch q)
 obtain⟨as,r1⟩:=sV a1 fun p hp=>h'.at (jI _ (jH _ hp)) (xm hp)
 obtain⟨bs,r2⟩:=sV a2 fun p hp=>h'.at (jI _ (jI _ hp)) (xm hp)
 obtain⟨c,d⟩:=En T hT
 have hu:A.units+20*8<9000:=hr.1.units
 refine uM r1 r2 ?_ ?_ (by show _<9900;lia) ⟨eQ,rfl,rfl,Done.refl h'⟩
 ·rw[PyData.canLayAll0,PyData.canLay0,c];rfl
 ·rw[PyData.depthAll,PyData.depth];exact Nat.max_le.mpr ⟨by decide,by lia⟩
def KD(hT:O5 T):aJ w:=(Ot f g b T).sm (IQ f g b T hT)
end
section
variable(ns:List Int)
theorem QJ(hn:ns.length<=63)(g:Nat->Tok)(sc:Addr)(es:Nat)(fs:List Env)(ν:Nu):
  aT 109222 (.ok (.ret (.ref ((ν 27).fst 0)))) [((ν 27).fst 0,ah #[(.int (dG ns 0) ((pr (ν 29)).fst (0+4))),(.int (dG ns 1) ((pr (ν 29)).fst (Nat.succ 0+4))),(.int (dG ns 2) ((pr (ν 29)).fst ((Nat.succ 0).succ+4))),(.int (dG ns 3) ((pr (ν 29)).fst ((Nat.succ 0).succ.succ+4))),(.int (dG ns 4) ((pr (ν 29)).fst ((Nat.succ 0).succ.succ.succ+4))),(.int (dG ns 5) ((pr (ν 29)).fst ((Nat.succ 0).succ.succ.succ.succ+4))),(.int (dG ns 6) ((pr (ν 29)).fst ((Nat.succ 0).succ.succ.succ.succ.succ+4))),(.int (dG ns 7) ((pr (ν 29)).fst ((Nat.succ 0).succ.succ.succ.succ.succ.succ+4))),(.int (dG ns 8) ((pr (ν 29)).fst ((Nat.succ 0).succ.succ.succ.succ.succ.succ.succ+4))),(.int (dG ns 9) ((pr (ν 29)).fst ((Nat.succ 0).succ.succ.succ.succ.succ.succ.succ.succ+4))),(.int (dG ns 10) ((pr (ν 29)).fst ((Nat.succ 0).succ.succ.succ.succ.succ.succ.succ.succ.succ+4))),(.int (dG ns 11) ((pr (ν 29)).fst ((Nat.succ 0).succ.succ.succ.succ.succ.succ.succ.succ.succ.succ+4))),(.int (dG ns 12) ((pr (ν 29)).fst ((Nat.succ 0).succ.succ.succ.succ.succ.succ.succ.succ.succ.succ.succ+4))),(.int (dG ns 13) ((pr (ν 29)).fst ((Nat.succ 0).succ.succ.succ.succ.succ.succ.succ.succ.succ.succ.succ.succ+4))),(.int (dG ns 14) ((pr (ν 29)).fst ((Nat.succ 0).succ.succ.succ.succ.succ.succ.succ.succ.succ.succ.succ.succ.succ+4))),(.int (dG ns 15) ((pr (ν 29)).fst ((Nat.succ 0).succ.succ.succ.succ.succ.succ.succ.succ.succ.succ.succ.succ.succ.succ+4))),(.int (dG ns 16) ((pr (ν 29)).fst ((Nat.succ 0).succ.succ.succ.succ.succ.succ.succ.succ.succ.succ.succ.succ.succ.succ.succ+4))),(.int (dG ns 17) ((pr (ν 29)).fst ((Nat.succ 0).succ.succ.succ.succ.succ.succ.succ.succ.succ.succ.succ.succ.succ.succ.succ.succ+4)))] ((pr (ν 29)).fst 0)),(sc,aj (aq ns g 0) es)]
   (bX w ν 120 none (some (30,fs)) 251 [.ref sc] [(sc,aj (aq ns g 0) es)] 0x1041204146001080201041041001041041001040000002084082 [(fun ν=>Q5 ns hn g (fun i=>(ν (i+3)).1 0) 0 es)]):=by kernel_rfl
def A8(g:Nat->Tok)(es:Nat):aD w Addr where
 lv:=some 30
 bare:=true
 find c _ _:=some (gM (aN c 0))
 code y:=.call (.ref 251) ⟨[.ref y],[]⟩
 pre y:=[(y,aj (aq ns g 0) es)]
 r _ m:=.ok (.ret (.ref (m.1 0)))
 post _ _:=[aj (aq ns g 0) es]
 new _ m:=[(m.1 0,aj (aq (eI ns 18) (fun i=>m.1 (i+2)) 0) (m.1 1))]
theorem uX(hn:ns.length<=63)(g:Nat->Tok)(es:Nat):(A8 (w:=w) ns g es).Ok:=
 fun y fs A s Rz ii _ kk=>aV (rm:=some (_,fs)) (QJ ns hn g y es fs) (ii.hh rfl) ii.hr ii.hf ii.hs fun ν s' d=>kk (fun k=>match k with|0=>(ν 27).1 0|1=>(pr (ν 29)).1 0|Nat.succ (Nat.succ k)=>(pr (ν 29)).1 (k+4),fun _=>[]) s' rfl (d.perm (List.Perm.swap _ _ _))
end
def l6(f:Nat->Value):List Value:=[f 0,f 1,f 2,f 3,f 4,f 5]
def vL(V:Nat->Int):List Int:=[V 0,V 1,V 2,V 3,V 4,V 5,V 6,V 7,V 8,V 9,V 10,V 11,V 12,V 13,V 14,V 15,V 16,V 17]
noncomputable abbrev AN(w:World)(e:Expr)(fr it acc loc:Addr)(cs:List (Str×Addr)):Code:=.compStart e 0 (.ref it) (.ref acc) (compEnv (dj w 323 fr) loc cs e)
section
variable(V:Nat->Int)
def nL(k:Nat):List Nat:=Fc (V (6+k)) k
def mI(k:Nat):Int:=Na (V (12+k))
def nV(t:Nat->Tok)(k:Nat):Value:=.str (ML (nL V k)) (t k)
def mV(t:Nat->Tok)(k:Nat):Value:=.int (mI V k) (t k)
end
def s6{α:Type _}(f:(k:Nat)->k<6->α):List α:=[f 0 (by decide),f 1 (by decide),f 2 (by decide),f 3 (by decide),f 4 (by decide),f 5 (by decide)]
section
variable(V:Nat->Int)(g tn tm:Nat->Tok)(ev en em:Nat)(vl nl ml c1 c2 c3:Addr)(hn:∀k,k<6->gO (nL V k))(hv:∀i,0<=V i/\V i<10^10)(hm:∀k,0<=mI V k/\mI V k<10^10)(fr it acc loc:Addr)(fs:List Env)(ν:Nu)
def PH:Led:=[(c1,ay (.ref vl)),(vl,aj (aq (vL V) g 0) ev)]
def PG:Led:=[(c1,ay (.ref ml)),(c2,ay (.ref nl)),(c3,ay (.ref vl)),(vl,aj (aq (vL V) g 0) ev),(nl,aj (l6 (nV V tn)) en),(ml,aj (l6 (mV V tm)) em)]
def PF(B:Led):Led:=[(it,ai 0 6),(acc,ah #[] 0),(loc,U #[] 0)]++B
def PE(xs:List Value)(n:Nat)(B:Led):Led:=[(it,ai 6 0),(acc,aj xs n),(loc,bD w "k" ((ν 1).1 0) (.int 5 ((ν 25).1 0)))]++B
def YN(k:Nat):Addr×Obj:=((pr (ν (5*k+4))).1 0,ah #[.str (qG (nL V k)) ((pr (ν (5*k+4))).1 1),.str (uT (nL V k) (V (6+k))) ((pr (ν (5*k+4))).1 2),.str (w5 (V (6+k)) (mI V k) k) ((pr (ν (5*k+4))).1 3)] 0)
theorem SF:aT 5466 (.ok .next) (PE (w:=w) it acc loc ν (l6 fun k=>.str (ML (nL V k)) ((pr (ν (5*k+4))).1 0)) 6 (PH V g ev vl c1))
  (runC w ν 391 none (some (34,fs)) (AN w (valOf (aK w 323 [1])) fr it acc loc [(S "values",c1)]) (PF it acc loc (PH V g ev vl c1)) 0x410410400400820820000400c51401451400c40030c00410410410410010020820800010031450051450031000c30010410410410400400820820000400c51401451400c40030c00410410410410010020820800010031450051450031000c30010410410410400400820820000400c51401451400c40030c00410410410410010020820800010031450051450031000c3001041041041040040041 (s6 fun k h=>K (GS (V (6+k)) k h))):=by kernel_rfl
theorem SE:aT 5466 (.ok .next) (PE (w:=w) it acc loc ν (l6 fun k=>.int (mI V k) ((pr (ν (5*k+4))).1 0)) 6 (PH V g ev vl c1))
  (runC w ν 379 none (some (34,fs)) (AN w (valOf (aK w 323 [2])) fr it acc loc [(S "values",c1)]) (PF it acc loc (PH V g ev vl c1)) 0x410410400400820820000401450051450031000c30010410410410400400820820000401450051450031000c30010410410410400400820820000401450051450031000c30010410410410400400820820000401450051450031000c30010410410410400400820820000401450051450031000c30010410410410400400820820000401450051450031000c3001041041041040040041 (s6 fun k _=>K (GU (V (12+k))))):=by kernel_rfl
theorem SD:aT 1398106 (.ok .next) (PE (w:=w) it acc loc ν [] 0 (PG V g tn tm ev en em vl nl ml c1 c2 c3))
  (runC w ν 511 none (some (34,fs)) (AN w (bf (valOf (aK w 323 [3])) [0]) fr it acc loc [(S "values",c3),(S "names",c2),(S "modes",c1)]) (PF it acc loc (PG V g tn tm ev en em vl nl ml c1 c2 c3)) 0x410410400400010032490092490c41c70071c70031882002082031400c30010410410410400400010032490092490c41c70071c70031882002082031400c30010410410410400400010032490092490c41c70071c70031882002082031400c30010410410410400400010032490092490c41c70071c70031882002082031400c30010410410410400400010032490092490c41c70071c70031882002082031400c30010410410410400400010032490092490c41c70071c70031882002082031400c3001041041041040040041 (s6 fun k h=>K (GY (nL V k) (V (6+k)) (mI V k) k (hn k h) (hv (6+k)).1 (hv (6+k)).2 (hm k).1 (hm k).2 h))):=by kernel_rfl
theorem SA:aT 5726623066 (.ok .next) ([5,4,3,2,1,0].map (YN V ν)++PE (w:=w) it acc loc ν (l6 fun k=>.ref ((pr (ν (5*k+4))).1 0)) 6 (PG V g tn tm ev en em vl nl ml c1 c2 c3))
  (runC w ν 547 none (some (34,fs)) (AN w (valOf (aK w 323 [4])) fr it acc loc [(S "values",c3),(S "names",c2),(S "modes",c1)]) (PF it acc loc (PG V g tn tm ev en em vl nl ml c1 c2 c3)) 0x471c71c01c020820800004020e38038e38824c30030c30020b34d00d34d20a0082001861861861860060071c71c000100734d00d34d1c82cb00b2cb00728c30030c3072401c700514514514514014018618600004018c30030c3061ca28028a2801892cb00b2cb1880061801041041041040040051451400010052cb00b2cb14624900924900520a28028a2851c01450030c30c30c30c00c010410400004010a28028a2841482002082001072490092491060041000820820820820020030c30c00010032490092490c41c70071c70031882002082031400c3001041041041040040041 (s6 fun k h=>K (rd (ML (nL V k)) (V (6+k)) (mI V k) k (aM (V (6+k))) (qG (nL V k)) (uT (nL V k) (V (6+k))) (w5 (V (6+k)) (mI V k) k) (Hf (nL V k) (V (6+k)) (mI V k) k (hn k h) (hv (6+k)).1 (hv (6+k)).2 (hm k).1 (hm k).2 h)))):=by kernel_rfl
end
def iO(V:Nat->Int)(u:Nat->Tok)(k:Nat):Obj:=ah #[.str (qG (nL V k)) (u (3*k)),.str (uT (nL V k) (V (6+k))) (u (3*k+1)),.str (w5 (V (6+k)) (mI V k) k) (u (3*k+2))] 0
theorem Sz(V:Nat->Int)(hn:∀k,k<6->gO (nL V k))(u:Nat->Tok)(fr it acc loc rp:Addr)(ra:Nat->Addr)(er:Nat)(fs:List Env)(ν:Nu):
  aT 5592410 (.ok .next) [(it,⟨(.type "list_iterator"),none,(.fields #[.none,(.int 6 0)]),#[]⟩),(acc,ah #[(.str (Str.mk (nL V 0).toArray) ((pr (ν 3)).fst 0)),(.str (Str.mk (nL V 1).toArray) ((pr (ν 7)).fst 0)),(.str (Str.mk (nL V 2).toArray) ((pr (ν 11)).fst 0)),(.str (Str.mk (nL V 3).toArray) ((pr (ν 15)).fst 0)),(.str (Str.mk (nL V 4).toArray) ((pr (ν 19)).fst 0)),(.str (Str.mk (nL V 5).toArray) ((pr (ν 23)).fst 0))] 6),(loc,U #[aH w "reply" ((ν 1).fst 0) (.ref (ra 5))] 1),(rp,aj (l6 fun k=>.ref (ra k)) er),(ra 0,iO V u 0),(ra 1,iO V u 1),(ra 2,iO V u 2),(ra 3,iO V u 3),(ra 4,iO V u 4),(ra 5,iO V u 5)]
   (runC w ν 261 none (some (34,fs)) (AN w (valOf (aK w 323 [5])) fr it acc loc []) [(it,aZ (.ref rp) 0),(acc,ah #[] 0),(loc,U #[] 0),(rp,aj (l6 fun k=>.ref (ra k)) er),(ra 0,iO V u 0),(ra 1,iO V u 1),(ra 2,iO V u 2),(ra 3,iO V u 3),(ra 4,iO V u 4),(ra 5,iO V u 5)] 0x10c000304008208200004028a00a28a0c00c30030000c10020820800010092402492430030c00c00030400820820000402080082080c00c30030000c10020820800010071c01c71c30030c00c00030400820820000401860061860c00c30030000c10020820800010051401451430030c00c0003040041 [K (ak),K (kz (qG (nL V 0)) (nL V 0) (pE (nL V 0) (hn 0 (show 0<6 by decide)))),K (ak),K (kz (qG (nL V 1)) (nL V 1) (pE (nL V 1) (hn 1 (show 1<6 by decide)))),K (ak),K (kz (qG (nL V 2)) (nL V 2) (pE (nL V 2) (hn 2 (show 2<6 by decide)))),K (ak),K (kz (qG (nL V 3)) (nL V 3) (pE (nL V 3) (hn 3 (show 3<6 by decide)))),K (ak),K (kz (qG (nL V 4)) (nL V 4) (pE (nL V 4) (hn 4 (show 4<6 by decide)))),K (ak),K (kz (qG (nL V 5)) (nL V 5) (pE (nL V 5) (hn 5 (show 5<6 by decide)))),K (ak)]):=by kernel_rfl
end
section
open PySem PySem.W PySem.W.X PyProof.Rows
theorem qV{d:Addr}{n:Nat}{x:Str}{t:Tok}{v:Value}{Q:Unit->Shared->Prop}{E:Value->Shared->Prop}(h:Sat (TW w) s [(d,U es n)])(hk:KeysOf (kS w) es)(hz:es.size<1000)(hi:es.findIdx? (fun e=>(kS w).is x e.key)=none)
  (q:∀s',Done (T:=TW w) s s' [(d,U es n)] [(d,U (bI w es x t v) (n+1))]->Q () s'):wpAny (Mo w) A (dictSet d (.str x t) v) Q E s:=by
 have ho:s.heap.get? d=some (U es n):=h.at (.head _) (aO _ _)
 unfold dictSet
 try with_reducible refine wpAny_holding ?_
 refine aw ((kS w).pyHash (strKind_is pw w x t) ?_)
 unfold dictSetHashed
 try with_reducible refine wpAny_holding ?_
 refine aw (wpAny_dictFind_of (s:={s with toks:=s.toks+1}) (strKind_is pw w x t) ho rfl hk ?_)
 rw[hi]
 exact aw (wpAny_rule (wpAny_updateDictKeys (hz:=by show es.size<=2^24;lia) (s:={s with toks:=s.toks+1}) ho rfl (q _ (bN h (aO _ _) rfl rfl (aO _ _) _))))
theorem compTurn_dict(key val target iter:Expr)(scope:Scope)(pos:Pos)(it:Value)(d:Addr)(env:Env):
  compTurn (.DictComp key val [⟨target,iter,[],0⟩] scope pos) 0 it (.ref d) env=(do
   standAt iter.pos
   match<-pyNext it with
   |none=>pure (.done .next)
   |some v=>
    letOwnedTupleGo target it v
    assign target env v
    let mut ok:=true
    for c in([]:List Expr) do
     if ok then ok<-isTrue c env (eval c env)
    if ok then
     (do
      let kv<-eval key env
      let vv<-holding [kv] (eval val env)
      standAt {key.pos with endLine:=val.pos.endLine,endCol:=val.pos.endCol}
      holding [kv,vv] (dictSet d kv vv))
    again (.compLoop (.DictComp key val [⟨target,iter,[],0⟩] scope pos) 0 it (.ref d) env)):=by rfl
theorem oO{key val target iter:Expr}{sc:Scope}{pos:Pos}{it:Value}{d:Addr}{env:Env}{Q:Fin->Shared->Prop}{E:Value->Shared->Prop}
  (h:wpAny (Mo w) A (bE target it env) (fun b s₁=>match b with
   |true=>wpAny (Mo w) A (eval key env) (fun kv dH=>wpAny (Mo w) A (eval val env) (fun vv lP=>wpAny (Mo w) A (dictSet d kv vv) (fun _ q0=>Q (.again (.compLoop (.DictComp key val [⟨target,iter,[],0⟩] sc pos) 0 it (.ref d) env)) q0) (fun _ _=>False) lP) (fun _ _=>False) dH) (fun _ _=>False) s₁
   |false=>Q (.done .next) s₁) (fun _ _=>False) s):
  wpAny (Mo w) A (denote table (.compLoop (.DictComp key val [⟨target,iter,[],0⟩] sc pos) 0 it (.ref d) env)) Q E s:=by
 show wpAny _ A ((compTurn (.DictComp key val [⟨target,iter,[],0⟩] sc pos) 0 it (.ref d) env).onRaise (fun x=>do noteFrame x env;theTreesLotGoes x)) _ _ s
 refine fy ?_
 rw[compTurn_dict]
 refine aw (wpAny_standAt (gB (fg h (fun b s₁ q=> ?_) fun _ _ q=>q)))
 cases b with
 |false=>exact aX q
 |true=>
  intro v
  refine aw (wpAny_tests_nil ?_)
  refine aw (aw (fg q (fun kv dH q=> ?_) fun _ _ q=>q))
  refine aw (wpAny_holding (fg q (fun vv lP q=> ?_) fun _ _ q=>q))
  refine aw (wpAny_standAt (wpAny_holding (fg q (fun _ q0 q=> ?_) fun _ _ q=>q)))
  exact aX q
end
section
open PySem PySem.W PySem.W.X PyProof.Rows PySem.Builtin.Str
def cU(w:World)(N:NM):Nat->List Value->List DictEntry
 |_,[]=>[]
 |i,v::l=>⟨hashStr w (N.nm i),N.hv i,v⟩::cU w N (i+1) l
theorem mU(N:NM)(v:Value):∀(l:List Value) (i:Nat),cU w N i (l++[v])=cU w N i l++[⟨hashStr w (N.nm (i+l.length)),N.hv (i+l.length),v⟩]
 |[],i=>rfl
 |x::l,i=>by
  rw[List.cons_append,cU,mU N v l (i+1),cU,List.length_cons,List.cons_append,show i+1+l.length=i+(l.length+1) by lia]
theorem mT(N:NM):∀(l:List Value) (i:Nat),(cU w N i l).length=l.length
 |[],_=>rfl
 |x::l,i=>by rw[cU,List.length_cons,mT N l,List.length_cons]
theorem mS(N:NM)(e:DictEntry)(l:List Value):∀i,e∈cU w N i l->∃j,i<=j/\j<i+l.length/\e.key=N.hv j/\e.hash=hashStr w (N.nm j):=by
 induction l with
 |nil=>exact fun _ h=>nomatch h
 |cons x l ih=>
  intro i h
  rcases bu h with rfl|h
  ·exact⟨i,bC i,Nat.lt_add_of_pos_right (Nat.succ_pos _),rfl,rfl⟩
  ·obtain⟨j,a,b,c⟩:=ih (i+1) h
   exact⟨j,Nat.le_of_succ_le a,Nat.succ_add_eq_add_succ i l.length▸b,c⟩
section
variable(N:NM)(l:List Value)
theorem dP:KeysOf (kS w) (cU w N 0 l).toArray:=by
 intro e he
 obtain⟨j,_,_,hk,hh⟩:=mS N e l 0 (List.mem_toArray.mp he)
 exact⟨N.nm j,by rw[hk];exact strKind_is pw w _ _,hh⟩
theorem si:(cU w N 0 l).toArray.findIdx? (fun e=>(kS w).is (N.nm l.length) e.key)=none:=by
 rw[List.findIdx?_toArray,List.findIdx?_eq_none_iff]
 intro e he
 obtain⟨j,_,hj,hk,_⟩:=mS N e l 0 he
 rw[hk]
 show Value.isStrOf (N.nm l.length) (.str (N.nm j) (N.tk j))=false
 rw[fH,decide_eq_false]
 lia
end
theorem lq(N:NM)(x:Nat):∀(l:List Value) (i:Nat),i<=x->bo (cU w N i l).toArray (N.nm x)=l[x-i]?
 |[],i,h=>rfl
 |v::l,i,h=>by
  have ih:=lq N x l (i+1)
  unfold bo findBy at ih⊢
  rw[List.find?_toArray]at ih⊢
  rw[cU,List.find?_cons]
  dsimp only[NM.hv]
  rw[fH]
  by_cases e:i=x
  ·subst e
   simp
  ·rw[decide_eq_false e]
   dsimp only
   rw[ih (by lia),show x-i=(x-(i+1))+1 by lia,List.getElem?_cons_succ]
theorem IY(N:NM)(l:List Value)(v:Value):bI w (cU w N 0 l).toArray (N.nm l.length) (N.tk l.length) v=(cU w N 0 (l++[v])).toArray:=by
 unfold bI
 rw[List.push_toArray,mU,Nat.zero_add]
 rfl
def Jq(w:World)(lo:Obj):Prop:=lo=U #[] 0\/E2 fun t v=>lo=bD w "k" t v
structure wQ(w:World)(m:Nat)(fs:List Env)(key val xt:Expr)(env:Env)(it loc:Addr)(B:Led)(N:NM)(n:Nat->Int):Prop where
 next:∀(k:Nat) (left:Int) (lo:Obj) (A:Around) (s:Shared) (Q:Bool->Shared->Prop),0<left->Jq w lo->In w (some m) true fs A s [(it,ai k left),(loc,lo)]->
  (∀t u s',Done (T:=TW w) s s' [(it,ai k left),(loc,lo)] [(it,ai (k+1) (left-1)),(loc,bD w "k" t (.int k u))]->Q true s')->wpAny (Mo w) A (bE xt (.ref it) env) Q (fun _ _=>False) s
 stop:∀(k:Nat) (A:Around) (s:Shared) (Q:Bool->Shared->Prop),In w (some m) true fs A s [(it,ai k 0)]->(∀s',Done (T:=TW w) s s' [(it,ai k 0)] [(it,ai k 0)]->Q false s')->wpAny (Mo w) A (bE xt (.ref it) env) Q (fun _ _=>False) s
 key:∀(k:Nat) (t u:Tok) (A:Around) (s:Shared) (Q:Value->Shared->Prop),k<6->In w (some m) true fs A s ((loc,bD w "k" t (.int k u))::B)->
  (∀s',Done (T:=TW w) s s' ((loc,bD w "k" t (.int k u))::B) ((loc,bD w "k" t (.int k u))::B)->Q (N.hv k) s')->wpAny (Mo w) A (eval key env) Q (fun _ _=>False) s
 val:∀(k:Nat) (t u:Tok) (A:Around) (s:Shared) (Q:Value->Shared->Prop),k<6->In w (some m) true fs A s ((loc,bD w "k" t (.int k u))::B)->
  (∀x s',Done (T:=TW w) s s' ((loc,bD w "k" t (.int k u))::B) ((loc,bD w "k" t (.int k u))::B)->Q (.int (n k) x) s')->wpAny (Mo w) A (eval val env) Q (fun _ _=>False) s
def uQ(n:Nat->Int)(g:Nat->Tok)(k:Nat):List Value:=aq ((List.range k).map n) g 0
def I8(w:World)(it d loc:Addr)(B:Led)(N:NM)(io lo:Obj)(l:List Value):Led:=(it,io)::(d,U (cU w N 0 l).toArray l.length)::(loc,lo)::B
theorem j7(n:Nat->Int)(g:Nat->Tok)(k:Nat):(uQ n g k).length=k:=by unfold uQ;rw[aP,List.length_map,List.length_range]
theorem DX(w:World)(it d loc:Addr)(B:Led)(N:NM)(io lo:Obj)(n:Nat->Int)(g:Nat->Tok)(k:Nat)(x:Tok):∃g',(it,io)::(d,U (bI w (cU w N 0 (uQ n g k)).toArray (N.nm k) (N.tk k) (.int (n k) x)) ((uQ n g k).length+1))::(loc,lo)::B=I8 w it d loc B N io lo (uQ n g' (k+1)):=by
 have h:=IY (w:=w) N (uQ n g k) (.int (n k) x)
 rw[j7]at h
 unfold uQ at h⊢
 rw[h,di,List.range_succ,List.map_append]
 exact⟨_,by unfold I8;rw[aP,aP,List.length_append];rfl⟩
theorem DW{key val xt iter:Expr}{sc:Scope}{pos:Pos}{env:Env}{it d loc:Addr}{B:Led}{N:NM}{n:Nat->Int}{m:Nat}{fs:List Env}(H:wQ w m fs key val xt env it loc B N n)(j:Nat):∀(k:Nat) (g:Nat->Tok) (lo:Obj) (s:Shared),
  k+j=6->Jq w lo->In w (some (m+1)) true fs A s (I8 w it d loc B N (ai k j) lo (uQ n g k))->
  (∀g' Co s',(j=0->Co=lo)->(j≠0->E2 fun t v=>Co=bD w "k" t v)->Done (T:=TW w) s s' (I8 w it d loc B N (ai k j) lo (uQ n g k)) (I8 w it d loc B N (ai ((6:Nat):Int) 0) Co (uQ n g' 6))->R (.ok .next) s')->
  codeAny (Mo w) A (.compLoop (.DictComp key val [⟨xt,iter,[],0⟩] sc pos) 0 (.ref it) (.ref d) env) R s:=by
 induction j with
 |zero=>
  intro k g lo s e uB ii kk
  have e:k=6:=e
  have hp:([(it,ai k 0)]++((d,U (cU w N 0 (uQ n g k)).toArray (uQ n g k).length)::(loc,lo)::B)).Perm (I8 w it d loc B N (ai k 0) lo (uQ n g k)):=List.Perm.refl _
  exact x_code (oO (H.stop k _ s _ ((ii.part hp).under rfl) fun s' q=>kk g lo s' (fun _=>rfl) (fun h=>absurd rfl h) (by rw[<-e];exact q.at ii hp)))
 |succ j ih=>
  intro k g lo s e uB ii kk
  have hk:k<6:=by lia
  have hp:∀(io lo:Obj) (D:Addr×Obj),([(it,io),(loc,lo)]++(D::B)).Perm ((it,io)::D::(loc,lo)::B):=fun _ _ _=>List.Perm.cons _ (List.Perm.swap _ _ _)
  have AQ:∀(io lo:Obj) (D:Addr×Obj),(((loc,lo)::B)++[(it,io),D]).Perm ((it,io)::D::(loc,lo)::B):=fun _ _ _=>dy
  have Te:∀(io lo:Obj) (D:Addr×Obj),([D]++((it,io)::(loc,lo)::B)).Perm ((it,io)::D::(loc,lo)::B):=fun _ _ _=>List.Perm.swap _ _ _
  refine x_code (oO (H.next k ((j+1:Nat):Int) lo _ s _ (Int.natCast_pos.mpr (Nat.succ_pos j)) uB ((ii.part (hp _ _ _)).under rfl) fun t u s₁ d1=> ?_))
  have d1:=(d1.at ii (hp _ _ _)).perm (hp _ _ _).symm
  refine H.key k t u _ s₁ _ hk (((ii.go d1).part (AQ _ _ _)).under rfl) fun dH d2=> ?_
  have d2:=d1.trans ((d2.at (ii.go d1) (AQ _ _ _)).perm (AQ _ _ _).symm)
  refine H.val k t u _ dH _ hk (((ii.go d2).part (AQ _ _ _)).under rfl) fun x lP d3=> ?_
  have d3:=d2.trans ((d3.at (ii.go d2) (AQ _ _ _)).perm (AQ _ _ _).symm)
  have hn:=si (w:=w) N (uQ n g k)
  rw[j7]at hn
  refine qV (d3.sat.part (Te _ _ _)) (dP N _) (by rw[List.size_toArray,mT,j7];lia) hn fun q0 d4=> ?_
  have d4:=d3.trans ((d4.at (ii.go d3) (Te _ _ _)).perm (Te _ _ _).symm)
  rw[show((j+1:Nat):Int)-1=(j:Int)from Int.add_sub_cancel (j:Int) 1]at d4
  obtain⟨g',eg⟩:=DX w it d loc B N (ai (k+1) (j:Int)) (bD w "k" t (.int k u)) n g k x
  have d4:=eg▸d4
  exact⟨rfl,ih (k+1) g' _ q0 (by lia) (.inr ⟨_,_,rfl⟩) (ii.go d4) fun g2 vD s5 z2 z3 z4=>kk g2 vD s5 (fun h=>absurd h (Nat.succ_ne_zero _)) (fun _=>(Nat.eq_zero_or_pos j).elim (fun h=>⟨_,_,z2 h⟩) fun h=>z3 (Nat.ne_of_gt h)) (d4.trans z4)⟩
noncomputable def ju(e:Expr):Expr:=match e with
 | .DictComp _ _ (⟨t,_,_,_⟩::_) _ _=>t
 |_=>.Constant .none 0 default
section
variable(w:World)
noncomputable abbrev d7:Expr:=valOf (aK w 323 [7])
noncomputable abbrev d8:Expr:=valOf (aK w 323 [8])
noncomputable abbrev d9:Expr:=bf (valOf (aK w 323 [9])) [1]
noncomputable abbrev dA:Expr:=bf (valOf (aK w 323 [9])) [2]
end
section
variable(w:World)(fr loc c1 c2:Addr)
noncomputable abbrev v7:Env:=compEnv (dj w 323 fr) loc [(S "replies",c2),(S "heads",c1)] (d7 w)
noncomputable abbrev v8:Env:=compEnv (dj w 323 fr) loc [(S "replies",c2),(S "heads",c1)] (d8 w)
noncomputable abbrev v9:Env:=compEnv (dj w 323 fr) loc [(S "names",c2),(S "modes",c1)] (d9 w)
noncomputable abbrev vA:Env:=compEnv (dj w 323 fr) loc [(S "values",c2),(S "names",c1)] (dA w)
end
section
variable(w:World)(a b:Bool)
abbrev Vh:Expr:=bif a then(bif b then dA w else d9 w)else bif b then d8 w else d7 w
abbrev QK(fr loc c1 c2:Addr):Env:=bif a then(bif b then vA w fr loc c1 c2 else v9 w fr loc c1 c2)else bif b then v8 w fr loc c1 c2 else v7 w fr loc c1 c2
end
section
variable(a b:Bool)(fr it loc c1 c2:Addr)(k:Nat)(left:Int)(hl:0<left)(o:Option (Tok×Value))(fs:List Env)(ν:Nu)
theorem pQ:aT 3 (.ok true) [(it,ai (↑k+1) (left-1)),(loc,bD w "k" (o.elim ((ν 1).1 0) (·.1)) (.int ↑k ((pr (ν 0)).1 0)))]
  (gh w ν 50 none (some (33,fs)) (bE (ju (Vh w a b)) (.ref it) (QK w a b fr loc c1 c2)) [(it,ai k left),(loc,Cn w "k" o)] 139586437249 [K (fR k left hl)]):=by cases a<;>cases b<;>cases o<;>kernel_rfl
theorem Cb:aT 26 (.ok false) [(it,ai k 0)]
  (gh w ν 44 none (some (33,fs)) (bE (ju (Vh w a b)) (.ref it) (QK w a b fr loc c1 c2)) [(it,ai k 0)] 16777345 [K (iI k 0 (Int.le_refl 0))]):=by cases a<;>cases b<;>kernel_rfl
abbrev Wx:Addr:=bif a then(bif b then c1 else c2)else c1
theorem ky(nl:Addr)(k0:0<=(k:Int))(t tk:Tok)(N:NM)(en:Nat)(hz:(l6 N.hv).length<1000000)(hv:(l6 N.hv)[(k:Int).toNat]? =some (N.hv k)):
  aT 3 (.ok (.str (N.nm k) (N.tk k))) [(loc,bD w "k" t (.int k tk)),(Wx a b c1 c2,ay (.ref nl)),(nl,aj (l6 N.hv) en)]
   (gh w ν 50 none (some (33,fs)) (eval (bf (Vh w a b) [0]) (QK w a b fr loc c1 c2)) [(loc,bD w "k" t (.int k tk)),(Wx a b c1 c2,ay (.ref nl)),(nl,aj (l6 N.hv) en)] 8798291636290 [K (bQ (l6 N.hv) k (N.hv k) k0 hz hv)]):=by cases a<;>cases b<;>kernel_rfl
end
section
variable(fr loc c1 c2 rp rk:Addr)(k:Nat)(k0:0<=(k:Int))(t tk:Tok)(V:Nat->Int)(u:Nat->Tok)(er:Nat)(rs:List Value)(hz:rs.length<1000000)(hv:rs[(k:Int).toNat]? =some (.ref rk))(zk h:Str)(wX:Str.ofString (toString (k:Int))=zk)(WQ:(k:Int).natAbs.log2<1920)(hh:S "10.0.0."++zk=h)(w3:bK h)
theorem Yc(hn:gO (nL V k))(gT:0<=V (6+k))(jZ:V (6+k)<10^10)(fs:List Env)(ν:Nu):
  aT 1370 (.ok (.int (u4 (V (6+k))) ((pr (ν 9)).fst 0))) [(loc,bD w "k" t (.int k tk)),(c2,ay (.ref rp)),(rp,aj rs er),(rk,iO V u k)]
   (gh w ν 107 none (some (33,fs)) (eval (bf (d7 w) [1]) (v7 w fr loc c1 c2)) [(loc,bD w "k" t (.int k tk)),(c2,ay (.ref rp)),(rp,aj rs er),(rk,iO V u k)] 0x2000040001001000001040fc00400041001041020020c30c1080 [K (bQ rs k (.ref rk) k0 hz hv),K (bS (k:Int) zk wX WQ),K (bz (S "10.0.0.") zk h hh w3),K (Ks (nL V k) (V (6+k)) h 21 hn gT jZ)]):=by kernel_rfl
theorem Yb(q:iA (w5 (V (6+k)) (mI V k) k) (mI V k))(fs:List Env)(ν:Nu):
  aT 5482 (.ok (.int (mI V k) ((pr (ν 9)).fst 1))) [(loc,bD w "k" t (.int k tk)),(c2,ay (.ref rp)),(rp,aj rs er),(rk,iO V u k)]
   (gh w ν 119 none (some (33,fs)) (eval (bf (d8 w) [1]) (v8 w fr loc c1 c2)) [(loc,bD w "k" t (.int k tk)),(c2,ay (.ref rp)),(rp,aj rs er),(rk,iO V u k)] 0x1040041040002000040001001000001040fc00400041001041020020c30c1080 [K (bQ rs k (.ref rk) k0 hz hv),K (bS (k:Int) zk wX WQ),K (bz (S "10.0.0.") zk h hh w3),K (xY (w5 (V (6+k)) (mI V k) k) h 21 (mI V k) q)]):=by kernel_rfl
end
theorem X9(fr loc c1 c2 ml:Addr)(k:Nat)(k0:0<=(k:Int))(t tk:Tok)(em:Nat)(xs:List Value)(n:Int)(tn:Tok)(hz:xs.length<1000000)(hv:xs[(k:Int).toNat]? =some (.int n tn))(fs:List Env)(ν:Nu):
  aT 3 (.ok (.int n tn)) [(loc,bD w "k" t (.int k tk)),(c1,ay (.ref ml)),(ml,aj xs em)]
   (gh w ν 50 none (some (33,fs)) (eval (bf (d9 w) [1]) (v9 w fr loc c1 c2)) [(loc,bD w "k" t (.int k tk)),(c1,ay (.ref ml)),(ml,aj xs em)] 8798291636290 [K (bQ xs k (.int n tn) k0 hz hv)]):=by kernel_rfl
section
variable(fr loc c1 c2 vl:Addr)(k:Nat)
theorem QH(k0:0<=(k:Int))(t tk:Tok)(k6:0<=6+(k:Int))(ev:Nat)(xs:List Value)(n:Int)(tn:Tok)(hz:xs.length<1000000)(hv:xs[(6+(k:Int)).toNat]? =some (.int n tn))(hb:(Int.fmod n 5 !=0)=false)(fs:List Env)(ν:Nu):
  aT 3 (.ok (.int 0 ((ν 6).fst 0))) [(loc,bD w "k" t (.int k tk)),(c2,ay (.ref vl)),(vl,aj xs ev)]
   (gh w ν 65 none (some (33,fs)) (eval (bf (dA w) [1]) (vA w fr loc c1 c2)) [(loc,bD w "k" t (.int k tk)),(c2,ay (.ref vl)),(vl,aj xs ev)] 0x10020020c30c0042 [K (bQ xs (6+(k:Int)) (.int n tn) k6 hz hv),K (dU (Int.fmod n 5) false hb)]):=by kernel_rfl
theorem QG(k0:0<=(k:Int))(t tk:Tok)(k6:0<=6+(k:Int))(ev:Nat)(xs:List Value)(n:Int)(tn:Tok)(hz:xs.length<1000000)(hv:xs[(6+(k:Int)).toNat]? =some (.int n tn))(hb:(Int.fmod n 5 !=0)=true)(fs:List Env)(ν:Nu):
  aT 3 (.ok (.int n tn)) [(loc,bD w "k" t (.int k tk)),(c2,ay (.ref vl)),(vl,aj xs ev)]
   (gh w ν 79 none (some (33,fs)) (eval (bf (dA w) [1]) (vA w fr loc c1 c2)) [(loc,bD w "k" t (.int k tk)),(c2,ay (.ref vl)),(vl,aj xs ev)] 0x20020c30c00420010020020c30c0042 [K (bQ xs (6+(k:Int)) (.int n tn) k6 hz hv),K (dU (Int.fmod n 5) true hb),K (bQ xs (6+(k:Int)) (.int n tn) k6 hz hv)]):=by kernel_rfl
end
section
variable(e:Expr)
noncomputable def Aq:Expr:=match e with
 | .DictComp _ _ (⟨_,i,_,_⟩::_) _ _=>i
 |_=>.Constant .none 0 default
def ON:Scope:=match e with
 | .DictComp _ _ _ sc _=>sc
 |_=>sy e
def F3:Pos:=match e with
 | .DictComp _ _ _ _ p=>p
 |_=>default
def OO:Expr:=.DictComp (bf e [0]) (bf e [1]) [⟨ju e,Aq e,[],0⟩] (ON e) (F3 e)
end
def J0{X:Type}(e:Expr)(env:Addr->Addr->X->Env)(N:NM)(n6:List Int)(bs:X->Led)(Qc:Led->Option X):aD w (CX×X)where
 lv:=some 34
 bare:=true
 find c pre _:=match gK c,pre with
  |some x,_::_::_::B=>(match Qc B with
   |some y=>some (x,y)
   |none=>none)
  |_,_=>none
 code y:=.compStart e 0 (.ref y.1.it) (.ref y.1.acc) (env y.1.fr y.1.loc y.2)
 pre y:=(y.1.it,ai 0 6)::(y.1.acc,U #[] 0)::(y.1.loc,U #[] 0)::bs y.2
 r _ _:=.ok .next
 post y m:=ai 6 0::U (cU w N 0 (aq n6 (fun i=>m.1 (i+1)) 0)).toArray 6::bD w "k" (m.1 0) ((m.2 0).headD .none)::(bs y.2).map (·.2)
theorem oy{X:Type}(e:Expr)(he:e=OO e)(env:Addr->Addr->X->Env)(N:NM)(n:Nat->Int)(bs:X->Led)(Qc:Led->Option X)
  (H:∀(fr it loc:Addr) (y:X) (fs:List Env),wQ w 33 fs (bf e [0]) (bf e [1]) (ju e) (env fr loc y) it loc (bs y) N n):(J0 (w:=w) e env N ((List.range 6).map n) bs Qc).Ok:=by
 intro y fs A s Rz ii _ kk
 obtain⟨x,y⟩:=y
 have hS:=ii.hs
 rw[show(J0 (w:=w) e env N ((List.range 6).map n) bs Qc).tail (x,y)=[]from rfl,List.append_nil]at hS kk
 have ho:s.heap.get? x.it=some (ai 0 6):=hS.at (.head _) (aa rfl)
 refine x_code (oN (by rw[he];rfl) (fun A E=>cM (n:="range_iterator") rfl ⟨_,ho,rfl⟩) ⟨by rw[he];rfl,?_⟩)
 have L:=DW (iter:=Aq e) (sc:=ON e) (pos:=F3 e) (d:=x.acc) (R:=Rz) (H x.fr x.it x.loc y fs) 6 0 (fun _=>0) (U #[] 0) s rfl (.inl rfl) (A:=A) ⟨ii.hr,ii.hf,ii.hh,hS⟩ fun g' Co s' _ q3 d=> ?_
 ·have L2:codeAny (Mo w) A (.compLoop (OO e) 0 (.ref x.it) (.ref x.acc) (env x.fr x.loc y)) Rz s:=L
  rw[<-he]at L2
  exact L2
 obtain⟨t,v,rfl⟩:=q3 (by decide)
 refine kk (fun i=>match i with|0=>t|i+1=>g' i,fun _=>[v]) s' ?_ ?_
 ·exact congrArg (·+3) (List.length_map (as:=bs y) fun p=>p.2)
 ·show Done _ _ _ (_::_::_::(((bs y).map (·.1)).zip ((bs y).map (·.2))++([]++[])))
  rw[oM,List.append_nil,List.append_nil]
  unfold I8 at d
  rw[j7]at d
  exact d
theorem fF(f:Nat->Value){k:Nat}(h:k<6):(l6 f)[(k:Int).toNat]? =some (f k):=
 PJ (P:=fun k=>(l6 f)[(k:Int).toNat]? =some (f k)) h rfl rfl rfl rfl rfl rfl
theorem fE(f:Nat->Value):(l6 f).length<1000000:=by show 6<1000000;decide
theorem uz(k:Nat):S "10.0.0."++ML (dg (k:Int))=ML (fK (k:Int)):=by rw[mc,bA];rfl
theorem uy(k:Nat)(h:k<6):bK (ML (fK (k:Int))):=by
 have hz:(dg (k:Int)).length<=100:=eA (by lia) (by lia)
 have c1:(cp "10.0.0.").length=7:=by decide
 exact oT (by unfold fK;rw[List.length_append];lia)
theorem Ng(k:Nat)(h:k<6):(k:Int).natAbs.log2<1920:=iT (by lia) (by lia)
section
variable{xt:Expr}{env:Env}
theorem jV{it loc:Addr}{m:Nat}{fs:List Env}(r0:∀(k:Nat) (left:Int),0<left->E3 fun(n hs:Nat) (xs:List (Nu->aJ w))=>∀ν,aT 3 (.ok true) [(it,ai (k+1) (left-1)),(loc,bD w "k" ((ν 1).1 0) (.int k ((pr (ν 0)).1 0)))] (gh w ν n none (some (m,fs)) (bE xt (.ref it) env) [(it,ai k left),(loc,U #[] 0)] hs xs))(r1:∀(k:Nat) (left:Int) (t:Tok) (v:Value),0<left->E3 fun(n hs:Nat) (xs:List (Nu->aJ w))=>∀ν,aT 3 (.ok true) [(it,ai (k+1) (left-1)),(loc,bD w "k" t (.int k ((pr (ν 0)).1 0)))] (gh w ν n none (some (m,fs)) (bE xt (.ref it) env) [(it,ai k left),(loc,bD w "k" t v)] hs xs))(k:Nat)(left:Int)(lo:Obj)(A:Around)(s:Shared)(Q:Bool->Shared->Prop)(hl:0<left)(uB:Jq w lo)(ii:In w (some m) true fs A s [(it,ai k left),(loc,lo)])(kk:∀t u s',Done (T:=TW w) s s' [(it,ai k left),(loc,lo)] [(it,ai (k+1) (left-1)),(loc,bD w "k" t (.int k u))]->Q true s'):wpAny (Mo w) A (bE xt (.ref it) env) Q (fun _ _=>False) s:=by
 rcases uB with rfl|⟨t,v,rfl⟩
 ·obtain⟨n,hs,xs,run⟩:=r0 k left hl
  exact ii.tree run fun ν s' d=>kk _ _ s' d
 ·obtain⟨n,hs,xs,run⟩:=r1 k left t v hl
  exact ii.tree run fun ν s' d=>kk _ _ s' d
theorem jQ{it:Addr}{m:Nat}{fs:List Env}(r:∀k:Nat,E4 fun(n hs:Nat) (xs:List (Nu->aJ w)) (mk:Nat)=>∀ν,aT mk (.ok false) [(it,ai k 0)] (gh w ν n none (some (m,fs)) (bE xt (.ref it) env) [(it,ai k 0)] hs xs))(k:Nat)(A:Around)(s:Shared)(Q:Bool->Shared->Prop)(ii:In w (some m) true fs A s [(it,ai k 0)])(kk:∀s',Done (T:=TW w) s s' [(it,ai k 0)] [(it,ai k 0)]->Q false s'):wpAny (Mo w) A (bE xt (.ref it) env) Q (fun _ _=>False) s:=by
 obtain⟨n,hs,xs,mk,run⟩:=r k
 exact ii.tree run fun ν s' d=>kk s' d
end
theorem part_of{t:Sem α}{L R K:Led}{k:Nat}{fs:List Env}{n hs m:Nat}{xs:List (Nu->aJ w)}{r:Nu->α}{Q:α->Shared->Prop}{E:Value->Shared->Prop}(hp:(L++R).Perm K)(ii:In w (some k) true fs A s K)
  (e:∀ν,aT m (.ok (r ν)) L (gh w ν n none (some (k,fs)) t L hs xs))(kk:∀ν s',Done (T:=TW w) s s' K K->Q (r ν) s'):wpAny (Mo w) A t Q E s:=
 (ii.part hp).tree e fun ν s' d=>kk ν s' ((d.at ii hp).perm hp.symm)
structure Ju where
 c1:Addr
 c2:Addr
 hl:Addr
 rp:Addr
 eh:Nat
 er:Nat
section
variable(ra:Nat->Addr)(o:Nat->Obj)
def pg:Led:=[(ra 0,o 0),(ra 1,o 1),(ra 2,o 2),(ra 3,o 3),(ra 4,o 4),(ra 5,o 5)]
theorem Bv{k:Nat}(h:k<6):∃l,((ra k,o k)::l).Perm (pg ra o):=by
 have hm:(ra k,o k)∈pg ra o:=by
  match k,h with
  |0,_=>exact .head _
  |1,_=>exact .tail _ (.head _)
  |2,_=>exact .tail _ (.tail _ (.head _))
  |3,_=>exact .tail _ (.tail _ (.tail _ (.head _)))
  |4,_=>exact .tail _ (.tail _ (.tail _ (.tail _ (.head _))))
  |5,_=>exact .tail _ (.tail _ (.tail _ (.tail _ (.tail _ (.head _)))))
 obtain⟨a,b,e⟩:=List.append_of_mem hm
 exact⟨a++b,by rw[e];exact List.perm_middle.symm⟩
end
def I9(N:NM)(V:Nat->Int)(u:Nat->Tok)(ra:Nat->Addr)(y:Ju):Led:=(y.c1,ay (.ref y.hl))::(y.c2,ay (.ref y.rp))::(y.hl,aj (l6 N.hv) y.eh)::(y.rp,aj (l6 fun k=>.ref (ra k)) y.er)::pg ra (iO V u)
def XM:Led->Option Ju
 |(c1,_)::(c2,_)::(hl,oh)::(rp,op)::_=>some ⟨c1,c2,hl,rp,bp oh,bp op⟩
 |_=>none
structure iB(V:Nat->Int):Prop where
 hn:∀k,k<6->gO (nL V k)
 hv:∀i,0<=V i/\V i<10^10
 hm:∀k,0<=mI V k/\mI V k<10^10
section
variable{N:NM}{V:Nat->Int}{u:Nat->Tok}{ra:Nat->Addr}(y:Ju)(loc:Addr)(o:Obj)
theorem Au:([(loc,o),(y.c1,ay (.ref y.hl)),(y.hl,aj (l6 N.hv) y.eh)]++((y.c2,ay (.ref y.rp))::(y.rp,aj (l6 fun k=>.ref (ra k)) y.er)::pg ra (iO V u))).Perm ((loc,o)::I9 N V u ra y):=
 List.Perm.cons _ (List.Perm.cons _ (List.Perm.swap _ _ _))
theorem As{k:Nat}(h:k<6):∃R,([(loc,o),(y.c2,ay (.ref y.rp)),(y.rp,aj (l6 fun k=>.ref (ra k)) y.er),(ra k,iO V u k)]++R).Perm ((loc,o)::I9 N V u ra y):=by
 obtain⟨l,hl⟩:=Bv ra (iO V u) h
 refine⟨(y.c1,ay (.ref y.hl))::(y.hl,aj (l6 N.hv) y.eh)::l,List.Perm.cons _ ?_⟩
 have p1:([(y.c2,ay (.ref y.rp)),(y.rp,aj (l6 fun k=>.ref (ra k)) y.er)]++((y.c1,ay (.ref y.hl))::(y.hl,aj (l6 N.hv) y.eh)::(ra k,iO V u k)::l)).Perm (I9 N V u ra y):=by
  refine List.Perm.trans (dy (l₁:=[_,_]) (l₂:=[_,_])|>.append_right ((ra k,iO V u k)::l)) ?_
  refine List.Perm.cons _ (List.Perm.trans (List.Perm.swap _ _ _) (List.Perm.cons _ (List.Perm.cons _ (List.Perm.cons _ hl))))
 refine List.Perm.trans ?_ p1
 exact List.Perm.cons _ (List.Perm.cons _ (lY (a:=(ra k,iO V u k)) (l₁:=[_,_]) (l₂:=l)).symm)
end
section
variable(N:NM)(V:Nat->Int)
theorem OS(hV:iB V)(u:Nat->Tok)(ra:Nat->Addr)(fr it loc:Addr)(y:Ju)(fs:List Env):wQ w 33 fs (bf (d7 w) [0]) (bf (d7 w) [1]) (ju (d7 w)) (v7 w fr loc y.c1 y.c2) it loc (I9 N V u ra y) N fun k=>u4 (V (6+k))where
 next:=jV (fun k left hl=>⟨_,_,_,pQ false false fr it loc y.c1 y.c2 k left hl none fs⟩) (fun k left t v hl=>⟨_,_,_,pQ false false fr it loc y.c1 y.c2 k left hl (some (t,v)) fs⟩)
 stop:=jQ fun k=>⟨_,_,_,_,Cb false false fr it loc y.c1 y.c2 k fs⟩
 key k t tk A s Q hk ii kk:=part_of (Au y loc _) ii (fun ν=>ky false false fr loc y.c1 y.c2 k fs ν y.hl (by lia) t tk N y.eh (fE _) (fF _ hk)) fun _=>kk
 val k t tk A s Q hk ii kk:=by
  obtain⟨R,hp⟩:=As (N:=N) (V:=V) (u:=u) (ra:=ra) y loc (bD w "k" t (.int k tk)) hk
  exact part_of hp ii (Yc fr loc y.c1 y.c2 y.rp (ra k) k (by lia) t tk V u y.er (l6 fun k=>.ref (ra k)) (fE _) (fF (fun k=>.ref (ra k)) hk) (ML (dg (k:Int))) (ML (fK (k:Int))) rfl (Ng k hk) (uz k) (uy k hk) (hV.hn k hk) (hV.hv (6+k)).1 (hV.hv (6+k)).2 fs) fun _=>kk _
theorem OR(hV:iB V)(u:Nat->Tok)(ra:Nat->Addr)(fr it loc:Addr)(y:Ju)(fs:List Env):wQ w 33 fs (bf (d8 w) [0]) (bf (d8 w) [1]) (ju (d8 w)) (v8 w fr loc y.c1 y.c2) it loc (I9 N V u ra y) N fun k=>mI V k where
 next:=jV (fun k left hl=>⟨_,_,_,pQ false true fr it loc y.c1 y.c2 k left hl none fs⟩) (fun k left t v hl=>⟨_,_,_,pQ false true fr it loc y.c1 y.c2 k left hl (some (t,v)) fs⟩)
 stop:=jQ fun k=>⟨_,_,_,_,Cb false true fr it loc y.c1 y.c2 k fs⟩
 key k t tk A s Q hk ii kk:=part_of (Au y loc _) ii (fun ν=>ky false true fr loc y.c1 y.c2 k fs ν y.hl (by lia) t tk N y.eh (fE _) (fF _ hk)) fun _=>kk
 val k t tk A s Q hk ii kk:=by
  obtain⟨R,hp⟩:=As (N:=N) (V:=V) (u:=u) (ra:=ra) y loc (bD w "k" t (.int k tk)) hk
  exact part_of hp ii (Yb fr loc y.c1 y.c2 y.rp (ra k) k (by lia) t tk V u y.er (l6 fun k=>.ref (ra k)) (fE _) (fF (fun k=>.ref (ra k)) hk) (ML (dg (k:Int))) (ML (fK (k:Int))) rfl (Ng k hk) (uz k) (uy k hk) (z8 (V (6+k)) (mI V k) k hk (hV.hm k).1 (hV.hm k).2) fs) fun _=>kk _
end
structure Jt where
 c1:Addr
 c2:Addr
 ml:Addr
 nl:Addr
 em:Nat
 en:Nat
section
variable(N:NM)(xs:List Value)(y:Jt)
def XK:Led:=[(y.c1,ay (.ref y.ml)),(y.c2,ay (.ref y.nl)),(y.ml,aj xs y.em),(y.nl,aj (l6 N.hv) y.en)]
def XJ:Led:=[(y.c1,ay (.ref y.nl)),(y.c2,ay (.ref y.ml)),(y.nl,aj (l6 N.hv) y.en),(y.ml,aj xs y.em)]
end
def ZW:Led->Option Jt
 |(c1,_)::(c2,_)::(ml,om)::(nl,on)::_=>some ⟨c1,c2,ml,nl,bp om,bp on⟩
 |_=>none
def ZV:Led->Option Jt
 |(c1,_)::(c2,_)::(nl,on)::(ml,om)::_=>some ⟨c1,c2,ml,nl,bp om,bp on⟩
 |_=>none
theorem yz(a b c d:α):[b,d,a,c].Perm [a,b,c,d]:=((List.Perm.swap a d [c]).cons b).trans ((List.Perm.swap a b [d,c]).trans (((List.Perm.swap c d []).cons b).cons a))
theorem OQ(N:NM)(V:Nat->Int)(tm:Nat->Tok)(fr it loc:Addr)(y:Jt)(fs:List Env):wQ w 33 fs (bf (d9 w) [0]) (bf (d9 w) [1]) (ju (d9 w)) (v9 w fr loc y.c1 y.c2) it loc (XK N (l6 (mV V tm)) y) N fun k=>mI V k where
 next:=jV (fun k left hl=>⟨_,_,_,pQ true false fr it loc y.c1 y.c2 k left hl none fs⟩) (fun k left t v hl=>⟨_,_,_,pQ true false fr it loc y.c1 y.c2 k left hl (some (t,v)) fs⟩)
 stop:=jQ fun k=>⟨_,_,_,_,Cb true false fr it loc y.c1 y.c2 k fs⟩
 key k t tk A s Q hk ii kk:=part_of (L:=[_,_,_]) (R:=[(y.c1,ay (.ref y.ml)),(y.ml,aj (l6 (mV V tm)) y.em)]) (List.Perm.cons _ (yz _ _ _ _)) ii (fun ν=>ky true false fr loc y.c1 y.c2 k fs ν y.nl (by lia) t tk N y.en (fE _) (fF _ hk)) fun _=>kk
 val k t tk A s Q hk ii kk:=part_of (L:=[_,_,_]) (R:=[(y.c2,ay (.ref y.nl)),(y.nl,aj (l6 N.hv) y.en)]) (List.Perm.cons _ (List.Perm.cons _ (List.Perm.swap _ _ _))) ii (X9 fr loc y.c1 y.c2 y.ml k (by lia) t tk y.em (l6 (mV V tm)) (mI V k) (tm k) (fE _) (fF (mV V tm) hk) fs) fun _=>kk _
section
variable(V:Nat->Int)(g:Nat->Tok)
theorem Em{k:Nat}(h:k<6):(aq (vL V) g 0)[(6+(k:Int)).toNat]? =some (.int (V (6+k)) (g (6+k))):=by
 match k,h with
 |0,_=>rfl
 |1,_=>rfl
 |2,_=>rfl
 |3,_=>rfl
 |4,_=>rfl
 |5,_=>rfl
theorem xi:(aq (vL V) g 0).length<1000000:=by rw[aP];show 18<1000000;decide
end
theorem OP(N:NM)(V:Nat->Int)(g:Nat->Tok)(fr it loc:Addr)(y:Jt)(fs:List Env):wQ w 33 fs (bf (dA w) [0]) (bf (dA w) [1]) (ju (dA w)) (vA w fr loc y.c1 y.c2) it loc (XJ N (aq (vL V) g 0) y) N fun k=>u4 (V (6+k))where
 next:=jV (fun k left hl=>⟨_,_,_,pQ true true fr it loc y.c1 y.c2 k left hl none fs⟩) (fun k left t v hl=>⟨_,_,_,pQ true true fr it loc y.c1 y.c2 k left hl (some (t,v)) fs⟩)
 stop:=jQ fun k=>⟨_,_,_,_,Cb true true fr it loc y.c1 y.c2 k fs⟩
 key k t tk A s Q hk ii kk:=part_of (L:=[_,_,_]) (R:=[(y.c2,ay (.ref y.ml)),(y.ml,aj (aq (vL V) g 0) y.em)]) (List.Perm.cons _ (List.Perm.cons _ (List.Perm.swap _ _ _))) ii (fun ν=>ky true true fr loc y.c1 y.c2 k fs ν y.nl (by lia) t tk N y.en (fE _) (fF _ hk)) fun _=>kk
 val k t tk A s Q hk ii kk:=by
  have kk:∀x s',_->Q (.int (u4 (V (6+k))) x) s':=kk
  cases hb:(Int.fmod (V (6+k)) 5 !=0)with
  |false=>
   have e:u4 (V (6+k))=0:=by unfold u4;rw[if_neg (by rw[hb];exact Bool.false_ne_true)]
   rw[e]at kk
   exact part_of (L:=[_,_,_]) (R:=[(y.c1,ay (.ref y.nl)),(y.nl,aj (l6 N.hv) y.en)]) (List.Perm.cons _ (yz _ _ _ _)) ii (QH fr loc y.c1 y.c2 y.ml k (by lia) t tk (by lia) y.em (aq (vL V) g 0) (V (6+k)) (g (6+k)) (xi V g) (Em V g hk) hb fs) fun _=>kk _
  |true=>
   have e:u4 (V (6+k))=V (6+k):=by unfold u4;rw[if_pos hb]
   rw[e]at kk
   exact part_of (L:=[_,_,_]) (R:=[(y.c1,ay (.ref y.nl)),(y.nl,aj (l6 N.hv) y.en)]) (List.Perm.cons _ (yz _ _ _ _)) ii (QG fr loc y.c1 y.c2 y.ml k (by lia) t tk (by lia) y.em (aq (vL V) g 0) (V (6+k)) (g (6+k)) (xi V g) (Em V g hk) hb fs) fun _=>kk _
abbrev zI(V:Nat->Int)(k:Nat):Int:=u4 (V (6+k))
def i6(n:Nat->Int):List Int:=[n 0,n 1,n 2,n 3,n 4,n 5]
section
variable(N:NM)(V:Nat->Int)(hV:iB V)(u:Nat->Tok)(ra:Nat->Addr)
def Rx:aJ w:=(J0 (d7 w) (fun fr loc (y:Ju)=>v7 w fr loc y.c1 y.c2) N (i6 (zI V)) (I9 N V u ra) XM).sm (oy (d7 w) (by kernel_rfl) _ N (zI V) _ _ fun fr it loc y fs=>OS N V hV u ra fr it loc y fs)
def Rw:aJ w:=(J0 (d8 w) (fun fr loc (y:Ju)=>v8 w fr loc y.c1 y.c2) N (i6 (mI V)) (I9 N V u ra) XM).sm (oy (d8 w) (by kernel_rfl) _ N (mI V) _ _ fun fr it loc y fs=>OR N V hV u ra fr it loc y fs)
end
section
variable(N:NM)(V:Nat->Int)
def Rv(tm:Nat->Tok):aJ w:=(J0 (d9 w) (fun fr loc (y:Jt)=>v9 w fr loc y.c1 y.c2) N (i6 (mI V)) (XK N (l6 (mV V tm))) ZW).sm (oy (d9 w) (by kernel_rfl) _ N (mI V) _ _ fun fr it loc y fs=>OQ N V tm fr it loc y fs)
def Ru(g:Nat->Tok):aJ w:=(J0 (dA w) (fun fr loc (y:Jt)=>vA w fr loc y.c1 y.c2) N (i6 (zI V)) (XJ N (aq (vL V) g 0)) ZV).sm (oy (dA w) (by kernel_rfl) _ N (zI V) _ _ fun fr it loc y fs=>OP N V g fr it loc y fs)
end
section
variable(w:World)
noncomputable abbrev Pq:Expr:=valOf (aK w 323 [6])
noncomputable abbrev RE(fr loc c1 c2:Addr):Env:=compEnv (dj w 323 fr) loc [(S "values",c2),(S "heads",c1)] (Pq w)
noncomputable abbrev KR(fr it acc loc c1 c2:Addr):Code:=.compLoop (Pq w) 0 (.ref it) (.ref acc) (RE w fr loc c1 c2)
noncomputable abbrev Ys(fr it acc loc c1 c2:Addr):Code:=.compStart (Pq w) 0 (.ref it) (.ref acc) (RE w fr loc c1 c2)
noncomputable abbrev W2:Expr:=bf (Pq w) [0,1]
noncomputable abbrev P4(fr it acc loc c1:Addr):Code:=.compStart (W2 w) 0 (.ref it) (.ref acc) (compEnv (RE w fr 0 0 0) loc [(S "heads",c1)] (W2 w))
end
def nI(ps:List Nat):List Int:=ps.map fun(p:Nat)=>(p:Int)
section
variable(fr it acc loc l hl c1:Addr)(N:NM)(g:Nat->Tok)(eh:Nat)
theorem Tz(hz:(l6 N.hv).length<1000000)(fs:List Env)(ν:Nu):
  aT 21850 (.ok .next) [(it,⟨(.type "list_iterator"),none,(.fields #[.none,(.int 0 0)]),#[]⟩),(acc,ah #[] 0),(loc,U #[] 0),(l,aj (aq (nI ([]:List Nat)) g 0) 0),(c1,ay (.ref hl)),(hl,aj (l6 N.hv) eh)]
   (runC w ν 45 none (some (20,fs)) (P4 w fr it acc loc c1) [(it,aZ (.ref l) 0),(acc,ah #[] 0),(loc,U #[] 0),(l,aj (aq (nI ([]:List Nat)) g 0) 0),(c1,ay (.ref hl)),(hl,aj (l6 N.hv) eh)] 294669166837825 [K (ak)]):=by kernel_rfl
theorem Tx(hz:(l6 N.hv).length<1000000)(p0:Nat)(a0:0<=(p0:Int))(b0:(l6 N.hv)[(p0:Int).toNat]? =some (N.hv p0))(fs:List Env)(ν:Nu):
  aT 21850 (.ok .next) [(it,⟨(.type "list_iterator"),none,(.fields #[.none,(.int 1 0)]),#[]⟩),(acc,ah #[(.str (N.nm p0) (N.tk p0))] 1),(loc,U #[aH w "need" ((ν 1).fst 0) (.int ↑p0 (g 0))] 1),(l,aj (aq (nI ([p0]:List Nat)) g 0) 0),(c1,ay (.ref hl)),(hl,aj (l6 N.hv) eh)]
   (runC w ν 72 none (some (20,fs)) (P4 w fr it acc loc c1) [(it,aZ (.ref l) 0),(acc,ah #[] 0),(loc,U #[] 0),(l,aj (aq (nI ([p0]:List Nat)) g 0) 0),(c1,ay (.ref hl)),(hl,aj (l6 N.hv) eh)] 0x10c00030400820820050021861831430c00c0003040041 [K (ak),K (bQ (l6 N.hv) (p0:Int) (N.hv p0) a0 hz b0),K (ak)]):=by kernel_rfl
theorem Tw(hz:(l6 N.hv).length<1000000)(p0 p1:Nat)(a0:0<=(p0:Int))(b0:(l6 N.hv)[(p0:Int).toNat]? =some (N.hv p0))(a1:0<=(p1:Int))(b1:(l6 N.hv)[(p1:Int).toNat]? =some (N.hv p1))(fs:List Env)(ν:Nu):
  aT 21850 (.ok .next) [(it,⟨(.type "list_iterator"),none,(.fields #[.none,(.int 2 0)]),#[]⟩),(acc,ah #[(.str (N.nm p0) (N.tk p0)),(.str (N.nm p1) (N.tk p1))] 2),(loc,U #[aH w "need" ((ν 1).fst 0) (.int ↑p1 (g (Nat.succ 0)))] 1),(l,aj (aq (nI ([p0,p1]:List Nat)) g 0) 0),(c1,ay (.ref hl)),(hl,aj (l6 N.hv) eh)]
   (runC w ν 99 none (some (20,fs)) (P4 w fr it acc loc c1) [(it,aZ (.ref l) 0),(acc,ah #[] 0),(loc,U #[] 0),(l,aj (aq (nI ([p0,p1]:List Nat)) g 0) 0),(c1,ay (.ref hl)),(hl,aj (l6 N.hv) eh)] 0x10c00030400820820050021861831430c00c00030400820820050021861831430c00c0003040041 [K (ak),K (bQ (l6 N.hv) (p0:Int) (N.hv p0) a0 hz b0),K (ak),K (bQ (l6 N.hv) (p1:Int) (N.hv p1) a1 hz b1),K (ak)]):=by kernel_rfl
end
structure HdX where
 x:CX
 l:Addr
 c1:Addr
 hl:Addr
 eh:Nat
def YO(w:World)(ps:List Nat)(m:Mu):Obj:=match ps with
 |[]=>U #[] 0
 |_::_=>bD w "need" (m.1 0) ((m.2 0).headD .none)
section
variable(N:NM)(ps:List Nat)
def W0(g:Nat->Tok):aD w HdX where
 lv:=some 20
 bare:=true
 find c pre _:=(gK c).map fun x=>⟨x,(az pre 3).1,(az pre 4).1,(az pre 5).1,bp (az pre 5).2⟩
 code y:=P4 w y.x.fr y.x.it y.x.acc y.x.loc y.c1
 pre y:=[(y.x.it,aZ (.ref y.l) 0),(y.x.acc,ah #[] 0),(y.x.loc,U #[] 0),(y.l,aj (aq (nI ps) g 0) 0),(y.c1,ay (.ref y.hl)),(y.hl,aj (l6 N.hv) y.eh)]
 r _ _:=.ok .next
 post y m:=[aZ .none ps.length,aj (ps.map N.hv) ps.length,YO w ps m,aj (aq (nI ps) g 0) 0,ay (.ref y.hl),aj (l6 N.hv) y.eh]
theorem NJ(hl:ps.length<=2)(h6:∀p∈ps,p<6)(g:Nat->Tok):(W0 (w:=w) N ps g).Ok:=by
 intro y fs A s Rz ii _ kk
 match ps,hl,h6 with
 |[],_,_=>exact aU (rm:=some (_,fs)) (Tz y.x.fr y.x.it y.x.acc y.x.loc y.l y.hl y.c1 N g y.eh (fE _) fs) (ii.hh rfl) ii.hr ii.hf ii.hs fun ν s' d=>kk eQ s' rfl d
 |[a],_,h6=>exact aU (rm:=some (_,fs)) (Tx y.x.fr y.x.it y.x.acc y.x.loc y.l y.hl y.c1 N g y.eh (fE _) a (Int.natCast_nonneg a) (fF _ (h6 a (.head _))) fs) (ii.hh rfl) ii.hr ii.hf ii.hs fun ν s' d=>kk (fun _=>(ν 1).1 0,fun _=>[.int a (g 0)]) s' rfl d
 |[a,b],_,h6=>exact aU (rm:=some (_,fs)) (Tw y.x.fr y.x.it y.x.acc y.x.loc y.l y.hl y.c1 N g y.eh (fE _) a b (Int.natCast_nonneg a) (fF _ (h6 a (.head _))) (Int.natCast_nonneg b) (fF _ (h6 b (.tail _ (.head _)))) fs) (ii.hh rfl) ii.hr ii.hf ii.hs fun ν s' d=>kk (fun _=>(ν 1).1 0,fun _=>[.int b (g 1)]) s' rfl d
 |_::_::_::_,hl,_=>exact absurd hl (by simp)
def Rk(hl:ps.length<=2)(h6:∀p∈ps,p<6)(g:Nat->Tok):aJ w:=(W0 N ps g).sm (NJ N ps hl h6 g)
end
def Bs(v:Int)(k:Nat)(q:List Int)(hq:AM v k=q):aJ w:=(Fd v k q).sm (Cf v k q hq)
section
variable(N:NM)(P:Nat->List Nat)(a:Addr)(k:Nat)
def gg:aQ:=⟨a,N.pr k,(P k).map N.pr,0⟩
theorem KQ:au (gg N P a k)=(a,aj (N.hv k::(P k).map N.hv) 0):=by
 unfold au gg
 dsimp only
 rw[jl]
 rfl
end
structure Qq where
 fr:Addr
 it:Addr
 acc:Addr
 loc:Addr
 c1:Addr
 c2:Addr
 hl:Addr
 vl:Addr
 eh:Nat
 ev:Nat
def Pp(Y:Qq)(N:NM)(V:Nat->Int)(g:Nat->Tok)(io lo:Obj)(zs:List Value)(ea:Nat):Led:=[(Y.it,io),(Y.acc,aj zs ea),(Y.loc,lo),(Y.c1,ay (.ref Y.hl)),(Y.c2,ay (.ref Y.vl)),(Y.hl,aj (l6 N.hv) Y.eh),(Y.vl,aj (aq (vL V) g 0) Y.ev)]
section
variable(Y:Qq)(N:NM)(V:Nat->Int)(g:Nat->Tok)(ps:List Nat)(ea k:Nat)(left:Int)(JQ:0<left)(k0:0<=(k:Int))(zs:List Value)(hz:zs.length<1000000)(h1:(l6 N.hv).length<1000000)(h2:(l6 N.hv)[(k:Int).toNat]? =some (N.hv k))(h3:(aq (vL V) g 0).length<1000000)(h4:(aq (vL V) g 0)[(k:Int).toNat]? =some (.int (V k) (g k)))(hq:AM (V k) k=nI ps)(l2:ps.length<=2)(Wo:∀p∈ps,p<6)(h5:[N.hv k].length+(ps.map N.hv).length<1000000)(lo:Option (Tok×Value))(fs:List Env)(ν:Nu)
def RF:=bW w ν 105 none (some (33,fs)) (KR w Y.fr Y.it Y.acc Y.loc Y.c1 Y.c2) (Pp Y N V g (ai k left) (y7 w "k" lo) zs ea)
 (match ps with
  |[]=>0x1c00811000c508504a2030010801c10400410400401070022082041801400861860c40c3000002040
  |_::_=>0x1c00811000c508504104a2030010801c10400410400401070022082041801400861860c40c3000002040)
 [K (fR k left JQ),K (bQ (l6 N.hv) k (N.hv k) k0 h1 h2),K (bQ (aq (vL V) g 0) k (.int (V k) (g k)) k0 h3 h4),K (Bs (V k) k (nI ps) hq),(fun ν=>Rk N ps l2 Wo (fun i=>(pr (ν 5)).1 (i+1))),K (ro [N.hv k] (ps.map N.hv) h5),K (av zs hz)]
theorem KP:aT 22370985 (.ok (.again (KR w Y.fr Y.it Y.acc Y.loc Y.c1 Y.c2))) (((pr (ν 10)).1 0,aj (N.hv k::ps.map N.hv) 0)::Pp Y N V g (ai (k+1) (left-1)) (bD w "k" (Fg ((ν 1).1 0) lo) (.int k ((pr (ν 0)).1 0))) (zs++[.ref ((pr (ν 10)).1 0)]) (ea+1))
  (RF (w:=w) Y N V g ps ea k left JQ k0 zs hz h1 h2 h3 h4 hq l2 Wo h5 lo fs ν):=by
 cases ps<;>cases lo<;>kernel_rfl
end
theorem RD(fr it acc loc c1 c2:Addr)(k:Nat)(fs:List Env)(ν:Nu):
  aT 26 (.ok .next) [(it,ai k 0)]
   (runC w ν 45 none (some (33,fs)) (KR w fr it acc loc c1 c2) [(it,ai k 0)] 1073750080 [K (iI k 0 (Int.le_refl 0))]):=by kernel_rfl
structure sG(V:Nat->Int)(P:Nat->List Nat):Prop where
 eq:∀k,k<6->AM (V k) k=nI (P k)
 len:∀k,(P k).length<=2
 low:∀k,∀p∈P k,p<6
theorem Gr(V:Nat->Int)(g:Nat->Tok){k:Nat}(h:k<6):(aq (vL V) g 0)[(k:Int).toNat]? =some (.int (V k) (g k)):=
 PJ (P:=fun k=>(aq (vL V) g 0)[(k:Int).toNat]? =some (.int (V k) (g k))) h rfl rfl rfl rfl rfl rfl
def Jz(N:NM)(P:Nat->List Nat)(ad:Nat->Addr)(k:Nat):Led:=(List.range k).map fun i=>au (gg N P (ad i) i)
section
variable(ad:Nat->Addr)(k:Nat)
def Hc:List Value:=(List.range k).map fun i=>.ref (ad i)
theorem yj(a:Addr):Hc ad k++[.ref a]=Hc (fun i=>if i=k then a else ad i) (k+1):=by
 unfold Hc
 rw[List.range_succ,List.map_append,List.map_singleton]
 dsimp only
 rw[if_pos rfl]
 congr 1
 exact List.map_congr_left fun i hi=>by rw[if_neg (Nat.ne_of_lt (List.mem_range.mp hi))]
end
theorem yi(N:NM)(P:Nat->List Nat)(ad:Nat->Addr)(k:Nat)(a:Addr):Jz N P ad k++[au (gg N P a k)]=Jz N P (fun i=>if i=k then a else ad i) (k+1):=by
 unfold Jz
 rw[List.range_succ,List.map_append,List.map_singleton]
 dsimp only
 rw[if_pos rfl]
 congr 1
 exact List.map_congr_left fun i hi=>by rw[if_neg (Nat.ne_of_lt (List.mem_range.mp hi))]
structure Qr where
 ad:Nat->Addr
 ea:Nat
 t:Tok
 v:Value
section
variable(Y:Qq)(N:NM)(V:Nat->Int)(g:Nat->Tok)(P:Nat->List Nat)(fs:List Env)
def EL(w:World)(j:Nat)(x:Qr):Led:=Jz N P x.ad j++Pp Y N V g (ai (j:Nat) (6-j:Nat)) (y7 w "k" (oH (fun _=>x.v) x.t j)) (Hc x.ad j) x.ea
theorem BE(hP:sG V P)(k:Nat)(x:Qr)(hk:k<6):∃z:Nu->Qr,(∀_:Nu,True)/\eB w 33 fs (KR w Y.fr Y.it Y.acc Y.loc Y.c1 Y.c2) (EL Y N V g P w k x) fun ν=>EL Y N V g P w (k+1) (z ν):=by
 have hz:(Hc x.ad k).length<1000000:=by unfold Hc;rw[List.length_map,List.length_range];lia
 have h5:[N.hv k].length+((P k).map N.hv).length<1000000:=by
  have:=hP.len k
  rw[List.length_map,List.length_singleton];lia
 have z:=eB.of (w:=w) (by kernel_rfl) fun ν=>KP Y N V g (P k) x.ea k (6-k:Nat) (by lia) (Int.natCast_nonneg k) (Hc x.ad k) hz (fE _) (fF _ hk) (xi V g) (Gr V g hk) (hP.eq k hk) (hP.len k) (hP.low k) h5 (oH (fun _=>x.v) x.t k) fs ν
 refine⟨fun ν=>⟨fun i=>if i=k then(pr (ν 10)).1 0 else x.ad i,x.ea+1,Fg ((ν 1).1 0) (oH (fun _=>x.v) x.t k),.int k ((pr (ν 0)).1 0)⟩,fun _=>trivial,(eB.at dy z).sw (.refl _) fun ν=> ?_⟩
 unfold EL
 dsimp only
 rw[<-yi,<-yj,KQ,List.append_assoc,show((6-(k+1):Nat):Int)=((6-k:Nat):Int)-1 by lia]
 exact dy
theorem BF(hP:sG V P){Q:Result->Shared->Prop}{x:Qr}(ii:In w (some 33) true fs A s (EL Y N V g P w 0 x))
  (kk:∀u s',Done (T:=TW w) s s' (EL Y N V g P w 0 x) (EL Y N V g P w 6 u)->Q (.ok .next) s'):codeAny (Mo w) A (KR w Y.fr Y.it Y.acc Y.loc Y.c1 Y.c2) Q s:=
 forL (N:=6) (L:=EL Y N V g P w) (I:=fun _ _=>True) (E:=EL Y N V g P w 6) (fun j u hj _=>BE Y N V g P fs hP j u hj)
  (fun u _=>by
   have z:=ng.of (w:=w) (k:=33) fun ν=>RD Y.fr Y.it Y.acc Y.loc Y.c1 Y.c2 6 fs ν
   exact z.sw (lY (l₁:=Jz N P u.ad 6)).symm (lY (l₁:=Jz N P u.ad 6)).symm) 6 0 x s Q rfl trivial ii fun u s' _ d=>kk u s' d
end
structure Vr where
 x:CX
 c1:Addr
 c2:Addr
 hl:Addr
 vl:Addr
 eh:Nat
 ev:Nat
def Vr.Y(y:Vr):Qq:=⟨y.x.fr,y.x.it,y.x.acc,y.x.loc,y.c1,y.c2,y.hl,y.vl,y.eh,y.ev⟩
section
variable(N:NM)(V:Nat->Int)(g:Nat->Tok)(P:Nat->List Nat)
def VL:aD w Vr where
 lv:=some 33
 bare:=true
 find c pre _:=match gK c with
  |some x=>some ⟨x,(az pre 3).1,(az pre 4).1,(az pre 5).1,(az pre 6).1,cK (az pre 5).2,cK (az pre 6).2⟩
  |none=>none
 code y:=Ys w y.x.fr y.x.it y.x.acc y.x.loc y.c1 y.c2
 pre y:=Pp y.Y N V g (ai 0 6) (U #[] 0) [] 0
 r _ _:=.ok .next
 post y m:=[ai 6 0,ah #[.ref (m.1 3),.ref (m.1 4),.ref (m.1 5),.ref (m.1 6),.ref (m.1 7),.ref (m.1 8)] (m.1 0),bD w "k" (m.1 1) ((m.2 0).headD .none),ay (.ref y.hl),ay (.ref y.vl),aj (l6 N.hv) y.eh,aj (aq (vL V) g 0) y.ev]
 new _ m:=[au (gg N P (m.1 3) 0),au (gg N P (m.1 4) 1),au (gg N P (m.1 5) 2),au (gg N P (m.1 6) 3),au (gg N P (m.1 7) 4),au (gg N P (m.1 8) 5)]
theorem Hb(hP:sG V P):(VL (w:=w) N V g P).Ok:=by
 intro y fs A s Rz ii _ kk
 have ho:s.heap.get? y.x.it=some (ai 0 6):=ii.hs.at (.head _) (aa rfl)
 refine bO (by kernel_rfl) ?_ fun E=>cM (n:="range_iterator") rfl ⟨_,ho,rfl⟩
 exact BF y.Y N V g P fs hP (x:=⟨fun _=>0,0,0,.none⟩) ii fun u s' d=>kk (fun i=>match i with|0=>u.ea|1=>u.t|2=>0|i+3=>u.ad i,fun _=>[u.v]) s' rfl (d.perm (dy (l₁:=[_,_,_,_,_,_,_]) (l₂:=[_,_,_,_,_,_])))
def Q7(hP:sG V P):aJ w:=(VL N V g P).sm (Hb N V g P hP)
end
structure Vt where
 x:CX
 c1:Addr
 vl:Addr
 ev:Nat
def Ww(c:Code)(pre:Led):Option Vt:=match pre,gK c with
 |[_,_,_,(c1,_),(vl,o)],some x=>some ⟨x,c1,vl,bp o⟩
 |_,_=>none
def Wv(V:Nat->Int)(g:Nat->Tok):aD w Vt where
 lv:=some 34
 bare:=true
 find c pre _:=Ww c pre
 code y:=AN w (valOf (aK w 323 [1])) y.x.fr y.x.it y.x.acc y.x.loc [(S "values",y.c1)]
 pre y:=[(y.x.it,ai 0 6),(y.x.acc,ah #[] 0),(y.x.loc,U #[] 0),(y.c1,ay (.ref y.vl)),(y.vl,aj (aq (vL V) g 0) y.ev)]
 r _ _:=.ok .next
 post y m:=[ai 6 0,aj (l6 (nV V m.1)) 6,bD w "k" (m.1 6) (.int 5 (m.1 7)),ay (.ref y.vl),aj (aq (vL V) g 0) y.ev]
def t8(ν:Nu):Nat->Tok:=kb [(pr (ν 4)).1 0,(pr (ν 9)).1 0,(pr (ν 14)).1 0,(pr (ν 19)).1 0,(pr (ν 24)).1 0,(pr (ν 29)).1 0,(ν 1).1 0,(ν 25).1 0]
section
variable(V:Nat->Int)(g:Nat->Tok)
theorem Nr:(Wv (w:=w) V g).Ok:=
 fun y fs A s Rz ii _ kk=>aU (rm:=some (_,fs)) (SF V g y.ev y.vl y.c1 y.x.fr y.x.it y.x.acc y.x.loc fs) (ii.hh rfl) ii.hr ii.hf ii.hs fun ν s' d=>kk (t8 ν,fun _=>[]) s' rfl d
def Wu:aD w Vt where
 lv:=some 34
 bare:=true
 find c pre _:=Ww c pre
 code y:=AN w (valOf (aK w 323 [2])) y.x.fr y.x.it y.x.acc y.x.loc [(S "values",y.c1)]
 pre y:=[(y.x.it,ai 0 6),(y.x.acc,ah #[] 0),(y.x.loc,U #[] 0),(y.c1,ay (.ref y.vl)),(y.vl,aj (aq (vL V) g 0) y.ev)]
 r _ _:=.ok .next
 post y m:=[ai 6 0,aj (l6 (mV V m.1)) 6,bD w "k" (m.1 6) (.int 5 (m.1 7)),ay (.ref y.vl),aj (aq (vL V) g 0) y.ev]
theorem Nq:(Wu (w:=w) V g).Ok:=
 fun y fs A s Rz ii _ kk=>aU (rm:=some (_,fs)) (SE V g y.ev y.vl y.c1 y.x.fr y.x.it y.x.acc y.x.loc fs) (ii.hh rfl) ii.hr ii.hf ii.hs fun ν s' d=>kk (t8 ν,fun _=>[]) s' rfl d
end
structure Qt where
 x:CX
 c1:Addr
 c2:Addr
 c3:Addr
 vl:Addr
 nl:Addr
 ml:Addr
 ev:Nat
 en:Nat
 em:Nat
def Wt(c:Code)(pre:Led):Option Qt:=match pre,gK c with
 |[_,_,_,(c1,_),(c2,_),(c3,_),(vl,ov),(nl,on),(ml,om)],some x=>some ⟨x,c1,c2,c3,vl,nl,ml,bp ov,bp on,bp om⟩
 |_,_=>none
section
variable(V:Nat->Int)
def PK(g tn tm:Nat->Tok)(y:Qt):Led:=[(y.c1,ay (.ref y.ml)),(y.c2,ay (.ref y.nl)),(y.c3,ay (.ref y.vl)),(y.vl,aj (aq (vL V) g 0) y.ev),(y.nl,aj (l6 (nV V tn)) y.en),(y.ml,aj (l6 (mV V tm)) y.em)]
def Ws(g tn tm:Nat->Tok):aD w Qt where
 lv:=some 34
 bare:=true
 find c pre _:=Wt c pre
 code y:=AN w (bf (valOf (aK w 323 [3])) [0]) y.x.fr y.x.it y.x.acc y.x.loc [(S "values",y.c3),(S "names",y.c2),(S "modes",y.c1)]
 pre y:=(y.x.it,ai 0 6)::(y.x.acc,ah #[] 0)::(y.x.loc,U #[] 0)::PK V g tn tm y
 r _ _:=.ok .next
 post y m:=ai 6 0::ah #[] 0::bD w "k" (m.1 6) (.int 5 (m.1 7))::(PK V g tn tm y).map (·.2)
theorem Np(hV:iB V)(g tn tm:Nat->Tok):(Ws (w:=w) V g tn tm).Ok:=
 fun y fs A s Rz ii _ kk=>aU (rm:=some (_,fs)) (SD V g tn tm y.ev y.en y.em y.vl y.nl y.ml y.c1 y.c2 y.c3 hV.hn hV.hv hV.hm y.x.fr y.x.it y.x.acc y.x.loc fs) (ii.hh rfl) ii.hr ii.hf ii.hs fun ν s' d=>kk (t8 ν,fun _=>[]) s' rfl d
def Wr(g tn tm:Nat->Tok):aD w Qt where
 lv:=some 34
 bare:=true
 find c pre _:=Wt c pre
 code y:=AN w (valOf (aK w 323 [4])) y.x.fr y.x.it y.x.acc y.x.loc [(S "values",y.c3),(S "names",y.c2),(S "modes",y.c1)]
 pre y:=(y.x.it,ai 0 6)::(y.x.acc,ah #[] 0)::(y.x.loc,U #[] 0)::PK V g tn tm y
 r _ _:=.ok .next
 post y m:=ai 6 0::aj (l6 fun k=>.ref (m.1 k)) 6::bD w "k" (m.1 6) (.int 5 (m.1 7))::(PK V g tn tm y).map (·.2)
 new _ m:=pg m.1 (iO V fun i=>m.1 (i+8))
end
def QW(ν:Nu):Nat->Tok:=kb [(pr (ν 4)).1 0,(pr (ν 9)).1 0,(pr (ν 14)).1 0,(pr (ν 19)).1 0,(pr (ν 24)).1 0,(pr (ν 29)).1 0,(ν 1).1 0,(ν 25).1 0,(pr (ν 4)).1 1,(pr (ν 4)).1 2,(pr (ν 4)).1 3,(pr (ν 9)).1 1,(pr (ν 9)).1 2,(pr (ν 9)).1 3,(pr (ν 14)).1 1,(pr (ν 14)).1 2,(pr (ν 14)).1 3,(pr (ν 19)).1 1,(pr (ν 19)).1 2,(pr (ν 19)).1 3,(pr (ν 24)).1 1,(pr (ν 24)).1 2,(pr (ν 24)).1 3,(pr (ν 29)).1 1,(pr (ν 29)).1 2,(pr (ν 29)).1 3]
theorem Nn(V:Nat->Int)(hV:iB V)(g tn tm:Nat->Tok):(Wr (w:=w) V g tn tm).Ok:=
 fun y fs A s Rz ii _ kk=>aU (rm:=some (_,fs)) (SA V g tn tm y.ev y.en y.em y.vl y.nl y.ml y.c1 y.c2 y.c3 hV.hn hV.hv hV.hm y.x.fr y.x.it y.x.acc y.x.loc fs) (ii.hh rfl) ii.hr ii.hf ii.hs fun ν s' d=>kk (QW ν,fun _=>[]) s' rfl (d.perm (by
  refine List.Perm.trans (dy (l₁:=[_,_,_,_,_,_,_,_,_]) (l₂:=pg (QW ν) (iO V fun i=>QW ν (i+8)))) ?_
  exact(List.reverse_perm [_,_,_,_,_,_]).symm.append_right _))
structure L5X where
 x:CX
 rp:Addr
 er:Nat
section
variable(V:Nat->Int)
def Wq(u:Nat->Tok)(ra:Nat->Addr):aD w L5X where
 lv:=some 34
 bare:=true
 find c pre _:=(gK c).map fun x=>⟨x,(az pre 3).1,bp (az pre 3).2⟩
 code y:=AN w (valOf (aK w 323 [5])) y.x.fr y.x.it y.x.acc y.x.loc []
 pre y:=(y.x.it,aZ (.ref y.rp) 0)::(y.x.acc,ah #[] 0)::(y.x.loc,U #[] 0)::(y.rp,aj (l6 fun k=>.ref (ra k)) y.er)::pg ra (iO V u)
 r _ _:=.ok .next
 post y m:=aZ .none 6::aj (l6 (nV V m.1)) 6::bD w "reply" (m.1 6) (.ref (ra 5))::aj (l6 fun k=>.ref (ra k)) y.er::(pg ra (iO V u)).map (·.2)
theorem Nm(hV:iB V)(u:Nat->Tok)(ra:Nat->Addr):(Wq (w:=w) V u ra).Ok:=
 fun y fs A s Rz ii _ kk=>aU (rm:=some (_,fs)) (Sz V hV.hn u y.x.fr y.x.it y.x.acc y.x.loc y.rp ra y.er fs) (ii.hh rfl) ii.hr ii.hf ii.hs fun ν s' d=>kk (kb [(pr (ν 3)).1 0,(pr (ν 7)).1 0,(pr (ν 11)).1 0,(pr (ν 15)).1 0,(pr (ν 19)).1 0,(pr (ν 23)).1 0,(ν 1).1 0],fun _=>[]) s' rfl d
def Ri(g:Nat->Tok):aJ w:=(Wv V g).sm (Nr V g)
def Rh(g:Nat->Tok):aJ w:=(Wu V g).sm (Nq V g)
def Rg(hV:iB V)(g tn tm:Nat->Tok):aJ w:=(Ws V g tn tm).sm (Np V hV g tn tm)
def Rf(hV:iB V)(g tn tm:Nat->Tok):aJ w:=(Wr V g tn tm).sm (Nn V hV g tn tm)
def Rd(hV:iB V)(u:Nat->Tok)(ra:Nat->Addr):aJ w:=(Wq V u ra).sm (Nm V hV u ra)
end
def aD.tl{X:Type}(P:aD w X)(L:Led):aD w X:={P with tail:=fun _=>L,rest:=fun x m=>P.rest x m++L}
theorem aD.Kk{X:Type}{P:aD w X}(hP:P.Ok)(h0:∀x,P.tail x=[])(L:Led):(P.tl L).Ok:=by
 intro x fs A s Rz ii ho kk
 have h1:Sat (TW w) s ((P.pre x++P.tail x)++L):=by rw[h0,List.append_nil];exact ii.hs
 refine hP x fs A s Rz ⟨ii.hr,ii.hf,ii.hh,h1.sub (jO _ _)⟩ ho fun μ s' q2 d=>kk μ s' q2 ?_
 have d2:=Done.frame h1 d
 rw[h0,List.append_nil]at d2
 have e:P.fin x μ++L=(P.tl L).fin x μ:=by
  unfold aD.fin aD.tl
  dsimp only
  rw[List.append_assoc,List.append_assoc]
 rw[e]at d2
 exact d2
def A7(ns:List Int)(g:Nat->Tok)(es:Nat)(q:List Int):aD w Addr where
 lv:=some 30
 bare:=true
 find c _ _:=some (gM (aN c 0))
 code y:=.call (.ref 251) ⟨[.ref y],[]⟩
 pre y:=[(y,aj (aq ns g 0) es)]
 r _ m:=.ok (.ret (.ref (m.1 0)))
 post _ _:=[aj (aq ns g 0) es]
 new _ m:=[(m.1 0,aj (aq q (fun i=>m.1 (i+2)) 0) (m.1 1))]
def ve(ns:List Int)(hn:ns.length<=63)(g:Nat->Tok)(es:Nat)(q:List Int)(hq:eI ns 18=q):aJ w:=(A7 ns g es q).sm (by subst hq;exact uX ns hn g es)
def nX(V:Nat->Int)(i:Nat):List Nat:=bif Nat.blt i 6 then nL V i else 0::List.replicate i 0
theorem ZS:∀k:Nat,k<6->dg (k:Int)=[48+k]
 |0,_=>by kernel_rfl
 |1,_=>by kernel_rfl
 |2,_=>by kernel_rfl
 |3,_=>by kernel_rfl
 |4,_=>by kernel_rfl
 |5,_=>by kernel_rfl
section
variable{V:Nat->Int}{i:Nat}
theorem Fe(h:i<6):nX V i=nL V i:=by
 unfold nX
 rw[show Nat.blt i 6=true from Nat.blt_eq.mpr h];rfl
theorem pR(h:¬i<6):nX V i=0::List.replicate i 0:=by
 unfold nX
 rw[show Nat.blt i 6=false from Bool.eq_false_iff.mpr fun e=>h (Nat.blt_eq.mp e)];rfl
theorem yW(h:i<6):∃l,nX V i=(48+i)::l:=by
 rw[Fe h]
 unfold nL Fc
 rw[ZS i h]
 exact⟨_,rfl⟩
end
theorem Jp{a b:List Nat}(h:ML a=ML b):a=b:=by
 rw[<-bl a,h,bl]
section
variable(V:Nat->Int)
theorem yV(i j:Nat)(h:ML (nX V i)=ML (nX V j)):i=j:=by
 have h:=Jp h
 by_cases hi:i<6
 ·obtain⟨a,ea⟩:=yW (V:=V) hi
  by_cases hj:j<6
  ·obtain⟨b,eb⟩:=yW (V:=V) hj
   rw[ea,eb]at h
   have:=(List.cons.inj h).1
   lia
  ·rw[ea,pR hj]at h
   have:=(List.cons.inj h).1
   lia
 ·by_cases hj:j<6
  ·obtain⟨b,eb⟩:=yW (V:=V) hj
   rw[eb,pR hi]at h
   have:=(List.cons.inj h).1
   lia
  ·rw[pR hi,pR hj]at h
   have:=congrArg List.length (List.cons.inj h).2
   rwa [List.length_replicate,List.length_replicate]at this
def gi(t:Nat->Tok):NM:=⟨fun i=>ML (nX V i),t,yV V⟩
def jw(f:Nat->Int)(x:Str):Int:=match(List.range 6).find? fun k=>decide (x=ML (nX V k))with
 |some k=>f k
 |none=>0
end
theorem Je(V f:Nat->Int){k:Nat}(h:k<6):jw V f (ML (nX V k))=f k:=by
 unfold jw
 have e:(List.range 6).find? (fun j=>decide (ML (nX V k)=ML (nX V j)))=some k:=by
  rw[List.find?_eq_some_iff_append]
  refine⟨iu rfl,List.range k,(List.range' (k+1) (5-k)),?_,fun a ha=> ?_⟩
  ·match k,h with
   |0,_=>rfl
   |1,_=>rfl
   |2,_=>rfl
   |3,_=>rfl
   |4,_=>rfl
   |5,_=>rfl
  ·have:=jL ha
   rw[decide_eq_false fun e=>by have:=yV V _ _ e;lia];rfl
 rw[e]
theorem Aw(V f:Nat->Int){a b:Int}(h:∀k,k<6->a<=f k/\f k<=b)(h0:a<=0/\0<=b)(x:Str):a<=jw V f x/\jw V f x<=b:=by
 unfold jw
 cases e:(List.range 6).find? fun k=>decide (x=ML (nX V k))with
 |none=>exact h0
 |some k=>exact h k (jL (List.mem_of_find?_eq_some e))
section
variable(V:Nat->Int)(P:Nat->List Nat)(t:Nat->Tok)(a:Nat->Addr)
abbrev dE(k:Nat):aQ:=gg (gi V t) P (a k) k
abbrev Bw:List aQ:=six (dE V P t a 0) (dE V P t a 1) (dE V P t a 2) (dE V P t a 3) (dE V P t a 4) (dE V P t a 5)
end
abbrev wH(w:World)(V:Nat->Int)(t:Nat->Tok)(n:Nat->Int)(g:Nat->Tok):Array DictEntry:=(cU w (gi V t) 0 (aq (i6 n) g 0)).toArray
def gP(P:Nat->List Nat):GG:=fc (fc (fc (fc (fc (fc C0 0 (P 0)) 1 (P 1)) 2 (P 2)) 3 (P 3)) 4 (P 4)) 5 (P 5)
theorem Il(V:Nat->Int)(P:Nat->List Nat)(t:Nat->Tok)(a:Nat->Addr):fM C0 (jC (dE V P t a 0) (dE V P t a 1) (dE V P t a 2) (dE V P t a 3) (dE V P t a 4) (dE V P t a 5) (P 0) (P 1) (P 2) (P 3) (P 4) (P 5))=gP P:=rfl
structure J4(w:World)(V:Nat->Int)(P:Nat->List Nat)(gf:GG)(xf:List Nat)(res:Option (List Nat))(b:Bool)(TT:(Nat->Tok)->List iy):Prop where
 ok:iB V
 nd:sG V P
 hX:∀t a u g h,oG w (dX (dE V P t a 0) (dE V P t a 1) (dE V P t a 2) (dE V P t a 3) (dE V P t a 4) (dE V P t a 5) (wH w V u (mI V) g) (wH w V u (zI V) h) (jw V (zI V)) (jw V (mI V)))
 hl:∀t a,∀r∈Bw V P t a,r.ys.length<=2
 hb:∀t a,(!(itR (Bw V P t a) 6).isEmpty)=b
 hT:∀t a,dT (jw V (zI V)) (jw V (mI V)) (jR (Bw V P t a) 6) (Bw V P t a) 7 [] []=TT t
 hx:∀t a,∀x∈jC (dE V P t a 0) (dE V P t a 1) (dE V P t a 2) (dE V P t a 3) (dE V P t a 4) (dE V P t a 5) (P 0) (P 1) (P 2) (P 3) (P 4) (P 5),qK (gi V t) x
 hg:gP P=gf
 hI:∀t g h,Gj w (gi V t) gf (wH w V t (mI V) g) (wH w V t (zI V) h) (jw V (zI V)) (jw V (mI V)) xf res
 hs:res.isSome=b
 hF:∀t,dx (gi V t) (jw V (zI V)) (jw V (mI V)) 7 gf xf 0 0 0=TT t
 st:∀t,O5 (TT t)
structure wO(P:Nat->List Nat):Prop where
 len:∀k,(P k).length<=2
 low:∀k,∀p∈P k,p<6
def gR(P:Nat->List Nat):Nat->List Nat
 |0=>[]
 |n+1=>(P n).foldl eE (eE (gR P n) n)
def ja(P:Nat->List Nat):Nat->Nat->List Nat
 |0,_=>[]
 |n+1,p=>ja P n p++List.replicate ((P n).count p) n
noncomputable def HJ(P:Nat->List Nat)(n i:Nat):Int:=if i<n then((P i).length:Int)else 0
theorem j0{l:List Nat}{i j:Nat}:j∈eE l i↔j∈l\/j=i:=by
 unfold eE
 split
 ·exact⟨.inl,fun h=>h.elim id fun e=>by subst e;assumption⟩
 ·rw[List.mem_append,List.mem_singleton]
theorem qk{j:Nat}:∀(ps l:List Nat),j∈ps.foldl eE l↔j∈l\/j∈ps
 |[],l=>⟨.inl,fun h=>h.elim id fun e=>nomatch e⟩
 |p::ps,l=>by
  rw[List.foldl_cons,qk ps,j0,List.mem_cons,or_assoc]
theorem k7:∀(ps:List Nat) {l:List Nat},l.Nodup->(ps.foldl eE l).Nodup
 |[],_,h=>h
 |p::ps,_,h=>k7 ps (qj h p)
theorem fW(P:Nat->List Nat):∀n,(gR P n).Nodup
 |0=>List.nodup_nil
 |n+1=>k7 _ (qj (fW P n) n)
theorem nP{P:Nat->List Nat}{j:Nat}:∀n,j∈gR P n↔j<n\/∃k,k<n/\j∈P k
 |0=>⟨fun h=>absurd h dS,fun h=>h.elim (fun h=>absurd h (i8 _)) fun⟨k,h,_⟩=>absurd h (i8 _)⟩
 |n+1=>by
  rw[gR,qk,j0,nP n]
  constructor
  ·rintro(((h|⟨k,h,q⟩)|h)|h)
   ·exact .inl (by lia)
   ·exact .inr ⟨k,by lia,q⟩
   ·exact .inl (by lia)
   ·exact .inr ⟨n,by lia,h⟩
  ·rintro(h|⟨k,h,q⟩)
   ·by_cases e:j=n
    ·exact .inl (.inr e)
    ·exact .inl (.inl (.inl (by lia)))
   ·by_cases e:k=n
    ·subst e;exact .inr q
    ·exact .inl (.inl (.inr ⟨k,by lia,q⟩))
theorem dq{P:Nat->List Nat}(h:wO P){j:Nat}:j∈gR P 6↔j<6:=by
 rw[nP]
 exact⟨fun q=>q.elim id fun⟨k,_,q⟩=>h.low k j q,.inl⟩
theorem eY{P:Nat->List Nat}{p s:Nat}:∀n,s∈ja P n p↔s<n/\p∈P s
 |0=>⟨fun h=>absurd h dS,fun h=>absurd h.1 (i8 _)⟩
 |n+1=>by
  rw[ja,List.mem_append,eY n,List.mem_replicate]
  constructor
  ·rintro(⟨h,q⟩|⟨h,rfl⟩)
   ·exact⟨by lia,q⟩
   ·exact⟨by lia,List.count_pos_iff.mp (Nat.pos_of_ne_zero h)⟩
  ·rintro⟨h,q⟩
   by_cases e:s=n
   ·subst e;exact .inr ⟨Nat.ne_of_gt (List.count_pos_iff.mpr q),rfl⟩
   ·exact .inl ⟨by lia,q⟩
theorem nu{P:Nat->List Nat}(h:wO P)(p:Nat):∀n,(ja P n p).length<=2*n
 |0=>bC 0
 |n+1=>by
  have h1:=nu h p n
  have h2:=bP (List.count_le_length (a:=p) (l:=P n)) (h.len n)
  rw[ja,List.length_append,List.length_replicate];lia
theorem eJ{f:Nat->α}{i:Nat}{a:α}(h:f i=a):aY f i a=f:=by subst h;exact nr f i
theorem pJ(i:Nat)(a:Nat->Int):∀(ps l:List Nat) (s:Nat->List Nat),(∀j,j∉l->a j=0/\s j=[])->ps.foldl (dW i) ⟨l,a,s⟩=⟨ps.foldl eE l,a,fun p=>s p++List.replicate (ps.count p) i⟩
 |[],l,s,_=>by simp
 |p::ps,l,s,h=>by
  have e:cb ⟨l,a,s⟩ p=⟨eE l p,a,s⟩:=by
   unfold cb eE
   by_cases q:p∈l
   ·simp only[if_pos q]
   ·simp only[if_neg q]
    obtain⟨h1,h2⟩:=h p q
    rw[eJ h1,eJ h2]
  rw[List.foldl_cons]
  have e2:dW i ⟨l,a,s⟩ p=⟨eE l p,a,aY s p (s p++[i])⟩:=by
   unfold dW
   rw[e]
  rw[e2,pJ i a ps]
  ·rw[List.foldl_cons]
   congr 1
   funext q
   by_cases e3:q=p
   ·subst e3
    rw[aC,List.count_cons_self,List.replicate_succ,List.append_assoc];rfl
   ·rw[aL _ _ e3,List.count_cons_of_ne (Ne.symm e3)]
  ·intro j hj
   rw[j0]at hj
   have:=h j fun q=>hj (.inl q)
   exact⟨this.1,by rw[aL _ _ fun q=>hj (.inr q)];exact this.2⟩
def gA(P:Nat->List Nat):Nat->GG
 |0=>C0
 |n+1=>fc (gA P n) n (P n)
theorem FH(P:Nat->List Nat):∀n,gA P n=⟨gR P n,HJ P n,ja P n⟩
 |0=>by
  have:HJ P 0=fun _=>0:=by funext i;exact if_neg (i8 i)
  rw[this];rfl
 |n+1=>by
  rw[gA,FH P n]
  have hw:∀j,j∉gR P n->HJ P n j=0/\ja P n j=[]:=by
   intro j hj
   have h1:=mt (nP n).mpr hj
   refine⟨if_neg fun q=>h1 (.inl q),List.eq_nil_iff_forall_not_mem.mpr fun s hs=> ?_⟩
   obtain⟨q1,q2⟩:=(eY n).mp hs
   exact h1 (.inr ⟨s,q1,q2⟩)
  have e:cb ⟨gR P n,HJ P n,ja P n⟩ n=⟨eE (gR P n) n,HJ P n,ja P n⟩:=by
   unfold cb eE
   by_cases q:n∈gR P n
   ·simp only[if_pos q]
   ·simp only[if_neg q]
    obtain⟨h1,h2⟩:=hw n q
    rw[eJ h1,eJ h2]
  unfold fc
  rw[e,pJ]
  ·show GG.mk _ _ _=GG.mk _ _ _
   congr 1
   funext j
   dsimp only
   unfold HJ
   by_cases q:j=n
   ·subst q
    rw[aC,if_neg (Nat.lt_irrefl j),if_pos (Nat.lt_succ_self j),Int.zero_add]
   ·rw[aL _ _ q]
    by_cases q2:j<n
    ·rw[if_pos q2,if_pos (by lia)]
    ·rw[if_neg q2,if_neg (by lia)]
  ·intro j hj
   rw[j0]at hj
   have:=hw j fun q=>hj (.inl q)
   exact⟨by rw[aL _ _ fun q=>hj (.inr q)];exact this.1,this.2⟩
theorem FG(P:Nat->List Nat):gP P=⟨gR P 6,HJ P 6,ja P 6⟩:=FH P 6
theorem uP(l:List Nat)(su:Nat->List Nat)(k:Nat):∀(c:Nat) (np:Nat->Int) (rl:List Nat),(c:Int)<=np k->
  (List.replicate c k).foldl fq (⟨l,np,su⟩,rl)=(⟨l,aY np k (np k-c),su⟩,rl++if c≠0/\np k=c then [k]else [])
 |0,np,rl,_=>by
  rw[eJ (by lia),if_neg fun h=>h.1 rfl,List.append_nil];rfl
 |c+1,np,rl,h=>by
  rw[List.replicate_succ,List.foldl_cons]
  have e:fq (⟨l,np,su⟩,rl) k=(⟨l,aY np k (np k-1),su⟩,if np k-1=0 then rl++[k]else rl):=rfl
  rw[e,uP l su k c _ _ (by rw[aC];lia),aC]
  have e1:aY (aY np k (np k-1)) k (np k-1-c)=aY np k (np k-(c+1:Nat)):=by
   funext j
   by_cases q:j=k
   ·subst q;rw[aC,aC];lia
   ·rw[aL _ _ q,aL _ _ q,aL _ _ q]
  rw[e1]
  congr 1
  by_cases q:np k-1=0
  ·rw[if_pos q,if_neg (by lia),if_pos ⟨by lia,by lia⟩,List.append_nil]
  ·rw[if_neg q]
   congr 1
   by_cases q2:np k=(c+1:Nat)
   ·rw[if_pos ⟨by lia,by lia⟩,if_pos ⟨by lia,q2⟩]
   ·rw[if_neg fun q3=>q2 (by lia),if_neg fun q3=>q2 q3.2]
section
variable(P:Nat->List Nat)(np:Nat->Int)
def tU(d n k:Nat):Int:=if k<n then np k-((P k).count d:Nat)else np k
def JH(d n:Nat):List Nat:=(List.range n).filter fun k=>decide ((P k).count d≠0/\np k=((P k).count d:Nat))
end
theorem uO(P:Nat->List Nat)(l:List Nat)(su:Nat->List Nat)(d:Nat)(np:Nat->Int)(rl:List Nat):∀n,(∀k,k<n->(((P k).count d:Nat):Int)≠0->((P k).count d:Nat)<=np k)->
  (ja P n d).foldl fq (⟨l,np,su⟩,rl)=(⟨l,tU P np d n,su⟩,rl++JH P np d n)
 |0,_=>by
  have:tU P np d 0=np:=by funext k;exact if_neg (i8 k)
  rw[this]
  exact congrArg (Prod.mk _) (List.append_nil rl).symm
 |n+1,h=>by
  rw[ja,List.foldl_append,uO P l su d np rl n fun k hk=>h k (by lia)]
  have en:tU P np d n n=np n:=if_neg (Nat.lt_irrefl n)
  by_cases hc:(P n).count d=0
  ·rw[hc]
   have e1:tU P np d (n+1)=tU P np d n:=by
    funext k
    unfold tU
    by_cases q:k=n
    ·subst q;rw[if_pos (Nat.lt_succ_self k),if_neg (Nat.lt_irrefl k),hc];lia
    ·by_cases q2:k<n
     ·rw[if_pos q2,if_pos (by lia)]
     ·rw[if_neg q2,if_neg (by lia)]
   have e2:JH P np d (n+1)=JH P np d n:=by
    unfold JH
    rw[List.range_succ,List.filter_append]
    simp[hc]
   rw[e1,e2];rfl
  ·rw[uP _ _ n _ _ _ (by rw[en];exact h n (Nat.lt_succ_self n) (by lia)),en]
   have e1:aY (tU P np d n) n (np n-((P n).count d:Nat))=tU P np d (n+1):=by
    funext k
    by_cases q:k=n
    ·subst q;rw[aC];exact(if_pos (Nat.lt_succ_self k)).symm
    ·rw[aL _ _ q]
     unfold tU
     by_cases q2:k<n
     ·rw[if_pos q2,if_pos (by lia)]
     ·rw[if_neg q2,if_neg (by lia)]
   rw[e1,List.append_assoc]
   congr 2
   unfold JH
   rw[List.range_succ,List.filter_append]
   congr 1
   rw[List.filter_cons,List.filter_nil]
   by_cases q:(P n).count d≠0/\np n=((P n).count d:Nat)
   ·rw[if_pos q,decide_eq_true q,if_pos rfl]
   ·rw[if_neg q,decide_eq_false q,if_neg Bool.false_ne_true]
def Fb(D ps:List Nat):Nat:=ps.countP fun p=>decide (p∉D)
theorem jS{D:List Nat}{d:Nat}(hd:d∉D):∀ps:List Nat,Fb D ps=Fb (D++[d]) ps+ps.count d
 |[]=>rfl
 |p::ps=>by
  have ih:=jS hd ps
  unfold Fb at ih⊢
  rw[List.countP_cons,List.countP_cons,List.count_cons]
  by_cases e:p=d
  ·subst e
   rw[decide_eq_true hd,decide_eq_false (fun q=>q (List.mem_append_right _ (.head _))),beq_self_eq_true,if_pos rfl,if_neg Bool.false_ne_true]
   lia
  ·have e2:(p==d)=false:=beq_eq_false_iff_ne.mpr e
   rw[e2]
   have e3:decide (p∉D++[d])=decide (p∉D):=by
    apply decide_eq_decide.mpr
    rw[List.mem_append,List.mem_singleton]
    exact⟨fun q r=>q (.inl r),fun q r=>r.elim q e⟩
   rw[e3]
   simp only[Bool.false_eq_true,if_false]
   lia
theorem yO{D ps:List Nat}:Fb D ps=0↔∀p∈ps,p∈D:=by
 unfold Fb
 rw[List.countP_eq_zero]
 simp
def nw(P:Nat->List Nat)(D:List Nat)(d:Nat):List Nat:=(List.range 6).filter fun k=>decide (d∈P k/\∀p∈P k,p∈D++[d])
structure Inv(P:Nat->List Nat)(H D:List Nat)(g:GG):Prop where
 ns:g.ns=gR P 6
 su:g.su=ja P 6
 op:∀k,k<6->k∉H->g.np k=(Fb D (P k):Nat)
 ho:∀k,k∈H->k∉D->g.np k= -1
structure HD(P:Nat->List Nat)(H D:List Nat):Prop where
 cl:∀k,k∈H->∀p∈P k,p∈D
 sub:∀k,k∈D->k∈H
theorem p6{P:Nat->List Nat}(hP:wO P){H D D0:List Nat}{g:GG}{d:Nat}(rl:List Nat)(hi:Inv P H D g)(hh:HD P H D0)(hs:∀k,k∈D0->k∈D)(hd:d∈H)(hn:d∉D):
  ∃g',gb (g,rl) d=(g',rl++nw P D d)/\Inv P H (D++[d]) g':=by
 obtain⟨l,np,su⟩:=g
 obtain⟨h1,h2,h3,h4⟩:=hi
 dsimp only at h1 h2 h3 h4
 subst h1 h2
 have hH:∀k,d∈P k->k∉H:=fun k hk q=>hn (hs d (hh.cl k q d hk))
 have vW:d∉P d:=fun q=>hH d q hd
 have hc:∀k,(P k).count d≠0↔d∈P k:=fun k=>by
  rw[<-List.count_pos_iff];lia
 have WV:∀k,k<6->d∈P k->(aY np d (-2)) k=(Fb D (P k):Nat):=fun k hk q=>by
  rw[aL _ _ fun e=>by subst e;exact vW q]
  exact h3 k hk (hH k q)
 have run:=uO P (gR P 6) (ja P 6) d (aY np d (-2)) rl 6 fun k hk q=>by
  rw[WV k hk ((hc k).mp (by lia)),jS hn];lia
 refine⟨⟨gR P 6,tU P (aY np d (-2)) d 6,ja P 6⟩,run.trans ?_,rfl,rfl,fun k hk q=> ?_,fun k hk q=> ?_⟩
 ·congr 2
  unfold JH nw
  refine List.filter_congr fun k hk=> ?_
  apply decide_eq_decide.mpr
  rw[hc]
  refine and_congr_right fun q=> ?_
  rw[WV k (List.mem_range.mp hk) q,jS hn,<-yO]
  lia
 ·show tU P (aY np d (-2)) d 6 k=_
  unfold tU
  rw[if_pos hk,aL _ _ fun e=>by subst e;exact q hd,h3 k hk q,jS hn]
  lia
 ·show tU P (aY np d (-2)) d 6 k=_
  rw[List.mem_append,List.mem_singleton,not_or]at q
  have e0:(P k).count d=0:=Nat.eq_zero_of_not_pos fun z=>hH k (List.count_pos_iff.mp z) hk
  unfold tU
  rw[aL _ _ q.2,e0,h4 k hk q.1]
  split<;>rfl
def AL(P:Nat->List Nat):List Nat->List Nat->List Nat
 |_,[]=>[]
 |D,d::E=>nw P D d++AL P (D++[d]) E
theorem uu{P:Nat->List Nat}(hP:wO P){H D0:List Nat}(hh:HD P H D0):∀(E D:List Nat) (g:GG) (rl:List Nat),Inv P H D g->(∀k,k∈D0->k∈D)->(∀d∈E,d∈H/\d∉D)->E.Nodup->
  ∃g',E.foldl gb (g,rl)=(g',rl++AL P D E)/\Inv P H (D++E) g'
 |[],D,g,rl,hi,_,_,_=>⟨g,by rw[AL,List.append_nil];rfl,by rw[List.append_nil];exact hi⟩
 |d::E,D,g,rl,hi,hs,he,hn=>by
  obtain⟨n1,n2⟩:=jM hn
  obtain⟨g1,e1,i1⟩:=p6 hP rl hi hh hs (he d (.head _)).1 (he d (.head _)).2
  obtain⟨g2,e2,i2⟩:=uu hP hh E (D++[d]) g1 (rl++nw P D d) i1 (fun k hk=>jH _ (hs k hk)) (fun k hk=>⟨(he k (.tail _ hk)).1,fun q=>by
   rcases bw q with q|q
   ·exact(he k (.tail _ hk)).2 q
   ·rw[List.mem_singleton.mp q]at hk;exact n1 hk⟩) n2
  refine⟨g2,?_,?_⟩
  ·rw[List.foldl_cons,e1,e2,AL,List.append_assoc]
  ·rw[List.append_assoc]at i2;exact i2
theorem HF(P:Nat->List Nat)(D:List Nat)(d:Nat):(nw P D d).length<=6:=bP (List.length_filter_le _ _) (by rw[List.length_range];exact bC 6)
theorem V2{P:Nat->List Nat}(hP:wO P){H D0:List Nat}(hh:HD P H D0)(hl:∀k∈H,k<6):∀(E D:List Nat) (g:GG) (rl:List Nat),Inv P H D g->(∀k,k∈D0->k∈D)->(∀d∈E,d∈H/\d∉D)->E.Nodup->rl.length+6*E.length<=100->qT (gR P 6) E (g,rl)
 |[],_,_,_,_,_,_,_,_=>trivial
 |d::E,D,g,rl,hi,hs,he,hn,hr=>by
  obtain⟨n1,n2⟩:=jM hn
  obtain⟨h1,h2⟩:=he d (.head _)
  obtain⟨g1,e1,i1⟩:=p6 hP rl hi hh hs h1 h2
  rw[List.length_cons]at hr
  refine⟨(dq hP).mpr (hl d h1),hi.ho d h1 h2,fun s q=> ?_,?_,?_⟩
  ·have q:s∈g.su d:=q
   rw[hi.su]at q
   obtain⟨q1,q2⟩:=(eY 6).mp q
   exact⟨(dq hP).mpr q1,fun e=>by subst e;exact h2 (hs s (hh.cl s h1 s q2))⟩
  ·have:=nu hP d 6
   show rl.length+(g.su d).length<=1000
   rw[hi.su];lia
  ·rw[e1]
   have:=HF P D d
   exact V2 hP hh hl E (D++[d]) g1 _ i1 (fun k hk=>jH _ (hs k hk)) (fun k hk=>⟨(he k (.tail _ hk)).1,fun q=>by
    rcases bw q with q|q
    ·exact(he k (.tail _ hk)).2 q
    ·rw[List.mem_singleton.mp q]at hk;exact n1 hk⟩) n2 (by rw[List.length_append];lia)
def ix(l:List Nat)(j:Nat):Nat:=(l.findIdx? fun i=>decide (i=j)).getD 0
section
variable{l:List Nat}{j:Nat}
theorem CA(h:j∉l):(l.findIdx? fun i=>decide (i=j))=none:=by
 rw[List.findIdx?_eq_none_iff]
 exact fun i hi=>iw fun e=>by subst e;exact h hi
theorem Cz(h:j∈l):∃m,(l.findIdx? fun i=>decide (i=j))=some m/\m<l.length:=by
 cases e:(l.findIdx? fun i=>decide (i=j))with
 |none=>
  rw[List.findIdx?_eq_none_iff]at e
  exact absurd rfl (of_decide_eq_false (e j h))
 |some m=>exact⟨m,rfl,(List.findIdx?_eq_some_iff_findIdx_eq.mp e).1⟩
end
theorem HQ{D:List Nat}{p:Nat}(E:List Nat)(h:p∈D):ix (D++E) p<D.length:=by
 obtain⟨m,e,l⟩:=Cz h
 unfold ix
 rw[List.findIdx?_append,e]
 exact l
theorem nW{D:List Nat}{d:Nat}(E:List Nat)(h:d∉D):ix (D++d::E) d=D.length:=by
 unfold ix
 rw[List.findIdx?_append,CA h,List.findIdx?_cons,decide_eq_true rfl]
 simp
def kR(P:Nat->List Nat)(ns D:List Nat)(k:Nat):Int:=match P k with
 |[]=> -1*1000+ix ns k
 |y::ys=>rL ((y::ys).map (ix D))*1000+k
theorem HP{P:Nat->List Nat}(hP:wO P)(ns:List Nat){D:List Nat}{d k:Nat}(E:List Nat)(hd:d∉D)(hk:k∈nw P D d):kR P ns (D++d::E) k=(D.length:Int)*1000+k/\k<6:=by
 obtain⟨h6,hk⟩:=List.mem_filter.mp hk
 obtain⟨h1,h2⟩:=of_decide_eq_true hk
 have hl:=hP.len k
 refine⟨?_,jL h6⟩
 have en:=nW E hd
 have le:∀p,p∈D++[d]->ix (D++d::E) p<=D.length:=fun p hp=>by
  rcases bw hp with q|q
  ·exact AB (HQ _ q)
  ·rw[List.mem_singleton.mp q,en];exact bC _
 unfold kR
 match e:P k,hl with
 |[],_=>rw[e]at h1;cases h1
 |[a],_=>
  rw[e]at h1
  rw[List.mem_singleton.mp h1]at en
  show(ix (D++d::E) a:Int)*1000+k=_
  rw[<-List.mem_singleton.mp h1,nW E hd]
 |[a,b],_=>
  rw[e]at h1 h2
  have la:=le a (h2 a (.head _))
  have lb:=le b (h2 b (.tail _ (.head _)))
  show(bif decide (((ix (D++d::E) b:Nat):Int)>((ix (D++d::E) a:Nat):Int))then((ix (D++d::E) b:Nat):Int)else((ix (D++d::E) a:Nat):Int))*1000+k=_
  have AS:ix (D++d::E) a=D.length\/ix (D++d::E) b=D.length:=by
   rcases bu h1 with q|q
   ·exact .inl (by rw[<-q];exact en)
   ·exact .inr (by rw[<-List.mem_singleton.mp q];exact en)
  by_cases q:((ix (D++d::E) b:Nat):Int)>((ix (D++d::E) a:Nat):Int)
  ·rw[decide_eq_true q,cond_true];lia
  ·rw[decide_eq_false q,cond_false];lia
theorem kJ{P:Nat->List Nat}(hP:wO P)(ns:List Nat):∀(E D:List Nat),E.Nodup->(∀d∈E,d∉D)->
  (AL P D E).Pairwise (fun a b=>kR P ns (D++E) a<kR P ns (D++E) b)/\∀a∈AL P D E,(D.length:Int)*1000<=kR P ns (D++E) a
 |[],D,_,_=>⟨.nil,fun a h=>nomatch h⟩
 |d::E,D,hn,hd=>by
  obtain⟨n1,n2⟩:=jM hn
  have TA:=hd d (.head _)
  obtain⟨s1,s2⟩:=kJ hP ns E (D++[d]) n2 fun k hk q=>by
   rcases bw q with q|q
   ·exact hd k (.tail _ hk) q
   ·rw[List.mem_singleton.mp q]at hk;exact n1 hk
  rw[List.append_assoc,List.singleton_append]at s1 s2
  rw[List.length_append]at s2
  have kw:=fun a (h:a∈nw P D d)=>HP hP ns E TA h
  rw[AL]
  refine⟨List.pairwise_append.mpr ⟨?_,s1,fun a ha b hb=> ?_⟩,fun a ha=> ?_⟩
  ·have h0:(nw P D d).Pairwise (·<·):=List.Pairwise.filter _ List.pairwise_lt_range
   refine List.Pairwise.imp_of_mem (fun{a b} ha hb q=> ?_) h0
   rw[(kw a ha).1,(kw b hb).1];lia
  ·have:=s2 b hb
   obtain⟨e,l⟩:=kw a ha
   rw[e]
   have:([d]:List Nat).length=1:=rfl
   lia
  ·rcases bw ha with q|q
   ·rw[(kw a q).1];lia
   ·have:=s2 a q
    lia
theorem tQ{P:Nat->List Nat}{k:Nat}:∀(E D:List Nat),E.Nodup->(∀d∈E,d∉D)->(k∈AL P D E↔k<6/\(∀p∈P k,p∈D++E)/\¬∀p∈P k,p∈D)
 |[],D,_,_=>by
  rw[AL,List.append_nil]
  exact⟨fun h=>absurd h dS,fun h=>absurd h.2.1 h.2.2⟩
 |d::E,D,hn,hd=>by
  obtain⟨n1,n2⟩:=jM hn
  have TA:=hd d (.head _)
  have ih:=tQ (P:=P) (k:=k) E (D++[d]) n2 fun k hk q=>by
   rcases bw q with q|q
   ·exact hd k (.tail _ hk) q
   ·rw[List.mem_singleton.mp q]at hk;exact n1 hk
  rw[AL,List.mem_append,ih,List.append_assoc,List.singleton_append]
  unfold nw
  rw[List.mem_filter,List.mem_range,decide_eq_true_iff]
  constructor
  ·rintro(⟨h1,h2,h3⟩|⟨h1,h2,h3⟩)
   ·refine⟨h1,fun p hp=> ?_,fun q=>TA (q d h2)⟩
    rcases bw (h3 p hp)with z|z
    ·exact jH _ z
    ·rw[List.mem_singleton.mp z];exact jI _ (.head _)
   ·exact⟨h1,h2,fun q=>h3 fun p hp=>jH _ (q p hp)⟩
  ·rintro⟨h1,h2,h3⟩
   by_cases q:∀p∈P k,p∈D++[d]
   ·refine .inl ⟨h1,?_,q⟩
    apply Decidable.byContradiction
    intro z
    refine h3 fun p hp=> ?_
    rcases bw (q p hp)with y|y
    ·exact y
    ·rw[List.mem_singleton.mp y]at hp;exact absurd hp z
   ·exact .inr ⟨h1,h2,q⟩
def C5(P:Nat->List Nat)(H D:List Nat):List Nat:=(List.range 6).filter fun k=>decide (k∉H/\∀p∈P k,p∈D)
theorem oi{P:Nat->List Nat}{H D:List Nat}{k:Nat}:k∈C5 P H D↔k<6/\k∉H/\∀p∈P k,p∈D:=by
 unfold C5
 rw[List.mem_filter,List.mem_range,decide_eq_true_iff]
theorem yt{key:Nat->Int}:∀{l:List Nat},(l.Pairwise fun a b=>key a<key b)->∀a b,a∈l->b∈l->key a=key b->a=b
 |x::l,h,a,b,ha,hb,e=>by
  obtain⟨h1,h2⟩:=List.pairwise_cons.mp h
  rcases bu ha with ea|qa
  ·rcases bu hb with eb|qb
   ·rw[ea,eb]
   ·have:=h1 b qb;rw[ea]at e;lia
  ·rcases bu hb with eb|qb
   ·have:=h1 a qa;rw[eb]at e;lia
   ·exact yt h2 a b qa qb e
theorem p8{key:Nat->Int}{l m:List Nat}(hs:l.Pairwise fun a b=>key a<key b)(hp:∀a,a∈l↔a∈m)(hm:m.Nodup):gS key m=l:=by
 have hl:l.Nodup:=hs.imp fun{a b} q e=>by subst e;exact Int.lt_irrefl _ q
 have pm:l.Perm m:=(List.perm_ext_iff_of_nodup hl hm).mpr hp
 have inj:=yt hs
 refine(List.Perm.eq_of_pairwise (le:=fun a b=>key a<=key b) (fun a b ha hb h1 h2=>inj a b ha (pm.mem_iff.mpr ((cF key m).mem_iff.mp hb)) (Int.le_antisymm h1 h2)) (hs.imp fun{a b} q=>Int.le_of_lt q) (gI key m) (pm.trans (cF key m).symm)).symm
theorem vB:∀(l:List Nat),l.Nodup->l.Pairwise fun a b=>ix l a<ix l b:=by
 have gen:∀(E D:List Nat),(D++E).Nodup->E.Pairwise fun a b=>ix (D++E) a<ix (D++E) b:=by
  intro E
  induction E with
  |nil=>intro D _;exact .nil
  |cons d E ih=>
   intro D hn
   have WO:((D++[d])++E).Nodup:=by rw[List.append_assoc];exact hn
   have h:=ih (D++[d]) WO
   rw[List.append_assoc,List.singleton_append]at h
   refine .cons (fun b hb=> ?_) h
   have hd:d∉D:=fun q=>(List.nodup_append.mp hn).2.2 d q d (.head _) rfl
   have W5:b∉D++[d]:=fun q=>(List.nodup_append.mp WO).2.2 b q b hb rfl
   rw[nW E hd]
   obtain⟨E1,E2,rfl⟩:=List.append_of_mem hb
   have:D++d::(E1++b::E2)=(D++d::E1)++b::E2:=by simp
   rw[this,nW]
   ·rw[List.length_append,List.length_cons];lia
   ·intro q
    rw[this]at hn
    exact(List.nodup_append.mp hn).2.2 b q b (.head _) rfl
 exact fun l h=>gen l [] h
theorem tO(rs:List Nat):∀(g:GG) (k:Nat),(rs.foldl bT g).np k=if k∈rs then-1 else g.np k:=by
 induction rs with
 |nil=>intro g k;exact(if_neg dS).symm
 |cons r rs ih=>
  intro g k
  rw[List.foldl_cons,ih]
  by_cases q:k∈rs
  ·rw[if_pos q,if_pos (.tail _ q)]
  ·rw[if_neg q]
   show aY g.np r (-1) k=_
   by_cases e:k=r
   ·subst e;rw[aC,if_pos (.head _)]
   ·rw[aL _ _ e,if_neg fun z=>(List.mem_cons.mp z).elim e q]
theorem B4(rs:List Nat):∀g:GG,(rs.foldl bT g).su=g.su:=by
 induction rs with
 |nil=>intro g;rfl
 |cons r rs ih=>intro g;exact ih (bT g r)
structure TI(P:Nat->List Nat)(H D:List Nat)(g:GG)(rs:List Nat):Prop where
 hd:HD P H D
 nd:D.Nodup
 lh:∀k,k∈H->k<6
 ln:D.length<=H.length
 inv:Inv P H D g
 rs:rs=gS (kR P (gR P 6) D) (C5 P H D)
theorem TI.mem{P:Nat->List Nat}{H D rs:List Nat}{g:GG}(h:TI P H D g rs){k:Nat}:k∈rs↔k<6/\k∉H/\∀p∈P k,p∈D:=by
 rw[h.rs,(cF _ _).mem_iff,oi]
theorem i7(P:Nat->List Nat)(H D:List Nat):(C5 P H D).Nodup:=List.nodup_range.filter _
section
variable{P:Nat->List Nat}
theorem TI.YH{H D rs:List Nat}{g:GG}(h:TI P H D g rs):rs.Nodup:=by
 rw[h.rs];exact(cF _ _).nodup_iff.mpr (i7 P H D)
theorem TI.len{H D rs:List Nat}{g:GG}(h:TI P H D g rs):rs.length<=6:=by
 rw[h.rs,e6]
 exact bP (List.length_filter_le _ _) (by rw[List.length_range];exact bC 6)
theorem TI.turn(hP:wO P){H D rs:List Nat}{g:GG}(h:TI P H D g rs)(good:Nat->Bool):
  qT (gR P 6) (rs.filter good) (rs.foldl bT g,[])/\TI P (H++rs) (D++rs.filter good) ((rs.filter good).foldl gb (rs.foldl bT g,[])).1 ((rs.filter good).foldl gb (rs.foldl bT g,[])).2:=by
 have hm:=fun k=>h.mem (k:=k)
 have S8:∀k,k∈rs->k∉D:=fun k hk q=>((hm k).mp hk).2.1 (h.hd.sub k q)
 have hh:HD P (H++rs) D:=⟨fun k hk=>(bw hk).elim (h.hd.cl k) fun q=>((hm k).mp q).2.2,fun k hk=>jH _ (h.hd.sub k hk)⟩
 have hl:∀k∈H++rs,k<6:=fun k hk=>(bw hk).elim (h.lh k) fun q=>((hm k).mp q).1
 have i1:Inv P (H++rs) D (rs.foldl bT g):=by
  refine⟨(tN rs g).trans h.inv.ns,(B4 rs g).trans h.inv.su,fun k hk q=> ?_,fun k hk q=> ?_⟩
  ·rw[tO,if_neg fun z=>q (List.mem_append_right _ z)]
   exact h.inv.op k hk fun z=>q (jH _ z)
  ·rw[tO]
   by_cases z:k∈rs
   ·rw[if_pos z]
   ·rw[if_neg z]
    exact h.inv.ho k ((bw hk).resolve_right z) q
 have he:∀d∈rs.filter good,d∈H++rs/\d∉D:=fun d hd=>⟨jI _ (List.mem_filter.mp hd).1,S8 d (List.mem_filter.mp hd).1⟩
 have hn:(rs.filter good).Nodup:=h.YH.filter _
 have hlen:(rs.filter good).length<=rs.length:=List.length_filter_le _ _
 have:=h.len
 refine⟨V2 hP hh hl _ D _ [] i1 (fun _ q=>q) he hn (by rw[List.length_nil];lia),?_⟩
 obtain⟨g',e,i2⟩:=uu hP hh (rs.filter good) D _ [] i1 (fun _ q=>q) he hn
 rw[e,List.nil_append]
 have Y8:(D++rs.filter good).Nodup:=List.nodup_append.mpr ⟨h.nd,hn,fun a ha b hb e=>by subst e;exact(he a hb).2 ha⟩
 refine⟨⟨fun k hk p hp=>jH _ (hh.cl k hk p hp),fun k hk=>(bw hk).elim (hh.sub k) fun q=>(he k q).1⟩,Y8,hl,?_,i2,?_⟩
 ·have:=h.ln
  rw[List.length_append,List.length_append];lia
 ·refine(p8 (kJ hP (gR P 6) _ D hn fun d hd=>(he d hd).2).1 (fun k=> ?_) (i7 P _ _)).symm
  rw[tQ _ _ hn fun d hd=>(he d hd).2,oi]
  refine and_congr_right fun h6=> ?_
  constructor
  ·rintro⟨h1,h2⟩
   exact⟨fun q=>h2 (hh.cl k q),h1⟩
  ·rintro⟨h1,h2⟩
   refine⟨h2,fun q=>h1 ?_⟩
   by_cases z:k∈H
   ·exact jH _ z
   ·exact jI _ ((hm k).mpr ⟨h6,z,q⟩)
theorem TI.start(hP:wO P):TI P [] [] (gP P) ((gP P).ns.filter fun j=>decide ((gP P).np j=0)):=by
 have e:=FG P
 have hl:∀k,k<6->(gP P).np k=((P k).length:Int):=fun k hk=>by rw[e];exact if_pos hk
 have hz:∀k,k<6->((gP P).np k=0↔P k=[]):=fun k hk=>by
  rw[hl k hk,<-List.length_eq_zero_iff];lia
 refine⟨⟨fun _ q=>absurd q dS,fun _ q=>q⟩,List.nodup_nil,fun _ q=>absurd q dS,bC _,⟨by rw[e],by rw[e],fun k hk _=> ?_,fun _ q=>absurd q dS⟩,?_⟩
 ·rw[hl k hk]
  unfold Fb
  rw[List.countP_eq_length.mpr fun p _=>decide_eq_true List.not_mem_nil]
 ·have Dy:(gP P).ns=gR P 6:=by rw[e]
  rw[Dy]
  have CI:∀k,k∈(gR P 6).filter (fun j=>decide ((gP P).np j=0))↔k<6/\P k=[]:=fun k=>by
   rw[List.mem_filter,dq hP,decide_eq_true_iff]
   exact and_congr_right (hz k)
  refine(p8 ?_ (fun k=> ?_) (i7 P _ _)).symm
  ·refine List.Pairwise.imp_of_mem (fun{a b} ha hb q=> ?_) ((vB _ (fW P 6)).filter _)
   have ea:=((CI a).mp ha).2
   have eb:=((CI b).mp hb).2
   unfold kR
   rw[ea,eb]
   show(-1:Int)*1000+_< -1*1000+_
   lia
  ·rw[CI,oi]
   refine and_congr_right fun _=> ?_
   constructor
   ·intro q;rw[q];exact⟨dS,fun p hp=>absurd hp dS⟩
   ·rintro⟨_,q⟩;exact List.eq_nil_iff_forall_not_mem.mpr fun p hp=>absurd (q p hp) dS
end
theorem gL(N:NM)(k:Nat):∀l:List Nat,(l.map N.hv).any (b9 (N.nm k))=decide (k∈l)
 |[]=>rfl
 |j::l=>by
  rw[List.map_cons,List.any_cons,gL N k l]
  show(decide (N.nm j=N.nm k)||_)=_
  by_cases e:k=j
  ·subst e;rw[decide_eq_true rfl,decide_eq_true (show k∈k::l from .head _)];rfl
  ·rw[decide_eq_false fun q=>e (N.inj _ _ q).symm,Bool.false_or]
   exact decide_eq_decide.mpr ⟨.tail _,fun q=>(bu q).resolve_left e⟩
theorem zr(N:NM)(l:List Nat)(j:Nat):idxOf (l.map N.hv) (N.nm j)=ix l j:=by
 unfold idxOf ix
 rw[List.findIdx?_map]
 have e:(b9 (N.nm j))∘N.hv=fun i=>decide (i=j):=by
  funext i
  show decide (N.nm i=N.nm j)=_
  exact decide_eq_decide.mpr ⟨N.inj _ _,fun q=>by rw[q]⟩
 rw[e]
theorem yR(N:NM)(D:List Nat):∀ps:List Nat,(fC (D.map N.hv) (ps.map N.pr)).isEmpty=decide (∀p∈ps,p∈D)
 |[]=>(iu fun p hp=>absurd hp dS).symm
 |p::ps=>by
  have ih:=yR N D ps
  unfold fC at ih⊢
  rw[List.map_cons,List.filter_cons]
  show(List.map ao (if(!(D.map N.hv).any (b9 (N.nm p)))=true then _ else _)).isEmpty=_
  rw[gL]
  by_cases q:p∈D
  ·rw[decide_eq_true q,if_neg (by decide),ih]
   exact decide_eq_decide.mpr ⟨fun h r hr=>(bu hr).elim (fun e=>by rw[e];exact q) (h r),fun h r hr=>h r (.tail _ hr)⟩
  ·rw[decide_eq_false q,if_pos (by decide),decide_eq_false fun h=>q (h p (.head _))];rfl
section
variable(N:NM)(P:Nat->List Nat)(ns D:List Nat)(k:Nat)
def jF:Dat:=match P k with
 |[]=>(-1,ix ns k,N.pr k)
 |y::ys=>(rL ((y::ys).map (ix D)),k,N.pr k)
theorem Ar:fG (jF N P ns D k)=kR P ns D k:=by
 unfold jF kR fG
 cases P k<;>rfl
theorem D1:(jF N P ns D k).2.2=N.pr k:=by
 unfold jF
 cases P k<;>rfl
end
theorem zC(N:NM)(P:Nat->List Nat)(H D ns:List Nat)(a:Addr)(k:Nat):d6 (H.map N.hv) (D.map N.hv) (ns.map N.hv) k (gg N P a k)=if k∉H/\∀p∈P k,p∈D then [jF N P ns D k]else []:=by
 unfold d6 gg
 dsimp only
 show(match(H.map N.hv).any (b9 (N.nm k))|| !(fC (D.map N.hv) ((P k).map N.pr)).isEmpty with
  |true=>_
  |false=>_)=_
 rw[gL,yR]
 by_cases q1:k∈H
 ·rw[decide_eq_true q1,if_neg fun z=>z.1 q1];rfl
 ·rw[decide_eq_false q1]
  by_cases q2:∀p∈P k,p∈D
  ·rw[decide_eq_true q2,if_pos ⟨q1,q2⟩]
   show [match(P k).map N.pr with
    |[]=>_
    |y::ys=>_]=_
   unfold jF
   cases e:P k with
   |nil=>
    show [((-1:Int),idxOf (ns.map N.hv) (N.nm k),N.pr k)]=_
    rw[zr]
   |cons y ys=>
    show [(rL (((y::ys).map N.pr).map fun p=>idxOf (D.map N.hv) p.1),k,N.pr k)]=_
    rw[List.map_map]
    have:((fun p:Str×Tok=>idxOf (D.map N.hv) p.1)∘N.pr)=ix D:=by
     funext j;exact zr N D j
    rw[this]
  ·rw[decide_eq_false q2,if_neg fun z=>q2 z.2];rfl
theorem ql(N:NM)(P:Nat->List Nat)(H D ns:List Nat)(a:Nat->Addr):∀(n k:Nat),bY (H.map N.hv) (D.map N.hv) (ns.map N.hv) k ((List.range' k n).map fun i=>gg N P (a i) i)=((List.range' k n).filter fun i=>decide (i∉H/\∀p∈P i,p∈D)).map (jF N P ns D)
 |0,_=>rfl
 |n+1,k=>by
  rw[List.range'_succ,List.map_cons,bY,ql N P H D ns a n (k+1),zC,List.filter_cons]
  by_cases q:k∉H/\∀p∈P k,p∈D
  ·rw[if_pos q,if_pos (decide_eq_true q)];rfl
  ·rw[if_neg q,if_neg (by rw[decide_eq_false q];exact Bool.false_ne_true)];rfl
section
variable(N:NM)(P:Nat->List Nat)
abbrev dK(a:Nat->Addr):List aQ:=six (gg N P (a 0) 0) (gg N P (a 1) 1) (gg N P (a 2) 2) (gg N P (a 3) 3) (gg N P (a 4) 4) (gg N P (a 5) 5)
theorem N4(H D ns:List Nat)(a:Nat->Addr):bY ((H.map N.pr).map ao) ((D.map N.pr).map ao) (ns.map N.hv) 0 (dK N P a)=(C5 P H D).map (jF N P ns D):=by
 rw[jl,jl]
 refine(ql N P H D ns a 6 0).trans ?_
 rw[C5,List.range_eq_range']
theorem NX(D ns l:List Nat):fY (l.map (jF N P ns D))=(gS (kR P ns D) l).map N.pr:=by
 unfold fY
 rw[<-jW (jF N P ns D) fG,List.map_map]
 have e1:(fun k=>fG (jF N P ns D k))=kR P ns D:=by funext k;exact Ar N P ns D k
 have e2:((fun d:Dat=>d.2.2)∘jF N P ns D)=N.pr:=by funext k;exact D1 N P ns D k
 rw[e1,e2]
end
theorem F7(N:NM)(sz mo:Str->Int):∀(rs D:List Nat) (bs:List Int),cV sz mo (bs,D.map N.pr) (rs.map N.pr)=(bs++r9 sz (cm (oU sz (D.map N.pr))) ((bt N mo rs).map N.pr),(D++bt N mo rs).map N.pr)
 |[],D,bs=>by
  show(bs,D.map N.pr)=(bs++[],(D++[]).map N.pr)
  rw[List.append_nil,List.append_nil]
 |r::rs,D,bs=>by
  have ih:=F7 N sz mo rs
  unfold cV bt at ih⊢
  rw[List.map_cons,List.foldl_cons,List.filter_cons]
  cases q:dv (mo (N.nm r))with
  |false=>
   rw[if_neg Bool.false_ne_true]
   have e:cy sz mo (bs,D.map N.pr) (N.pr r)=(bs,D.map N.pr):=by
    unfold cy
    show(match dv (mo (N.nm r))with|true=>_|false=>_)=_
    rw[q]
   rw[e,ih]
  |true=>
   rw[if_pos rfl]
   have e:cy sz mo (bs,D.map N.pr) (N.pr r)=(bs++[cm (oU sz (D.map N.pr))],(D++[r]).map N.pr):=by
    unfold cy
    show(match dv (mo (N.nm r))with|true=>_|false=>_)=_
    rw[q,List.map_append];rfl
   rw[e,ih,List.append_assoc,List.append_assoc]
   congr 2
   rw[List.singleton_append,List.map_cons,r9]
   congr 2
   unfold oU
   rw[List.map_append,List.map_append,gX]
   show _+(sz (N.nm r)+0)=_
   rw[Int.add_zero];rfl
theorem zW(N:NM)(sz:Str->Int):∀(E:List Nat) (bR:Int),oI sz bR (E.map N.pr)=bR+cm (oU sz (E.map N.pr))
 |[],bR=>(Int.add_zero bR).symm
 |d::E,bR=>by
  rw[List.map_cons,oI,zW N sz E,Int.add_assoc];rfl
theorem Bl(sz:Str->Int)(a b:List (Str×Tok)):cm (oU sz (a++b))=cm (oU sz a)+cm (oU sz b):=by
 unfold oU
 rw[List.map_append,gX]
theorem turns{P:Nat->List Nat}(hP:wO P)(N:NM)(a:Nat->Addr)(sz mo:Str->Int):∀(n:Nat) (H D rs:List Nat) (g:GG),TI P H D g rs->
  dT sz mo ((gR P 6).map N.hv) (dK N P a) n (H.map N.pr) (D.map N.pr)=dx N sz mo n g rs H.length D.length (cm (oU sz (D.map N.pr)))/\jy N mo (gR P 6) n g rs H.length D.length
 |0,_,_,_,_,_=>⟨rfl,trivial⟩
 |n+1,H,D,rs,g,h=>by
  obtain⟨k1,k2⟩:=h.turn hP fun i=>dv (mo (N.nm i))
  have ih:=turns hP N a sz mo n _ _ _ _ k2
  rw[List.length_append,List.length_append]at ih
  refine⟨?_,⟨h.inv.ns,fun i hi=>(dq hP).mpr (h.mem.mp hi).1,h.len,h.ln,k1⟩,fun _=>ih.2⟩
  have hf:=N4 N P H D (gR P 6) a
  have hg:=NX N P D (gR P 6) (C5 P H D)
  rw[<-h.rs]at hg
  rw[<-hf]at hg
  rw[dT]
  cases rs with
  |nil=>
   have e:C5 P H D=[]:=by
    have:=congrArg List.length h.rs
    rw[e6]at this
    exact List.length_eq_zero_iff.mp this.symm
   rw[e]at hf
   rw[hf,dx]
   show [_]=[_]
   rw[List.length_map,List.length_map,List.length_map,List.length_map]
   show [(_,_,_)]=[(_||false,_,_)]
   rw[Bool.or_false];rfl
  |cons r rs=>
   cases e:C5 P H D with
   |nil=>
    have:=congrArg List.length h.rs
    rw[e6,e]at this
    cases this
   |cons k l=>
    rw[e]at hf
    rw[hf]at hg⊢
    rw[List.map_cons]at hg⊢
    dsimp only
    have YR:dT sz mo ((gR P 6).map N.hv) (dK N P a) n ((H++r::rs).map N.pr) ((D++bt N mo (r::rs)).map N.pr)=dx N sz mo n (lV N mo g (r::rs)).1 (lV N mo g (r::rs)).2 (H.length+(r::rs).length) (D.length+(bt N mo (r::rs)).length) (cm (oU sz ((D++bt N mo (r::rs)).map N.pr))):=ih.1
    rw[hg,F7,List.nil_append,dx,<-List.map_append]
    dsimp only
    rw[YR,List.isEmpty_cons,Bool.not_false,Bool.or_true,zW,List.map_append,Bl]
section
variable{su:Nat->List Nat}
def GoodR(su:Nat->List Nat):List Nat->Prop
 |[]=>True
 |v::G=>(∀s∈su v,s∈G)/\v∉G/\GoodR su G
theorem uD:∀{G:List Nat},GoodR su G->∀p∈G,∀s∈su p,s∈G
 |v::G,h,p,hp,s,hs=>by
  rcases bu hp with e|q
  ·rw[e]at hs;exact .tail _ (h.1 s hs)
  ·exact .tail _ (uD h.2.2 p q s hs)
theorem uC:∀(A:List Nat) {B:List Nat},GoodR su (A++B)->GoodR su B
 |[],_,h=>h
 |_::A,_,h=>uC A h.2.2
def Ch(su:Nat->List Nat)(G:List Nat):Nat->List (Nat×Nat)->Prop
 |_,[]=>True
 |c,p::ps=>(∃m,p.2=m+1/\(su p.1)[m]? =some c/\∀j s,j<m->(su p.1)[j]? =some s->s∈G)/\Ch su G p.1 ps
theorem Ch.mono{G G':List Nat}(hg:∀v,v∈G->v∈G'):∀{ps:List (Nat×Nat)} {c:Nat},Ch su G c ps->Ch su G' c ps
 |[],_,_=>trivial
 |_::_,_,⟨⟨m,e,h,q⟩,t⟩=>⟨⟨m,e,h,fun j s hj hs=>hg s (q j s hj hs)⟩,t.mono hg⟩
def Top(su:Nat->List Nat)(G:List Nat):List (Nat×Nat)->Prop
 |[]=>True
 |p::ps=>(∀j s,j<p.2->(su p.1)[j]? =some s->s∈G)/\Ch su G p.1 ps
theorem Ch.top{G:List Nat}{c:Nat}:∀{ps:List (Nat×Nat)},Ch su G c ps->c∈G->Top su G ps
 |[],_,_=>trivial
 |p::ps,⟨⟨m,e,h,q⟩,t⟩,hc=>⟨fun j s hj hs=>by
   by_cases z:j=m
   ·subst z;rw[h]at hs;cases hs;exact hc
   ·exact q j s (by lia) hs,t⟩
def SS(su:Nat->List Nat):List (Nat×Nat)->Nat
 |[]=>0
 |p::ps=>((su p.1).length-p.2)+SS su ps
structure PI(su:Nat->List Nat)(G:List Nat)(ps:List (Nat×Nat))(C:Prop):Prop where
 g:GoodR su G
 c:C
 n:(ps.map (·.1)).Nodup
 d:∀v∈ps.map (·.1),v∉G
theorem yx{P:Option (Nat×List (Nat×Nat))->Prop}(ps:List (Nat×Nat)):∀G,PI su G ps (Top su G ps)->(∀G',GoodR su G'->(∀v,v∈G'↔v∈G\/v∈ps.map (·.1))->P none)->
  (∀v c lK G',c∈su v->SS su lK<SS su ps->lK.length<=ps.length->PI su G' lK (Ch su G' c lK)->(∀v,(v∈G'\/v∈lK.map (·.1))↔v∈G\/v∈ps.map (·.1))->P (some (c,lK)))->P (eO su ps):=by
 induction ps with
 |nil=>exact fun G I kn _=>kn G I.g fun v=>(or_iff_left dS).symm
 |cons p ps ih=>
  intro G I kn ks
  rw[eO]
  cases hv:(su p.1)[p.2]? with
  |some v=>exact ks p.1 v _ G (ir hv) (Nat.add_lt_add_right (Nat.sub_lt_sub_left (List.getElem?_eq_some_iff.mp hv).1 (Nat.lt_succ_self _)) _) (bC _) ⟨I.g,⟨⟨p.2,rfl,hv,I.c.1⟩,I.c.2⟩,I.n,I.d⟩ fun _=>Iff.rfl
  |none=>
   obtain⟨n1,n2⟩:=jM I.n
   have hlen:=List.getElem?_eq_none_iff.mp hv
   have h1:∀s∈su p.1,s∈G:=fun s q=>by
    obtain⟨j,hj,ej⟩:=List.getElem_of_mem q
    exact I.c.1 j s (oE hj hlen) (by rw[List.getElem?_eq_getElem hj,ej])
   have mv:∀v,(v∈p.1::G\/v∈ps.map (·.1))↔v∈G\/v∈(p::ps).map (·.1):=fun v=>by rw[List.mem_cons,List.map_cons,List.mem_cons,or_assoc,or_left_comm]
   exact ih (p.1::G) ⟨⟨h1,I.d _ (.head _),I.g⟩,(I.c.2.mono fun v q=>.tail _ q).top (.head _),n2,fun v hv q=>(bu q).elim (fun z=>n1 (by subst z;exact hv)) (I.d v (.tail _ hv))⟩
    (fun G' g1 g2=>kn G' g1 fun v=>(g2 v).trans (mv v)) fun v c lK G' a b l J g5=>ks v c lK G' a (oE b (Nat.le_add_left ..)) (jK l) J fun v=>(g5 v).trans (mv v)
theorem tG{x:Nat}:∀{ps:List (Nat×Nat)} {c:Nat} {G:List Nat},Ch su G c ps->x∈ps.map (·.1)->∃C:List Nat,x∈C/\(∀k∈C,k≠x->∃p∈C,k∈su p)/\∃p∈C,c∈su p
 |p::ps,c,G,⟨⟨m,e,h,q⟩,t⟩,hx=>by
  have hc:=ir h
  by_cases z:p.1=x
  ·rw[z]at hc
   exact⟨[x],.head _,fun k hk ne=>absurd (lZ hk) ne,x,.head _,hc⟩
  ·obtain⟨C,c1,c2,r,c3,c4⟩:=tG t ((bu hx).resolve_left fun y=>z y.symm)
   refine⟨p.1::C,.tail _ c1,fun k hk ne=> ?_,p.1,.head _,hc⟩
   rcases bu hk with y|y
   ·rw[y];exact⟨r,.tail _ c3,c4⟩
   ·obtain⟨r',z1,z2⟩:=c2 k y ne
    exact⟨r',.tail _ z1,z2⟩
def Qw(su:Nat->List Nat):Prop:=∃C:List Nat,C≠[]/\∀k∈C,∃p∈C,k∈su p
def US(su:Nat->List Nat)(seen:List Nat):List Nat->Nat
 |[]=>0
 |v::l=>(if v∈seen then 0 else(su v).length+1)+US su seen l
theorem Gd(seen:List Nat)(i:Nat):∀l,US su (seen++[i]) l<=US su seen l
 |[]=>bC _
 |v::l=>by
  have:=Gd seen i l
  unfold US
  by_cases q:v∈seen
  ·rw[if_pos q,if_pos (List.mem_append_left _ q)];lia
  ·rw[if_neg q]
   split<;>lia
theorem Gb{seen:List Nat}{i:Nat}(hi:i∉seen):∀{l:List Nat},i∈l->US su (seen++[i]) l+((su i).length+1)<=US su seen l
 |v::l,h=>by
  have h0:=Gd (su:=su) seen i l
  unfold US
  by_cases e:v=i
  ·subst e
   rw[if_neg hi,if_pos (List.mem_append_right _ (.head _))];lia
  ·have:=Gb hi ((bu h).resolve_left fun y=>e y.symm)
   by_cases q:v∈seen
   ·rw[if_pos q,if_pos (List.mem_append_left _ q)];lia
   ·rw[if_neg q]
    split<;>lia
theorem I5(hs:∀v,∀c∈su v,c<6){P:Option (Option (List Nat)×List Nat)->Prop}(kr:∀r se,Qw su->r≠[]->r.length<=200->P (some (some r,se)))(n:Nat):∀(i:Nat) (seen:List Nat) (ps:List (Nat×Nat)) (G:List Nat),US su seen (List.range 6)+SS su ps<n->ps.length+n<=100->i<6->
  PI su G ps (Ch su G i ps)->(∀v,v∈seen↔v∈G\/v∈ps.map (·.1))->(∀se G',GoodR su G'->(∀v,v∈se↔v∈G')->i∈se->(∀v∈seen,v∈se)->P (some (none,se)))->P (qS su n i seen ps):=by
 induction n with
 |zero=>exact fun _ _ _ _ h=>absurd h (i8 _)
 |succ n ih=>
  intro i seen ps G hm hl hi I he kn
  by_cases h1:i∈seen
  ·by_cases h2:i∈ps.map (·.1)
   ·rw[lB h1 h2]
    obtain⟨C,c1,c2,r,c3,c4⟩:=tG I.c h2
    refine kr _ _ ⟨C,List.ne_nil_of_mem c1,fun k hk=>(Decidable.em (k=i)).elim (fun z=>z▸⟨r,c3,c4⟩) (c2 k hk)⟩ (List.append_ne_nil_of_right_ne_nil _ (eU _ _)) ?_
    unfold pz
    rw[List.length_append,List.length_drop,List.length_reverse,List.length_map]
    show _+1<=200
    lia
   ·rw[ou h1 h2]
    exact yx (P:=fun o=>P (Ap su n seen o)) ps G ⟨I.g,I.c.top (((he i).mp h1).resolve_right h2),I.n,I.d⟩ (fun G' g1 g2=>kn seen G' g1 (fun v=>(he v).trans (g2 v).symm) h1 fun _ q=>q)
     fun v c lK G' hv hS hL J g5=>ih c seen lK G' (by lia) (by lia) (hs v c hv) J (fun v=>(he v).trans (g5 v).symm) fun se G2 a b _ e=>kn se G2 a b (e i h1) e
  ·rw[ow h1]
   have hG:i∉G/\i∉ps.map (·.1):=not_or.mp fun q=>h1 ((he i).mpr q)
   have P1:∀v,v∈seen++[i]↔v∈G\/v∈((i,0)::ps).map (·.1):=fun v=>by rw[List.mem_append,he,List.mem_singleton,List.map_cons,List.mem_cons,or_assoc,@or_comm (v∈ps.map (·.1))]
   have hU:=Gb (su:=su) h1 (List.mem_range.mpr hi)
   have Zt:SS su ((i,0)::ps)=(su i).length+SS su ps:=rfl
   exact yx (P:=fun o=>P (Ap su n (seen++[i]) o)) ((i,0)::ps) G ⟨I.g,⟨fun j s hj=>absurd hj (i8 _),I.c⟩,List.nodup_cons.mpr ⟨hG.2,I.n⟩,fun v hv=>(bu hv).elim (fun z=>z▸hG.1) (I.d v)⟩
    (fun G' g1 g2=>kn _ G' g1 (fun v=>(P1 v).trans (g2 v).symm) (jI _ (.head _)) fun v q=>jH _ q)
    fun v c lK G' hv hS hL J g5=>ih c (seen++[i]) lK G' (by rw[Zt]at hS;lia) (by rw[List.length_cons]at hL;lia) (hs v c hv) J (fun v=>(P1 v).trans (g5 v).symm) fun se G2 a b _ e=>kn se G2 a b (e i (jI _ (.head _))) fun v q=>e v (jH _ q)
def Pb(su:Nat->List Nat)(is seen:List Nat):Option (List Nat)->Prop
 |some r=>Qw su/\r≠[]/\r.length<=200
 |none=>∃G,GoodR su G/\(∀v∈is,v∈G)/\∀v∈seen,v∈G
theorem C6(hs:∀v,∀c∈su v,c<6)(hU:∀seen,US su seen (List.range 6)<100){P:Option (Option (List Nat))->Prop}(kr:∀r,Qw su->r≠[]->r.length<=200->P (some (some r)))(is:List Nat):∀(seen G:List Nat),(∀i∈is,i<6)->GoodR su G->(∀v,v∈seen↔v∈G)->
  (∀G',GoodR su G'->(∀v∈is,v∈G')->(∀v∈seen,v∈G')->P (some none))->P (gJ su 100 is seen):=by
 induction is with
 |nil=>exact fun seen G _ hg he kn=>kn G hg (fun v q=>absurd q dS) fun v q=>(he v).mp q
 |cons i is ih=>
  intro seen G hi hg he kn
  by_cases h1:i∈seen
  ·rw[(uJ h1).1]
   exact ih seen G (fun j q=>hi j (.tail _ q)) hg he fun G' a b c=>kn G' a (fun v hv=>(bu hv).elim (fun e=>e▸c i h1) (b v)) c
  ·rw[(ie h1 rfl).1]
   exact I5 (P:=fun o=>P (FJ su 100 is o)) hs (fun r _ a b c=>kr r a b c) 100 i seen [] G (cW (Nat.le_of_eq (Nat.add_zero _)) (hU seen)) (bC _) (hi i (.head _)) ⟨hg,trivial,.nil,fun v q=>absurd q dS⟩ (fun v=>(he v).trans (or_iff_left dS).symm)
    fun se G' g1 g2 a b=>ih se G' (fun j q=>hi j (.tail _ q)) g1 g2 fun G2 z1 z2 z3=>kn G2 z1 (fun v hv=>(bu hv).elim (fun e=>e▸z3 i a) (z2 v)) fun v hv=>z3 v (b v hv)
theorem wg(hs:∀v,∀c∈su v,c<6)(hU:∀seen,US su seen (List.range 6)<100)(is seen G:List Nat)(hi:∀i∈is,i<6)(hg:GoodR su G)(he:∀v,v∈seen↔v∈G):∃r,gJ su 100 is seen=some r/\Pb su is seen r:=
 C6 (P:=fun o=>∃r,o=some r/\Pb su is seen r) hs hU (fun r a b c=>⟨_,rfl,a,b,c⟩) is seen G hi hg he fun G' a b c=>⟨_,rfl,G',a,b,c⟩
end
section
variable{V:Nat->Int}{P:Nat->List Nat}{gf:GG}{xf:List Nat}{res:Option (List Nat)}{b:Bool}{TT:(Nat->Tok)->List iy}(t:Nat->Tok)(a:Nat->Addr)
def G3(u g h:Nat->Tok)(H:J4 w V P gf xf res b TT):aJ w:=
 KG (dE V P t a 0) (dE V P t a 1) (dE V P t a 2) (dE V P t a 3) (dE V P t a 4) (dE V P t a 5) (wH w V u (mI V) g) (wH w V u (zI V) h) (jw V (zI V)) (jw V (mI V)) (H.hX t a u g h) (H.hl t a) b (H.hb t a) (TT t) (H.hT t a)
theorem Dn(g h:Nat->Tok)(H:J4 w V P gf xf res b TT):
  (IH (w:=w) (dE V P t a 0) (dE V P t a 1) (dE V P t a 2) (dE V P t a 3) (dE V P t a 4) (dE V P t a 5) (wH w V t (mI V) g) (wH w V t (zI V) h) b (TT t)).Ok:=by
 have:=IG (gi V t) (dE V P t a 0) (dE V P t a 1) (dE V P t a 2) (dE V P t a 3) (dE V P t a 4) (dE V P t a 5) (P 0) (P 1) (P 2) (P 3) (P 4) (P 5) (H.hx t a) (wH w V t (mI V) g) (wH w V t (zI V) h) (jw V (zI V)) (jw V (mI V)) gf ((Il V P t a).trans H.hg) xf res (H.hI t g h)
 rw[H.hs,H.hF t]at this
 exact this
def GZ(g h:Nat->Tok)(H:J4 w V P gf xf res b TT)(L:Led):aJ w:=
 ((IH (dE V P t a 0) (dE V P t a 1) (dE V P t a 2) (dE V P t a 3) (dE V P t a 4) (dE V P t a 5) (wH w V t (mI V) g) (wH w V t (zI V) h) b (TT t)).tl L).sm (aD.Kk (Dn t a g h H) (fun _=>rfl) L)
end
theorem Nk(a:Addr)(ns:List Int)(hn:ns.length<=63)(g:Nat->Tok)(V:Nat->Int)(hq:eI ns 18=vL V)(P:Nat->List Nat)(gf:GG)(xf:List Nat)(res:Option (List Nat))(b:Bool)(TT:(Nat->Tok)->List iy)(H:J4 w V P gf xf res b TT)(fs:List Env)(ν:Nu):
  aT 0x36aaaaaaaaaaaaaaaaaaaaaaaaaaaaaa (.ok (.ret (.bool true))) ((a,aj (aq ns g 0) 0)::(List.flatMap eX (cA (fun i=>(pr (ν 91)).fst (i+2)) (TT (pr (ν 45)).fst) 0)++List.flatMap eX (cA (fun i=>(pr (ν 89)).fst (i+2)) (TT (pr (ν 45)).fst) 0)))
   (bX w ν 593 none (some (60,fs)) 323 [.ref a] ((a,aj (aq ns g 0) 0)::(([]:Led))) 0x40fc3041081f4038a59551349163e280f3cf0000107cf000455544d24505fd280041074c79e0004200804104104004104104004100000004106da74cc0042008041041040041041040041000000cc0001041cf301a6585d655c4eeb4004200e041041040041041040041000000001041bef0165544d24583eaa4004200e0410410400410410400410000000071c7aeb01e1637c004200804104104004104104004100000001c70104120718510328004200b04800120868069a1c71ca39159550004200a0410410400410410400410000000000800c10c10c004104524c4503c004200a04104104004104104004100000000104c30104120d0010801810410410010410410010400000002490410442400420060410410400410410400410000000061860020060002c6180 [K (ve ns hn g 0 (vL V) hq),(fun ν=>Ri V fun i=>(pr (ν 7)).1 (i+2)),(fun ν=>Rh V fun i=>(pr (ν 7)).1 (i+2)),(fun ν=>Rg V H.ok (fun i=>(pr (ν 7)).1 (i+2)) (pr (ν 15)).1 (pr (ν 23)).1),K (ri [] false rfl),(fun ν=>Rf V H.ok (fun i=>(pr (ν 7)).1 (i+2)) (pr (ν 15)).1 (pr (ν 23)).1),(fun ν=>Rd V H.ok (fun i=>(pr (ν 41)).1 (i+8)) (pr (ν 41)).1),(fun ν=>Q7 (gi V (pr (ν 45)).1) V (fun i=>(pr (ν 7)).1 (i+2)) P H.nd),(fun ν=>Rx (gi V (pr (ν 45)).1) V H.ok (fun i=>(pr (ν 41)).1 (i+8)) (pr (ν 41)).1),(fun ν=>Rw (gi V (pr (ν 45)).1) V H.ok (fun i=>(pr (ν 41)).1 (i+8)) (pr (ν 41)).1),(fun ν=>Rv (gi V (pr (ν 15)).1) V (pr (ν 23)).1),(fun ν=>Ru (gi V (pr (ν 15)).1) V (fun i=>(pr (ν 7)).1 (i+2))),(fun ν=>G3 (pr (ν 45)).1 (fun k=>(pr (ν 53)).1 (k+3)) (pr (ν 15)).1 (fun i=>(pr (ν 80)).1 (i+1)) (fun i=>(pr (ν 88)).1 (i+1)) H),(fun ν=>GZ (pr (ν 45)).1 (fun k=>(pr (ν 53)).1 (k+3)) (fun i=>(pr (ν 71)).1 (i+1)) (fun i=>(pr (ν 62)).1 (i+1)) H ((cA (fun i=>(pr (ν 89)).1 (i+2)) (TT (pr (ν 45)).1) 0).flatMap eX)),(fun ν=>KD (fun i=>(pr (ν 91)).1 (i+2)) (fun i=>(pr (ν 89)).1 (i+2)) b (TT (pr (ν 45)).1) (H.st (pr (ν 45)).1))]):=by kernel_rfl
theorem tC(N:NM):∀ps l:List Nat,dr (l.map N.hv) (ps.map N.pr)=(ps.foldl eE l).map N.hv
 |[],_=>rfl
 |p::ps,l=>by
  have ih:=tC N ps
  unfold dr at ih⊢
  rw[List.map_cons,List.foldl_cons,List.foldl_cons]
  have e:gp (l.map N.hv) (N.pr p)=(eE l p).map N.hv:=by
   unfold gp eE
   show(if(l.map N.hv).any (b9 (N.nm p))=true then _ else _)=_
   rw[gL]
   by_cases q:p∈l
   ·rw[if_pos (decide_eq_true q),if_pos q]
   ·rw[if_neg (by rw[decide_eq_false q];exact Bool.false_ne_true),if_neg q,List.map_append];rfl
  rw[e,ih]
theorem EA(N:NM)(P:Nat->List Nat)(a:Nat->Addr):∀n,n<=6->jR (dK N P a) n=(gR P n).map N.hv
 |0,_=>rfl
 |n+1,h=>by
  have hn:rK (dK N P a) n=gg N P (a n) n:=PJ (P:=fun n=>rK (dK N P a) n=gg N P (a n) n) h rfl rfl rfl rfl rfl rfl
  rw[jR,hn,EA N P a n (by lia)]
  exact tC N (n::P n) (gR P n)
noncomputable def qO(P:Nat->List Nat):Nat->List Nat
 |0=>List.range 6
 |n+1=>(List.range 6).filter fun k=>decide (k∈qO P n/\∃p∈P k,p∈qO P n)
theorem ur(N:NM)(l:List Nat):∀ps:List Nat,(!(kT (l.map N.hv) (ps.map N.pr)).isEmpty)=decide (∃p∈ps,p∈l)
 |[]=>(iw fun⟨_,h,_⟩=>absurd h dS).symm
 |p::ps=>by
  have ih:=ur N l ps
  unfold kT at ih⊢
  rw[List.map_cons,List.filter_cons]
  show(!(List.map ao (if((l.map N.hv).any (b9 (N.nm p)))=true then _ else _)).isEmpty)=_
  rw[gL]
  by_cases q:p∈l
  ·rw[if_pos (decide_eq_true q),decide_eq_true (show∃r∈p::ps,r∈l from⟨p,.head _,q⟩)];rfl
  ·rw[if_neg (by rw[decide_eq_false q];exact Bool.false_ne_true),ih]
   exact decide_eq_decide.mpr ⟨fun⟨r,h,z⟩=>⟨r,.tail _ h,z⟩,fun⟨r,h,z⟩=>⟨r,(bu h).resolve_left fun e=>q (by rw[<-e];exact z),z⟩⟩
theorem Fq(N:NM)(P:Nat->List Nat)(a:Nat->Addr):∀n,itR (dK N P a) n=(qO P n).map N.hv
 |0=>rfl
 |n+1=>by
  rw[itR,Fq N P a n,keepR]
  rw[show dK N P a=(List.range 6).map fun i=>gg N P (a i) i from rfl,List.filter_map,List.map_map]
  have e2:(pZ ((qO P n).map N.hv)∘fun i=>gg N P (a i) i)=fun k=>decide (k∈qO P n/\∃p∈P k,p∈qO P n):=by
   funext k
   show(((qO P n).map N.hv).any (b9 (N.nm k))&& !(kT ((qO P n).map N.hv) ((P k).map N.pr)).isEmpty)=_
   rw[gL,ur,Bool.decide_and]
  rw[e2];rfl
section
variable{P:Nat->List Nat}
theorem HR(h:Qw (ja P 6)):∀n,qO P n≠[]:=by
 obtain⟨C,h0,hC⟩:=h
 have h1:∀k∈C,k<6/\∃p∈C,p∈P k:=fun k hk=>by
  obtain⟨p,hp,q⟩:=hC k hk
  obtain⟨z1,z2⟩:=(eY 6).mp q
  exact⟨z1,p,hp,z2⟩
 have h2:∀n,∀k∈C,k∈qO P n:=fun n=>by
  induction n with
  |zero=>exact fun k hk=>List.mem_range.mpr (h1 k hk).1
  |succ n ih=>
   intro k hk
   obtain⟨z1,p,z2,z3⟩:=h1 k hk
   exact List.mem_filter.mpr ⟨List.mem_range.mpr z1,iu ⟨ih k hk,p,z3,ih p z2⟩⟩
 intro n e
 obtain⟨k,hk⟩:=List.exists_mem_of_ne_nil C h0
 have:=h2 n k hk
 rw[e]at this;cases this
theorem Fp:∀n k,k∈qO P n->k<6
 |0,k,h=>jL h
 |n+1,k,h=>jL (List.mem_filter.mp h).1
theorem CC:∀(G2 G1:List Nat),GoodR (ja P 6) (G2++G1)->(∀k,k<6->k∈G2++G1)->∀k∈qO P G2.length,k∉G2:=by
 have gen:∀(n:Nat) (G2 G1:List Nat),G2.length=n->GoodR (ja P 6) (G2++G1)->(∀k,k<6->k∈G2++G1)->∀k∈qO P n,k∉G2:=by
  intro n
  induction n with
  |zero=>intro G2 G1 e _ _ k _ q;rw[List.length_eq_zero_iff.mp e]at q;cases q
  |succ n ih=>
   intro G2 G1 e hg vX k hk q
   have hZ:G2≠[]:=fun z=>by rw[z]at e;cases e
   have es:=List.dropLast_concat_getLast hZ
   generalize G2.dropLast=A at es
   generalize G2.getLast hZ=v at es
   subst es
   rw[List.length_append]at e
   have e:A.length=n:=by have:([v]:List Nat).length=1:=rfl;lia
   rw[List.append_assoc,List.singleton_append]at hg vX
   obtain⟨k1,k2⟩:=List.mem_filter.mp hk
   obtain⟨k3,p,k4,k5⟩:=of_decide_eq_true k2
   rcases bw q with z|z
   ·exact ih A (v::G1) e hg vX k k3 z
   ·rw[List.mem_singleton.mp z]at k1 k4
    have hp:=vX p (Fp n p k5)
    rcases bw hp with y|y
    ·exact ih A (v::G1) e hg vX p k5 y
    ·have gt:=uC A hg
     have hv:v∈ja P 6 p:=(eY 6).mpr ⟨jL k1,k4⟩
     rcases bu y with x|x
     ·rw[x]at hv;exact gt.2.1 (gt.1 v hv)
     ·exact gt.2.1 (uD gt.2.2 p x v hv)
 exact fun G2 G1=>gen G2.length G2 G1 rfl
end
theorem tZ{l:List Nat}(hn:l.Nodup)(h:∀k,k∈l↔k<6):l.length=6:=by
 rw[((List.perm_ext_iff_of_nodup hn List.nodup_range).mpr fun a=>(h a).trans List.mem_range.symm).length_eq,List.length_range]
theorem kY{su:Nat->List Nat}:∀{G:List Nat},GoodR su G->G.Nodup
 |[],_=>List.nodup_nil
 |_::_,h=>List.nodup_cons.mpr ⟨h.2.1,kY h.2.2⟩
theorem jn{P:Nat->List Nat}:∀{G:List Nat},GoodR (ja P 6) G->GoodR (ja P 6) (G.filter fun k=>decide (k<6))
 |[],_=>trivial
 |v::G,h=>by
  have ih:=jn h.2.2
  rw[List.filter_cons]
  by_cases q:v<6
  ·rw[if_pos (decide_eq_true q)]
   exact⟨fun s hs=>List.mem_filter.mpr ⟨h.1 s hs,iu ((eY 6).mp hs).1⟩,fun z=>h.2.1 (List.mem_filter.mp z).1,ih⟩
  ·rw[if_neg (by rw[decide_eq_false q];exact Bool.false_ne_true)]
   exact ih
theorem CB{P:Nat->List Nat}{G:List Nat}(hg:GoodR (ja P 6) G)(vX:∀k,k<6->k∈G):qO P 6=[]:=by
 have hf:=jn hg
 have hm:∀k,k∈G.filter (fun k=>decide (k<6))↔k<6:=fun k=>by
  rw[List.mem_filter,decide_eq_true_iff]
  exact⟨fun q=>q.2,fun q=>⟨vX k q,q⟩⟩
 have hl:=tZ (kY hf) hm
 have hr:=CC (G.filter fun k=>decide (k<6)) [] (by rw[List.append_nil];exact hf) (by rw[List.append_nil];exact fun k h=>(hm k).mpr h)
 rw[hl]at hr
 exact List.eq_nil_iff_forall_not_mem.mpr fun k hk=>hr k hk ((hm k).mpr (Fp _ k hk))
section
variable(ns:List Int)
def AK(k:Nat):Int:=if k<18 then dG ns k else 0
theorem KN:eI ns 18=vL (AK ns):=rfl
theorem rx(hn:ns.length<=63)(k:Nat):0<=AK ns k/\AK ns k<10000000:=by
 unfold AK
 split
 ·rename_i h;exact Gq ns hn k h
 ·exact⟨by decide,by decide⟩
theorem G9(hn:ns.length<=63):iB (AK ns):=
 ⟨fun k hk=>M4 _ k hk,fun i=>⟨(rx ns hn i).1,Int.lt_trans (rx ns hn i).2 (by decide)⟩,fun k=>M9 _⟩
end
def pI(V:Nat->Int)(k:Nat):List Nat:=if k<6 then(AM (V k) k).map Int.toNat else []
theorem yT(v:Int){k:Nat}(hk:k<6):(AM v k).length<=2/\∀x∈AM v k,0<=x/\x<6:=by
 have two:∀(m:Nat) (a b c:Int),0<c->c<=6->(List.take m [a.fmod c,b.fmod c]).length<=2/\∀x∈List.take m [a.fmod c,b.fmod c],0<=x/\x<6:=fun m a b c h0 h6=>by
  refine⟨List.length_take_le' _ _,fun x hx=> ?_⟩
  have hx:=List.mem_of_mem_take hx
  have k1:=ip a h0
  have k2:=Int.fmod_lt_of_pos a h0
  have k3:=ip b h0
  have k4:=Int.fmod_lt_of_pos b h0
  rcases bu hx with e|hx
  ·rw[e];lia
  ·rw[List.mem_singleton.mp hx];lia
 unfold AM
 split
 ·split
  ·rename_i h
   exact two _ _ _ _ h (by lia)
  ·exact⟨by decide,fun x hx=>absurd hx dS⟩
 ·exact two _ _ _ _ (by decide) (by decide)
section
variable(V:Nat->Int)
theorem yB:sG V (pI V):=by
 refine⟨fun k hk=> ?_,fun k=> ?_,fun k p hp=> ?_⟩
 ·unfold pI nI
  rw[if_pos hk,List.map_map]
  have:∀x∈AM (V k) k,((fun p:Nat=>(p:Int))∘Int.toNat) x=x:=fun x hx=>Int.toNat_of_nonneg ((yT _ hk).2 x hx).1
  rw[List.map_congr_left this,List.map_id']
 ·unfold pI
  split
  ·rename_i h;rw[List.length_map];exact(yT _ h).1
  ·exact cY _
 ·unfold pI at hp
  split at hp
  ·rename_i h
   obtain⟨x,hx,rfl⟩:=cz hp
   have:=(yT _ h).2 x hx
   lia
  ·cases hp
theorem Lm:wO (pI V):=⟨(yB V).len,(yB V).low⟩
theorem j6(t u:Nat->Tok)(n:Nat->Int)(g:Nat->Tok){k:Nat}(hk:k<6):∃tk,bo (wH w V u n g) ((gi V t).nm k)=some (.int (jw V n ((gi V t).nm k)) tk):=by
 have e:=lq (w:=w) (gi V u) k (aq (i6 n) g 0) 0 (cY k)
 have h6:(i6 n)[k]? =some (n k):=PJ (P:=fun k=>(i6 n)[k]? =some (n k)) hk rfl rfl rfl rfl rfl rfl
 rw[Nat.sub_zero,fJ g (i6 n) 0 k h6]at e
 refine⟨g (0+k),e.trans ?_⟩
 rw[show(gi V t).nm k=ML (nX V k)from rfl,Je V n hk]
end
theorem yU{V:Nat->Int}(hV:iB V)(i:Nat):PyData.strOk (ML (nX V i))=true:=by
 refine mF fun c hc=> ?_
 by_cases h:i<6
 ·rw[Fe h]at hc;exact(hV.hn i h).ok c hc
 ·rw[pR h]at hc
  rcases bu hc with e|hc
  ·rw[e];decide
  ·rw[(List.mem_replicate.mp hc).2];decide
theorem zP{V:Nat->Int}(hV:iB V)(t:Nat->Tok)(sz mo:Str->Int):∀(n:Nat) (g:GG) (rs:List Nat) (p q:Nat) (bR:Int),O5 (dx (gi V t) sz mo n g rs p q bR)
 |0,_,_,_,_,_=>fun d hd=>absurd hd dS
 |n+1,g,rs,p,q,bR=>by
  intro d hd
  have hx:∀l:List Nat,∀x∈l.map (gi V t).pr,PyData.strOk x.1=true:=fun l x hx=>by
   obtain⟨i,_,rfl⟩:=cz hx
   exact yU hV i
  cases rs with
  |nil=>
   rw[dx]at hd
   rcases bu hd with e|hd
   ·rw[e];exact hx _
   ·exact absurd hd dS
  |cons r rs=>
   rw[dx]at hd
   rcases bu hd with e|hd
   ·rw[e];exact hx _
   ·exact zP hV t sz mo n _ _ _ _ _ d hd
theorem K1(N:NM){P:Nat->List Nat}(hP:wO P)(a:Nat->Addr):∀x∈jC (gg N P (a 0) 0) (gg N P (a 1) 1) (gg N P (a 2) 2) (gg N P (a 3) 3) (gg N P (a 4) 4) (gg N P (a 5) 5) (P 0) (P 1) (P 2) (P 3) (P 4) (P 5),qK N x:=by
 intro x hx
 obtain⟨k,_,rfl⟩:=cz (show x∈(List.range 6).map fun k=>(⟨gg N P (a k) k,k,P k⟩:qH)from hx)
 exact⟨rfl,rfl,hP.len k⟩
theorem kE(N:NM)(P:Nat->List Nat)(a:Nat->Addr){r:aQ}(h:r∈dK N P a):∃k,k<6/\r=gg N P (a k) k:=by
 obtain⟨k,hk,e⟩:=cz (show r∈(List.range 6).map fun k=>gg N P (a k) k from h)
 exact⟨k,jL hk,e.symm⟩
theorem QA{V:Nat->Int}(h:∀i,0<=V i/\V i<10000000)(k:Nat):0<=zI V k/\zI V k<=1000000000:=by
 have:=h (6+k)
 unfold zI u4
 split<;>lia
theorem Nc(V:Nat->Int)(hV:iB V)(hr:∀i,0<=V i/\V i<10000000)(P:Nat->List Nat)(hN:sG V P)(hP:wO P):E4 fun(xf:List Nat) (res:Option (List Nat)) (b:Bool) (TT:(Nat->Tok)->List iy)=>J4 w V P (gP P) xf res b TT:=by
 have hg:=FG P
 have hs:∀v,∀c∈ja P 6 v,c<6:=fun v c h=>((eY 6).mp h).1
 have hU:∀seen,US (ja P 6) seen (List.range 6)<100:=fun seen=>by
  have h1:∀l,US (ja P 6) seen l<=13*l.length:=fun l=>by
   induction l with
   |nil=>exact bC _
   |cons v l ih=>
    have:=nu hP v 6
    unfold US
    rw[List.length_cons]
    split<;>lia
  have:=h1 (List.range 6)
  rw[List.length_range]at this
  lia
 obtain⟨res,r1,r2⟩:=wg hs hU (gR P 6) [] [] (fun i h=>(dq hP).mp h) trivial fun v=>Iff.rfl
 have NF:(qO P 6).isEmpty= !res.isSome:=by
  match res,r2 with
  |some r,r2=>
   have:=HR r2.1 6
   cases e:qO P 6 with
   |nil=>exact absurd e this
   |cons=>rfl
  |none,⟨G,g1,g2,_⟩=>rw[CB g1 fun k hk=>g2 k ((dq hP).mpr hk)];rfl
 have h6:(gR P 6).length=6:=tZ (fW P 6) fun k=>dq hP
 have hsz:∀x,0<=jw V (zI V) x/\jw V (zI V) x<=1000000000:=Aw V (zI V) (fun k _=>QA hr k) ⟨by decide,by decide⟩
 have CK:∀x,0<=jw V (mI V) x:=fun x=>(Aw V (mI V) (b:=10^10) (fun k _=>⟨(hV.hm k).1,Int.le_of_lt (hV.hm k).2⟩) ⟨by decide,by decide⟩ x).1
 have sn:=fun t a=>EA (gi V t) P a 6 (bC 6)
 have tr:=fun t a=>turns hP (gi V t) a (jw V (zI V)) (jw V (mI V)) 7 [] [] _ _ (TI.start hP)
 refine⟨(gP P).ns.filter fun j=>decide ((gP P).np j=0),res,res.isSome,fun t=>dx (gi V t) (jw V (zI V)) (jw V (mI V)) 7 (gP P) ((gP P).ns.filter fun j=>decide ((gP P).np j=0)) 0 0 0,hV,hN,?_,?_,?_,?_,?_,rfl,?_,rfl,fun t=>rfl,fun t=>zP hV t _ _ _ _ _ _ _ _⟩
 ·intro t a u g h
  refine⟨⟨dP _ _,dP _ _,hsz⟩,?_,?_,?_,?_,?_,?_,?_⟩
  ·show bL (jR (dK (gi V t) P a) 6)
   rw[sn t a]
   intro v hv
   obtain⟨i,_,rfl⟩:=cz hv
   exact⟨_,_,rfl⟩
  ·show(jR (dK (gi V t) P a) 6).length<1000
   rw[sn t a,List.length_map,h6];decide
  ·intro r hr
   obtain⟨k,_,rfl⟩:=kE _ _ _ hr
   show((P k).map _).length<=2
   rw[List.length_map];exact hP.len k
  ·intro r hr
   obtain⟨k,hk,rfl⟩:=kE _ _ _ hr
   show(jR (dK (gi V t) P a) 6).any (b9 ((gi V t).nm k))=true
   rw[sn t a,gL]
   exact iu ((dq hP).mpr hk)
  ·show((List.range 6).map fun k=>(gi V t).nm k).Nodup
   exact List.pairwise_map.mpr (List.nodup_range.imp fun q e=>q ((gi V t).inj _ _ e))
  ·intro p hp
   obtain⟨k,hk,rfl⟩:=cz (show p∈(List.range 6).map fun k=>(gi V t).pr k from hp)
   exact j6 V t u (mI V) g (jL hk)
  ·intro p hp
   obtain⟨k,hk,rfl⟩:=cz (show p∈(List.range 6).map fun k=>(gi V t).pr k from hp)
   exact j6 V t u (zI V) h (jL hk)
 ·intro t a r hr
  obtain⟨k,_,rfl⟩:=kE _ _ _ hr
  show((P k).map _).length<=2
  rw[List.length_map];exact hP.len k
 ·intro t a
  show(!(itR (dK (gi V t) P a) 6).isEmpty)=_
  rw[Fq,List.isEmpty_map,NF,Bool.not_not]
 ·intro t a
  show dT _ _ (jR (dK (gi V t) P a) 6) (dK (gi V t) P a) 7 [] []=_
  rw[sn t a]
  exact(tr t a).1
 ·intro t a
  exact K1 (gi V t) hP a
 ·intro t g h
  have Dy:(gP P).ns=gR P 6:=by rw[hg]
  have Xz:(gP P).su=ja P 6:=by rw[hg]
  have hm:∀i∈(gP P).ns,i<6:=fun i hi=>by rw[Dy]at hi;exact(dq hP).mp hi
  refine⟨⟨by rw[Dy];exact fW P 6,dP _ _,dP _ _,fun i hi=>j6 V t t (mI V) g (hm i hi),fun i hi=>j6 V t t (zI V) h (hm i hi),CK⟩,?_,by rw[Dy,h6];decide,by rw[Dy,h6];decide,?_,rfl,⟨100,by rw[Dy,Xz];exact r1⟩,?_⟩
  ·exact Eq.mpr (congrArg (fun l=>jy (gi V t) (jw V (mI V)) l 7 (gP P) ((gP P).ns.filter fun j=>decide ((gP P).np j=0)) 0 0) Dy) (tr t fun _=>0).2
  ·intro j _ v hv
   rw[Xz]at hv
   rw[Dy]
   exact(dq hP).mpr (hs j v hv)
  ·intro ring e
   subst e
   exact⟨r2.2.1,cW r2.2.2 (by decide)⟩
theorem Nd(ns:List Int)(hn:ns.length<=63):E4 fun(xf:List Nat) (res:Option (List Nat)) (b:Bool) (TT:(Nat->Tok)->List iy)=>J4 w (AK ns) (pI (AK ns)) (gP (pI (AK ns))) xf res b TT:=
 Nc _ (G9 ns hn) (rx ns hn) _ (yB _) (Lm _)
theorem ji{g h:Nat->Tok}:∀(l:List Int) (k:Nat),(∀i,k<=i->g i=h i)->aq l g k=aq l h k
 |[],_,_=>rfl
 |n::l,k,e=>by rw[aq,aq,e k (Nat.le_refl k),ji l (Nat.succ k) fun i hi=>e i (Nat.le_of_succ_le hi)]
theorem ints_of{l:List Value}{ns:List Int}(h:IntsAre l ns):∀k,∃g,l=aq ns g k:=by
 induction h with
 |nil=>exact fun _=>⟨fun _=>0,rfl⟩
 |cons n t h ih=>
  intro k
  obtain⟨g,e⟩:=ih (Nat.succ k)
  refine⟨fun i=>if i<=k then t else g i,?_⟩
  rw[aq,if_pos (Nat.le_refl k),e]
  congr 1
  exact ji _ _ fun i hi=>(if_neg (Nat.not_le.mpr hi)).symm
theorem ze(s:Shared)(a:Addr)(ns:List Int)(PM:Array Value)(A:Around)(hr:cP (some (60,[])) A)(hh:A.handled=none)(hn:ns.length<=63)(hi:IntsAre PM.toList ns)(h:Sat (TW w) s [(a,ah PM 0)]):
  codeAny (Mo w) A (.call (.ref 323) ⟨[.ref a],[]⟩) (fun r s'=>r=.ok (.ret (.bool true))/\iE (TW w) s s' [a]/\s'.heap.get? a=some (ah PM 0)) s:=by
 obtain⟨g,e⟩:=ints_of hi 0
 have e2:PM=(aq ns g 0).toArray:=by rw[<-e]
 subst e2
 obtain⟨xf,res,b,TT,H⟩:=Nd (w:=w) ns hn
 refine cQ (kC (rm:=some (60,[])) (fun ν=>Nk a ns hn g (AK ns) (KN ns) (pI (AK ns)) _ xf res b TT H [] ν) hh hr (Frames.nil _ _) h) fun r s' z=> ?_
 obtain⟨ν,z,d⟩:=z
 exact⟨z.symm,d.iD,d.sat.at (.head _) (bb fun _ _ q=>nomatch q)⟩
end
section
open PySem PySem.W PySem.W.X PyProof.Rows
theorem Bh{t:KT}{K:Frag}{as:List Addr}{h:Heap}{n:Nat}(y1:as.map h.get? =as.map t.get)(y2:h.objs.size=n)(k1:as=K.map (·.1))(k2:as.map t.get=K.map fun p=>some p.2)(k3:t=KT.of K):
  ∀a o,t.get a=some o->h.get? a=some o/\a<n:=by
 have A:AllIn h K:=allIn_of (by rw[<-k1,y1,k2])
 have H:=holds_of A
 rw[<-k3]at H
 intro a o e
 have z:=kt_at H e
 exact⟨z,y2▸Heap.lt_size z⟩
section
variable(P:Params)
theorem Yi:mm=(zD P).map (·.1):=by kernel_rfl
theorem Yh:mm.map (Ep P).get=(zD P).map fun p=>some p.2:=by kernel_rfl
theorem Yg:Ep P=KT.of (zD P):=by kernel_rfl
end
theorem Zs(y:Yf s=Ya w):mm.map s.heap.get? =mm.map (Ep w.params).get:=congrArg Prod.fst y
theorem W7(y:Yf s=Ya w):s.heap.objs.size=324:=congrArg Prod.snd y
theorem Gz(w:World)(s:Shared)(y:Yf s=Ya w):∀a o,(Ep w.params).get a=some o->s.heap.get? a=some o/\a<324:=
 Bh (Zs y) (W7 y) (Yi _) (Yh _) (Yg _)
theorem HI{h:Heap}{a:Addr}{m:Str->Option Value}{o:Obj}{n:Nat}(N:h.Ns a m)(e:h.get? a=some o)(hd:o.data=.dict es n)(x:Str):m x=nsFind es x:=by
 obtain⟨o',U4,ep,e',qP,hk,hm⟩:=N
 rw[e]at e'
 cases e'
 rw[hd]at qP
 cases qP
 rw[hm]
noncomputable def FV(o:Obj):Array DictEntry:=match o.data with
 | .dict es _=>es
 |_=> #[]
theorem TM(P:Params):(Ep P).get 3=some (o3 P):=by kernel_rfl
def U5(o:Obj):Nat:=match o.data with
 | .dict _ n=>n
 |_=>0
theorem TL(P:Params):(o3 P).data=.dict (FV (o3 P)) (U5 (o3 P)):=by kernel_rfl
theorem TK(P:Params):nsFind (FV (o3 P)) (S "law")=some (.ref 323):=by kernel_rfl
set_option maxHeartbeats 4000000 in
theorem law_holds:PySem.Challenge.rw_ny0346_01.Holds:=by
 refine head fun w xv s₁ mg mb G y fa o pm cd doc dV kV ho hd hcd hD Za hg args vals as L Td Ti S8 NC uB=> ?_
 have keeps:=Laid.keeps L
 refine W.Ground.open G ?_
 intro T0 B D TE TW
 wrow_args Td Ti S8 NC uB
 obtain⟨W6,hsz⟩:=script_at L
 all_lens
 rename_i ns x1 x2 x3 x4 x5 x6 x7 a vs x8 hL x9 x10 x11 x12 hc x13 hi hb
 have uA:=script_obj L hL
 have tp:=Gz w xv y
 have TM:=(tp 3 (o3 w.params) (TM _)).1
 have Zi:fa=323:=by
  have z:=HI T0.g (keeps _ _ TM) (TL _) (S "law")
  have z2:mg (S "law")=some (.ref 323):=z.trans (TK _)
  have z3:mg (S "law")=some (.ref fa):=Za
  rw[z2]at z3
  cases z3;rfl
 subst Zi
 have Pl:xv.heap.objs.size=324:=W7 y
 have sat:Sat (aaq.TW w) s₁ [(a,aj vs 0)]:=by
  refine⟨fun p hp=> ?_,List.nodup_cons.mpr ⟨dS,List.nodup_nil⟩,fun p hp=> ?_,fun b x e=>⟨keeps _ _ (tp b x e).1,(tp b x e).2⟩,?_⟩
  ·rw[List.mem_singleton.mp hp];exact⟨_,uA,bU.dp rfl (bb fun _ _ q=>nomatch q)⟩
  ·rw[List.mem_singleton.mp hp]
   show 324<=a
   rw[W6,Pl];exact bC _
  ·show 324<=s₁.heap.objs.size
   rw[hsz,Pl];lia
 refine wpAny_call (cQ (ze s₁ a ns vs.toArray callerA ⟨⟨by decide,by decide⟩,rfl⟩ rfl (by lia) (by simpa using hi) sat) fun r s' q=> ?_)
 obtain⟨rfl,ev,ea⟩:=q
 refine⟨.inl ⟨_,_,[],rfl,fun _=>rfl,ReadsW.bool true,by kernel_rfl,fun _=>⟨List.nodup_nil,fun _ hm=>(nomatch hm)⟩⟩,OldK.of_keep fun b x e=> ?_,ev.os,?_⟩
 ·by_cases eb:b=a
  ·subst eb
   rw[ea]
   exact uA.symm.trans e
  ·rcases ev.keep b x e fun q=>eb (lZ q)with q|⟨q,_⟩
   ·exact q
   ·have l1:=Heap.lt_size e
    have q:324<=b:=q
    rw[hsz,Pl]at l1
    rw[W6,Pl]at eb
    exact absurd (Nat.le_antisymm (Nat.le_of_lt_succ l1) q) eb
 ·rw[ev.gens,hg]
  exact AllBare.empty
end
end aaq
end
theorem PySem.Challenge.cw_ny0346_01_holds : PySem.Challenge.rw_ny0346_01.Holds :=
  aaq.law_holds
