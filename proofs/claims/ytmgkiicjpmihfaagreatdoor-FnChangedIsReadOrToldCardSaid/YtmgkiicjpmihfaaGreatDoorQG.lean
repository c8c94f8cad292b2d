/- Part 7 of the proof. -/
import Derived.KernelRfl
import Derived.Test.YtmgkiicjpmihfaaGreatDoorQF
set_option linter.all false
set_option maxRecDepth 20000
set_option maxHeartbeats 400000000
namespace Go.Z
open Go Go.Proofs
variable {F:List aD}{i:Nat}{r:dQ}{w:World}
instance :BEq Bl:=⟨λa b=>a.bl==b.bl&&a.bb==b.bb&&a.bt==b.bt&&a.bs==b.bs⟩
theorem YY{a b:Bl}(h:(a==b)=true):a=b:=by
 cases a;cases b;simp only[BEq.beq,nM,Nat.beq_eq]at h;obtain⟨⟨⟨W,h2⟩,h3⟩,h4⟩:=h;simp_all
def Ji(l:List Bl):List (Nat×Value):=(List.range l.length).map λi=>(i,.agg (w4 (l.getD i default)).toArray)
def oa:List Bl:=[⟨0,0,4,0⟩,⟨0,0,4,16⟩,⟨1,0,5,32⟩,⟨3,0,5,0⟩,⟨4,0,5,0⟩,⟨6,0,5,0⟩,⟨7,0,5,0⟩,⟨9,0,5,0⟩,⟨10,0,5,0⟩,⟨12,0,5,0⟩,⟨14,0,6,0⟩,⟨16,1,5,0⟩,⟨20,1,5,0⟩,⟨22,1,5,0⟩,⟨28,2,5,0⟩,⟨32,3,5,0⟩,⟨48,4,5,0⟩,⟨64,6,5,32⟩,⟨128,7,5,0⟩,⟨256,8,6,0⟩,⟨1024,10,6,0⟩,⟨4096,12,6,0⟩,⟨0,0,4,32⟩,⟨1,0,4,0⟩,⟨2,0,5,0⟩,⟨4,0,5,32⟩,⟨5,0,5,0⟩,⟨7,0,5,32⟩,⟨8,0,5,0⟩,⟨10,0,5,32⟩,⟨11,0,5,0⟩,⟨13,0,6,0⟩,⟨16,1,5,32⟩,⟨18,1,5,0⟩,⟨22,1,5,32⟩,⟨24,2,5,0⟩,⟨32,3,5,32⟩,⟨40,3,5,0⟩,⟨64,6,4,0⟩,⟨64,6,4,16⟩,⟨128,7,5,32⟩,⟨512,9,6,0⟩,⟨2048,11,6,0⟩,⟨0,0,4,48⟩,⟨1,0,4,16⟩,⟨2,0,5,32⟩,⟨3,0,5,32⟩,⟨5,0,5,32⟩,⟨6,0,5,32⟩,⟨8,0,5,32⟩,⟨9,0,5,32⟩,⟨11,0,5,32⟩,⟨12,0,5,32⟩,⟨15,0,6,0⟩,⟨18,1,5,32⟩,⟨20,1,5,32⟩,⟨24,2,5,32⟩,⟨28,2,5,32⟩,⟨40,3,5,32⟩,⟨48,4,5,32⟩,⟨65536,16,6,0⟩,⟨32768,15,6,0⟩,⟨16384,14,6,0⟩,⟨8192,13,6,0⟩]
theorem atJ(w:World):(Instr.buildSlice 71 64 (Ji oa).toArray).run PP w= .ok (.slice (some ⟨w.heap.size,0,none⟩) 64 64) (w.alloc (C (aX oa) 214)):=by kernel_rfl
theorem atK:((List.range 64).all λi=>oa.getD i default==kR 0 ((ji 0).cells.getD i default))=true:=by decide+kernel
theorem atL(h:i<64):oa.getD i default=kR 0 ((ji 0).cells.getD i default):=YY (uL.1 atK i (oX.2 h))
def oc:List Bl:=[⟨1,0,5,0⟩,⟨61,6,4,0⟩,⟨509,9,5,0⟩,⟨32765,15,5,0⟩,⟨2097149,21,5,0⟩,⟨5,3,5,0⟩,⟨125,7,4,0⟩,⟨4093,12,5,0⟩,⟨262141,18,5,0⟩,⟨8388605,23,5,0⟩,⟨29,5,5,0⟩,⟨253,8,4,0⟩,⟨16381,14,5,0⟩,⟨1048573,20,5,0⟩,⟨1,2,5,0⟩,⟨125,7,4,16⟩,⟨2045,11,5,0⟩,⟨131069,17,5,0⟩,⟨4194301,22,5,0⟩,⟨13,4,5,0⟩,⟨253,8,4,16⟩,⟨8189,13,5,0⟩,⟨524285,19,5,0⟩,⟨2,1,5,0⟩,⟨61,6,4,16⟩,⟨1021,10,5,0⟩,⟨65533,16,5,0⟩,⟨268435453,28,5,0⟩,⟨134217725,27,5,0⟩,⟨67108861,26,5,0⟩,⟨33554429,25,5,0⟩,⟨16777213,24,5,0⟩]
theorem atM(w:World):(Instr.buildSlice 71 32 (Ji oc).toArray).run PP w= .ok (.slice (some ⟨w.heap.size,0,none⟩) 32 32) (w.alloc (C (aX oc) 214)):=by kernel_rfl
theorem atN:((List.range 32).all λi=>oc.getD i default==kR 1 ((ji 1).cells.getD i default))=true:=by decide+kernel
theorem atO(h:i<32):oc.getD i default=kR 1 ((ji 1).cells.getD i default):=YY (uL.1 atN i (oX.2 h))
def od:List Bl:=[⟨3,0,6,0⟩,⟨4,0,4,0⟩,⟨5,0,5,32⟩,⟨6,0,5,0⟩,⟨8,0,5,0⟩,⟨9,0,5,0⟩,⟨11,0,5,0⟩,⟨13,0,6,0⟩,⟨16,0,6,0⟩,⟨19,0,6,0⟩,⟨22,0,6,0⟩,⟨25,0,6,0⟩,⟨28,0,6,0⟩,⟨31,0,6,0⟩,⟨34,0,6,0⟩,⟨37,1,6,0⟩,⟨41,1,6,0⟩,⟨47,2,6,0⟩,⟨59,3,6,0⟩,⟨83,4,6,0⟩,⟨131,7,6,0⟩,⟨515,9,6,0⟩,⟨4,0,4,16⟩,⟨5,0,4,0⟩,⟨6,0,5,32⟩,⟨7,0,5,0⟩,⟨9,0,5,32⟩,⟨10,0,5,0⟩,⟨12,0,6,0⟩,⟨15,0,6,0⟩,⟨18,0,6,0⟩,⟨21,0,6,0⟩,⟨24,0,6,0⟩,⟨27,0,6,0⟩,⟨30,0,6,0⟩,⟨33,0,6,0⟩,⟨35,1,6,0⟩,⟨39,1,6,0⟩,⟨43,2,6,0⟩,⟨51,3,6,0⟩,⟨67,4,6,0⟩,⟨99,5,6,0⟩,⟨259,8,6,0⟩,⟨4,0,4,32⟩,⟨4,0,4,48⟩,⟨5,0,4,16⟩,⟨7,0,5,32⟩,⟨8,0,5,32⟩,⟨10,0,5,32⟩,⟨11,0,5,32⟩,⟨14,0,6,0⟩,⟨17,0,6,0⟩,⟨20,0,6,0⟩,⟨23,0,6,0⟩,⟨26,0,6,0⟩,⟨29,0,6,0⟩,⟨32,0,6,0⟩,⟨65539,16,6,0⟩,⟨32771,15,6,0⟩,⟨16387,14,6,0⟩,⟨8195,13,6,0⟩,⟨4099,12,6,0⟩,⟨2051,11,6,0⟩,⟨1027,10,6,0⟩]
theorem atP(w:World):(Instr.buildSlice 71 64 (Ji od).toArray).run PP w= .ok (.slice (some ⟨w.heap.size,0,none⟩) 64 64) (w.alloc (C (aX od) 214)):=by kernel_rfl
theorem atQ:((List.range 64).all λi=>od.getD i default==kR 2 ((ji 2).cells.getD i default))=true:=by decide+kernel
theorem atS(h:i<64):od.getD i default=kR 2 ((ji 2).cells.getD i default):=YY (uL.1 atQ i (oX.2 h))
theorem atT(h:H r w F):Calls PP 120 #[] w λe w'=> ∃b,e= .returned (cf b 64 64)/\H r w' ((af b (aX oa) 214)::F):=by
 refine qN (P:=PP) Tryz.func120 66 Tryz.ntmps120 [0] J J (args:=[]) J ?_;refine V 6 ?_;refine Wj 64 ?_;refine tq (v:=λb=>cf b 64 64) (λw=>AU (u:=λb=>cf b 64 64) (vs:=Ji oa) (λw=>atJ w) J) h J ?_;intro bz w h;refine V 3 ?_;exact⟨bz,J,h⟩
theorem atU(h:H r w F):Calls PP 122 #[] w λe w'=> ∃b,e= .returned (cf b 32 32)/\H r w' ((af b (aX oc) 214)::F):=by
 refine qN (P:=PP) Tryz.func122 34 Tryz.ntmps122 [0] J J (args:=[]) J ?_;refine V 6 ?_;refine Wj 32 ?_;refine tq (v:=λb=>cf b 32 32) (λw=>AU (u:=λb=>cf b 32 32) (vs:=Ji oc) (λw=>atM w) J) h J ?_;intro bz w h;refine V 3 ?_;exact⟨bz,J,h⟩
theorem atV(h:H r w F):Calls PP 124 #[] w λe w'=> ∃b,e= .returned (cf b 64 64)/\H r w' ((af b (aX od) 214)::F):=by
 refine qN (P:=PP) Tryz.func124 66 Tryz.ntmps124 [0] J J (args:=[]) J ?_;refine V 6 ?_;refine Wj 64 ?_;refine tq (v:=λb=>cf b 64 64) (λw=>AU (u:=λb=>cf b 64 64) (vs:=Ji od) (λw=>atP w) J) h J ?_;intro bz w h;refine V 3 ?_;exact⟨bz,J,h⟩
variable {b:Bool}{X:List UInt8}{c k n p0 p1 p2 q:Nat}{f:Nat->UInt8}{a:Option Addr}{x:cQ}
theorem atW{v:Value}:(au x).set 0 (v)=au {x with sV:=v}:=rfl
theorem atX:(au x).set 1 (.bool b)=au {x with gG:=b}:=rfl
theorem atY:(au x).set 2 (.bool b)=au {x with sum:=b}:=rfl
theorem atZ:(au x).set 3 (.bool b)=au {x with one:=b}:=rfl
theorem aua:(au x).set 4 (.bool b)=au {x with dF:=b}:=rfl
theorem aub:(au x).set 5 (cy n)=au {x with rem:=n}:=rfl
theorem agA{z:Int}:(au x).set 6 (.int .i64 z)=au {x with ny:=z}:=rfl
theorem auc:(au x).set 7 (.slice a n c)=au {x with bA:=a,bN:=n,bC:=c}:=rfl
theorem aud:(au x).set 44 (.slice a n c)=au {x with fA:=a,fN:=n,fC:=c}:=rfl
theorem YZ:(au x).set 8 (R n)=au {x with off:=n}:=rfl
theorem aue{v:Value}(hk:k<3):(au x).set (19+k) (v)=au {x with st:=eX x.st k v}:=by
 rcases(I:k=0\/k=1\/k=2)with rfl|rfl|rfl<;>rfl
theorem auf(hk:k<3):(au x).set (22+k) (U8 n)=au {x with tb:=eX x.tb k n}:=by
 rcases(I:k=0\/k=1\/k=2)with rfl|rfl|rfl<;>rfl
theorem aug{v:Value}(hk:k<3):(au x).set (25+k) (v)=au {x with sq:=eX x.sq k v}:=by
 rcases(I:k=0\/k=1\/k=2)with rfl|rfl|rfl<;>rfl
theorem auh(hk:k<3):(au x)[19+k]? =some (x.st k):=by
 rcases(I:k=0\/k=1\/k=2)with rfl|rfl|rfl<;>rfl
theorem aui(hk:k<3):(au x)[22+k]? =some (U8 (x.tb k)):=by
 rcases(I:k=0\/k=1\/k=2)with rfl|rfl|rfl<;>rfl
theorem auj(hk:k<3):(au x)[25+k]? =some (x.sq k):=by
 rcases(I:k=0\/k=1\/k=2)with rfl|rfl|rfl<;>rfl
theorem yD{α:Type}{f:Nat->α}{v:α}:eX f k v k=v:=by unfold eX;rw[ai J]
theorem sX{α:Type}{f:Nat->α}{j:Nat}{v:α}(h:j≠k):eX f k v j=f j:=by unfold eX;rw[ag h]
def dW(f:Nat->UInt8)(c:Nat)(X:List UInt8):Nat->UInt8:=λi=>if c<=i/\i<c+X.length then X.getD (i-c) 0 else f i
theorem agB(A B:List Value): ∀(vs:List Value) (q:Nat),q+vs.length<=A.length->cT (A++B) q vs=cT A q vs++B:=by
 intro vs
 induction vs generalizing A with
 |nil=>intro q _;rfl
 | cons v vs ih=>
   intro q hq
   rw[ek]at hq
   show cT ((A++B).set q v) (q+1) vs=cT (A.set q v) (q+1) vs++B
   rw[KY _ _ I,ih (A.set q v) (q+1) (by rw[dD];omega)]
theorem auk(h:c+X.length<=n):cT ((List.range n).map λi=>u8 (f i)) c (X.map u8)=(List.range n).map λi=>u8 (dW f c X i):=by
 apply oF;intro j;rw[Pw,bX,bX,AG];by_cases hj:j<n
 by_cases hc:c<=j/\j<c+X.length
 rw[ai ⟨hc.1,hc.2,hj⟩,kK,kK,AD hj];have e:j-c<X.length:=I;simp only[uN,dW,ai hc];rw[gv e,bS,gv e];rfl
 rw[ag (λh=>hc ⟨h.1,h.2.1⟩),kK,kK,AD hj];simp only[uN,dW,ag hc]
 rw[ag (λh=>hj h.2.2),gP (by simp;omega),gP (by simp;omega)]
theorem agC{A B:List Value}(hq:q=A.length+c)(h:c+X.length<=n):cT (A++((List.range n).map (λi=>u8 (f i))++B)) q (X.map u8)=A++((List.range n).map (λi=>u8 (dW f c X i))++B):=by
 subst hq;rw[aer _ _ _ _ I,uO,agB _ _ _ _ (by simp;omega),auk h]
theorem aul(x:cQ):au x=(au x).take 28++((List.range 16).map (λi=>u8 (x.fR i))++(au x).drop 44):=rfl
theorem aum(x:cQ):au x=(au x).take 50++((List.range 32).map (λi=>u8 (x.xb i))++(au x).drop 82):=rfl
theorem Y0(hq:q=28+c)(h:c+X.length<=16):cT (au x) q (X.map u8)=au {x with fR:=dW x.fR c X}:=by
 rw[aul x,agC hq h];rfl
theorem aun(hq:q=50+c)(h:c+X.length<=32):cT (au x) q (X.map u8)=au {x with xb:=dW x.xb c X}:=by
 rw[aum x,agC hq h];rfl
def D8(k:Nat):Nat:=[121,123,125].getD k 0
def vF(p0 p1 p2:Nat):List Value:=[.slice (some ⟨p0,0,none⟩) 64 64,R 6,R 35,R 9,.func (.func 121) #[] #[],.slice (some ⟨p1,0,none⟩) 32 32,R 5,R 31,R 8,.func (.func 123) #[] #[],.slice (some ⟨p2,0,none⟩) 64 64,R 6,R 52,R 9,.func (.func 125) #[] #[]]
def pK(p0 p1 p2 k:Nat):Nat:=[p0,p1,p2].getD k 0
theorem k3(h:k<3):k=0\/k=1\/k=2:=I
theorem auo(h:k<3):(vF p0 p1 p2)[k*5+0]? =some (.slice (some ⟨pK p0 p1 p2 k,0,none⟩) (2^(ji k).log) (2^(ji k).log)):=by rcases k3 h with rfl|rfl|rfl<;>rfl
theorem aup(h:k<3):(vF p0 p1 p2)[k*5+1]? =some (R (ji k).log):=by rcases k3 h with rfl|rfl|rfl<;>rfl
theorem auq(h:k<3):(vF p0 p1 p2)[k*5+2]? =some (R (cj k).1):=by rcases k3 h with rfl|rfl|rfl<;>rfl
theorem Jj(h:k<3):(vF p0 p1 p2)[k*5+3]? =some (R (cj k).2):=by rcases k3 h with rfl|rfl|rfl<;>rfl
theorem agD(h:k<3):(vF p0 p1 p2)[k*5+4]? =some (.func (.func (D8 k)) #[] #[]):=by rcases k3 h with rfl|rfl|rfl<;>rfl
def Q9(k:Nat):List Bl:=[oa,oc,od].getD k []
theorem aur(h:k<3)(hi:i<2^(ji k).log):(Q9 k).getD i default=kR k ((ji k).cells.getD i default):=by
 rcases k3 h with rfl|rfl|rfl
 exact atL hi
 exact atO hi
 exact atS hi
theorem aus(h:k<3):(Q9 k).length=2^(ji k).log:=by rcases k3 h with rfl|rfl|rfl<;>rfl
theorem aut(h:k<3)(args:Array Value)(w:World):(callFunc (D8 k) args).run PP w= .ok (.enter (D8 k) args) w:=by
 rcases k3 h with rfl|rfl|rfl
 exact(inferInstance:Body PP 121).run args w
 exact(inferInstance:Body PP 123).run args w
 exact(inferInstance:Body PP 125).run args w
section
variable {n:Nat}{K:gw}{ρ:Env}{w:World}{all:Array Oper}{d:Option Nat}{ty:TypeId}{pos:String}{aN:Array Edge}{ts:Array TypeId}{y x0 x1 x2 x3:Operand}{v0 v1 v2 v3:Value}{k:Nat}
theorem auu(hk:k<3)(hy:Env.ev ρ y= .func (.func (D8 k)) #[] #[])(h0:Env.ev ρ x0=v0)(W:Env.ev ρ x1=v1)(h2:Env.ev ρ x2=v2)(h3:Env.ev ρ x3=v3):run PP ρ (.call {callee:= .value y,args:= #[x0,x1,x2,x3],argTypes:=ts}) ty w= .ok (.enter (D8 k) #[v0,v1,v2,v3]) w:=by
 have h:=aut hk #[v0,v1,v2,v3] w;simp[run,execOp,resolve,invoke,Deferred.ofValue,hy,h0,W,h2,h3,h]
theorem agE{m:Nat}{rest:Ot}(hk:k<3) (hi:all[m]? =some {dst:=d,op:= .call {callee:= .value y,args:= #[x0,x1,x2,x3],argTypes:=ts},type:=ty,pos:=pos,after:=aN,guard:=none})
 (hy:Env.ev ρ y= .func (.func (D8 k)) #[] #[]) (h0:Env.ev ρ x0=v0) (W:Env.ev ρ x1=v1) (h2:Env.ev ρ x2=v2) (h3:Env.ev ρ x3=v3) (hd:aV n d=true)
 (h:Calls PP (D8 k) #[v0,v1,v2,v3] w λe w'=> ∃v,e= .returned v/\D PP n all rest K (Env.put ρ d v) w'):D PP n all (.cons (m,.h) rest) K ρ w:=V5 hi (auu hk hy h0 W h2 h3) hd h
end
theorem agF{br tb tc bb bn bc:Nat}{aE aU:Addr}{zo:Int}{cs:List de}{bs:List Bl}(hk:k<3)(h:H r w ((af bb (aX bs) 214)::F))(hm:(af tb (cU cs) 227)∈F)(hR:(af br (au x) 81)∈F)(hG:Gl F aE aU)(hn:n<=cs.length)(Jh:n<=512)(iW:n<=bn)(jG:bn<=bs.length)(kF: ∀i,i<n->(cs.getD i default).sym<=255):Calls PP (D8 k) #[aW br,.int .i64 zo,cf tb n tc,cf bb bn bc] w λe w'=> ∃er pF,e= .returned er/\H r w' ((af bb (aX pF) 214)::F)/\pF.length=bs.length/\((∀i,i<n->(cs.getD i default).sym<=(cj k).1)->er= .nilIface/\ ∀i,i<n->pF.getD i default=kR k (cs.getD i default))/\((∃i,i<n/\(cj k).1<(cs.getD i default).sym)-> ∃be,er= .iface 182 (aW be)):=by
 rcases k3 hk with rfl|rfl|rfl
 exact atD h hm hR hG hn Jh iW jG kF
 exact atI h hm hR hG hn Jh iW jG kF
 exact atH h hm hR hG hn Jh iW jG kF
theorem H.auv{a b c d:aD}(h:H r w (a::b::c::d::F)):H r w (a::b::c::F):=by
 have:H r w (d::(a::b::c::F)):=h.perm (by
   have e:=(si (a:=d) (l₁:=[a,b,c]) (l₂:=F))
   simpa using e)
 exact this.tail
theorem auw(h:H r w F):Calls PP 112 #[] w λe w'=> ∃p0 p1 p2,e= .returned (.agg (vF p0 p1 p2).toArray)/\H r w' ((af p2 (aX od) 214)::(af p1 (aX oc) 214)::(af p0 (aX oa) 214)::F):=by
 refine CW (P:=PP) Tryz.func112 8 Tryz.ntmps112 0 223 [] J J (args:=[]) J (a9 (eS (eh h J ?_)));intro br w h;refine V 3 ?_;refine Ik J (aA (atT h) ?_);rintro e w1 ⟨p0,rfl,h⟩;refine ah (PC (v1:=R 6) (v2:=R 35) (v3:=R 9) (Wh _ _ _ _ _ _ _ _ _) J J J J J) (Ik J (aA (atU h) ?_));rintro e w1 ⟨p1,rfl,h⟩;refine ah (PC (v1:=R 5) (v2:=R 31) (v3:=R 8) (Wh _ _ _ _ _ _ _ _ _) J J J J J) (Ik J (aA (atV h) ?_));rintro e w1 ⟨p2,rfl,h⟩;refine ah (PC (v1:=R 6) (v2:=R 52) (v3:=R 9) (Wh _ _ _ _ _ _ _ _ _) J J J J J) (ah (wg (apo _ _ _ _ _ _ _ _ _ _ _ _ _ _ _ _ _ _ _ _ _ _ _ _ _ _ _) J J J) (b7 ?_));intro w h;refine aC (iG (⟨_,qQ (vF p0 p1 p2) h J (Rd.self _) J,?_⟩));exact⟨p0,p1,p2,J,H.auv h⟩
variable {L:List aD}{E:List UInt8}{lg:Nat}{t:Option Tb}
theorem Y1{α:Type}{f:Nat->α}{a b:α}:eX (eX f k a) k b=eX f k b:=by
 funext i;unfold eX;split<;>rfl
theorem Y2{α:Type}{f:Nat->α}{v:α}(h:f k=v):eX f k v=f:=by
 funext i;unfold eX;split
 rename_i e;rw[e,h]
 rfl
theorem Y3{α:Type}(f:α->List Value)(zs:List Value)(d:α)(hd:f d=zs)(hz:0<zs.length)(hf: ∀x,(f x).length=zs.length): ∀n,dj zs n=(List.replicate n d).flatMap f
 |0=>by unfold dj;simp
 | n+1=>by
  rw[CE,K6,<-Y3 f zs d hd hz hf n];unfold dj;rw[vU,List.range_add,f_,HV];congr 1;simp only[E0,List.flatMap_nil,dP,hd];apply oF;intro i;rw[kK];by_cases hi:i<zs.length
  rw[AD hi];simp only[uN,Function.comp];rw[iu,Nat.mul_add_mod,mw hi,gv hi];simp[hi]
  rw[gP (by simp;omega),gP I];rfl
theorem agG(n:Nat):dj [aZ 0,gR 0,gR 0,CQ 0] n=aX (List.replicate n default):=Y3 w4 _ default J aj Gi n
theorem agH(n:Nat):dj [gR 0,gR 0,CQ 0] n=cU (List.replicate n default):=Y3 vD _ default J aj QT n
theorem Jk{A B:Prop}(h:A\/B): ∃ok:Bool,(ok=true->A)/\(ok=false->B):=by
 rcases h with h|h
 exact⟨true,λ_=>h,(λe=>by cases e)⟩
 exact⟨false,(λe=>by cases e),λ_=>h⟩
def rX(L:List aD)(v:Value)(lg k:Nat):Option Tb->Prop
 |none=>v= .slice none 0 0
 |some t=> ∃b c bs,v= .slice (some ⟨b,0,none⟩) (2^t.log) c/\(some b,C (aX bs) 214)∈L/\2^t.log<=bs.length/\2^t.log<=c/\(∀i,i<2^t.log->bs.getD i default=kR k (t.cells.getD i default))/\lg=t.log
theorem rX.sub{L':List aD}{v:Value}(h:rX L v lg k t)(hs:Sub L L'):rX L' v lg k t:=by
 cases t with
 |none=>exact h
 |some t=>obtain⟨b,c,bs,W,h2,h3⟩:=h;exact⟨b,c,bs,W,hs _ h2,h3⟩
theorem rX.slice{v:Value}(h:rX L v lg k t): ∃ad n c,v= .slice ad n c/\(n=0↔t=none):=by
 cases t with
 |none=>exact⟨none,0,0,h,by simp⟩
 |some t=>obtain⟨b,c,bs,W,_⟩:=h;have:=ep t.log;exact⟨_,_,c,W,by simp⟩
theorem auy{k:Nat}:(cj k).1<=52/\(cj k).2<=9:=by
 unfold cj;by_cases h:k=0
 simp[h]
 by_cases W:k=1<;>simp[h,W]
theorem auz(hk:k<3):(ji k).log<=9:=by rcases k3 hk with rfl|rfl|rfl<;>decide
def w5(fa:Option Addr)(fn fc:Nat)(dZ:Option Nat)(cs:List de):Prop:=fa=aB dZ/\fn<=fc/\fc<=cs.length/\(dZ=none->fc=0)
def Mz(v:Value)(k:Nat)(oq:Option Nat)(bs:List Bl):Prop:= ∃n c,v= .slice (aB oq) n c/\n<=c/\(c=0\/((∃b,oq=some b)/\c=2^(cj k).2/\bs.length=2^(cj k).2))
def XR(x:cQ)(k:Nat)(v1:Value)(n1:Nat)(v2:Value)(fa:Option Addr)(fn fc:Nat):cQ:={x with st:=eX x.st k v1,tb:=eX x.tb k n1,sq:=eX x.sq k v2,fA:=fa,fN:=fn,fC:=fc}
theorem auA{x:cQ}{k:Nat}:XR x k (x.st k) (x.tb k) (x.sq k) x.fA x.fN x.fC=x:=by unfold XR;rw[Y2 J,Y2 J,Y2 J]
section
variable {x:cQ}{k:Nat}{v1 v2 v:Value}{n1 m:Nat}{fa a:Option Addr}{fn fc n c:Nat}
theorem Y4(hk:k<3):(au (XR x k v1 n1 v2 fa fn fc)).set (19+k) v=au (XR x k v n1 v2 fa fn fc):=by unfold XR;rw[aue hk];dsimp only;rw[Y1]
theorem Y5(hk:k<3):(au (XR x k v1 n1 v2 fa fn fc)).set (22+k) (U8 m)=au (XR x k v1 m v2 fa fn fc):=by unfold XR;rw[auf hk];dsimp only;rw[Y1]
theorem Ra(hk:k<3):(au (XR x k v1 n1 v2 fa fn fc)).set (25+k) v=au (XR x k v1 n1 v fa fn fc):=by unfold XR;rw[aug hk];dsimp only;rw[Y1]
theorem Y6:(au (XR x k v1 n1 v2 fa fn fc)).set 44 (.slice a n c)=au (XR x k v1 n1 v2 a n c):=by unfold XR;rw[aud]
theorem Rb(hk:k<3):(au (XR x k v1 n1 v2 fa fn fc))[19+k]? =some v1:=by rw[auh hk];unfold XR;dsimp only;rw[yD]
theorem Y7(hk:k<3):(au (XR x k v1 n1 v2 fa fn fc))[22+k]? =some (U8 n1):=by rw[aui hk];unfold XR;dsimp only;rw[yD]
theorem w6(hk:k<3):(au (XR x k v1 n1 v2 fa fn fc))[25+k]? =some v2:=by rw[auj hk];unfold XR;dsimp only;rw[yD]
theorem D9:(au (XR x k v1 n1 v2 fa fn fc))[44]? =some (.slice fa fn fc):=rfl
end
theorem auB{P:Program}{ρ:Env}{T ty T':TypeId}{x y:Operand}{len s b a:Nat}{k:IntKind}{u:Int}[hu:bO P T (.array len T')] [hs:Sz P T' s](hx:Env.ev ρ x=aW b)(hy:Env.ev ρ y= .int k u) [W:ao u a](cP:a<len):run P ρ (.indexAddr T x y) ty w= .ok (.value (.pointer (some ⟨b,a*s,none⟩))) w:=by
 rw[V7 hx hy cP,im]
theorem auC:kf t k 0 E=some (ji k,0):=by unfold kf;rw[ai J]
theorem auD(h:0<E.length)(h2:byte E 0<=(cj k).1):kf t k 1 E=some (po (byte E 0),1):=by unfold kf;rw[ag aj,ai J,ag I]
theorem agI(h:E.length=0\/(cj k).1<byte E 0):kf t k 1 E=none:=by unfold kf;rw[ag aj,ai J,ai h]
theorem agJ:kf t k 2 E=(ft (num E) E.length (cj k).2 ((cj k).1+1)).map λx=>(⟨cY x.1 x.2.1,x.2.1⟩,x.2.2):=by unfold kf;rw[ag aj,ag aj,ai J]
theorem agK:kf t k 3 E=t.map λt=>(t,0):=by unfold kf;rw[ag aj,ag aj,ag aj]
theorem auE{e:aD}(hk:k<3):(some (pK p0 p1 p2 k),C (aX (Q9 k)) 214)∈e::([(af p2 (aX od) 214),(af p1 (aX oc) 214),(af p0 (aX oa) 214)]++F):=by
 rcases k3 hk with rfl|rfl|rfl
 exact ar (ar (ar bF))
 exact ar (ar bF)
 exact ar bF
theorem auF{len:Nat}{N size:Nat}{t:Tb}(h:wX len (ft N len (cj k).2 ((cj k).1+1)))(e:(ft N len (cj k).2 ((cj k).1+1)).map (λx=>((⟨cY x.1 x.2.1,x.2.1⟩:Tb),x.2.2))=some (t,size)):len<size+2:=by
 cases hp:ft N len (cj k).2 ((cj k).1+1)with
 |none=>rw[hp]at e;cases e
 |some y=>rw[hp]at e;cases e;exact h y.1 y.2.1 y.2.2 hp
theorem Gk{e:aD}(G:List aD):Sub (e::F) (e::(G++F)):=λx hx=>by
 rcases mR.1 hx with rfl|hx
 exact e_ ..
 exact ar (fe _ hx)
theorem agL{p:Prop}(h:p:=by exact⟨aM,bq,List.replicate (2^(cj k).2) default,(2^(cj k).2),aq,h,dR ..,aR _⟩):p:=h
theorem Y8{br off m dl dc:Nat}{aE aU:Addr}{ad:Option Addr}{dZ oq:Option Nat}{cs:List de}{bs:List Bl}(h:H r w ((af br (au x) 81)::(dZ,C (cU cs) 227)::(oq,C (aX bs) 214)::L))(g8:Sub F L)(hG0:Gl F aE aU)(BA:aP F (.slice ad dl dc) E)(dA:k<3)(hm:m<4)(wY:off<=E.length)(hE:E.length<=268435456)(q_:w5 x.fA x.fN x.fC dZ cs)(hsq:Mz (x.sq k) k oq bs)(dd:rX ((oq,C (aX bs) 214)::F) (x.st k) (x.tb k) k t):Calls PP 104 #[aW br,.slice ad dl dc,R off,R k,.int .u8 (m:Int)] w λe w'=> ∃a er v1 n1 v2 fa fn fc nC jK Y9 pF G,e= .returned (.tuple #[R a,er])/\H r w' ((af br (au (XR x k v1 n1 v2 fa fn fc)) 81)::(nC,C (cU jK) 227)::(Y9,C (aX pF) 214)::(G++L))/\(w5 fa fn fc nC jK/\Mz v2 k Y9 pF)/\((er= .nilIface/\ ∃t' size,kf t k m (E.drop off)=some (t',size)/\a=off+size/\rX ((Y9,C (aX pF) 214)::(G++F)) v1 n1 k (some t'))\/((∃be,er= .iface 182 (aW be))/\ ∀t' size,kf t k m (E.drop off)=some (t',size)->m=2/\E.length-off<size+2)):=by
 have hG:=hG0.sub g8;have hX:=BA.sub g8;have j1:dl=E.length/\dl<=dc:=(by obtain⟨iM,n',c',e1,hl,hc,_⟩:=id hX;cases e1;exact⟨hl,hc⟩);have qm:0<E.length-> ∃db q l T,ad=some ⟨db,q,none⟩/\(af db l T)∈L/\Rd l q (E.map u8):=(by obtain⟨iM,n',c',e1,hl,hc,h3⟩:=id hX;cases e1;intro h0;exact h3 I);have oP:= @auy k;have MA:=auz dA;have LZ:2^(cj k).2<=512:=vh oP.2;have vC:=ep (cj k).2;have MB:=hsq;have Jl:=q_;obtain⟨qn,qc,Rc,aGX,agM⟩:=hsq;obtain⟨sA,sN,sC,pG,jn⟩:=dd.slice;obtain⟨p6,yB,MC,Jm⟩:=q_;rw[<- @auA x k]at h;refine qN (P:=PP) Tryz.func104 285 Tryz.ntmps104 [10,11] J J (args:=[_,_,_,_,_]) J ?_;refine V 7 ?_;refine Ik J (aA (auw h) ?_);rintro e w1 ⟨p0,p1,p2,rfl,h⟩;refine eh h J ?_;intro bi w h;refine qP (vs:=vF p0 p1 p2) h J J J J (by show 0+15<=15;omega) J ?_;intro w h;dsimp only[List.set]at h;rw[show(cT _ 0 (vF p0 p1 p2))=vF p0 p1 p2 from J]at h;refine V 4 ?_;refine ah (auB J J dA) ?_;refine V 13 ?_;refine an J ?_ ?_<;>intro wq
 refine a9 (bL h [0,4,8,12,16,24,28,21,32,39] ?_);intro w h;refine av 7 ?_;refine aK J h J (auo dA) (aw J (nq J J dA) (cV (.slice (some ⟨pK p0 p1 p2 k,0,none⟩) (2^(ji k).log) (2^(ji k).log)) (Rb dA) ?_));intro w h;rw[Y4 dA]at h;refine cm (a9 (bL h [0,4,8,12,16,28,32,21,24,36,43] ?_));intro w h;refine av 7 ?_;refine aK J h J (aup dA) ?_;refine av 1 ?_;refine aw J (nq J J dA) (cV (U8 (ji k).log) (Y7 dA) ?_);intro w h;rw[Y5 dA]at h;refine cm ?_;refine V 7 ?_;replace h:=h.zz [3,3,3,6,6,6,6] 1;have fk:m=0:=wq;rw[fk];exact⟨off,_,_,_,_,_,_,_,_,_,_,_,[(af p2 (aX od) 214),(af p1 (aX oc) 214),(af p0 (aX oa) 214)],J,h,⟨Jl,MB⟩,Or.inl ⟨J,ji k,0,auC,J,pK p0 p1 p2 k,_,Q9 k,J,auE dA,by rw[aus dA];exact aR _,aR _,λi hi=>aur dA hi,J⟩⟩
 refine V 5 ?_;refine an J ?_ ?_<;>intro tN
 refine V 8 ?_;refine an J ?_ ?_<;>intro aqg
 refine V 4 ?_;refine b_ J J J (aA (tX h (ar (ar (ar (ar bF)))) (hG.sub aJ)) ?_);rintro e w1 ⟨be,rfl,h⟩;refine V 4 ?_;replace h:=h.zz [3,3,3,6,6,6,6] 1;have fk:m=1:=tN;rw[fk];exact⟨0,_,_,_,_,_,_,_,_,_,_,_,[(af p2 (aX od) 214),(af p1 (aX oc) 214),(af p0 (aX oa) 214)],J,h,⟨Jl,MB⟩,Or.inr ⟨⟨be,J⟩,λt1 size e=>by rw[agI (Or.inl (by rw[bV];omega))]at e;cases e⟩⟩
 refine aY (qm I) (λdb eN=>aY (eN) (λq eK=>aY (eK) (λl fL=>aY (fL) (λT jm=>?_))));have j3:=jy jm.2.2 (i:=off) I;refine fx jm.2.1 λib nT=>?_;have Bk:=toNat_le (E.getD off 0);have sG:byte (E.drop off) 0=(E.getD off 0).toNat:=(by unfold byte;simp[bS]);have yx:0<(E.drop off).length:=(by rw[bV];omega);refine V 5 ?_;refine ah (cI J J jm.1 I) (aO h J j3 ?_);refine V 11 ?_;refine ah (wg (v1:=gR 0) (v2:=CQ 0) (apq _ _ _) J J J) (kX J (apA _ _ _) h ?_);intro bn w h;refine dI (aC (cD [(65,83)] (λρ w=> ∃ob:Nat,∃iE:List Bl,∃n2:Nat,Kn ρ []/\H r w ((af br (au (XR x k (x.st k) (x.tb k) (cf ob n2 (2^(cj k).2)) x.fA x.fN x.fC)) 81)::(dZ,C (cU cs) 227)::(af ob (aX iE) 214)::(af bn (cU [⟨(E.getD off 0).toNat,0,0⟩]) 227)::(af bi (vF p0 p1 p2) 223)::(af p2 (aX od) 214)::(af p1 (aX oc) 214)::(af p0 (aX oa) 214)::L)/\(iE.length=(2^(cj k).2))/\(n2<=(2^(cj k).2))) ?_ ?_))
 refine V 6 ?_;refine ah (nq J J dA) (aO h J ((w6 dA).trans (by rw[Rc])) ?_);refine ah (E_ J) ?_;refine V 2 ?_;refine an J ?_ ?_<;>intro Re
 refine bL h [0,4,8,12,16,32,36,21,24,30,40,47] ?_;intro w h;refine av 7 ?_;refine aK J h J (Jj dA) (aw J (gn (b:=(cj k).2) J J dw az) ?_);refine adl J h J J J I I I J ?_;intro bq w h;rw[agG]at h;refine aw J (nq J J dA) (cV (cf bq (2^(cj k).2) (2^(cj k).2)) (w6 dA) ?_);intro w h;rw[Ra dA]at h;refine cm ?_;replace h:=h.zz [5,5,5,5,5,5,7,7,8] 1;exact agL
 have ue:=agM.resolve_left Re;refine ue.1.elim λob mE=>?_;have Y_:x.sq k=cf ob qn (2^(cj k).2):=(by rw[Rc,mE,ue.2.1];rfl);rw[Y_,mE]at h;refine aQ ?_;replace h:=h.zz [4,4,4,4,4,7,7,7] 0;exact⟨aM,ob,bs,qn,aq,h,ue.2.2,I⟩
 rintro ρ w ⟨ob,iE,n2,⟨mC,rfl⟩,h,eL,fW⟩;refine a9 (bL h [0,4,8,12,16,20,24,36,40,29,32,44,51] ?_);intro w h;refine av 6 ?_;refine aw J (nq J J dA) ?_;refine av 2 ?_;refine aK J h J (w6 dA) (aw J (lX (c:=1) (W:=ao.lit _) J J I) (aw J (nq J J dA) (cV (cf ob 1 (2^(cj k).2)) (w6 dA) ?_)));intro w h;rw[Ra dA]at h;refine cm (a9 (a9 (bL h [0,4,8,16,20,24,28,32,36,40,44,13,49,55,56] ?_)));intro w h;refine av 10 ?_;refine aw J (nq J J dA) (aK J h J (agD dA) (aK J h J (w6 dA) ?_));replace h:=h.zz [2] 0;refine agE dA J J J J J J J ((agF (n:=1) (cs:=[⟨(E.getD off 0).toNat,0,0⟩]) dA h (ar (ar bF)) bF (hG.sub aJ) (aR 1) I I I (λi hi=>by rw[show i=0 by omega];exact Bk)).mono ?_);rintro e w1 ⟨q9,yE,rfl,h,fh,Jn,MD⟩;refine⟨_,J,?_⟩;refine eY J (cm ?_);refine V 3 ?_;refine ah (jz q9 ((E.getD off 0).toNat<=(cj k).1) J (λe=>(Jn (λi hi=>by rw[show i=0 by omega];exact e)).1) (λe=>MD ⟨0,I,vW e⟩) J) (aC (an J ?_ ?_))<;>intro yF
 refine V 7 ?_;replace h:=h.zz [7,7,7,3,5,5,7,7] 2;have fk:m=1:=tN;rw[fk];exact⟨0,_,_,_,_,_,_,_,_,_,_,_,[(af p2 (aX od) 214),(af p1 (aX oc) 214),(af p0 (aX oa) 214)],J,h,⟨Jl,_,_,J,I,Or.inr ⟨⟨_,J⟩,J,I⟩⟩,Or.inr ⟨MD ⟨0,I,vW yF⟩,λt1 size e=>by rw[agI (Or.inr (by rw[sG];exact vW yF))]at e;cases e⟩⟩
 refine aQ (a9 (bL h [0,4,8,12,16,20,24,32,36,29,40,47] ?_));intro w h;refine av 6 ?_;refine aw J (nq J J dA) ?_;refine av 2 ?_;refine aK J h J (w6 dA) (aw J (nq J J dA) (cV (cf ob 1 (2^(cj k).2)) (Rb dA) ?_));intro w h;rw[Y4 dA]at h;refine cm ?_;refine V 6 ?_;refine ah (nq J J dA) (cV (U8 0) (Y7 dA) ?_);intro w h;rw[Y5 dA]at h;refine V 8 ?_;replace h:=h.zz [7,7,7,3,5,5,7,7] 2;have fk:m=1:=tN;rw[fk];exact⟨off+1,_,_,_,_,_,_,_,_,_,_,_,[(af p2 (aX od) 214),(af p1 (aX oc) 214),(af p0 (aX oa) 214)],J,h,⟨Jl,_,_,J,I,Or.inr ⟨⟨_,J⟩,J,I⟩⟩,Or.inl ⟨J,po (byte (E.drop off) 0),1,auD yx (by rw[sG];omega),J,ob,_,yE,J,e_ ..,by show 1<=_;omega,by show 1<=_;omega,λi hi=>by rw[sG];exact(Jn (λj hj=>by rw[show j=0 by omega];show(E.getD off 0).toNat<=_;omega)).2 i hi,J⟩⟩
 refine V 5 ?_;refine an J ?_ ?_<;>intro Jo
 refine cD [(132,151)] (λρ w=> ∃fb:Nat,∃gB:List de,∃f2 mH:Nat,Kn ρ []/\H r w ((af br (au (XR x k (x.st k) (x.tb k) (x.sq k) (some ⟨fb,0,none⟩) f2 mH)) 81)::(af fb (cU gB) 227)::(oq,C (aX bs) 214)::(af bi (vF p0 p1 p2) 223)::(af p2 (aX od) 214)::(af p1 (aX oc) 214)::(af p0 (aX oa) 214)::L)/\(mH<=gB.length)/\((2^(cj k).2)<=mH)) ?_ ?_
 refine a9 (bL h [0,4,8,20,24,28,13,16,33,36,40] ?_);intro w h;refine av 6 ?_;refine aK J h J D9 (aw J (E_ J) (aK J h J (Jj dA) (aw J (gn (b:=(cj k).2) J J dw az) ?_)));refine av 2 ?_;refine an J ?_ ?_<;>intro aGY
 refine V 5 ?_;refine aO h J (Jj dA) (ah (gn (b:=(cj k).2) J J dw az) ?_);refine tu h J J J I I I J ?_;intro bc w h;rw[agH]at h;refine V 2 ?_;refine cV (cf bc (2^(cj k).2) (2^(cj k).2)) D9 ?_;intro w h;rw[Y6]at h;refine aC ?_;replace h:=h.zz [4,4,4,4,7,5,6,7] 1;exact⟨aM,bc,List.replicate (2^(cj k).2) default,(2^(cj k).2),(2^(cj k).2),aq,h,(by rw[dR];exact aR _),I⟩
 have Y':dZ≠none:=λe=>(by have:=Jm e;omega);refine(Vx.1 Y').elim λfb n6=>?_;rw[n6]at h;have Gm:x.fA=some ⟨fb,0,none⟩:=(by rw[p6,n6];rfl);rw[Gm]at h;refine aQ ?_;replace h:=h.zz [3,3,3,3,6,6,6] 0;exact⟨aM,fb,cs,x.fN,x.fC,aq,h,I,I⟩
 rintro ρ w ⟨fb,gB,f2,mH,⟨k5,rfl⟩,h,auG,auH⟩;refine a9 (bL h [0,4,8,12,20,24,28,17,33,36,40,44,48,55] ?_);intro w h;refine av 7 ?_;refine aK J h J D9 (aK J h J (Jj dA) (aw J (gn (b:=(cj k).2) J J dw az) ?_));refine aw J (lX J J I) ?_;refine av 2 ?_;refine cV (cf fb (2^(cj k).2) mH) D9 ?_;intro w h;rw[Y6]at h;refine cm (a9 (bL h [0,4,8,12,16,20,28,32,36,44,48,52,25,41,57,63,64,68,72,76,80,84,88] ?_));intro w h;refine av 12 ?_;refine aK J h J (auq dA) (aK J h J (Jj dA) (aK J h J D9 ?_));replace h:=h.zz [1] 0;refine anF J J J J J J J J (aA (ago (tn:=(2^(cj k).2)) (tc:=mH) h bF (hG.sub aJ) (hX.sub aJ) wY hE I oP.2 (aR _) I) ?_);rintro e w1 ⟨a1,b1,q9,mI,rfl,h,FQ,hd⟩;refine(Jk hd).elim λok cS=>?_;have fX:=cS.1;have fB:=cS.2;refine av 8 ?_;refine V 4 ?_;refine ah (jz q9 (ok=true) J (λe=>(fX e).1) (λe=>(fB (by simpa using e)).1) J) ?_;refine aC (an J ?_ ?_)<;>intro Za
 have ua:=(fB (by simpa using Za)).2;refine V 7 ?_;replace h:=h.zz [6,6,6,5,4,5,6] 1;have fk:m=2:=Jo;rw[fk];exact⟨0,_,_,_,_,_,_,_,_,_,_,_,[(af p2 (aX od) 214),(af p1 (aX oc) 214),(af p0 (aX oa) 214)],J,h,⟨⟨J,I,I,λe=>by cases e⟩,MB⟩,Or.inr ⟨(fB (by simpa using Za)).1,λt1 size e=>by rw[agJ,bV]at e;exact⟨J,auF ua e⟩⟩⟩
 have fy:=fX (by simpa using Za);refine AV (fy.2) λout size jw=>?_;have ud:=Dt jw.1 oP.2 I;have ha9:a1<=9:=I;have lJ:2^a1<=(2^(cj k).2):=dp I ud.2.1;have su:=ep a1;have kG:=jw.2.2;refine aQ (a9 (bL h [0,4,8,12,20,24,17,28,32,36,43] ?_));intro w h;refine av 5 ?_;refine aw J (gn (b:=a1) J J dw az) ?_;refine aK J h J D9 (aw J (lX J J I) ?_);refine av 2 ?_;refine cV (cf fb (2^a1) mH) D9 ?_;intro w h;rw[Y6]at h;refine cm (cD [(198,216)] (λρ w=> ∃ob:Nat,∃iE:List Bl,∃n2:Nat,Kn ρ []/\H r w ((af br (au (XR x k (x.st k) (x.tb k) (cf ob n2 (2^(cj k).2)) (some ⟨fb,0,none⟩) (2^a1) mH)) 81)::(af fb (cU mI) 227)::(af ob (aX iE) 214)::(af bi (vF p0 p1 p2) 223)::(af p2 (aX od) 214)::(af p1 (aX oc) 214)::(af p0 (aX oa) 214)::L)/\(iE.length=(2^(cj k).2))/\(n2<=(2^(cj k).2))) ?_ ?_)
 refine V 6 ?_;refine ah (nq J J dA) (aO h J ((w6 dA).trans (by rw[Rc])) ?_);refine ah (E_ J) ?_;refine V 2 ?_;refine an J ?_ ?_<;>intro Rf
 refine bL h [0,4,8,12,16,32,36,21,24,30,40,47] ?_;intro w h;refine av 7 ?_;refine aK J h J (Jj dA) (aw J (gn (b:=(cj k).2) J J dw az) ?_);refine adl J h J J J I I I J ?_;intro bq w h;rw[agG]at h;refine aw J (nq J J dA) (cV (cf bq (2^(cj k).2) (2^(cj k).2)) (w6 dA) ?_);intro w h;rw[Ra dA]at h;refine cm ?_;replace h:=h.zz [7,7,7,7,4,5,6,7] 1;exact agL
 have ue:=agM.resolve_left Rf;refine ue.1.elim λob mE=>?_;have Y_:x.sq k=cf ob qn (2^(cj k).2):=(by rw[Rc,mE,ue.2.1];rfl);rw[Y_,mE]at h;refine aQ ?_;replace h:=h.zz [6,6,6,6,6,5,6] 0;exact⟨aM,ob,bs,qn,aq,h,ue.2.2,I⟩
 rintro ρ w ⟨ob,iE,n2,⟨mD,rfl⟩,h,eL,fW⟩;refine a9 (bL h [0,4,8,12,16,20,24,32,36,44,48,29,40,52,59] ?_);intro w h;refine av 6 ?_;refine aw J (nq J J dA) (kA J (aw J (gn (b:=a1) J J dw az) ?_));refine av 2 ?_;refine aK J h J (w6 dA) (aw J (lX J J I) (aw J (nq J J dA) (cV (cf ob (2^a1) (2^(cj k).2)) (w6 dA) ?_)));intro w h;rw[Ra dA]at h;refine cm (a9 (a9 (bL h [0,4,8,16,20,24,28,32,40,44,48,52,56,13,37,61,67,68] ?_)));intro w h;refine av 12 ?_;refine aw J (nq J J dA) (aK J h J (agD dA) (aK J h J D9 (aK J h J (w6 dA) ?_)));replace h:=h.zz [2] 0;refine agE dA J J J J J J J ((agF (n:=2^a1) (cs:=mI) dA h (ar bF) bF (hG.sub aJ) I I (aR _) I (λi hi=>by rw[kG i hi];have:=(FE ud.1 hi).2.2.1;have:=ud.1.len;omega)).mono ?_);rintro e w1 ⟨vE,yE,rfl,h,fh,Jn,MD⟩;refine⟨_,J,?_⟩;have eM:=Jn (λi hi=>by rw[kG i hi];have:=(FE ud.1 hi).2.2.1;omega);have auI:=eM.1;refine eY J (cm ?_);refine V 3 ?_;refine ah (jz vE True J (λ_=>auI) (λe=>absurd trivial e) J) (aC (an J ?_ ?_))<;>intro auJ
 exfalso;exact auJ trivial
 refine aQ (a9 (bL h [0,4,8,12,16,20,24,32,36,29,40,47] ?_));intro w h;refine av 6 ?_;refine aw J (nq J J dA) ?_;refine av 2 ?_;refine aK J h J (w6 dA) (aw J (nq J J dA) (cV (cf ob (2^a1) (2^(cj k).2)) (Rb dA) ?_));intro w h;rw[Y4 dA]at h;refine cm ?_;refine V 8 ?_;refine ah (nq J J dA) (cV (U8 a1) (Y7 dA) ?_);intro w h;rw[Y5 dA]at h;refine V 8 ?_;replace h:=h.zz [6,6,6,3,5,5,6] 1;have fk:m=2:=Jo;rw[fk];exact⟨b1,_,_,_,_,_,_,_,_,_,_,_,[(af p2 (aX od) 214),(af p1 (aX oc) 214),(af p0 (aX oa) 214)],J,h,⟨⟨J,I,I,λe=>by cases e⟩,_,_,J,I,Or.inr ⟨⟨_,J⟩,J,I⟩⟩,Or.inl ⟨J,⟨cY out a1,a1⟩,size,by rw[agJ,bV,jw.1];rfl,jw.2.1,ob,_,yE,J,e_ ..,by show 2^a1<=_;omega,lJ,λi hi=>by rw[eM.2 i hi,kG i hi],J⟩⟩
 refine V 5 ?_;refine an J ?_ ?_<;>intro ME
 refine V 7 ?_;refine ah (nq J J dA) (aO h J ((Rb dA).trans (by rw[pG])) ?_);refine V 3 ?_;refine an J ?_ ?_<;>intro Rg
 refine V 4 ?_;refine ee J J J J (aA (qk h (ar (ar (ar (ar bF)))) (hG.sub aJ)) ?_);rintro e w1 ⟨be,rfl,h⟩;refine V 4 ?_;replace h:=h.zz [3,3,3,6,6,6,6] 1;have fk:m=3:=ME;rw[fk];exact⟨0,_,_,_,_,_,_,_,_,_,_,_,[(af p2 (aX od) 214),(af p1 (aX oc) 214),(af p0 (aX oa) 214)],J,h,⟨Jl,MB⟩,Or.inr ⟨⟨be,J⟩,λt1 size e=>by rw[agK,jn.1 I]at e;cases e⟩⟩
 refine V 8 ?_;replace h:=h.zz [3,3,3,6,6,6,6] 1;have fk:m=3:=ME;rw[fk];refine(Vx.1 (λe=>Rg (jn.2 e))).elim λt1 m4=>?_;exact⟨off,_,_,_,_,_,_,_,_,_,_,_,[(af p2 (aX od) 214),(af p1 (aX oc) 214),(af p0 (aX oa) 214)],J,h,⟨Jl,MB⟩,Or.inl ⟨J,t1,0,by rw[agK,m4];rfl,J,by rw[m4]at dd;exact dd.sub (Gk [(af p2 (aX od) 214),(af p1 (aX oc) 214),(af p0 (aX oa) 214)])⟩⟩
 exfalso;omega
variable {a_:List (Option Tb)}{E3:List UInt8}{m md off p:Nat}{told:Option Tb}
def jo(a_:List (Option Tb))(E1:List UInt8):Nat×Nat×Nat×List (Option Tb):=
 if E1.length=0 then(2,0,0,a_)
 else if byte E1 0=0 then(1,0,1,a_)
 else if E1.length<dU (byte E1 0)then(2,0,0,a_)
 else if(E1.drop (dU (byte E1 0))).length=0 then(2,0,0,a_)
 else if byte (E1.drop (dU (byte E1 0))) 0 % 4≠0 then(0,0,0,a_)
 else
   let y:=fv (byte (E1.drop (dU (byte E1 0))) 0) a_ ((E1.drop (dU (byte E1 0))).drop 1) 3
   (y.1,lM E1,dU (byte E1 0)+1+y.2.2,y.2.1)
structure TI(m:Nat)(a_:List (Option Tb))(E3:List UInt8)(i:Nat)(tl:List (Option Tb))(p:Nat):Prop where
 ne2:(fv m a_ E3 i).1≠2
 eq:(fv m a_ E3 i).1=1->fv m a_ E3 i=(1,tl,p)
theorem TI.zero{m:Nat}{a_:List (Option Tb)}{E3:List UInt8}:TI m a_ E3 0 a_ 0:=⟨(by show(1:Nat)≠2;decide),λ_=>rfl⟩
theorem TI.step{size:Nat}{tl:List (Option Tb)}{t:Tb}(h:TI m a_ E3 i tl p)(ht:tl.getD i none=told)(hm:m/2^(6-2*i) % 4=md)(hb:kf told i md (E3.drop p)=some (t,size)):TI m a_ E3 (i+1) (tl.set i (some t)) (p+size):=by
 subst ht;subst hm;by_cases W:(fv m a_ E3 i).1=1
 have e:=h.eq W;have e2:fv m a_ E3 (i+1)=if m/2^(6-2*i) % 4=2/\E3.length- (p+size)<2 then(0,a_,0)else(1,tl.set i (some t),p+size):=(by rw[fv,e];dsimp only;rw[ag aj,hb]);refine⟨?_,?_⟩
 rw[e2];split
 show(0:Nat)≠2;decide
 show(1:Nat)≠2;decide
 rw[e2];split
 intro e;cases e
 intro _;rfl
 have e:=IY W (I:i<=i+1);refine⟨?_,?_⟩
 rw[e];exact h.ne2
 rw[e];intro e;exact absurd e W
theorem TI.bad{tl:List (Option Tb)}(h:TI m a_ E3 i tl p)(ht:tl.getD i none=told)(hm:m/2^(6-2*i) % 4=md)(hi:i<3)(hb: ∀t size,kf told i md (E3.drop p)=some (t,size)->md=2/\E3.length-p<size+2):(fv m a_ E3 3).1≠1:=by
 have key:(fv m a_ E3 (i+1)).1≠1:=by
  subst ht;subst hm;by_cases W:(fv m a_ E3 i).1=1
  have e:=h.eq W;rw[fv,e];dsimp only;rw[ag aj]
  cases hp:kf (tl.getD i none) i (m/2^(6-2*i) % 4) (E3.drop p)with
  |none=>dsimp only;decide
  | some y=>
    have:=hb y.1 y.2 hp
    dsimp only
    rw[ai ⟨this.1,I⟩];dsimp only;decide
  rw[IY W (I:i<=i+1)];exact W
 rw[IY key (I:i+1<=3)];exact key
theorem auK(h0:off<E.length)(W:byte (E.drop off) 0≠0)(h2:off+dU (byte (E.drop off) 0)<E.length)(h3:(E.getD (off+dU (byte (E.drop off) 0)) 0).toNat % 4=0):jo a_ (E.drop off)=((fv (E.getD (off+dU (byte (E.drop off) 0)) 0).toNat a_ (E.drop (off+dU (byte (E.drop off) 0)+1)) 3).1,lM (E.drop off),dU (byte (E.drop off) 0)+1+(fv (E.getD (off+dU (byte (E.drop off) 0)) 0).toNat a_ (E.drop (off+dU (byte (E.drop off) 0)+1)) 3).2.2,(fv (E.getD (off+dU (byte (E.drop off) 0)) 0).toNat a_ (E.drop (off+dU (byte (E.drop off) 0)+1)) 3).2.1):=by
 unfold jo;have hb:byte ((E.drop off).drop (dU (byte (E.drop off) 0))) 0=(E.getD (off+dU (byte (E.drop off) 0)) 0).toNat:=(by unfold byte;simp[bS,j7]);rw[ag (by rw[bV];omega),ag W,ag (by rw[bV];omega),ag (by rw[bV,bV];omega),hb,ag I,j7,j7];simp only[gQ]
theorem auL(h0:off<E.length)(W:byte (E.drop off) 0=0):jo a_ (E.drop off)=(1,0,1,a_):=by
 unfold jo;rw[ag (by rw[bV];omega),ai W]
theorem auM(h0:E.length<=off):(jo a_ (E.drop off)).1=2:=by
 unfold jo;rw[ai (by rw[bV];omega)]
theorem auN(W:byte (E.drop off) 0≠0)(h2:E.length<=off+dU (byte (E.drop off) 0)):(jo a_ (E.drop off)).1=2:=by
 unfold jo;by_cases h0:(E.drop off).length=0
 rw[ai h0]
 rw[ag h0,ag W];by_cases h3:(E.drop off).length<dU (byte (E.drop off) 0)
 rw[ai h3]
 rw[ag h3,ai (by rw[bV,bV];omega)]
theorem auO(h0:off<E.length)(W:byte (E.drop off) 0≠0)(h2:off+dU (byte (E.drop off) 0)<E.length)(h3:(E.getD (off+dU (byte (E.drop off) 0)) 0).toNat % 4≠0):(jo a_ (E.drop off)).1=0:=by
 unfold jo;have hb:byte ((E.drop off).drop (dU (byte (E.drop off) 0))) 0=(E.getD (off+dU (byte (E.drop off) 0)) 0).toNat:=(by unfold byte;simp[bS,j7]);rw[ag (by rw[bV];omega),ag W,ag (by rw[bV];omega),ag (by rw[bV,bV];omega),hb,ai h3]
theorem H.Zb{a b c d e:aD}{G:List aD}(h:H r w (a::b::c::(G++(d::e::L)))):H r w (a::b::c::d::e::(G++L)):=
 h.perm ((((si (l₁:=G) (a:=d) (l₂:=e::L)).trans ((si (l₁:=G) (a:=e) (l₂:=L)).cons d)).cons c).cons b|>.cons a)
theorem agN(h:p+2<=E.length):num (aa E p 2)=(E.getD p 0).toNat+(E.getD (p+1) 0).toNat*2^8:=by
 have hl:(aa E p 2).length=2:=dx h;have e1:=sH (aa E p 2) 1 I;have e0:=sH (aa E p 2) 0 I;rw[jf I]at e1;rw[e1,e0,kN I,kN I];simp[num]
def Zc(x:cQ)(dZ:Option Nat)(cs:List de)(o0 o1 o2:Option Nat)(b0 b1 b2:List Bl):Prop:=w5 x.fA x.fN x.fC dZ cs/\Mz (x.sq 0) 0 o0 b0/\Mz (x.sq 1) 1 o1 b1/\Mz (x.sq 2) 2 o2 b2
def Gp(F:List aD)(x:cQ)(o0 o1 o2:Option Nat)(b0 b1 b2:List Bl)(a_:List (Option Tb)):Prop:=rX ((o0,C (aX b0) 214)::F) (x.st 0) (x.tb 0) 0 (a_.getD 0 none)/\rX ((o1,C (aX b1) 214)::F) (x.st 1) (x.tb 1) 1 (a_.getD 1 none)/\rX ((o2,C (aX b2) 214)::F) (x.st 2) (x.tb 2) 2 (a_.getD 2 none)
def auP(x y:cQ):Prop:=y={x with st:=y.st,tb:=y.tb,sq:=y.sq,fA:=y.fA,fN:=y.fN,fC:=y.fC}
theorem Jp{v:Value}{t':Option Tb}(h:rX L v lg k t)(e:t=t'):rX L v lg k t':=e▸h
theorem Rh(h:Sub F L){G:List aD}:Sub (G++F) (G++L):=λx hx=>by
 rcases nL.1 hx with hx|hx
 exact ni _ hx
 exact fe _ (h _ hx)
theorem w7(G:List aD):Sub F (G++F):=λ_ hx=>fe _ hx
theorem agO(G G':List aD):Sub F (G++(G'++F)):=λ_ hx=>fe _ (fe _ hx)
theorem auQ{α:Type}{l:List (Option α)}{a b c:Option α}(h:l.length=3):(((l.set 0 a).set 1 b).set 2 c).getD 0 none=a/\(((l.set 0 a).set 1 b).set 2 c).getD 1 none=b/\(((l.set 0 a).set 1 b).set 2 c).getD 2 none=c/\(l.set 0 a).getD 1 none=l.getD 1 none/\((l.set 0 a).set 1 b).getD 2 none=l.getD 2 none:=by
 match l,h with
 | [_,_,_],_=>exact gJ
theorem Ri{a b:Nat}(h:a=b+p):(E.drop b).drop p=E.drop a:=by rw[j7,h]
theorem agP(h:n=2):n≠1:=I
theorem auR(h:n=0):n≠1:=I
theorem Zd{p:Prop}(h:p:=by refine V 4 ?_;refine b_ J J J (aA (tX h bF (qp.sub aJ)) ?_);rintro e w1 ⟨be,rfl,h⟩;refine V 5 ?_;exact⟨0,0,_,false,_,_,_,_,_,_,_,_,_,[],J,h,J,hI,(λe=>by cases e),(λ_=>And.intro ⟨be,J⟩ (agP (auN iW I)))⟩):p:=h
theorem agQ{p:Prop}(h:p:=by exact⟨aM,Kn.mk ⟨gy Rj.symm,gy (by rw[Gq]),trivial⟩,h,I,I,I⟩):p:=h
theorem auS{br dl dc:Nat}{aE aU:Addr}{ad:Option Addr}{dZ o0 o1 o2:Option Nat}{cs:List de}{b0 b1 b2:List Bl}(h:H r w ((af br (au x) 81)::(dZ,C (cU cs) 227)::(o0,C (aX b0) 214)::(o1,C (aX b1) 214)::(o2,C (aX b2) 214)::L))(g8:Sub F L)(hG:Gl F aE aU)(hX:aP F (.slice ad dl dc) E)(hE:E.length<=268435456)(wY:off<=E.length)(eo:a_.length=3)(hI:Zc x dZ cs o0 o1 o2 b0 b1 b2)(hT:Gp F x o0 o1 o2 b0 b1 b2 a_):Calls PP 98 #[aW br,.slice ad dl dc,R off] w λe w'=> ∃n a er ok x' agR jK uf ug uh ui uj uk G,e= .returned (.tuple #[R n,R a,er])/\H r w' ((af br (au x') 81)::(agR,C (cU jK) 227)::(uf,C (aX ug) 214)::(uh,C (aX ui) 214)::(uj,C (aX uk) 214)::(G++L))/\auP x x'/\Zc x' agR jK uf uh uj ug ui uk/\(ok=true->er= .nilIface/\(jo a_ (E.drop off)).1≠2/\((jo a_ (E.drop off)).1=1-> ∃m7,jo a_ (E.drop off)=(1,n,a-off,m7)/\off<=a/\a<=E.length/\Gp (G++F) x' uf uh uj ug ui uk m7))/\(ok=false->(∃be,er= .iface 182 (aW be))/\(jo a_ (E.drop off)).1≠1):=by
 have qp:=hG.sub g8;have hXL:=hX.sub g8;have j1:dl=E.length/\dl<=dc:=(by obtain⟨iM,n',c',e1,hl,hc,_⟩:=id hX;cases e1;exact⟨hl,hc⟩);have qm:0<E.length-> ∃db q l T,ad=some ⟨db,q,none⟩/\(af db l T)∈L/\Rd l q (E.map u8):=(by obtain⟨iM,n',c',e1,hl,hc,h3⟩:=id hXL;cases e1;intro h0;exact h3 I);have aGZ:(E.drop off).length=E.length-off:=bV;have dO:byte (E.drop off) 0=(E.getD off 0).toNat:=(by unfold byte;simp[bS]);have eL:byte (E.drop off) 1=(E.getD (off+1) 0).toNat:=(by unfold byte;simp[bS]);have jG:=toNat_le (E.getD off 0);refine mW Tryz.func98 Tryz.ntmps98 [6,7,8] ?_;refine V 14 ?_;refine an J ?_ ?_<;>intro WH
 refine V 4 ?_;refine b_ J J J (aA (tX h bF (qp.sub aJ)) ?_);rintro e w1 ⟨be,rfl,h⟩;refine V 5 ?_;exact⟨0,0,_,false,_,_,_,_,_,_,_,_,_,[],J,h,J,hI,(λe=>by cases e),(λ_=>And.intro ⟨be,J⟩ (agP (auM I)))⟩
 refine aY (qm I) (λdb eN=>aY (eN) (λq eK=>aY (eK) (λl fL=>aY (fL) (λT jm=>?_))));have j3:=λi (hi:i<E.length)=>jy jm.2.2 (i:=i) hi;refine fx jm.2.1 λib nT=>?_;refine V 5 ?_;refine ah (cI J J jm.1 I) (aO h J (j3 _ I) ?_);refine V 14 ?_;refine an J ?_ ?_<;>intro rH
 refine V 8 ?_;have hz:=auL (a_:=a_) (E:=E) (off:=off) I (by rw[dO];exact rH);exact⟨0,off+1,_,true,_,_,_,_,_,_,_,_,_,[],J,h,J,hI,(λ_=>⟨J,by rw[hz];show(1:Nat)≠2;decide,λ_=>⟨a_,by rw[hz,uO],I,I,hT⟩⟩),(λe=>by cases e)⟩
 have iW:byte (E.drop off) 0≠0:=(by rw[dO];exact rH);refine V 5 ?_;refine cD [(2,2),(6,8),(10,10),(29,77)] (λρ w=>Kn ρ [(10,R (lM (E.drop off))),(2,R (off+(dU (byte (E.drop off) 0))))]/\H r w ((af br (au x) 81)::(dZ,C (cU cs) 227)::(o0,C (aX b0) 214)::(o1,C (aX b1) 214)::(o2,C (aX b2) 214)::L)/\((dU (byte (E.drop off) 0))<=3/\1<=(dU (byte (E.drop off) 0))/\off+(dU (byte (E.drop off) 0))<=E.length)) ?_ ?_
 refine V 5 ?_;refine an J ?_ ?_<;>intro Bg
 have Gq:dU (byte (E.drop off) 0)=1:=(by rw[dO];unfold dU;rw[ag I,ag I]);have Rj:lM (E.drop off)=(E.getD off 0).toNat:=(by unfold lM;rw[Gq,ag aj,ag aj,dO]);refine eS (cM (ah (eB J (dz _ aj)) ?_));exact dI (aC ⟨aM,Kn.mk ⟨gy Rj.symm,gy (by rw[Gq]),trivial⟩,h,I,I,I⟩)
 refine V 5 ?_;refine an J ?_ ?_<;>intro Ge
 have Gq:dU (byte (E.drop off) 0)=2:=(by rw[dO];unfold dU;rw[ag I,ai I]);have Rj:lM (E.drop off)=((E.getD off 0).toNat-128)*2^8+(E.getD (off+1) 0).toNat:=(by unfold lM;rw[Gq,ai J,dO,eL]);refine V 8 ?_;refine an J ?_ ?_<;>intro rN
 exact Zd
 refine V 4 ?_;refine ah (eB J (dz _ aj)) ?_;refine V 1 ?_;refine ah (dN (b:=8) (h2:=ao.lit _) J J aj az) ?_;refine cM (cM (ah (cI J J jm.1 I) (aO h J (j3 _ I) (ah (eB J (dz _ aj)) ?_))));refine ah (d_ J J (by have:=toNat_le (E.getD (off+1) 0);simp only[aG];omega)) ?_;refine V 7 ?_;exact agQ
 have Gq:dU (byte (E.drop off) 0)=3:=(by rw[dO];unfold dU;rw[ai I]);refine V 9 ?_;refine an J ?_ ?_<;>intro DN
 exact Zd
 have Rj:lM (E.drop off)=(E.getD (off+1) 0).toNat+(E.getD (off+1+1) 0).toNat*2^8+32512:=(by unfold lM;rw[Gq,ag aj,ai J,agN I];simp[bS,gQ]);refine aQ (a9 (bL h [0,4,8,20,24,28,32,13,16,37,40,44,48,52,56] ?_));intro w h;refine av 2 ?_;refine aw J (cI J J jm.1 I) ?_;refine av 3 ?_;refine aw J (cI J J jm.1 I) (aK J h J (j3 _ I) (aw J (eB J (dz _ aj)) ?_));refine aK J h J (j3 _ I) (aw J (eB J (dz _ aj)) ?_);refine aw J (dN (b:=8) (h2:=ao.lit _) J J aj (by have:=toNat_le (E.getD (off+1+1) 0);simp only[aG];omega)) ?_;refine aw J (d_ J J (by have:=toNat_le (E.getD (off+1+1) 0);have:=toNat_le (E.getD (off+1) 0);simp only[aG];omega)) ?_;refine aw J (d_ (b:=32512) (h2:=ao.lit _) J J (by have:=toNat_le (E.getD (off+1+1) 0);have:=toNat_le (E.getD (off+1) 0);simp only[aG];omega)) ?_;refine eY J (cm ?_);refine V 5 ?_;exact agQ
 rintro ρ w ⟨⟨mC,rfl⟩,h,Qc⟩;refine V 8 ?_;refine an J ?_ ?_<;>intro Mm
 exact Zd
 refine V 5 ?_;refine ah (cI J J jm.1 I) (aO h J (j3 _ I) ?_);refine V 6 ?_;refine ah (jO (n:=2) J J (dz _ aj) aj) ?_;refine V 2 ?_;refine an J ?_ ?_<;>intro tP
 refine V 4 ?_;refine ee J J J J (aA (qk h bF (qp.sub aJ)) ?_);rintro e w1 ⟨be,rfl,h⟩;refine V 5 ?_;exact⟨0,0,_,false,_,_,_,_,_,_,_,_,_,[],J,h,J,hI,(λe=>by cases e),(λ_=>And.intro ⟨be,J⟩ (auR (auO I iW I I)))⟩
 have BH:=auK (a_:=a_) (E:=E) (off:=off) I iW I I;have Jq:= @TI.zero (E.getD (off+(dU (byte (E.drop off) 0))) 0).toNat a_ (E.drop (off+(dU (byte (E.drop off) 0))+1));have i_:=λa b c=> @auQ Tb a_ a b c eo;refine V 17 ?_;refine ah (pX (b:=6) (h2:=ao.lit _) J J (dz _ aj)) ?_;refine ah (jO (n:=2) J J (aI (j6 _ _) (dz _ aj)) aj) ?_;refine CP (v3:=R 0) J J J J J J (aA (Y8 (F:=F) (k:=0) (m:=(E.getD (off+(dU (byte (E.drop off) 0))) 0).toNat/2^6 % 2^2) (t:=a_.getD 0 none) h (λ_ hh=>ar (ar (g8 _ hh))) hG hX aj (dH _ aj) I hE hI.1 hI.2.1 hT.1) ?_);rintro e w1 ⟨a1,q9,v1,n1,u1,fa1,fn1,fc1,jq,gB,oq1,iE,G1,rfl,h,jJ,BI⟩;replace h:=h.Zb;refine(Jk BI).elim λok1 p6=>?_;have fX:=p6.1;have Jr:=p6.2;refine V 10 ?_;refine ah (jz q9 (ok1=true) J (λe=>(fX e).1) (λe=>(Jr (by simpa using e)).1) J) ?_;refine aC (an J ?_ ?_)<;>intro Di
 have eT:=Jr (by simpa using Di);have bY:(jo a_ (E.drop off)).1≠1:=(by rw[BH];exact Jq.bad (told:=a_.getD 0 none) J J aj (λt size e=>by rw[CG]at e;have:=eT.2 t size e;rw[bV];omega));refine V 8 ?_;exact⟨0,0,_,false,_,_,_,_,_,_,_,_,_,G1,J,h,J,⟨jJ.1,jJ.2,hI.2.2.1,hI.2.2.2⟩,(λe=>by cases e),(λ_=>And.intro eT.1 bY)⟩
 have fy:=fX (by simpa using Di);refine aY (fy.2) (λt1 eN=>aY (eN) (λz1 Dg=>?_));have wV:=Qx Dg.1;rw[bV]at wV;have DR:a1<=E.length:=I;have agS:a1=(off+(dU (byte (E.drop off) 0))+1)+(0+z1):=I;have Ze:=Jq.step (told:=a_.getD 0 none) J J (by rw[CG];exact Dg.1);refine V 7 ?_;refine ah (pX (b:=4) (h2:=ao.lit _) J J (dz _ aj)) ?_;refine ah (jO (n:=2) J J (aI (j6 _ _) (dz _ aj)) aj) ?_;replace h:=h.zz [3,2,2] 0;refine CP (v3:=R 1) J J J J J J (aA (Y8 (F:=G1++F) (k:=1) (m:=(E.getD (off+(dU (byte (E.drop off) 0))) 0).toNat/2^4 % 2^2) (t:=a_.getD 1 none) h (λ_ hh=>ar (ar (Rh g8 _ hh))) (hG.sub (w7 _)) (hX.sub (w7 _)) aj (dH _ aj) DR hE jJ.1 hI.2.2.1 (hT.2.1.sub (Gk _))) ?_);rintro e w1 ⟨a2,vE,v2,n2,u2,fa2,fn2,mH,Gr,mI,oq2,yE,G2,rfl,h,wZ,oV⟩;replace h:=h.Zb;refine(Jk oV).elim λIT yB=>?_;have fB:=yB.1;have agT:=yB.2;refine V 10 ?_;refine ah (jz vE (IT=true) J (λe=>(fB e).1) (λe=>(agT (by simpa using e)).1) J) ?_;refine aC (an J ?_ ?_)<;>intro Zf
 have eT:=agT (by simpa using Zf);have bY:(jo a_ (E.drop off)).1≠1:=(by rw[BH];exact Ze.bad (told:=a_.getD 1 none) (i_ _ none none).2.2.2.1 J aj (λt size e=>by rw[Ri agS]at e;have:=eT.2 t size e;rw[bV];omega));refine V 8 ?_;replace h:=h.zz [4,3,4,4,4] 0;rw[<-cF]at h;exact⟨0,0,_,false,_,_,_,_,_,_,_,_,_,(G2++G1),J,h,J,⟨wZ.1,jJ.2,wZ.2,hI.2.2.2⟩,(λe=>by cases e),(λ_=>And.intro eT.1 bY)⟩
 have jw:=fB (by simpa using Zf);refine aY (jw.2) (λt2 eN=>aY (eN) (λz2 oN=>?_));have vG:=Qx oN.1;rw[bV]at vG;have A6:a2<=E.length:=I;have agU:a2=(off+(dU (byte (E.drop off) 0))+1)+(0+z1+z2):=I;have rT:=Ze.step (told:=a_.getD 1 none) (i_ _ none none).2.2.2.1 J (by rw[Ri agS];exact oN.1);refine V 7 ?_;refine ah (pX (b:=2) (h2:=ao.lit _) J J (dz _ aj)) ?_;refine ah (jO (n:=2) J J (aI (j6 _ _) (dz _ aj)) aj) ?_;replace h:=h.zz [4,2,2] 0;refine CP (v3:=R 2) J J J J J J (aA (Y8 (F:=G2++(G1++F)) (k:=2) (m:=(E.getD (off+(dU (byte (E.drop off) 0))) 0).toNat/2^2 % 2^2) (t:=a_.getD 2 none) h (λ_ hh=>ar (ar (Rh (Rh g8) _ hh))) (hG.sub (agO _ _)) (hX.sub (agO _ _)) aj (dH _ aj) A6 hE wZ.1 hI.2.2.2 ((hT.2.2.sub (Gk _)).sub (Gk _))) ?_);rintro e w1 ⟨a3,BJ,v3,n3,u3,fa3,fn3,fc3,of3,cs3,oq3,MF,G3,rfl,h,qo,MG⟩;replace h:=h.Zb;refine(Jk MG).elim λok3 MC=>?_;have ld:=MC.1;have agV:=MC.2;refine V 10 ?_;refine ah (jz BJ (ok3=true) J (λe=>(ld e).1) (λe=>(agV (by simpa using e)).1) J) ?_;refine aC (an J ?_ ?_)<;>intro agW
 have eT:=agV (by simpa using agW);have bY:(jo a_ (E.drop off)).1≠1:=(by rw[BH];exact rT.bad (told:=a_.getD 2 none) (i_ _ _ none).2.2.2.2 J aj (λt size e=>by rw[Ri agU]at e;have:=eT.2 t size e;rw[bV];omega));refine V 8 ?_;replace h:=h.zz [2,3,4,4,4] 0;rw[<-cF,<-cF,cF G3 G2 G1]at h;exact⟨0,0,_,false,_,_,_,_,_,_,_,_,_,(G3++(G2++G1)),J,h,J,⟨qo.1,jJ.2,wZ.2,qo.2⟩,(λe=>by cases e),(λ_=>And.intro eT.1 bY)⟩
 have Fo:=ld (by simpa using agW);refine AV (Fo.2) λt3 z3 qV=>?_;have ub:=Qx qV.1;rw[bV]at ub;have ha3:a3<=E.length:=I;have aG0:a3=(off+(dU (byte (E.drop off) 0))+1)+(0+z1+z2+z3):=I;have q':=rT.step (told:=a_.getD 2 none) (i_ _ _ none).2.2.2.2 J (by rw[Ri agU];exact qV.1);refine V 10 ?_;replace h:=h.zz [2,3,4,4,4] 0;rw[<-cF,<-cF,cF G3 G2 G1]at h;have su:a3-off=(dU (byte (E.drop off) 0))+1+(0+z1+z2+z3):=I;have AR:(jo a_ (E.drop off)).1≠2:=(by rw[BH];exact q'.ne2);have Rk:(jo a_ (E.drop off)).1=1->jo a_ (E.drop off)=(1,lM (E.drop off),a3-off,(((a_.set 0 (some t1)).set 1 (some t2)).set 2 (some t3))):=λe=>(by rw[BH]at e;rw[BH,q'.eq e,su]);have hF3:(G3++(G2++G1))++F=G3++(G2++(G1++F)):=(by rw[cF,cF]);have w8:=Jp ((Dg.2.2.sub (Gk G2)).sub (Gk G3)) ((i_ (some t1) (some t2) (some t3)).1).symm;have zT:=Jp (oN.2.2.sub (Gk G3)) ((i_ (some t1) (some t2) (some t3)).2.1).symm;have lQ:=Jp qV.2.2 ((i_ (some t1) (some t2) (some t3)).2.2.1).symm;rw[<-hF3]at w8 zT lQ;exact⟨lM (E.drop off),a3,_,true,_,_,_,_,_,_,_,_,_,(G3++(G2++G1)),J,h,J,⟨qo.1,jJ.2,wZ.2,qo.2⟩,(λ_=>⟨J,AR,λe=>⟨(((a_.set 0 (some t1)).set 1 (some t2)).set 2 (some t3)),Rk e,I,I,w8,zT,lQ⟩⟩),(λe=>by cases e)⟩
variable {a b wd:List UInt8}{f bR:Nat}
def zZ(o:List UInt8)(bR i:Nat):UInt8:=o.getD (o.length-bR+i % bR) 0
def gN(o:List UInt8)(bR n:Nat):List UInt8:=(List.range n).map (zZ o bR)
theorem yG(o:List UInt8)(bR n:Nat):(gN o bR n).length=n:=by simp[gN]
theorem auT(o:List UInt8)(bR n:Nat):gN o bR (n+1)=gN o bR n++[zZ o bR n]:=by simp[gN,pU]
theorem auU{o:List UInt8}(h:i<n):(gN o bR n).getD i 0=zZ o bR i:=by simp[gN,bS,h]
theorem auV(h:i<a.length):(a++b).getD i 0=a.getD i 0:=by simp[bS,ir h]
theorem agX(h:a.length<=i):(a++b).getD i 0=b.getD (i-a.length) 0:=by simp[bS,nN h]
theorem agY{o:List UInt8}(W:1<=bR)(h2:bR<=o.length)(hq:o.length-bR<=q)(hp:q<o.length+p):(o++gN o bR p).getD q 0=o.getD (o.length-bR+(q- (o.length-bR)) % bR) 0:=by
 by_cases h:q<o.length
 rw[auV h,mw I];congr 1;omega
 rw[agX I,auU I];unfold zZ;rw[show q- (o.length-bR)=(q-o.length)+bR by omega,Nat.add_mod_right]
theorem agZ{o:List UInt8}{bR:Nat}(W:1<=bR)(h2:bR<=o.length): ∀n,k8 o bR n=o++gN o bR n
 |0=>by simp[k8,gN]
 |n+1=>by rw[k8,agZ W h2 n,auT,cF];congr 2;rw[aF,yG,agY W h2 I I];unfold zZ;rw[show o.length+n-bR- (o.length-bR)=n by omega]
theorem piece{o:List UInt8}{B:Nat}(W:1<=bR)(h2:bR<=o.length)(hB:o.length-bR<=B)(hd:bR∣o.length+p-B)(hBp:B<=o.length+p)(hc:B+c<=o.length+p):gN o bR p++aa (o++gN o bR p) B c=gN o bR (p+c):=by
 apply oF;intro j;have hl:(aa (o++gN o bR p) B c).length=c:=dx (by rw[aF,yG];exact hc);by_cases hj:j<p
 rw[ir (by rw[yG];exact hj)];simp[gN,hj,show j<p+c by omega]
 rw[nN (by rw[yG];omega),yG];by_cases MH:j<p+c
 have e1:(aa (o++gN o bR p) B c)[j-p]? =some ((aa (o++gN o bR p) B c).getD (j-p) 0):=(by rw[bS,gv I];rfl);rw[e1,kN I,agY W h2 I I];have e2:(gN o bR (p+c))[j]? =some (zZ o bR j):=(by simp[gN,MH]);rw[e2];congr 1;unfold zZ;congr 1;obtain⟨m,hm⟩:=hd;have:j=(B+(j-p) - (o.length-bR))+bR*m-bR:=I;have jE:1<=m\/m=0:=I;rcases jE with jE|jE
 . obtain⟨m',rfl⟩: ∃m',m=m'+1:=⟨m-1,I⟩;have e3:j=(B+(j-p) - (o.length-bR))+bR*m':=(by rw[Pb]at this;omega);(conv=>rhs;rw[e3,Pa])
 subst jE;rw[Vy]at hm;omega
 rw[gP I,gP (by rw[yG];omega)]
theorem auW{o:List UInt8}(h2:bR<=o.length)(hc:c<=bR):aa o (o.length-bR) c=gN o bR c:=by
 apply oF;intro j;have hl:(aa o (o.length-bR) c).length=c:=dx I;by_cases hj:j<c
 have e1:(aa o (o.length-bR) c)[j]? =some ((aa o (o.length-bR) c).getD j 0):=(by rw[bS,gv I];rfl);rw[e1,kN I];have e2:(gN o bR c)[j]? =some (zZ o bR j):=(by simp[gN,hj]);rw[e2];unfold zZ;rw[mw I]
 rw[gP I,gP (by rw[yG];omega)]
def eR(wd:List UInt8)(o:Nat):List UInt8:=wd.drop o++wd.take o
theorem BK{o:Nat}(h:o<=wd.length):(eR wd o).length=wd.length:=by simp[eR];omega
theorem auX{o:Nat}(h:f+o+n<=wd.length):aa (eR wd o) f n=aa wd (f+o) n:=by
 unfold eR aa;rw[zd (by rw[bV];omega),Vz (by rw[bV,bV];omega),j7,Ay o f]
theorem auY{o:Nat}(ho:o<=wd.length)(W:f+o<=wd.length)(h2:wd.length<f+o+n)(h3:f+n<=wd.length):aa (eR wd o) f n=wd.drop (f+o)++wd.take (f+o+n-wd.length):=by
 unfold eR aa;rw[zd (by rw[bV];omega),j7,Ay o f,List.take_append,jf (by rw[bV];omega),bV,KW];congr 2;omega
theorem auZ{o:Nat}(ho:o<=wd.length)(W:wd.length<f+o)(h3:f+n<=wd.length):aa (eR wd o) f n=aa wd (f+o-wd.length) n:=by
 unfold eR aa;rw[EY,xG (by rw[bV];omega),List.nil_append,bV,HS,KW];rw[mx I,show f- (wd.length-o)=f+o-wd.length by omega]
variable {sp:List Value}{br:Nat}{ob:Option Nat}
def BX(x:cQ)(ob:Option Nat)(n c:Nat):cQ:={x with bA:=aB ob,bN:=n,bC:=c}
theorem Gu{bH:Option Nat}{n' c':Nat}:(au (BX x ob n c)).set 7 (.slice (aB bH) n' c')=au (BX x bH n' c'):=rfl
theorem re:(au (BX x ob n c))[7]? =some (.slice (aB ob) n c):=rfl
theorem au0(W:x.bA=aB ob)(h2:x.bN=n)(h3:x.bC=c):BX x ob n c=x:=by subst h2;subst h3;unfold BX;rw[<-W]
theorem au1(h:i+n<=a.length):aa (a++b) i n=aa a i n:=by
 unfold aa;rw[zd I,Vz (by rw[bV];omega)]
theorem au2:aa (a++b) (a.length+i) n=aa b i n:=by
 unfold aa;rw[EY,xG I,List.nil_append,uO]
theorem au3(h:q+n<=X.length):Rd (X.map u8++sp) q ((aa X q n).map u8):=Rd.of λj hj=>by
 rw[bX,dx h]at hj
 rw[ir (by rw[bX];omega),kK,kK]
 congr 1
 unfold aa
 rw[pT,ai hj,oE]
theorem au4{b a:Nat}(h:a<c):cut (some ⟨b,0,none⟩) c a 1=some ⟨b,a,none⟩:=by rw[eg J I,im]
theorem au5(h:H r w F)(hR:(af br (au x) 81)∈F){n:Nat}(ke:x.wN=n)(hn:n<=4294967295):Calls PP 116 #[.pointer (some ⟨br,14,none⟩)] w λe w'=>e= .returned (da n)/\H r w' F:=by
 obtain⟨ix,W7⟩:=cX hR;refine gD Tryz.func116 Tryz.ntmps116 [2] ?_;refine V 9 ?_;refine aO h J (show(au x)[15]? =some (.slice x.wA n x.wC)from by rw[<-ke];rfl) ?_;refine V 5 ?_;exact⟨J,h⟩
theorem ag0{p:Prop}(h:p:=by rw[BL]at h dE;exact⟨bI,_,c1,bJ,J,I,h,by rw[bX,aF,a8];omega,dE,I,pD⟩):p:=h
theorem au6{bc fr to:Nat}{out:List UInt8}(h:H r w ((ob,C (List.map u8 (out)++sp) 5)::F))(hR:(af br (au x) 81)∈F)(hW:aP F (.slice x.wA x.wN x.wC) wd)(hk:bG ob out.length bc (out.map u8) sp 1)(MI:fr<=to)(rQ:to<=wd.length)(sY:x.wO<=wd.length)(kh:wd.length<=8388608)(zC:out.length<=4194304):Calls PP 117 #[.pointer (some ⟨br,14,none⟩),.slice (aB ob) out.length bc,da fr,da to] w λe w'=> ∃bH n' c' dm,e= .returned (.slice (aB bH) n' c')/\n'=out.length+(to-fr)/\H r w' ((bH,C (List.map u8 (out++aa (eR wd x.wO) fr (to-fr))++dm) 5)::F)/\bG bH (out.length+(to-fr)) c' ((out++aa (eR wd x.wO) fr (to-fr)).map u8) dm 1:=by
 obtain⟨ix,W7⟩:=cX hR;have Js:x.wN=wd.length/\x.wN<=x.wC:=(by obtain⟨iM,n',c',e1,hl,hc,_⟩:=id hW;cases e1;exact⟨hl,hc⟩);refine wj Tryz.func117 Tryz.ntmps117 [8] ?_;refine V 47 ?_;refine an J ?_ ?_<;>intro Bd
 refine V 9 ?_;refine ah (j8 J) ?_;refine V 9 ?_;refine an J ?_ ?_<;>intro Rl
 refine V 9 ?_;refine ah (j8 J) ?_;refine V 6 ?_;refine fV J ?_;refine V 9 ?_;refine ah (uX J J J I I) (kW (List.map u8 out) sp (((wd.drop ((fr+x.wO) -x.wN)).take (((to+x.wO) -x.wN) - ((fr+x.wO) -x.wN))).map u8) h 0 J J J hk (qg (aP.take (aP.drop hW I) I) aJ) (by intro y hy;obtain⟨z,_,rfl⟩:=jd.1 hy;rfl) I aj J ?_);intro w bI c1 bJ h dE mX pD;dsimp only[List.set]at h;rw[<-f_]at h dE;refine V 3 ?_;have a8:(aa (eR wd x.wO) fr (to-fr)).length=to-fr:=dx (by rw[BK sY];omega);have hw:=auZ (n:=to-fr) (f:=fr) sY I I;have ke:((to+x.wO) -x.wN) - ((fr+x.wO) -x.wN)=to-fr:=I;have BL:(wd.drop ((fr+x.wO) -x.wN)).take (((to+x.wO) -x.wN) - ((fr+x.wO) -x.wN))=aa (eR wd x.wO) fr (to-fr):=(by rw[hw,ke,Js.1];rfl);exact ag0
 exfalso;omega
 refine V 8 ?_;refine an J ?_ ?_<;>intro Rl
 refine V 9 ?_;refine ah (j8 J) ?_;refine V 6 ?_;refine iI J ?_;refine V 8 ?_;refine ah (iY J J I I) (kW (List.map u8 (out)) sp ((wd.drop (fr+x.wO)).map u8) h 0 J J J hk (qg (aP.drop hW I) aJ) (by intro y hy;obtain⟨z,_,rfl⟩:=jd.1 hy;rfl) I aj J ?_);intro w bI c1 bJ h dE mX pD;dsimp only[List.set]at h;rw[<-f_]at h dE;refine V 10 ?_;refine ah (lX J J I) (kW (List.map u8 (out++wd.drop (fr+x.wO))) bJ ((wd.take ((to+x.wO) -x.wN)).map u8) h 0 J J J ⟨by rw[bX,aF,bV];omega,dE,mX,pD⟩ (qg (aP.take hW I) aJ) (by intro y hy;obtain⟨z,_,rfl⟩:=jd.1 hy;rfl) I aj J ?_);intro w cr c2 cG h hJ pj oU;dsimp only[List.set]at h;rw[<-f_]at h hJ;refine V 3 ?_;have a8:(aa (eR wd x.wO) fr (to-fr)).length=to-fr:=dx (by rw[BK sY];omega);have hw:=auY (n:=to-fr) (f:=fr) sY I I I;have ke:out.length+(x.wN- (fr+x.wO))+((to+x.wO) -x.wN)=out.length+(to-fr):=I;have BL:out++wd.drop (fr+x.wO)++wd.take ((to+x.wO) -x.wN)=out++aa (eR wd x.wO) fr (to-fr):=(by rw[hw,cF,show fr+x.wO+(to-fr) -wd.length=(to+x.wO) -x.wN by omega]);rw[BL]at h hJ;exact⟨cr,_,c2,cG,J,I,h,by rw[bX,aF,a8];omega,hJ,I,oU⟩
 refine V 5 ?_;refine fV J ?_;refine V 9 ?_;refine ah (uX J J J I I) (kW (List.map u8 out) sp (((wd.drop (fr+x.wO)).take ((to+x.wO) - (fr+x.wO))).map u8) h 0 J J J hk (qg (aP.take (aP.drop hW I) I) aJ) (by intro y hy;obtain⟨z,_,rfl⟩:=jd.1 hy;rfl) I aj J ?_);intro w bI c1 bJ h dE mX pD;dsimp only[List.set]at h;rw[<-f_]at h dE;refine V 3 ?_;have a8:(aa (eR wd x.wO) fr (to-fr)).length=to-fr:=dx (by rw[BK sY];omega);have hw:=auX (o:=x.wO) (n:=to-fr) (f:=fr) (wd:=wd) I;have ke:(to+x.wO) - (fr+x.wO)=to-fr:=I;have BL:(wd.drop (fr+x.wO)).take ((to+x.wO) - (fr+x.wO))=aa (eR wd x.wO) fr (to-fr):=(by rw[hw,ke];rfl);exact ag0
theorem au7{O wl ol bo:Nat}(hO:O=wl+ol)(h:bR∣O+p- (wl+bo))(hc:c=ol+p-bo)(hb:bo<=ol+p):bR∣O+(p+c) - (wl+bo):=by
 have e:O+(p+c) - (wl+bo)=(O+p- (wl+bo))+(O+p- (wl+bo)):=I;rw[e];exact Nat.dvd_add h h
theorem Zg{o:List UInt8}:gN o bR 0=[]:=rfl
theorem au8{a b:Nat}(h:a=b):da a=da b:=by rw[h]
theorem au9{P:Program}{T:TT}{j:Nat}(hq:q+n<=X.length)(hc:q<c\/n=0)(hj:L[j]? =some (ob,C (X.map u8++sp) T))(hn:ob=none->c=0):Src P r L 1 n (.slice (cut (aB ob) c q 1) n (c-q)) ((aa X q n).map u8):=by
 by_cases h0:n=0
 subst h0;have:(aa X q 0).map u8=[]:=(by unfold aa;simp);rw[this];exact Src.nil
 cases ob with
 |none=>have:=hn J;omega
 | some b=>
   have e:cut (aB (some b)) c q 1=some ⟨b,q,none⟩:=au4 I
   rw[e]
   exact Src.slice hj (au3 hq) (by rw[bX,dx hq,eC])
theorem ag1{p:Prop}(h:p:=by refine V 3 ?_;refine b_ J J J (aA (QL h bF (hG.sub aJ) (ar (ar hB)) au_) ?_);rintro e w1 ⟨be,rfl,h⟩;refine V 3 ?_;exact⟨_,ob,out,bc,sp,J,h,hk,(λe=>I),(λ_=>Exists.intro be J)⟩):p:=h
theorem au'{bb bc M:Nat}{aE aU:Addr}{out:List UInt8}{dv:Value}{o_ b7 bi_ cn_:Nat}(h:H r w ((af br (au (BX x ob out.length bc)) 81)::(ob,C (List.map u8 (out)++sp) 5)::L))(hG:Gl L aE aU)(hB:(af bb [aW br,dv,.int .u32 (o_:Int),.int .u32 (b7:Int),.int .u32 (bi_:Int),.int .u32 (cn_:Int)] 207)∈L)(au_:o_<=4294967295)(hW:aP L (.slice x.wA x.wN x.wC) wd)(hk:bG ob out.length bc (out.map u8) sp 1)(sY:x.wO<=wd.length)(kh:wd.length<=8388608)(zC:out.length<=1048576)(hM:M<=1048576)(aG1:bR<=4294967295):Calls PP 108 #[aW br,aW bb,da bR,da M] w λe w'=> ∃er bH cO c' dm,e= .returned er/\H r w' ((af br (au (BX x bH cO.length c')) 81)::(bH,C (List.map u8 (cO)++dm) 5)::L)/\bG bH cO.length c' (cO.map u8) dm 1/\((1<=bR/\bR<=wd.length+out.length)->er= .nilIface/\cO=out++gN (eR wd x.wO++out) bR (M))/\(¬(1<=bR/\bR<=wd.length+out.length)-> ∃be,er= .iface 182 (aW be)):=by
 have Js:x.wN=wd.length/\x.wN<=x.wC:=(by obtain⟨iM,n',c',e1,hl,hc,_⟩:=id hW;cases e1;exact⟨hl,hc⟩);have hO:(eR wd x.wO++out).length=wd.length+out.length:=(by rw[aF,BK sY]);have MJ:(eR wd x.wO).length=wd.length:=BK sY;refine wj Tryz.func108 Tryz.ntmps108 [8] ?_;refine V 10 ?_;refine an J ?_ ?_<;>intro WH
 exact ag1
 have rG:1<=bR:=I;refine V 10 ?_;refine aO h J re ?_;refine V 4 ?_;refine cD [(3,3),(8,9),(11,13),(25,67)] (λρ w=> ∃p bo:Nat,∃bI:Option Nat,∃c1:Nat,∃bJ:List Value,Kn ρ [(3,da (M-p)),(9,da bo)]/\H r w ((af br (au (BX x bI (out.length+(p)) c1)) 81)::(bI,C (List.map u8 (out++gN (eR wd x.wO++out) bR (p))++bJ) 5)::L)/\(wd.length+out.length<=wd.length+bo+bR)/\(bo<=out.length+p)/\(p<=M)/\(p<M->bR∣(eR wd x.wO++out).length+p- (wd.length+bo))/\(bG bI (out.length+(p)) c1 (List.map u8 (out++gN (eR wd x.wO++out) bR (p))) bJ 1)/\(bR<=wd.length+out.length)/\(p<M->bo<out.length+p)) ?_ ?_
 refine V 6 ?_;refine an J ?_ ?_<;>intro rH
 refine V 5 ?_;refine dJ J J (aA (au5 (x:=BX x ob out.length bc) (n:=wd.length) h bF Js.1 I) ?_);rintro e w1 ⟨rfl,h⟩;refine V 16 ?_;refine an J ?_ ?_<;>intro BC
 exact ag1
 refine V 8 ?_;refine cD [(12,12),(43,46)] (λρ w=> ∃c0:Nat,Kn ρ [(12,da c0)]/\H r w ((af br (au (BX x ob out.length bc)) 81)::(ob,C (List.map u8 (out)++sp) 5)::L)/\(c0<=M/\c0<=bR-out.length/\(c0=M\/c0=bR-out.length))) ?_ ?_
 refine V 6 ?_;refine an J ?_ ?_<;>intro Dy
 refine V 4 ?_;exact⟨aM,M,aq,h,I,I,I⟩
 exact aQ ⟨aM,bR-out.length,aq,h,I,I,I⟩
 rintro ρ w ⟨c0,⟨mC,rfl⟩,h,lY⟩;refine a9 (bL h [0,4,8,12,16,20,24,32,36,40,44,29,51,52,56,63] ?_);intro w h;refine av 11 ?_;refine aK J h J re ?_;replace h:=h.zz [1] 0;refine anE J J J J J J (aA (au6 (x:=BX x ob out.length bc) (wd:=wd) (fr:=wd.length- (bR-out.length)) (to:=wd.length- (bR-out.length)+c0) h bF (hW.sub aJ) hk (mS _ _) I sY kh I) ?_);rintro e w1 ⟨cr,n2,c2,cG,rfl,fW,h,cK⟩;have tW:n2=out.length+c0:=I;have hcp:aa (eR wd x.wO) (wd.length- (bR-out.length)) (wd.length- (bR-out.length)+c0- (wd.length- (bR-out.length)))=gN (eR wd x.wO++out) bR (c0):=(by rw[uO,<-auW I I,show(eR wd x.wO++out).length-bR=wd.length- (bR-out.length) by omega,au1 I]);have Rm:wd.length- (bR-out.length)+c0- (wd.length- (bR-out.length))=c0:=uO _ _;rw[show aa (eR wd (BX x ob out.length bc).wO) (wd.length- (bR-out.length)) (wd.length- (bR-out.length)+c0- (wd.length- (bR-out.length)))=gN (eR wd x.wO++out) bR (c0)from hcp]at h cK;rw[Rm]at cK;refine av 2 ?_;refine gU (.slice (aB cr) n2 c2) ?_;intro w h;rw[Gu]at h;refine cm ?_;refine V 6 ?_;replace h:=h.zz [1] 0;exact⟨aM,c0,0,cr,c2,cG,aq,(by first| (rw[tW]at h;exact h)| (rw[Zg,dP];exact h)),I,bP _,lY.1,(λe=>by rw[hO,show wd.length+out.length+c0- (wd.length+0)=bR by omega];exact Pc _),cK,I,(λe=>I)⟩
 refine V 6 ?_;exact⟨aM,0,out.length-bR,ob,bc,sp,aq,(by first| (rw[tW]at h;exact h)| (rw[Zg,dP];exact h)),I,I,bP _,(λe=>by rw[hO,show wd.length+out.length+0- (wd.length+(out.length-bR))=bR by omega];exact Pc _),(by rw[Zg,dP];exact hk),I,(λe=>I)⟩
 rintro ρ w ⟨p,bo,bI,c1,bJ,⟨k5,rfl⟩,h,aG2,Zh,hpM,MK,eF,wQ,Zj⟩;refine a9 (ze (bQ (σ:=Nat×Option Nat×Nat×List Value) [(3,3),(14,14),(68,101)] (λ⟨p,bI,c1,bJ⟩ ρ w=>Kn ρ [(3,da (M-p)),(9,da bo)]/\H r w ((af br (au (BX x bI (out.length+(p)) c1)) 81)::(bI,C (List.map u8 (out++gN (eR wd x.wO++out) bR (p))++bJ) 5)::L)/\(bo<=out.length+p)/\(p<=M)/\(p<M->bR∣(eR wd x.wO++out).length+p- (wd.length+bo))/\(bG bI (out.length+(p)) c1 (List.map u8 (out++gN (eR wd x.wO++out) bR (p))) bJ 1)/\(p<M->bo<out.length+p)) (λ⟨p,bI,c1,bJ⟩=>M-p) (p,bI,c1,bJ) ⟨aq,h,Zh,hpM,MK,eF,Zj⟩ ?_));rintro⟨p,bI,c1,bJ⟩ ρ w ⟨⟨qY,rfl⟩,h,Zh,hpM,MK,eF,Zj⟩;refine V 6 ?_;refine an J ?_ ?_<;>intro IL
 have kP:p<M:=I;have jG:=Zj kP;have aG3:=eF.2.2.1;refine V 7 ?_;refine aO h J re ?_;refine V 6 ?_;refine cD [(14,14),(78,81)] (λρ w=> ∃c:Nat,Kn ρ [(14,da c)]/\H r w ((af br (au (BX x bI (out.length+(p)) c1)) 81)::(bI,C (List.map u8 (out++gN (eR wd x.wO++out) bR (p))++bJ) 5)::L)/\(c<=M-p/\c<=out.length+p-bo/\(c=M-p\/c=out.length+p-bo))) ?_ ?_
 refine V 6 ?_;refine an J ?_ ?_<;>intro ava
 refine V 4 ?_;exact⟨aM,M-p,aq,h,I,I,I⟩
 exact aQ ⟨aM,out.length+p-bo,aq,h,I,I,I⟩
 rintro ρ w ⟨c,⟨mD,rfl⟩,h,hc⟩;refine a9 (bL h [0,4,8,12,20,24,28,36,40,44,48,17,33,52,59,60,64,71] ?_);intro w h;refine av 11 ?_;refine aK J h J re (aK J h J re (aw J (yu bo c J J J I) (mV (List.map u8 (out++gN (eR wd x.wO++out) bR (p))) bJ ((aa (out++gN (eR wd x.wO++out) bR (p)) bo c).map u8) J h 1 J J J eF (au9 (j:=1) (by rw[aF,yG];omega) I J eF.2.2.2) (by intro y hy;obtain⟨z,_,rfl⟩:=jd.1 hy;rfl) I aj J ?_)));intro w dy c9 dL h df fG eG;dsimp only[List.set]at h;rw[<-f_]at h df;have hpc:out++gN (eR wd x.wO++out) bR (p)++aa (out++gN (eR wd x.wO++out) bR (p)) bo c=out++gN (eR wd x.wO++out) bR (p+c):=(by rw[cF];congr 1;have hpi:=piece (o:=(eR wd x.wO++out)) (bR:=bR) (p:=p) (c:=c) (B:=(eR wd x.wO).length+bo) rG I I (by rw[MJ];exact MK I) I I;rw[cF (eR wd x.wO),au2]at hpi;exact hpi);rw[hpc]at h df;refine av 2 ?_;refine gU (.slice (aB dy) (out.length+p+c) c9) ?_;intro w h;rw[Gu]at h;refine cm ?_;refine V 6 ?_;exact⟨aM,(p+c,dy,c9,dL),cw,Kn.mk ⟨au8 I,J,trivial⟩,(by rw[<-gQ];exact h),I,I,(λe=>au7 hO (MK I) I Zh),(by rw[<-gQ];exact⟨by rw[bX,aF,yG];omega,df,fG,eG⟩),(λe=>I)⟩
 refine V 6 ?_;have hpe:p=M:=I;have pt:(out++gN (eR wd x.wO++out) bR (M)).length=out.length+M:=(by rw[aF,yG]);rw[hpe,<-pt]at h eF;exact⟨_,bI,(out++gN (eR wd x.wO++out) bR (M)),c1,bJ,J,h,eF,(λ_=>And.intro J J),(λe=>absurd ⟨rG,wQ⟩ e)⟩
variable {a b:Nat}{s':Sq}
section
variable {N aL ak begin:Nat}{ts:Nat->Tb}{text:List UInt8}{s:Sq}
def ML(N:Nat)(ts:Nat->Tb)(s:Sq):Nat:=(k7 ts s.at_ 1).1+dS N s.left (k7 ts s.at_ 1).2
def MM(ts:Nat->Tb)(s:Sq):Int:=s.left- (k7 ts s.at_ 1).2
def Jt(N:Nat)(ts:Nat->Tb)(s:Sq):Nat:=(k7 ts s.at_ 2).1+dS N (MM ts s) (k7 ts s.at_ 2).2
def MN(ts:Nat->Tb)(s:Sq):Int:=MM ts s- (k7 ts s.at_ 2).2
def qs(N:Nat)(ts:Nat->Tb)(s:Sq):Nat:=(k7 ts s.at_ 0).1+dS N (MN ts s) (k7 ts s.at_ 0).2
def um(ts:Nat->Tb)(s:Sq):Int:=MN ts s- (k7 ts s.at_ 0).2
def ma(N:Nat)(ts:Nat->Tb)(s:Sq):Nat×Nat×Nat:=qW (ML N ts s) (decide (qs N ts s=0)) s.a s.b s.c
def w9(N:Nat)(ts:Nat->Tb)(text:List UInt8)(s:Sq):List UInt8:=s.out++aa text s.tp (qs N ts s)
theorem Rn:fJ N ts aL ak begin text s=
 if um ts s<0 then(2,s)else if text.length-s.tp<qs N ts s then(2,s)
 else if(ma N ts s).1=0\/(w9 N ts text s).length<(ma N ts s).1 then(2,s)
 else if aL<(ma N ts s).1\/ak<(w9 N ts text s).length-begin+Jt N ts s then(0,s)
 else(1,⟨s.at_,um ts s,s.tp+qs N ts s,k8 (w9 N ts text s) (ma N ts s).1 (Jt N ts s),(ma N ts s).1,(ma N ts s).2.1,(ma N ts s).2.2⟩):=rfl
theorem ag2(h:um ts s<0\/text.length-s.tp<qs N ts s\/(ma N ts s).1=0\/(w9 N ts text s).length<(ma N ts s).1):(fJ N ts aL ak begin text s).1=2:=by
 rw[Rn];by_cases W:um ts s<0
 rw[ai W]
 rw[ag W];by_cases h2:text.length-s.tp<qs N ts s
 rw[ai h2]
 rw[ag h2,ai (by rcases h with h|h|h;(· exact absurd h W);(· exact absurd h h2);(· exact h))]
theorem avb(W:aL<(ma N ts s).1):(fJ N ts aL ak begin text s).1≠1:=by
 rw[Rn];split
 show(2:Nat)≠1;decide
 split
 show(2:Nat)≠1;decide
 split
 show(2:Nat)≠1;decide
 rw[ai (Or.inl W)];show(0:Nat)≠1;decide
theorem avc(h0:(fJ N ts aL ak begin text s).1≠0)(W: ¬um ts s<0)(h2: ¬text.length-s.tp<qs N ts s)(h3: ¬((ma N ts s).1=0\/(w9 N ts text s).length<(ma N ts s).1)):fJ N ts aL ak begin text s=(1,⟨s.at_,um ts s,s.tp+qs N ts s,k8 (w9 N ts text s) (ma N ts s).1 (Jt N ts s),(ma N ts s).1,(ma N ts s).2.1,(ma N ts s).2.2⟩):=by
 rw[Rn,ag W,ag h2,ag h3]at h0 ⊢;split at h0
 exact absurd J h0
 rename_i h4;rw[ag h4]
theorem Ju(h:(fJ N ts aL ak begin text s).1≠1):l8 N ts aL ak begin text (n+1) s=fJ N ts aL ak begin text s:=by
 rw[l8];dsimp only;rw[ai h]
theorem ag3(h:fJ N ts aL ak begin text s=(1,s')):l8 N ts aL ak begin text 1 s=(1,s'):=by
 rw[l8,h];rfl
theorem Zk(h:fJ N ts aL ak begin text s=(1,s')):l8 N ts aL ak begin text (n+2) s=if(jj N ts s'.at_ s'.left 3).2<0 then(2,s)else l8 N ts aL ak begin text (n+1) {s' with at_:=(jj N ts s'.at_ s'.left 3).1,left:=(jj N ts s'.at_ s'.left 3).2}:=by
 rw[l8,h];rfl
theorem avd(h: ∀s',fJ N ts aL ak begin text s=(1,s')->(jj N ts s'.at_ s'.left 3).2<0):(l8 N ts aL ak begin text (n+2) s).1≠1:=by
 by_cases W:(fJ N ts aL ak begin text s).1=1
 have e:fJ N ts aL ak begin text s=(1,(fJ N ts aL ak begin text s).2):=(by rw[<-W]);rw[Zk e,ai (h _ e)];show(2:Nat)≠1;decide
 rw[Ju W];exact W
theorem ag4(h:fJ N ts aL ak begin text s=(1,s')):s'.at_=s.at_/\s'.left=um ts s/\s'.tp=s.tp+qs N ts s/\s'.tp<=text.length+s.tp/\s'.out=k8 (w9 N ts text s) (ma N ts s).1 (Jt N ts s)/\qs N ts s<=text.length-s.tp:=by
 rw[Rn]at h;split at h
 cases h
 split at h
 cases h
 split at h
 cases h
 split at h
 cases h
 cases h;exact⟨J,J,J,by dsimp only;omega,J,I⟩
theorem ag5: ∀{n:Nat} {s y:Sq},l8 N ts aL ak begin text n s=(1,y)->s.tp<=text.length->s.out.length+(text.length-s.tp)<=y.out.length+(text.length-y.tp)/\y.tp<=text.length
 |0,s,y,h,hs=>by cases h;exact⟨aR _,hs⟩
 | n+1,s,y,h,hs=>by
  by_cases W:(fJ N ts aL ak begin text s).1=1
  have e:fJ N ts aL ak begin text s=(1,(fJ N ts aL ak begin text s).2):=(by rw[<-W]);obtain⟨s',BM⟩: ∃s',(fJ N ts aL ak begin text s).2=s':=⟨_,J⟩;rw[BM]at e;have ha:=ag4 e;have hl:s.out.length+(text.length-s.tp)<=s'.out.length+(text.length-s'.tp)/\s'.tp<=text.length:=(by rw[ha.2.2.2.2.1,ha.2.2.1,DO];unfold w9;rw[aF,dx I];omega)
  cases n with
  |zero=>rw[ag3 e]at h;cases h;exact hl
  | succ n=>
    rw[Zk e]at h
    split at h
    . cases h
    . have ih:=ag5 h hl.2
      exact⟨aI hl.1 ih.1,ih.2⟩
  rw[Ju W]at h;rw[h]at W;exact absurd J W
def Ro(ts:Nat->Tb)(at_:List Nat)(left:Int):Int:=left- (cellAt ts at_ 0).bits
def Rp(ts:Nat->Tb)(at_:List Nat)(left:Int):Int:=Ro ts at_ left- (cellAt ts at_ 2).bits
def MO(ts:Nat->Tb)(at_:List Nat)(left:Int):Int:=Rp ts at_ left- (cellAt ts at_ 1).bits
theorem nx3{left:Int}:jj N ts [a,b,c] left 3=([(cellAt ts [a,b,c] 0).base+dS N left (cellAt ts [a,b,c] 0).bits,(cellAt ts [a,b,c] 1).base+dS N (Rp ts [a,b,c] left) (cellAt ts [a,b,c] 1).bits,(cellAt ts [a,b,c] 2).base+dS N (Ro ts [a,b,c] left) (cellAt ts [a,b,c] 2).bits],MO ts [a,b,c] left):=rfl
end
theorem ag6{v:Nat}{n:Bool}(h:3<v):qW v n a b c=(v-3,a,b):=by unfold qW;rw[ai h]
theorem ave{v a b c:Nat}{n:Bool}(W:1<=v)(h3:v<=3):qW v n a b c=(let o:=if n=true then v+1 else v;if o=2 then(b,a,c)else if o=3 then(c,a,b)else if o=4 then(a-1,a,b)else(a,b,c)):=by
 unfold qW;rw[ag I];dsimp only;rcases(I:v=1\/v=2\/v=3)with rfl|rfl|rfl<;>cases n<;>rfl
structure Bs(E:List UInt8)(off o bi cn left:Nat):Prop where
 st:off<=o
 le:o<=E.length
 uq:cn<=32
 Z7:oT (num E) o bi cn
 left:cn+8*(o-off)=left
variable {aE aU:Addr}{dc s t:Nat}{ts:Nat->Tb}{ad:Option Addr}
theorem yH{rb:Nat}{dl o bi cn left:Nat}(h:H r w ((af rb [aW br,.slice ad dl dc,aZ o,aZ off,aZ bi,aZ cn] 207)::F))(hR:(af br (au x) 81)∈F)(hG:Gl F aE aU)(hX:aP F (.slice ad dl dc) E)(hE:E.length<=268435456)(hB:Bs E off o bi cn left)(hb:b<=31):Calls PP 106 #[aW rb,.int .u8 (b:Int)] w λe w'=> ∃v er o' ql jl,e= .returned (.tuple #[aZ v,er])/\H r w' ((af rb [aW br,.slice ad dl dc,aZ o',aZ off,aZ ql,aZ jl] 207)::F)/\o'<=E.length/\(b<=left->er= .nilIface/\v<2^b/\Bs E off o' ql jl (left-b)/\(b<=25->v=dS (num (E.drop off)) (left:Int) b))/\(left<b-> ∃be,er= .iface 182 (aW be)):=by
 have hle:=hB.le;have dd:=hB.st;have hl:=hB.left;refine(Yq h hR hG hX hB.le hE I hb hB.uq hB.Z7).mono ?_;rintro e w1 ⟨v,er,o1,iD,eO,rfl,h,W,h2,h3,h4⟩;refine⟨v,er,o1,iD,eO,J,h,I,λfh=>?_,λfh=>h4 I⟩;obtain⟨g1,g2,g3,g4,g5,g6⟩:=h3 I;have g7:=h2 dd;refine⟨g1,g2,⟨g7,I,g3,g4,I⟩,λh25=>?_⟩;rw[g6 h25,Da _ _ _ fh,<-zV];congr 1;omega
theorem avf{cs:List Bl}{y:Bl}(hi:i<cs.length)(h:cs.getD i default=y):(aX cs)[i*4+0]? =some (da y.bl)/\(aX cs)[i*4+1]? =some (U8 y.bb)/\(aX cs)[i*4+2]? =some (U8 y.bt)/\(aX cs)[i*4+3]? =some (dk y.bs):=by
 subst h;exact⟨Q7 hi aj,Q7 hi aj,Q7 hi aj,Q7 hi aj⟩
def RO(x:cQ)(a b c:Nat):cQ:={x with r1:=a,r2:=b,r3:=c}
theorem Rq{v:Nat}:(au (BX (RO x a b c) ob n k)).set 9 (da v)=au (BX (RO x v b c) ob n k):=rfl
theorem Rr{v:Nat}:(au (BX (RO x a b c) ob n k)).set 10 (da v)=au (BX (RO x a v c) ob n k):=rfl
theorem Zl{v:Nat}:(au (BX (RO x a b c) ob n k)).set 11 (da v)=au (BX (RO x a b v) ob n k):=rfl
theorem avg{p o:List UInt8}(W:1<=bR)(h:bR<=o.length):gN (p++o) bR n=gN o bR n:=by
 unfold gN;congr 1;funext i;unfold zZ;have hm:=dH i (I:0<bR);rw[aF,agX I];congr 1;omega
theorem ag7(h:off<E.length)(h0:(E.getD (E.length-1) 0).toNat=0):iV (E.drop off)=none:=by
 have e:(E.drop off).getD ((E.drop off).length-1) 0=E.getD (E.length-1) 0:=(by rw[bV];simp only[bS,oE];congr 2;omega);unfold iV zw;rw[e,ai (Or.inr h0)]
theorem ag8(h:off<E.length)(h0:(E.getD (E.length-1) 0).toNat≠0):iV (E.drop off)=some (7- (8-gH (E.getD (E.length-1) 0).toNat)+8*(E.length-1-off)):=by
 have e:(E.drop off).getD ((E.drop off).length-1) 0=E.getD (E.length-1) 0:=(by rw[bV];simp only[bS,oE];congr 2;omega);have hb:=toNat_le (E.getD (E.length-1) 0);have h8:= @kj (E.getD (E.length-1) 0).toNat 8 I;have hp:=F9 (n:=(E.getD (E.length-1) 0).toNat) I;unfold iV zw;rw[e,ag (by rw[bV];omega),bV];congr 1;omega
theorem Gv(h:aP F (.slice ad n c) X):n<=c:=by obtain⟨nU,n1,c1,e1,hl,hc,_⟩:=h;cases e1;omega
theorem avh{v:Nat}(W:2^26<=p)(h2:p<=v):3<v:=I
theorem avi{v:Nat}(W:2^26<=p)(h2:p<=v)(h3:n<=5000000):n<v-3:=I
theorem avj{d:Nat}(W:a<=4194304)(h2:b<=262146)(h3:c<=131072)(h4:d=b+c):a+d<=5000000:=I
theorem avk{v:Nat}(h:aP F (.slice ad (n-t) c) (X.drop t))(hv:v<=n-t):aP F (.slice (cut ad c v 1) (n- (t+v)) (c-v)) (X.drop (t+v)):=by
 have:=aP.drop h (m:=v) hv;rw[j7,Nat.sub_sub]at this;exact this
theorem tpv(h:a<=c)(h2: ¬c-a<b):a+b<=c:=I
theorem ag9(hk:k≠1):(codeF k s).2<=16:=by
 unfold codeF;rw[ag hk];split
 exact bP _
 split
 exact bP _
 split
 exact WE _
 exact WC _
theorem avm(h:s<=35):(codeF 0 s).1<=65536:=by
 have: ∀s,s<36->(codeF 0 s).1<=65536:=aj;exact this s I
theorem avn(h:s<=52):(codeF 2 s).1<=65539/\3<=(codeF 2 s).1:=by
 have: ∀s,s<53->(codeF 2 s).1<=65539/\3<=(codeF 2 s).1:=aj;exact this s I
theorem Zm(h:zK ts)(hk:k<3)(hi:i<2^(ts k).log):((ts k).cells.getD i default).sym<=(cj k).1/\((ts k).cells.getD i default).bits<=9/\((ts k).cells.getD i default).base+2^((ts k).cells.getD i default).bits<=2^(ts k).log/\2^(ts k).log<=512:=by
 have a:=(h k hk).cell i hi;exact⟨a.2.2,a.1,a.2.1,vh (h k hk).log⟩
theorem Zn{bs:List Bl}{B Z_:Nat}{c:de}(hi:i<bs.length)(h:bs.getD i default=kR k c)(hB:(codeF k c.sym).1- (if k=1/\2<=c.sym then 3 else 0)=B)(hW:(codeF k c.sym).2=Z_)(ht:c.bits=t)(hn:c.base=n):(aX bs)[i*4+0]? =some (da B)/\(aX bs)[i*4+1]? =some (U8 Z_)/\(aX bs)[i*4+2]? =some (U8 t)/\(aX bs)[i*4+3]? =some (dk n):=by
 subst hB;subst hW;subst ht;subst hn;exact avf hi h
section
variable {x:cQ}{ob:Option Nat}{n k a b c:Nat}
theorem Zo:(au (BX (RO x a b c) ob n k))[7]? =some (.slice (aB ob) n k):=rfl
theorem z4:(au (BX (RO x a b c) ob n k))[9]? =some (da a):=rfl
theorem D_:(au (BX (RO x a b c) ob n k))[10]? =some (da b):=rfl
theorem Rs:(au (BX (RO x a b c) ob n k))[11]? =some (da c):=rfl
theorem avo:(au (BX (RO x a b c) ob n k))[19]? =some (x.st 0):=rfl
theorem avp:(au (BX (RO x a b c) ob n k))[20]? =some (x.st 1):=rfl
theorem avq:(au (BX (RO x a b c) ob n k))[21]? =some (x.st 2):=rfl
theorem avr:(au (BX (RO x a b c) ob n k))[22]? =some (U8 (x.tb 0)):=rfl
theorem avs:(au (BX (RO x a b c) ob n k))[23]? =some (U8 (x.tb 1)):=rfl
theorem avt:(au (BX (RO x a b c) ob n k))[24]? =some (U8 (x.tb 2)):=rfl
end
theorem Gw{vs l:List Value}(h:vs.length=l.length):cT l 0 vs=vs:=by
 rw[AQ _ _ _ I,pV,List.nil_append,im,xG I,dP]
theorem avu{lc many bc aL ak:Nat}{lA:Option Addr}{text pre:List UInt8}(h:H r w ((af br (au (BX x ob 0 bc)) 81)::(ob,C (List.map u8 ([])++sp) 5)::L))(hG:Gl L aE aU)(hX:aP L (.slice ad E.length dc) E)(hE:E.length<=268435456)(wY:off<=E.length)(Ru:aP L (.slice lA text.length lc) text)(hW:aP L (.slice x.wA x.wN x.wC) wd)(hk:bG ob 0 bc [] sp 1)(hS: ∀k,k<3->rX L (x.st k) (x.tb k) k (some (ts k)))(Jv:zK ts)(sY:x.wO<=wd.length)(kh:wd.length<=8388608)(Zp: ∃p0,pre=p0++eR wd x.wO/\(p0=[]\/aL<=wd.length))(fF:pre.length<=4194304)(eo:text.length<=131072)(Dz:1<=many)(XU:many<=1048576)(oQ:ak<=131072)(jF:1<=x.r1)(Zq:x.r1<=4294967295)(Zs:x.r2<=4294967295)(Zt:x.r3<=4294967295)(hV:(k9 ts aL ak pre x.r1 x.r2 x.r3 text many (E.drop off)).1≠0):Calls PP 99 #[aW br,.slice ad E.length dc,R off,.slice lA text.length lc,R many] w λe w'=> ∃er bH lR cO dm a b c,e= .returned er/\H r w' ((af br (au (BX (RO x a b c) bH cO.length lR)) 81)::(bH,C (List.map u8 (cO)++dm) 5)::L)/\bG bH cO.length lR (cO.map u8) dm 1/\((k9 ts aL ak pre x.r1 x.r2 x.r3 text many (E.drop off)).1=1->er= .nilIface/\k9 ts aL ak pre x.r1 x.r2 x.r3 text many (E.drop off)=(1,pre++cO,a,b,c)/\1<=a/\a<=4294967295/\b<=4294967295/\c<=4294967295)/\((k9 ts aL ak pre x.r1 x.r2 x.r3 text many (E.drop off)).1≠1-> ∃be,er= .iface 182 (aW be)):=by
 have j1:E.length<=dc:=(by obtain⟨iM,n',c',e1,hl,hc,_⟩:=id hX;cases e1;exact hc)
 have Rv:off<E.length:=by
  rcases dh off E.length with e|e
  exact e
  exfalso;apply hV;unfold k9;rw[ai (by rw[bV];omega)]
 obtain⟨p0,tZ,vC⟩:=Zp;obtain⟨T0,C0,b0,u7,fk,kY,lY,fq,Rw⟩:=hS 0 I;obtain⟨T1,C1,b1,gr,jE,dE,mX,fy,Zu⟩:=hS 1 I;obtain⟨T2,C2,b2,k4,kE,hJ,pj,jw,Zv⟩:=hS 2 I;obtain⟨i0,rV⟩:=cX fk;obtain⟨i1,n7⟩:=cX jE;obtain⟨i2,vA⟩:=cX kE;have ag':=(Jv 0 I).log;have aha:=(Jv 1 I).log;have ahb:=(Jv 2 I).log;have Zx:pre.length=p0.length+wd.length:=(by rw[tZ,aF,BK sY]);have Zy:BX x ob 0 bc=BX (RO x x.r1 x.r2 x.r3) ob 0 bc:=rfl;rw[Zy]at h;refine qN (P:=PP) Tryz.func99 368 Tryz.ntmps99 [10] J J (args:=[_,_,_,_,_]) J ?_;refine V 12 ?_;refine uV J J J J J (aA (Gd h bF (hG.sub aJ) (hX.sub aJ) (off:=E.length-1) I hE I) ?_);rintro e w1 ⟨vs,MP,rfl,t_,D',h,hz,qu⟩;refine V 3 ?_;refine eh h J ?_;intro bB w h;refine qP (vs:=vs) h J J t_ D' (by exact aR 6) J ?_;intro w h;dsimp only[List.set]at h;rw[Gw (by rw[t_];rfl)]at h;refine V 6 ?_;refine ah (jz MP (¬(E.getD (E.length-1) 0).toNat=0) J (λe=>(qu e).1) (λe=>hz (E6.1 e)) J) (aC (an J ?_ ?_))<;>intro BC
 have dO:(E.getD (E.length-1) 0).toNat=0:=I;have bY:(k9 ts aL ak pre x.r1 x.r2 x.r3 text many (E.drop off)).1≠1:=(by unfold k9;rw[ag (by rw[bV];omega),ag7 Rv dO];show(2:Nat)≠1;decide);refine V 6 ?_;replace h:=h.tail;(try dsimp only[dB]at h);exact⟨_,ob,bc,[],sp,x.r1,x.r2,x.r3,J,h,hk,(λe=>absurd e bY),(λ_=>hz dO)⟩
 have dO:(E.getD (E.length-1) 0).toNat≠0:=I;have eM:=ag8 Rv dO;rw[(qu dO).2]at h;refine cg (7- (8-gH (E.getD (E.length-1) 0).toNat)+8*(E.length-1-off)) λfK z5=>?_;rw[z5]at eM;have Rx:= @kj (E.getD (E.length-1) 0).toNat 8 (by have:=toNat_le (E.getD (E.length-1) 0);omega);have MQ:Bs E off (E.length-1) (E.getD (E.length-1) 0).toNat (7- (8-gH (E.getD (E.length-1) 0).toNat)) fK:=⟨I,I,I,oT.init I dO,z5⟩;refine cg (l8 (num (E.drop off)) ts aL ak pre.length text (many) ⟨(k6 (num (E.drop off)) ts fK 3).1,(k6 (num (E.drop off)) ts fK 3).2,0,pre,x.r1,x.r2,x.r3⟩) λZ9 mA=>?_;have Jw:=aff (aL:=aL) (ak:=ak) (out:=pre) (a:=x.r1) (b:=x.r2) (c:=x.r3) (text:=text) (many:=many) (bV (i:=off) (l:=E)) eM mA I;have bY:Z9.1≠1->(k9 ts aL ak pre x.r1 x.r2 x.r3 text many (E.drop off)).1≠1:=λe=>(by rw[Jw,ai e];exact e);clear hz qu;have X':Z9.1≠0:=λe=>(by apply hV;rw[Jw,ai I];exact e)
 have fI:Z9.1=1->Z9.2.left=0/\ ¬ak<(Z9.2.out++text.drop Z9.2.tp).length-pre.length:=λe=>by
  rw[Jw,ag I]at hV;refine⟨?_,?_⟩
  by_cases hl:Z9.2.left=0
  exact hl
  rw[ai hl]at hV;exact absurd J hV
  intro hm;by_cases hl:Z9.2.left=0
  rw[ag I,ai hm]at hV;exact absurd J hV
  rw[ai hl]at hV;exact absurd J hV
 have nt: ∀(at_:List Nat) (z:Int),z<0->(k7 ts at_ 1).2+0<=31+(k7 ts at_ 1).2->(l8 (num (E.drop off)) ts aL ak pre.length text (many) ⟨at_,z,0,pre,x.r1,x.r2,x.r3⟩).1≠1:=λat_ z hz _=>(by rw[show many=(many-1)+1 by omega];have h2:= @ag2 (num (E.drop off)) aL ak pre.length ts text ⟨at_,z,0,pre,x.r1,x.r2,x.r3⟩ (Or.inl (by unfold um MN MM;dsimp only;omega));rw[Ju I,h2];decide);refine V 7 ?_;refine aO h J (avr.trans (by rw[Rw])) ?_;refine b_ J J J (aA (yH (b:=(ts 0).log) h bF (hG.sub aJ) (hX.sub aJ) hE MQ I) ?_);rintro e w1 ⟨y1,q9,o1,iD,eO,rfl,h,pD,fX,Ja⟩;refine V 10 ?_;refine ah (jz q9 ((ts 0).log<=fK) J (λe=>(fX e).1) (λe=>Ja I) J) (aC (an J ?_ ?_))<;>intro A8
 have mc:Z9.1≠1:=(by rw[<-mA];exact nt _ _ (by show(fK:Int) - ((ts 0).log:Int) - ((ts 1).log:Int) - ((ts 2).log:Int)<0;omega) I);refine V 6 ?_;replace h:=h.tail;(try dsimp only[dB]at h);exact⟨_,ob,bc,[],sp,x.r1,x.r2,x.r3,J,h,hk,(λe=>absurd e (bY mc)),(λ_=>Ja I)⟩
 replace fX:=fX I;clear Ja;have Ry:=fX.2.2.1;have w_:=fX.2.2.2 I;refine V 7 ?_;refine aO h J (avs.trans (by rw[Zu])) ?_;refine b_ J J J (aA (yH (b:=(ts 1).log) h bF (hG.sub aJ) (hX.sub aJ) hE Ry I) ?_);rintro e w1 ⟨y2,vE,o2,nu,sW,rfl,h,oU,fB,Jb⟩;refine V 10 ?_;refine ah (jz vE ((ts 1).log<=fK- (ts 0).log) J (λe=>(fB e).1) (λe=>Jb I) J) (aC (an J ?_ ?_))<;>intro ahc
 have mc:Z9.1≠1:=(by rw[<-mA];exact nt _ _ (by show(fK:Int) - ((ts 0).log:Int) - ((ts 1).log:Int) - ((ts 2).log:Int)<0;omega) I);refine V 6 ?_;replace h:=h.tail;(try dsimp only[dB]at h);exact⟨_,ob,bc,[],sp,x.r1,x.r2,x.r3,J,h,hk,(λe=>absurd e (bY mc)),(λ_=>Jb I)⟩
 replace fB:=fB I;clear Jb;have Rz:=fB.2.2.1;have BF:=fB.2.2.2 I;refine V 7 ?_;refine aO h J (avt.trans (by rw[Zv])) ?_;refine b_ J J J (aA (yH (b:=(ts 2).log) h bF (hG.sub aJ) (hX.sub aJ) hE Rz I) ?_);rintro e w1 ⟨y3,BJ,o3,nA,kQ,rfl,h,zW,ld,Ea⟩;refine V 10 ?_;refine ah (jz BJ ((ts 2).log<=fK- (ts 0).log- (ts 1).log) J (λe=>(ld e).1) (λe=>Ea I) J) (aC (an J ?_ ?_))<;>intro MR
 have mc:Z9.1≠1:=(by rw[<-mA];exact nt _ _ (by show(fK:Int) - ((ts 0).log:Int) - ((ts 1).log:Int) - ((ts 2).log:Int)<0;omega) I);refine V 6 ?_;replace h:=h.tail;(try dsimp only[dB]at h);exact⟨_,ob,bc,[],sp,x.r1,x.r2,x.r3,J,h,hk,(λe=>absurd e (bY mc)),(λ_=>Ea I)⟩
 replace ld:=ld I;clear Ea;have RA:=ld.2.2.1;have Zz:=ld.2.2.2 I;have mX:((fK- (ts 0).log:Nat):Int)=(fK:Int) - ((ts 0).log:Int):=I;have pj:((fK- (ts 0).log- (ts 1).log:Nat):Int)=(fK:Int) - ((ts 0).log:Int) - ((ts 1).log:Int):=I;have w3:((fK- (ts 0).log- (ts 1).log- (ts 2).log:Nat):Int)=(fK:Int) - ((ts 0).log:Int) - ((ts 1).log:Int) - ((ts 2).log:Int):=I;rw[mX]at BF;rw[pj]at Zz;have jg:(k6 (num (E.drop off)) ts fK 3)=([y1,y2,y3],((fK- (ts 0).log- (ts 1).log- (ts 2).log:Nat):Int)):=(by rw[w3,w_,BF,Zz];rfl);have P':l8 (num (E.drop off)) ts aL ak pre.length text (many-0) (⟨[y1,y2,y3],((fK- (ts 0).log- (ts 1).log- (ts 2).log:Nat):Int),0,pre++[],x.r1,x.r2,x.r3⟩:Sq)=Z9:=(by rw[<-mA,jg,dP];rfl);refine V 7 ?_;refine bQ (σ:=Nat×Nat×Nat×Nat×Nat×List UInt8×Option Nat×Nat×List Value×Nat×Nat×Nat×Nat×Nat×Nat×Nat×Option Addr×Nat) [(3,3),(10,10),(13,25),(75,352)] (λ⟨q,ls,os,ms,tp,dY,bI,ja,bJ,a,b,c,o,bi,cn,lf,Jx,lT⟩ ρ w=>Kn ρ [(16,R q),(13,da ls),(14,da os),(15,da ms),(3,.slice Jx (text.length-tp) lT)]/\H r w ((af bB [aW br,.slice ad E.length dc,aZ o,aZ off,aZ bi,aZ cn] 207)::(af br (au (BX (RO x a b c) bI dY.length ja)) 81)::(bI,C (List.map u8 (dY)++bJ) 5)::L)/\(q<=many)/\(ls<2^(ts 0).log)/\(os<2^(ts 1).log)/\(ms<2^(ts 2).log)/\(tp<=text.length)/\(dY.length<=262146)/\(bG bI dY.length ja (dY.map u8) bJ 1)/\((1<=a/\a<=4294967295)/\b<=4294967295/\c<=4294967295)/\(Bs E off o bi cn lf)/\(aP L (.slice Jx (text.length-tp) lT) (text.drop tp))/\(l8 (num (E.drop off)) ts aL ak pre.length text (many-q) (⟨[ls,os,ms],(lf:Int),tp,pre++dY,a,b,c⟩:Sq)=Z9)) (λ⟨q,ls,os,ms,tp,dY,bI,ja,bJ,a,b,c,o,bi,cn,lf,Jx,lT⟩=>many-q) (0,y1,y2,y3,0,[],ob,bc,sp,x.r1,x.r2,x.r3,o3,nA,kQ,fK- (ts 0).log- (ts 1).log- (ts 2).log,lA,lc) ⟨aq,h,(bP _),fX.2.1,fB.2.1,ld.2.1,(bP _),(bP _),hk,⟨⟨jF,Zq⟩,Zs,Zt⟩,RA,Ru,P'⟩ ?_;rintro⟨q,ls,os,ms,tp,dY,bI,ja,bJ,a,b,c,o,bi,cn,lf,Jx,lT⟩ ρ w ⟨⟨mC,rfl⟩,h,hq,MS,MT,BG,A_,mE,eF,RB,lh,cP,hR⟩;refine V 7 ?_;refine an J ?_ ?_<;>intro avv
 clear mX pj w3 A8 ahc MR fX fB ld z5 Rx MQ Ry Rz RA w_ BF Zz jg P' eM mA nt BC t_ D';refine aY (show ∃m',many-q=m'+1 from⟨many-q-1,I⟩) (λm' Ph=>?_);have Eb:=hR;rw[Ph]at Eb;have hw:=Zx;refine V 8 ?_;refine aO h J Zo ?_;refine V 6 ?_;refine an J ?_ ?_<;>intro IG
 have mc:Z9.1≠1:=λe=>(by have F2:l8 (num (E.drop off)) ts aL ak pre.length text (many-q) (⟨[ls,os,ms],(lf:Int),tp,pre++dY,a,b,c⟩:Sq)=(1,Z9.2):=(by rw[hR,<-e]);have oP:=ag5 F2 A_;have h2:=(fI e).2;rw[aF,bV]at h2;have h3:=oP.1;dsimp only at h3;rw[aF]at h3;omega);refine a9 (eS (b_ J J J (aA (QL h (ar bF) (hG.sub aJ) bF (by have:=lh.le;omega)) ?_)));rintro e w1 ⟨be,rfl,h⟩;refine V 3 ?_;replace h:=h.tail;(try dsimp only[dB]at h);exact⟨_,bI,ja,dY,bJ,a,b,c,J,h,eF,(λe=>absurd e (bY mc)),(λ_=>Exists.intro be J)⟩
 refine cg ((codeF 1 ((ts 1).cells.getD os default).sym).2) λW1 Jy=>(cg (((ts 1).cells.getD os default).bits) λt1 m4=>(cg (((ts 1).cells.getD os default).base) λn1 gX=>?_));have MU:=Zm Jv (k:=1) I MT;rw[m4,gX]at MU;refine cg ((codeF 1 ((ts 1).cells.getD os default).sym).1- (if 1=1/\2<=((ts 1).cells.getD os default).sym then 3 else 0)) λB1 z7=>?_;have Gx:=Zn (i:=os) I (fy os MT) z7 Jy m4 gX;refine cg ((codeF 2 ((ts 2).cells.getD ms default).sym).2) λW2 Ec=>(cg (((ts 2).cells.getD ms default).bits) λt2 zE=>(cg (((ts 2).cells.getD ms default).base) λn2 fW=>?_));have MV:=Zm Jv (k:=2) I BG;rw[zE,fW]at MV;refine cg ((codeF 2 ((ts 2).cells.getD ms default).sym).1- (if 2=1/\2<=((ts 2).cells.getD ms default).sym then 3 else 0)) λB2 rY=>?_;have Jz:=Zn (i:=ms) I (jw ms BG) rY Ec zE fW;refine cg ((codeF 0 ((ts 0).cells.getD ls default).sym).2) λW0 MW=>(cg (((ts 0).cells.getD ls default).bits) λt0 ur=>(cg (((ts 0).cells.getD ls default).base) λn0 ke=>?_));have MX:=Zm Jv (k:=0) I MS;rw[ur,ke]at MX;refine cg ((codeF 0 ((ts 0).cells.getD ls default).sym).1- (if 0=1/\2<=((ts 0).cells.getD ls default).sym then 3 else 0)) λB0 z8=>?_;have JA:=Zn (i:=ls) I (fq ls MS) z8 MW ur ke;refine cg (((ts 1).cells.getD os default).sym) λs1 eZ=>?_;have jE:(cj 1).1=31:=rfl;have kE:(cj 2).1=52:=rfl;have ahd:(cj 0).1=35:=rfl;have ZA:s1<=31:=(by rw[<-eZ];have:=MU.1;omega);rw[eZ,agu]at z7 Jy;have RC:W1=s1:=Jy.symm;have Jc:2^s1<=2^31:=dp I ZA;have ahe:=ep s1;have ahf:B1<=2^s1:=(by rw[<-z7];exact vV _ _);have ZC:W2<=16:=(by rw[<-Ec];exact ag9 I);have ZD:W0<=16:=(by rw[<-MW];exact ag9 I);have RD:B2=(codeF 2 ((ts 2).cells.getD ms default).sym).1:=(by rw[<-rY,ag I];rfl);have RE:B0=(codeF 0 ((ts 0).cells.getD ls default).sym).1:=(by rw[<-z8,ag I];rfl);have aG4:B2<=65539/\3<=B2:=(by rw[RD];exact avn (by have:=MV.1;omega));have ahg:B0<=65536:=(by rw[RE];exact avm (by have:=MX.1;omega));have MY:k7 ts [ls,os,ms] 1=(2^s1,s1):=(by show codeF 1 ((ts 1).cells.getD os default).sym=_;rw[eZ,agu]);have RF:k7 ts [ls,os,ms] 2=(B2,W2):=(by show codeF 2 ((ts 2).cells.getD ms default).sym=_;rw[RD,<-Ec]);have RG:k7 ts [ls,os,ms] 0=(B0,W0):=(by show codeF 0 ((ts 0).cells.getD ls default).sym=_;rw[RE,<-MW]);have dE:MM ts (⟨[ls,os,ms],(lf:Int),tp,pre++dY,a,b,c⟩:Sq)=(lf:Int) - (s1:Int):=(by unfold MM;dsimp only;rw[MY]);have hJ:MN ts (⟨[ls,os,ms],(lf:Int),tp,pre++dY,a,b,c⟩:Sq)=(lf:Int) - (s1:Int) - (W2:Int):=(by unfold MN;rw[dE];dsimp only;rw[RF]);have kZ:um ts (⟨[ls,os,ms],(lf:Int),tp,pre++dY,a,b,c⟩:Sq)=(lf:Int) - (s1:Int) - (W2:Int) - (W0:Int):=(by unfold um;rw[hJ];dsimp only;rw[RG]);have Gy:(um ts (⟨[ls,os,ms],(lf:Int),tp,pre++dY,a,b,c⟩:Sq)<0\/text.length-tp<qs (num (E.drop off)) ts (⟨[ls,os,ms],(lf:Int),tp,pre++dY,a,b,c⟩:Sq)\/(ma (num (E.drop off)) ts (⟨[ls,os,ms],(lf:Int),tp,pre++dY,a,b,c⟩:Sq)).1=0\/(w9 (num (E.drop off)) ts text (⟨[ls,os,ms],(lf:Int),tp,pre++dY,a,b,c⟩:Sq)).length<(ma (num (E.drop off)) ts (⟨[ls,os,ms],(lf:Int),tp,pre++dY,a,b,c⟩:Sq)).1)->Z9.1≠1:=λe=>(by have h2:= @ag2 (num (E.drop off)) aL ak pre.length ts text (⟨[ls,os,ms],(lf:Int),tp,pre++dY,a,b,c⟩:Sq) e;rw[<-Eb,Ju I,h2];decide);refine V 7 ?_;refine aO h J (avp.trans (by rw[gr])) ?_;refine cM (ah (ky J J J I) ?_);refine V 8 ?_;refine aO h J (avq.trans (by rw[k4])) ?_;refine cM (ah (ky J J J I) ?_);refine V 8 ?_;refine aO h J (avo.trans (by rw[u7])) ?_;refine cM (ah (ky J J J I) ?_);refine V 7 ?_;refine ah (run_load h J Gx.2.1) (b_ J J J (aA (yH (b:=W1) h bF (hG.sub aJ) (hX.sub aJ) hE lh I) ?_));rintro e w1 ⟨y4,yC,o4,zX,zY,rfl,h,Jf,nB,D7⟩;refine V 10 ?_;refine ah (jz yC (W1<=lf) J (λe=>(nB e).1) (λe=>D7 I) J) (aC (an J ?_ ?_))<;>intro FW
 have mc:Z9.1≠1:=Gy (Or.inl (by rw[kZ];omega));refine V 6 ?_;replace h:=h.tail;(try dsimp only[dB]at h);exact⟨_,bI,ja,dY,bJ,a,b,c,J,h,eF,(λe=>absurd e (bY mc)),(λ_=>D7 I)⟩
 replace nB:=nB I;clear D7;have RH:=nB.2.2.1;have z9:y4<2^s1:=(by rw[<-RC];exact nB.2.1);refine V 6 ?_;refine ah (run_load h J Gx.1) ?_;refine V 9 ?_;refine ah (run_load h J Jz.2.1) (b_ J J J (aA (yH (b:=W2) h bF (hG.sub aJ) (hX.sub aJ) hE RH I) ?_));rintro e w1 ⟨y5,z_,o5,bi5,cn5,rfl,h,ho5,rf,Ed⟩;refine V 10 ?_;refine ah (jz z_ (W2<=lf-W1) J (λe=>(rf e).1) (λe=>Ed I) J) (aC (an J ?_ ?_))<;>intro ZE
 have mc:Z9.1≠1:=Gy (Or.inl (by rw[kZ];omega));refine V 6 ?_;replace h:=h.tail;(try dsimp only[dB]at h);exact⟨_,bI,ja,dY,bJ,a,b,c,J,h,eF,(λe=>absurd e (bY mc)),(λ_=>Ed I)⟩
 replace rf:=rf I;clear Ed;have ahh:=rf.2.2.1;have hy5:=rf.2.2.2 I;have aG5:y5<2^16:=ry rf.2.1 (dp I ZC);refine V 6 ?_;refine ah (run_load h J Jz.1) ?_;refine V 9 ?_;refine ah (run_load h J JA.2.1) (b_ J J J (aA (yH (b:=W0) h bF (hG.sub aJ) (hX.sub aJ) hE ahh I) ?_));rintro e w1 ⟨y6,ZF,o6,MZ,M0,rfl,h,ZG,pH,Ee⟩;refine V 10 ?_;refine ah (jz ZF (W0<=lf-W1-W2) J (λe=>(pH e).1) (λe=>Ee I) J) (aC (an J ?_ ?_))<;>intro ahi
 have mc:Z9.1≠1:=Gy (Or.inl (by rw[kZ];omega));refine V 6 ?_;replace h:=h.tail;(try dsimp only[dB]at h);exact⟨_,bI,ja,dY,bJ,a,b,c,J,h,eF,(λe=>absurd e (bY mc)),(λ_=>Ee I)⟩
 replace pH:=pH I;clear Ee;have M1:=pH.2.2.1;have hy6:=pH.2.2.2 I;have ahj:y6<2^16:=ry pH.2.1 (dp I ZD);have avw:Jt (num (E.drop off)) ts (⟨[ls,os,ms],(lf:Int),tp,pre++dY,a,b,c⟩:Sq)=B2+y5:=(by unfold Jt;rw[dE];dsimp only;rw[RF,hy5,show((lf-W1:Nat):Int)=(lf:Int) - (s1:Int) by omega]);have JB:qs (num (E.drop off)) ts (⟨[ls,os,ms],(lf:Int),tp,pre++dY,a,b,c⟩:Sq)=B0+y6:=(by unfold qs;rw[hJ];dsimp only;rw[RG,hy6,show((lf-W1-W2:Nat):Int)=(lf:Int) - (s1:Int) - (W2:Int) by omega]);have ahk:s1<=25->ML (num (E.drop off)) ts (⟨[ls,os,ms],(lf:Int),tp,pre++dY,a,b,c⟩:Sq)=2^s1+y4:=λe=>(by unfold ML;dsimp only;rw[MY,nB.2.2.2 I,RC]);have AZ:um ts (⟨[ls,os,ms],(lf:Int),tp,pre++dY,a,b,c⟩:Sq)=((lf-W1-W2-W0:Nat):Int):=(by rw[kZ];omega);refine cg (lf-W1-W2-W0) λpI JC=>?_;rw[JC]at AZ M1;clear JC nB rf pH RH ahh hy5 hy6 FW ZE ahi dE hJ kZ;refine V 6 ?_;refine ah (run_load h J JA.1) ?_;refine V 4 ?_;refine cD [(22,22),(160,259)] (λρ w=> ∃a2 nD uu:Nat,Kn ρ [(22,da a2)]/\H r w ((af bB [aW br,.slice ad E.length dc,aZ o6,aZ off,aZ MZ,aZ M0] 207)::(af br (au (BX (RO x a2 nD uu) bI dY.length ja)) 81)::(bI,C (List.map u8 (dY)++bJ) 5)::L)/\(s1<=25->ma (num (E.drop off)) ts (⟨[ls,os,ms],(lf:Int),tp,pre++dY,a,b,c⟩:Sq)=(a2,nD,uu))/\(26<=s1->67108861<=a2)/\(a2<=4294967295/\nD<=4294967295/\uu<=4294967295)) ?_ ?_
 refine V 5 ?_;refine ah (run_load h J Gx.2.1) ?_;refine V 2 ?_;refine an J ?_ ?_<;>intro aG6
 have fH:2<=s1:=I;have Q8:4<=2^s1:=aI (show 4<=2^2 by decide) (dp I fH);have Gz:B1=2^s1-3:=(by rw[<-z7,ai ⟨J,fH⟩]);refine V 6 ?_;refine aO h J D_ ?_;refine V 2 ?_;refine cV (da b) Rs ?_;intro w h;rw[Zl]at h;refine V 7 ?_;refine aO h J z4 ?_;refine V 2 ?_;refine cV (da a) D_ ?_;intro w h;rw[Rr]at h;refine V 6 ?_;refine cV (da (B1+y4)) z4 ?_;intro w h;rw[Rq]at h;exact aC ⟨aH 26,B1+y4,a,b,aq,h,(λe=>by unfold ma;rw[ahk e,ag6 I,Gz];show(_,_,_)=(_,_,_);rw[show 2^s1+y4-3=2^s1-3+y4 by omega]),(λe=>by have:2^26<=2^s1:=dp I e;omega),I,I,I⟩
 have fH:s1<=1:=I;have Gz:B1=2^s1:=(by rw[<-z7,ag I];rfl)
 have ahl:1<=B1+y4/\B1+y4<=3:=by
  rcases(I:s1=0\/s1=1)with e|e
  rw[e]at Gz z9;omega
  rw[e]at Gz z9;omega
 have JD:= @ave (B1+y4) a b c (decide (qs (num (E.drop off)) ts (⟨[ls,os,ms],(lf:Int),tp,pre++dY,a,b,c⟩:Sq)=0)) ahl.1 ahl.2;have avx:ma (num (E.drop off)) ts (⟨[ls,os,ms],(lf:Int),tp,pre++dY,a,b,c⟩:Sq)=qW (B1+y4) (decide (qs (num (E.drop off)) ts (⟨[ls,os,ms],(lf:Int),tp,pre++dY,a,b,c⟩:Sq)=0)) a b c:=(by unfold ma;rw[ahk I,Gz]);have avy:=λ(e:B0+y6=0)=>show decide (qs (num (E.drop off)) ts (⟨[ls,os,ms],(lf:Int),tp,pre++dY,a,b,c⟩:Sq)=0)=true from xF (by rw[JB];exact e);have avz:=λ(e: ¬B0+y6=0)=>show decide (qs (num (E.drop off)) ts (⟨[ls,os,ms],(lf:Int),tp,pre++dY,a,b,c⟩:Sq)=0)=false from H3 (by rw[JB];exact e);refine cD [(22,22),(183,186)] (λρ w=> ∃ov:Nat,Kn ρ [(22,da ov)]/\H r w ((af bB [aW br,.slice ad E.length dc,aZ o6,aZ off,aZ MZ,aZ M0] 207)::(af br (au (BX (RO x a b c) bI dY.length ja)) 81)::(bI,C (List.map u8 (dY)++bJ) 5)::L)/\(ov=(if decide (qs (num (E.drop off)) ts (⟨[ls,os,ms],(lf:Int),tp,pre++dY,a,b,c⟩:Sq)=0)=true then B1+y4+1 else B1+y4))/\(1<=ov/\ov<=4)) ?_ ?_
 refine V 5 ?_;refine an J ?_ ?_<;>intro M3
 refine V 5 ?_;exact⟨aH 5,B1+y4+1,aq,h,(by rw[ai (avy M3)]),I⟩
 exact aQ ⟨aH 2,B1+y4,aq,h,(by rw[ag (by rw[avz M3];decide)]),I⟩
 rintro ρ w ⟨ov,⟨k5,rfl⟩,h,me,aG7⟩;dsimp only at JD;rw[<-me,<-avx]at JD;refine V 10 ?_;refine an J ?_ ?_<;>intro aG8
 refine V 4 ?_;exact aO h J z4 (dI (aC ⟨aH 14,a,b,c,aq,h,(λ_=>by rw[JD,ag I,ag I,ag I]),(λe=>I),I,I,I⟩))
 refine V 5 ?_;refine an J ?_ ?_<;>intro Qw
 refine V 5 ?_;refine aO h J D_ ?_;refine V 8 ?_;refine aO h J z4 ?_;refine V 2 ?_;refine cV (da a) D_ ?_;intro w h;rw[Rr]at h;refine V 6 ?_;refine cV (da b) z4 ?_;intro w h;rw[Rq]at h;exact aC ⟨aH 29,b,a,c,aq,h,(λ_=>by rw[JD,ai Qw]),(λe=>I),I,I,I⟩
 refine V 5 ?_;refine an J ?_ ?_<;>intro avA
 refine V 5 ?_;refine aO h J Rs ?_;refine V 8 ?_;refine aO h J D_ ?_;refine V 2 ?_;refine cV (da b) Rs ?_;intro w h;rw[Zl]at h;refine V 7 ?_;refine aO h J z4 ?_;refine V 2 ?_;refine cV (da a) D_ ?_;intro w h;rw[Rr]at h;refine V 6 ?_;refine cV (da c) z4 ?_;intro w h;rw[Rq]at h;exact aC ⟨aH 39,c,a,b,aq,h,(λ_=>by rw[JD,ag I,ai avA]),(λe=>I),I,I,I⟩
 refine V 5 ?_;refine an J ?_ ?_<;>intro avB
 refine V 5 ?_;refine aO h J z4 ?_;refine V 9 ?_;refine aO h J D_ ?_;refine V 2 ?_;refine cV (da b) Rs ?_;intro w h;rw[Zl]at h;refine V 7 ?_;refine aO h J z4 ?_;refine V 2 ?_;refine cV (da a) D_ ?_;intro w h;rw[Rr]at h;refine V 6 ?_;refine cV (da (a-1)) z4 ?_;intro w h;rw[Rq]at h;exact aC ⟨aH 42,a-1,a,b,aq,h,(λ_=>by rw[JD,ag I,ag I,ai avB]),(λe=>I),I,I,I⟩
 exfalso;omega
 rintro ρ w ⟨a2,nD,uu,⟨mD,rfl⟩,h,Aa,RI,RJ⟩;refine V 6 ?_;refine cD [(10,10),(13,15),(20,21),(262,318)] (λρ w=> ∃l2 u2 m3 uv M4 M5 BN:Nat,Kn ρ [(13,da l2),(14,da u2),(15,da m3)]/\H r w ((af bB [aW br,.slice ad E.length dc,aZ uv,aZ off,aZ M4,aZ M5] 207)::(af br (au (BX (RO x a2 nD uu) bI dY.length ja)) 81)::(bI,C (List.map u8 (dY)++bJ) 5)::L)/\(Bs E off uv M4 M5 BN)/\(l2<2^(ts 0).log/\u2<2^(ts 1).log/\m3<2^(ts 2).log)/\(q+1<many->jj (num (E.drop off)) ts [ls,os,ms] ((pI:Nat):Int) 3=([l2,u2,m3],(BN:Int)))/\(¬q+1<many->(l2=ls/\u2=os)/\(m3=ms/\BN=pI))) ?_ ?_
 refine V 6 ?_;refine an J ?_ ?_<;>intro JE
 refine aY (show ∃m2,m'=m2+1 from⟨m'-1,I⟩) (λm2 kE=>?_);have ZH:MO ts [ls,os,ms] (um ts (⟨[ls,os,ms],(lf:Int),tp,pre++dY,a,b,c⟩:Sq))=((pI:Nat):Int) - (t0:Int) - (t2:Int) - (t1:Int):=(by rw[AZ];unfold MO Rp Ro;rw[show(cellAt ts [ls,os,ms] 0).bits=t0 from ur,show(cellAt ts [ls,os,ms] 2).bits=t2 from zE,show(cellAt ts [ls,os,ms] 1).bits=t1 from m4])
 have ZI:MO ts [ls,os,ms] (um ts (⟨[ls,os,ms],(lf:Int),tp,pre++dY,a,b,c⟩:Sq))<0->Z9.1≠1:=λe=>by
  rw[<-Eb,kE]
  exact avd (λs' BM=>by
    have ha:=ag4 BM
    rw[ha.1,ha.2.1,nx3];exact e)
 refine V 5 ?_;refine ah (run_load h J JA.2.2.1) (b_ J J J (aA (yH (b:=t0) h bF (hG.sub aJ) (hX.sub aJ) hE M1 I) ?_));rintro e w1 ⟨y7,er7,o7,bi7,cn7,rfl,h,ho7,uw,ZJ⟩;refine V 10 ?_;refine ah (jz er7 (t0<=pI) J (λe=>(uw e).1) (λe=>ZJ I) J) (aC (an J ?_ ?_))<;>intro aG9
 have mc:Z9.1≠1:=ZI (by rw[ZH];omega);refine V 6 ?_;replace h:=h.tail;(try dsimp only[dB]at h);exact⟨_,bI,ja,dY,bJ,a2,nD,uu,J,h,eF,(λe=>absurd e (bY mc)),(λ_=>ZJ I)⟩
 replace uw:=uw I;clear ZJ;have avC:=uw.2.2.1;have hy7:=uw.2.2.2 I;have aG_:=uw.2.1;refine V 6 ?_;refine ah (run_load h J JA.2.2.2) ?_;refine V 10 ?_;refine ah (run_load h J Jz.2.2.1) (b_ J J J (aA (yH (b:=t2) h bF (hG.sub aJ) (hX.sub aJ) hE avC I) ?_));rintro e w1 ⟨y8,er8,o8,bi8,cn8,rfl,h,ho8,xd,ZK⟩;refine V 10 ?_;refine ah (jz er8 (t2<=pI-t0) J (λe=>(xd e).1) (λe=>ZK I) J) (aC (an J ?_ ?_))<;>intro aG'
 have mc:Z9.1≠1:=ZI (by rw[ZH];omega);refine V 6 ?_;replace h:=h.tail;(try dsimp only[dB]at h);exact⟨_,bI,ja,dY,bJ,a2,nD,uu,J,h,eF,(λe=>absurd e (bY mc)),(λ_=>ZK I)⟩
 replace xd:=xd I;clear ZK;have avD:=xd.2.2.1;have hy8:=xd.2.2.2 I;have aHa:=xd.2.1;refine V 6 ?_;refine ah (run_load h J Jz.2.2.2) ?_;refine V 10 ?_;refine ah (run_load h J Gx.2.2.1) (b_ J J J (aA (yH (b:=t1) h bF (hG.sub aJ) (hX.sub aJ) hE avD I) ?_));rintro e w1 ⟨y9,er9,o9,bi9,cn9,rfl,h,eG,rh,ZL⟩;refine V 10 ?_;refine ah (jz er9 (t1<=pI-t0-t2) J (λe=>(rh e).1) (λe=>ZL I) J) (aC (an J ?_ ?_))<;>intro aHb
 have mc:Z9.1≠1:=ZI (by rw[ZH];omega);refine V 6 ?_;replace h:=h.tail;(try dsimp only[dB]at h);exact⟨_,bI,ja,dY,bJ,a2,nD,uu,J,h,eF,(λe=>absurd e (bY mc)),(λ_=>ZL I)⟩
 replace rh:=rh I;clear ZL;have avE:=rh.2.2.1;have M6:=rh.2.2.2 I;have aHc:=rh.2.1;have px:jj (num (E.drop off)) ts [ls,os,ms] ((pI:Nat):Int) 3=([n0+y7,n1+y9,n2+y8],((pI-t0-t2-t1:Nat):Int)):=(by rw[nx3];unfold MO Rp Ro;rw[show(cellAt ts [ls,os,ms] 0).bits=t0 from ur,show(cellAt ts [ls,os,ms] 2).bits=t2 from zE,show(cellAt ts [ls,os,ms] 1).bits=t1 from m4,show(cellAt ts [ls,os,ms] 0).base=n0 from ke,show(cellAt ts [ls,os,ms] 2).base=n2 from fW,show(cellAt ts [ls,os,ms] 1).base=n1 from gX];rw[hy7,hy8,M6,show((pI-t0:Nat):Int)=((pI:Nat):Int) - (t0:Int) by omega,show((pI-t0-t2:Nat):Int)=((pI:Nat):Int) - (t0:Int) - (t2:Int) by omega,show((pI-t0-t2-t1:Nat):Int)=((pI:Nat):Int) - (t0:Int) - (t2:Int) - (t1:Int) by omega]);refine V 5 ?_;refine ah (run_load h J Gx.2.2.2) ?_;refine V 5 ?_;exact⟨aH 63,n0+y7,n1+y9,n2+y8,o9,bi9,cn9,pI-t0-t2-t1,aq,h,avE,⟨by have:=MX.2.2.1;omega,by have:=MU.2.2.1;omega,by have:=MV.2.2.1;omega⟩,(λ_=>px),(λe=>absurd JE e)⟩
 exact aQ ⟨aH 3,ls,os,ms,o6,MZ,M0,pI,aq,h,M1,⟨MS,MT,BG⟩,(λe=>absurd e JE),(λ_=>⟨⟨J,J⟩,J,J⟩)⟩
 rintro ρ w ⟨l2,u2,m3,uv,M4,M5,BN,⟨qY,rfl⟩,h,ZM,ZN,avF,avG⟩;refine a9 (fV J ?_);refine V 10 ?_;refine an J ?_ ?_<;>intro BO
 have mc:Z9.1≠1:=Gy (Or.inr (Or.inl (by rw[JB];omega)));refine a9 (eS (b_ J J J (aA (QL h (ar bF) (hG.sub aJ) bF (by have:=ZM.le;omega)) ?_)));rintro e w1 ⟨be,rfl,h⟩;refine V 3 ?_;replace h:=h.tail;(try dsimp only[dB]at h);exact⟨_,bI,ja,dY,bJ,a2,nD,uu,J,h,eF,(λe=>absurd e (bY mc)),(λ_=>Exists.intro be J)⟩
 refine aQ (cD [(3,3),(328,343)] (λρ w=> ∃dM:List UInt8,∃cr:Option Nat,∃yI:Nat,∃cG:List Value,∃RK:Option Addr,∃fD:Nat,Kn ρ [(3,.slice RK (text.length- (tp+(B0+y6))) fD)]/\H r w ((af bB [aW br,.slice ad E.length dc,aZ uv,aZ off,aZ M4,aZ M5] 207)::(af br (au (BX (RO x a2 nD uu) cr dM.length yI)) 81)::(cr,C (List.map u8 (dM)++cG) 5)::L)/\(dM=dY++aa text tp (B0+y6))/\(bG cr dM.length yI (dM.map u8) cG 1)/\(aP L (.slice RK (text.length- (tp+(B0+y6))) fD) (text.drop (tp+(B0+y6))))/\((B0+y6)<=text.length-tp)) ?_ ?_)
 refine V 5 ?_;refine an J ?_ ?_<;>intro ahm
 have jt:=aI (CH.1 BO) (Gv cP);refine a9 (bL h [0,4,8,12,20,24,28,17,35,36,40,47] ?_);intro w h;refine av 6 ?_;refine aw J (lX J J jt) (aK J h J Zo ?_);have gr:tp+(B0+y6)<=text.length:=tpv A_ BO;refine mV (List.map u8 dY) bJ (((text.drop tp).take (B0+y6)).map u8) J h 2 J J J eF (qg (aP.take cP (CH.1 BO)) aJ) (by intro y hy;obtain⟨z,_,rfl⟩:=jd.1 hy;rfl) I aj J ?_;intro w dy c9 dL h df fG eG;dsimp only[List.set]at h;rw[<-f_]at h df;have jX:(text.drop tp).take (B0+y6)=aa text tp (B0+y6):=rfl;rw[jX]at h df;have JF:(dY++aa text tp (B0+y6)).length=dY.length+(B0+y6):=(by rw[aF,dx gr]);refine av 2 ?_;refine gU (.slice (aB dy) (dY.length+(B0+y6)) c9) ?_;intro w h;rw[Gu]at h;refine cm ?_;refine V 3 ?_;exact ah (iY J J (CH.1 BO) (Gv cP)) (dI (aC ⟨aH 18,dY++aa text tp (B0+y6),dy,c9,dL,cut Jx lT (B0+y6) 1,lT- (B0+y6),Kn.mk ⟨iJ J (Nat.sub_sub ..) J,trivial⟩,(by first|exact h| (rw[JF];exact h)),J,(by rw[JF];exact⟨by rw[bX,JF,eC],df,fG,eG⟩),avk cP (CH.1 BO),CH.1 BO⟩))
 have M7:B0+y6=0:=Nat.eq_zero_of_not_pos ahm;exact aQ ⟨aH 2,dY,bI,ja,bJ,Jx,lT,Kn.mk ⟨iJ J (by rw[M7];rfl) J,trivial⟩,(by first|exact h| (rw[JF];exact h)),(by rw[M7];unfold aa;rw[pV,dP]),eF,(by rw[M7];exact cP),CH.1 BO⟩
 rintro ρ w ⟨dM,cr,yI,cG,RK,fD,⟨sO,rfl⟩,h,ahn,cK,Ba,aHd⟩;have gr:tp+(B0+y6)<=text.length:=tpv A_ BO;have avH:dM.length=dY.length+(B0+y6):=(by rw[ahn,aF,dx gr]);refine V 5 ?_;refine an J ?_ ?_<;>intro aho
 have ahp:w9 (num (E.drop off)) ts text (⟨[ls,os,ms],(lf:Int),tp,pre++dY,a,b,c⟩:Sq)=pre++dM:=(by unfold w9;dsimp only;rw[JB,ahn,cF]);have ZO:(w9 (num (E.drop off)) ts text (⟨[ls,os,ms],(lf:Int),tp,pre++dY,a,b,c⟩:Sq)).length=pre.length+dM.length:=(by rw[ahp,aF]);have L3:pre.length+dM.length<=5000000:=avj fF mE (aI (CH.1 BO) (aI (vV _ _) eo)) avH
 have avI:26<=s1->Z9.1≠1:=λe=>Gy (Or.inr (Or.inr (Or.inr (by
   rw[ZO]
   have Ef:2^26<=2^s1:=dp aj e
   have JG:2^s1<=ML (num (E.drop off)) ts (⟨[ls,os,ms],(lf:Int),tp,pre++dY,a,b,c⟩:Sq):=by unfold ML;dsimp only;rw[MY];exact mS _ _
   unfold ma;rw[ag6 (avh Ef JG)];exact avi Ef JG L3))))
 refine V 5 ?_;replace h:=h.zz [2,2] 0;refine uV J J J J J (aA (au' (x:=RO x a2 nD uu) (out:=dM) (wd:=wd) h (hG.sub aJ) bF (by have:=ZM.le;omega) (hW.sub aJ) cK sY kh I I RJ.1) ?_);rintro e w1 ⟨er,mB,DP,bc3,pk,rfl,h,lK,ahq,Rm⟩;refine V 5 ?_;refine ah (jz er (1<=a2/\a2<=wd.length+dM.length) J (λe=>(ahq e).1) (λe=>Rm e) J) (aC (an J ?_ ?_))<;>intro aHe
 (try clear hE);(try clear wY);(try clear oQ);(try clear jF);(try clear Zq);(try clear Zs);(try clear Zt);(try clear hV);(try clear j1);(try clear Rv);(try clear kY);(try clear lY);(try clear dE);(try clear mX);(try clear hJ);(try clear pj);(try clear fq);(try clear fy);(try clear jw);(try clear Rw);(try clear Zu);(try clear Zv);(try clear ag');(try clear aha);(try clear ahb);(try clear MX);(try clear MU);(try clear MV);(try clear JA);(try clear Gx);(try clear Jz);(try clear Jy);(try clear Ec);(try clear MW);(try clear ur);(try clear m4);(try clear zE);(try clear ke);(try clear gX);(try clear fW);(try clear ZA);(try clear Jc);(try clear ahe);(try clear ahf);(try clear ahg);(try clear Gz);(try clear fH);(try clear RE);(try clear RD);(try clear z7);(try clear z8);(try clear rY);(try clear jE);(try clear kE);(try clear ahd);(try clear RC);(try clear ZC);(try clear ZD);(try clear MY);(try clear RF);(try clear RG);(try clear z9);(try clear ahj);(try clear MS);(try clear MT);(try clear BG);(try clear Jf);(try clear ho5);(try clear ZG);(try clear pD);(try clear oU);(try clear zW);(try clear aho);(try clear lh);(try clear M1);(try clear Zy);(try clear avJ)
 have mc:Z9.1≠1:=by
  rcases dh s1 26 with Ef|Ef
  have he:=Aa (K2 Ef);have wK:(ma (num (E.drop off)) ts (⟨[ls,os,ms],(lf:Int),tp,pre++dY,a,b,c⟩:Sq)).1=a2:=(by rw[he]);by_cases hz:a2=0
  exact Gy (Or.inr (Or.inr (Or.inl (by rw[wK];exact hz))))
  by_cases hg:pre.length+dM.length<a2
  exact Gy (Or.inr (Or.inr (Or.inr (by rw[wK,ZO];exact hg))))
  have avK:p0≠ []:=λe=>(by rw[e]at Zx;simp at Zx;omega);have Js:=vC.resolve_left avK;have hf:= @avb (num (E.drop off)) aL ak pre.length ts text (⟨[ls,os,ms],(lf:Int),tp,pre++dY,a,b,c⟩:Sq) (by rw[wK];omega);rw[<-Eb,Ju hf];exact hf
  exact avI Ef
 refine V 6 ?_;replace h:=h.zz [1,1,2] 1;exact⟨_,mB,bc3,DP,pk,a2,nD,uu,J,h,lK,(λe=>absurd e (bY mc)),(λ_=>Rm I)⟩
 (try clear hE);(try clear wY);(try clear oQ);(try clear jF);(try clear Zq);(try clear Zs);(try clear Zt);(try clear hV);(try clear j1);(try clear Rv);(try clear kY);(try clear lY);(try clear dE);(try clear mX);(try clear hJ);(try clear pj);(try clear fq);(try clear fy);(try clear jw);(try clear Rw);(try clear Zu);(try clear Zv);(try clear ag');(try clear aha);(try clear ahb);(try clear MX);(try clear MU);(try clear MV);(try clear JA);(try clear Gx);(try clear Jz);(try clear Jy);(try clear Ec);(try clear MW);(try clear ur);(try clear m4);(try clear zE);(try clear ke);(try clear gX);(try clear fW);(try clear ZA);(try clear Jc);(try clear ahe);(try clear ahf);(try clear ahg);(try clear Gz);(try clear fH);(try clear RE);(try clear RD);(try clear z7);(try clear z8);(try clear rY);(try clear jE);(try clear kE);(try clear ahd);(try clear RC);(try clear ZC);(try clear ZD);(try clear MY);(try clear RF);(try clear RG);(try clear z9);(try clear ahj);(try clear MS);(try clear MT);(try clear BG);(try clear Jf);(try clear ho5);(try clear ZG);(try clear pD);(try clear oU);(try clear zW);(try clear aho);(try clear lh);(try clear M1);(try clear Zy);(try clear avJ);have M8:(1<=a2/\a2<=wd.length+dM.length):=I;have ahr:=(ahq M8).2;have Ef: ¬26<=s1:=λe=>(by have:=RI e;omega);have he:=Aa (K2 (Nat.not_le.1 Ef));have avL:(fJ (num (E.drop off)) ts aL ak pre.length text (⟨[ls,os,ms],(lf:Int),tp,pre++dY,a,b,c⟩:Sq)).1≠0:=λe=>(by apply X';rw[<-Eb,Ju I];exact e);have ZP:=avc avL (by rw[AZ];omega) (by rw[JB];show ¬text.length-tp<_;omega) (by rw[he,ZO];dsimp only;omega);have avM:k8 (pre++dM) a2 (B2+y5)=pre++DP:=(by rw[agZ M8.1 (by rw[aF];omega),ahr,cF];congr 2;rw[tZ,cF,avg M8.1 (by rw[aF,BK sY];exact M8.2)];rfl);rw[AZ,JB,he,ahp,avw,avM]at ZP;have aHf:DP.length=dM.length+(B2+y5):=(by rw[ahr,aF,yG]);refine aQ ?_;replace h:=h.zz [1,1,2] 0;refine⟨aH 113,?_⟩
 have avN:l8 (num (E.drop off)) ts aL ak pre.length text (many- (q+1)) (⟨[l2,u2,m3],(BN:Int),tp+(B0+y6),pre++DP,a2,nD,uu⟩:Sq)=Z9:=by
  by_cases RL:q+1<many
  have hgn:=Zk (n:=m'-1) ZP;rw[show m'-1+2=m'+1 by omega,Eb,avF RL,ag cw]at hgn;rw[hgn,show many- (q+1)=m'-1+1 by omega]
  have hb:=avG RL;have fk:m'=0:=I;rw[fk,ag3 ZP]at Eb;rw[show many- (q+1)=0 by omega,<-Eb,hb.1.1,hb.1.2,hb.2.1,hb.2.2];rfl
 exact⟨(q+1,l2,u2,m3,tp+(B0+y6),DP,mB,bc3,pk,a2,nD,uu,uv,M4,M5,BN,RK,fD),cw,aq,h,I,ZN.1,ZN.2.1,ZN.2.2,I,I,lK,⟨⟨M8.1,RJ.1⟩,RJ.2.1,RJ.2.2⟩,ZM,Ba,avN⟩
 exfalso;omega
 have RL:many-q=0:=I;rw[RL]at hR;have F2:Z9=(1,(⟨[ls,os,ms],(lf:Int),tp,pre++dY,a,b,c⟩:Sq)):=(by rw[<-hR];rfl);have ZQ:=fI (by rw[F2]);rw[F2]at ZQ;have z5:lf=0:=(by have:=ZQ.1;dsimp only at this;omega);have GA:=lh.left;refine V 7 ?_;refine aO h J Zo (cM (kW (List.map u8 dY) bJ ((text.drop tp).map u8) h 2 J J J eF (qg cP aJ) (by intro y hy;obtain⟨z,_,rfl⟩:=jd.1 hy;rfl) I aj J ?_));intro w dy c9 dL h df fG eG;dsimp only[List.set]at h;rw[<-f_]at h df;have JF:(dY++text.drop tp).length=dY.length+(text.length-tp):=(by rw[aF,bV]);refine V 2 ?_;refine gU (.slice (aB dy) (dY.length+(text.length-tp)) c9) ?_;intro w h;rw[Gu]at h;refine V 8 ?_;refine an J ?_ ?_<;>intro aHg
 exfalso;omega
 refine V 6 ?_;replace h:=h.tail;(try dsimp only[dB]at h);rw[F2,ag (λhh=>hh J),ag (λhh=>hh (by dsimp only;rw[z5];rfl)),ag ZQ.2]at Jw;rw[<-JF]at h fG;exact⟨_,dy,c9,(dY++text.drop tp),dL,a,b,c,J,h,⟨by rw[bX,eC],by rw[df],fG,eG⟩,(λ_=>⟨J,by rw[Jw,cF],RB.1.1,RB.1.2,RB.2.1,RB.2.2⟩),(λe=>absurd (by rw[Jw]) e)⟩
end Go.Z
