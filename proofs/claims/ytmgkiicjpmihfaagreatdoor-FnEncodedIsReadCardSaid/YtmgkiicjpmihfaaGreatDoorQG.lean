/- Part 7 of the proof. -/
import Derived.KernelRfl
import Derived.Test.YtmgkiicjpmihfaaGreatDoorQF
set_option linter.all false
set_option maxRecDepth 20000
set_option maxHeartbeats 400000000
open List renaming length -> W, getD -> aa, map -> ar, replicate -> aT, set -> bJ, range -> cL
open UInt8 renaming ofNat -> bS
open Or renaming inl -> a_, inr -> bG
open Go.Z.Env renaming ev -> aL, put -> fU
namespace Go.Z
open Go Go.Proofs Tryz
variable {F:List aK}{i:Nat}{r:fT}{w:World}
instance :BEq Bl:=⟨λa b=>a.bl==b.bl&&a.bb==b.bb&&a.bt==b.bt&&a.bs==b.bs⟩
def aac{a b:Bl}(h:(a==b)=true):a=b:=by
 cases a;cases b;simp only[BEq.beq,oZ,Nat.beq_eq]at h;obtain⟨⟨⟨h1,h2⟩,c⟩,d⟩:=h;simp_all
def Ki(l:List Bl):List (Nat×Value):=(cL (W l)).map λi=>(i,.agg (ym (aa l i default)).toArray)
def pG:List Bl:=[⟨0,0,4,0⟩,⟨0,0,4,16⟩,⟨1,0,5,32⟩,⟨3,0,5,0⟩,⟨4,0,5,0⟩,⟨6,0,5,0⟩,⟨7,0,5,0⟩,⟨9,0,5,0⟩,⟨10,0,5,0⟩,⟨12,0,5,0⟩,⟨14,0,6,0⟩,⟨16,1,5,0⟩,⟨20,1,5,0⟩,⟨22,1,5,0⟩,⟨28,2,5,0⟩,⟨32,3,5,0⟩,⟨48,4,5,0⟩,⟨64,6,5,32⟩,⟨128,7,5,0⟩,⟨256,8,6,0⟩,⟨1024,10,6,0⟩,⟨4096,12,6,0⟩,⟨0,0,4,32⟩,⟨1,0,4,0⟩,⟨2,0,5,0⟩,⟨4,0,5,32⟩,⟨5,0,5,0⟩,⟨7,0,5,32⟩,⟨8,0,5,0⟩,⟨10,0,5,32⟩,⟨11,0,5,0⟩,⟨13,0,6,0⟩,⟨16,1,5,32⟩,⟨18,1,5,0⟩,⟨22,1,5,32⟩,⟨24,2,5,0⟩,⟨32,3,5,32⟩,⟨40,3,5,0⟩,⟨64,6,4,0⟩,⟨64,6,4,16⟩,⟨128,7,5,32⟩,⟨512,9,6,0⟩,⟨2048,11,6,0⟩,⟨0,0,4,48⟩,⟨1,0,4,16⟩,⟨2,0,5,32⟩,⟨3,0,5,32⟩,⟨5,0,5,32⟩,⟨6,0,5,32⟩,⟨8,0,5,32⟩,⟨9,0,5,32⟩,⟨11,0,5,32⟩,⟨12,0,5,32⟩,⟨15,0,6,0⟩,⟨18,1,5,32⟩,⟨20,1,5,32⟩,⟨24,2,5,32⟩,⟨28,2,5,32⟩,⟨40,3,5,32⟩,⟨48,4,5,32⟩,⟨65536,16,6,0⟩,⟨32768,15,6,0⟩,⟨16384,14,6,0⟩,⟨8192,13,6,0⟩]
def avw(w:World):(Instr.buildSlice 71 64 (Ki pG).toArray).run PP w= .ok (.slice (some ⟨w.heap.size,0,none⟩) 64 64) (w.alloc (C (bP pG) 214)):=by kernel_rfl
def avx:((cL 64).all λi=>aa pG i default==l6 0 ((jY 0).cells.getD i default))=true:=by decide+kernel
def avy(h:i<64):aa pG i default=l6 0 ((jY 0).cells.getD i default):=aac (vW.1 avx i (oY.2 h))
def pH:List Bl:=[⟨1,0,5,0⟩,⟨61,6,4,0⟩,⟨509,9,5,0⟩,⟨32765,15,5,0⟩,⟨2097149,21,5,0⟩,⟨5,3,5,0⟩,⟨125,7,4,0⟩,⟨4093,12,5,0⟩,⟨262141,18,5,0⟩,⟨8388605,23,5,0⟩,⟨29,5,5,0⟩,⟨253,8,4,0⟩,⟨16381,14,5,0⟩,⟨1048573,20,5,0⟩,⟨1,2,5,0⟩,⟨125,7,4,16⟩,⟨2045,11,5,0⟩,⟨131069,17,5,0⟩,⟨4194301,22,5,0⟩,⟨13,4,5,0⟩,⟨253,8,4,16⟩,⟨8189,13,5,0⟩,⟨524285,19,5,0⟩,⟨2,1,5,0⟩,⟨61,6,4,16⟩,⟨1021,10,5,0⟩,⟨65533,16,5,0⟩,⟨268435453,28,5,0⟩,⟨134217725,27,5,0⟩,⟨67108861,26,5,0⟩,⟨33554429,25,5,0⟩,⟨16777213,24,5,0⟩]
def avz(w:World):(Instr.buildSlice 71 32 (Ki pH).toArray).run PP w= .ok (.slice (some ⟨w.heap.size,0,none⟩) 32 32) (w.alloc (C (bP pH) 214)):=by kernel_rfl
def avA:((cL 32).all λi=>aa pH i default==l6 1 ((jY 1).cells.getD i default))=true:=by decide+kernel
def avB(h:i<32):aa pH i default=l6 1 ((jY 1).cells.getD i default):=aac (vW.1 avA i (oY.2 h))
def pI:List Bl:=[⟨3,0,6,0⟩,⟨4,0,4,0⟩,⟨5,0,5,32⟩,⟨6,0,5,0⟩,⟨8,0,5,0⟩,⟨9,0,5,0⟩,⟨11,0,5,0⟩,⟨13,0,6,0⟩,⟨16,0,6,0⟩,⟨19,0,6,0⟩,⟨22,0,6,0⟩,⟨25,0,6,0⟩,⟨28,0,6,0⟩,⟨31,0,6,0⟩,⟨34,0,6,0⟩,⟨37,1,6,0⟩,⟨41,1,6,0⟩,⟨47,2,6,0⟩,⟨59,3,6,0⟩,⟨83,4,6,0⟩,⟨131,7,6,0⟩,⟨515,9,6,0⟩,⟨4,0,4,16⟩,⟨5,0,4,0⟩,⟨6,0,5,32⟩,⟨7,0,5,0⟩,⟨9,0,5,32⟩,⟨10,0,5,0⟩,⟨12,0,6,0⟩,⟨15,0,6,0⟩,⟨18,0,6,0⟩,⟨21,0,6,0⟩,⟨24,0,6,0⟩,⟨27,0,6,0⟩,⟨30,0,6,0⟩,⟨33,0,6,0⟩,⟨35,1,6,0⟩,⟨39,1,6,0⟩,⟨43,2,6,0⟩,⟨51,3,6,0⟩,⟨67,4,6,0⟩,⟨99,5,6,0⟩,⟨259,8,6,0⟩,⟨4,0,4,32⟩,⟨4,0,4,48⟩,⟨5,0,4,16⟩,⟨7,0,5,32⟩,⟨8,0,5,32⟩,⟨10,0,5,32⟩,⟨11,0,5,32⟩,⟨14,0,6,0⟩,⟨17,0,6,0⟩,⟨20,0,6,0⟩,⟨23,0,6,0⟩,⟨26,0,6,0⟩,⟨29,0,6,0⟩,⟨32,0,6,0⟩,⟨65539,16,6,0⟩,⟨32771,15,6,0⟩,⟨16387,14,6,0⟩,⟨8195,13,6,0⟩,⟨4099,12,6,0⟩,⟨2051,11,6,0⟩,⟨1027,10,6,0⟩]
def avC(w:World):(Instr.buildSlice 71 64 (Ki pI).toArray).run PP w= .ok (.slice (some ⟨w.heap.size,0,none⟩) 64 64) (w.alloc (C (bP pI) 214)):=by kernel_rfl
def avD:((cL 64).all λi=>aa pI i default==l6 2 ((jY 2).cells.getD i default))=true:=by decide+kernel
def avE(h:i<64):aa pI i default=l6 2 ((jY 2).cells.getD i default):=aac (vW.1 avD i (oY.2 h))
def avF(h:H r w F):Calls PP 120 #[] w λe w'=> ∃b,e= .returned (cK b 64 64)/\H r w' ((ah b (bP pG) 214)::F):=by
 refine rU (P:=PP) func120 66 ntmps120 [0] J J (args:=[]) J ?_;refine g_ 6 ?_;refine XJ 64 ?_;refine uJ (v:=λb=>cK b 64 64) (λw=>B7 (u:=λb=>cK b 64 64) (vs:=Ki pG) (λw=>avw w) J) h J ?_;intro a w h;refine g_ 3 ?_;exact⟨a,J,h⟩
def avG(h:H r w F):Calls PP 122 #[] w λe w'=> ∃b,e= .returned (cK b 32 32)/\H r w' ((ah b (bP pH) 214)::F):=by
 refine rU (P:=PP) func122 34 ntmps122 [0] J J (args:=[]) J ?_;refine g_ 6 ?_;refine XJ 32 ?_;refine uJ (v:=λb=>cK b 32 32) (λw=>B7 (u:=λb=>cK b 32 32) (vs:=Ki pH) (λw=>avz w) J) h J ?_;intro a w h;refine g_ 3 ?_;exact⟨a,J,h⟩
def avH(h:H r w F):Calls PP 124 #[] w λe w'=> ∃b,e= .returned (cK b 64 64)/\H r w' ((ah b (bP pI) 214)::F):=by
 refine rU (P:=PP) func124 66 ntmps124 [0] J J (args:=[]) J ?_;refine g_ 6 ?_;refine XJ 64 ?_;refine uJ (v:=λb=>cK b 64 64) (λw=>B7 (u:=λb=>cK b 64 64) (vs:=Ki pI) (λw=>avC w) J) h J ?_;intro a w h;refine g_ 3 ?_;exact⟨a,J,h⟩
variable {b:Bool}{X:List UInt8}{c k n p0 p1 p2 q:Nat}{f:Nat->UInt8}{a:Option Addr}{x:dk}
def avI{v:Value}:(aB x).set 0 (v)=aB {x with uj:=v}:=rfl
def avJ:(aB x).set 1 (.bool b)=aB {x with iD:=b}:=rfl
def avK:(aB x).set 2 (.bool b)=aB {x with sum:=b}:=rfl
def avL:(aB x).set 3 (.bool b)=aB {x with one:=b}:=rfl
def avM:(aB x).set 4 (.bool b)=aB {x with d_:=b}:=rfl
def avN:(aB x).set 5 (cR n)=aB {x with rem:=n}:=rfl
def ahJ{z:Int}:(aB x).set 6 (.int .i64 z)=aB {x with oM:=z}:=rfl
def avO:(aB x).set 7 (.slice a n c)=aB {x with bA:=a,bN:=n,bC:=c}:=rfl
def avP:(aB x).set 44 (.slice a n c)=aB {x with fA:=a,fN:=n,fC:=c}:=rfl
def aad:(aB x).set 8 (af n)=aB {x with off:=n}:=rfl
def avQ{v:Value}(a:k<3):(aB x).set (19+k) (v)=aB {x with st:=fF x.st k v}:=by
 rcases(I:k=0\/k=1\/k=2)with rfl|rfl|rfl<;>rfl
def avR(a:k<3):(aB x).set (22+k) (U8 n)=aB {x with tb:=fF x.tb k n}:=by
 rcases(I:k=0\/k=1\/k=2)with rfl|rfl|rfl<;>rfl
def avS{v:Value}(a:k<3):(aB x).set (25+k) (v)=aB {x with sq:=fF x.sq k v}:=by
 rcases(I:k=0\/k=1\/k=2)with rfl|rfl|rfl<;>rfl
def avT(a:k<3):(aB x)[19+k]? =some (x.st k):=by
 rcases(I:k=0\/k=1\/k=2)with rfl|rfl|rfl<;>rfl
def avU(a:k<3):(aB x)[22+k]? =some (U8 (x.tb k)):=by
 rcases(I:k=0\/k=1\/k=2)with rfl|rfl|rfl<;>rfl
def avV(a:k<3):(aB x)[25+k]? =some (x.sq k):=by
 rcases(I:k=0\/k=1\/k=2)with rfl|rfl|rfl<;>rfl
def zO{α:Type}{f:Nat->α}{v:α}:fF f k v k=v:=by unfold fF;rw[ao J]
def um{α:Type}{f:Nat->α}{j:Nat}{v:α}(h:j≠k):fF f k v j=f j:=by unfold fF;rw[aj h]
def eH(f:Nat->UInt8)(c:Nat)(X:List UInt8):Nat->UInt8:=λi=>if c<=i/\i<c+W X then aa X (i-c) 0 else f i
def ahK(A B:List Value): ∀(vs:List Value) (q:Nat),q+W vs<=W A->dm (A++B) q vs=dm A q vs++B:=by
 intro vs
 induction vs generalizing A with
 |nil=>intro q _;rfl
 | cons v vs a=>
   intro q b
   rw[dL]at b
   show dm ((A++B).set q v) (q+1) vs=dm (A.set q v) (q+1) vs++B
   rw[Mh _ _ I,a (A.set q v) (q+1) (by rw[dW];omega)]
def avW(h:c+W X<=n):dm ((cL n).map λi=>u8 (f i)) c (X.map u8)=(cL n).map λi=>u8 (eH f c X i):=by
 apply nR;intro j;rw[QN,cB,cB,BM];by_cases b:j<n
 by_cases a:c<=j/\j<c+W X
 rw[ao ⟨a.1,a.2,b⟩,kP,kP,Ah b];have e:j-c<W X:=I;simp only[uE,eH,ao a];rw[gW e,bX,gW e];rfl
 rw[aj (λh=>a ⟨h.1,h.2.1⟩),kP,kP,Ah b];simp only[uE,eH,aj a]
 rw[aj (λh=>b h.2.2),gB (by simp;omega),gB (by simp;omega)]
def ahL{A B:List Value}(a:q=W A+c)(h:c+W X<=n):dm (A++((cL n).map (λi=>u8 (f i))++B)) q (X.map u8)=A++((cL n).map (λi=>u8 (eH f c X i))++B):=by
 subst a;rw[afC _ _ _ _ I,tH,ahK _ _ _ _ (by simp;omega),avW h]
def avX(x:dk):aB x=(aB x).take 28++((cL 16).map (λi=>u8 (x.gF i))++(aB x).drop 44):=rfl
def avY(x:dk):aB x=(aB x).take 50++((cL 32).map (λi=>u8 (x.xb i))++(aB x).drop 82):=rfl
def aae(a:q=28+c)(h:c+W X<=16):dm (aB x) q (X.map u8)=aB {x with gF:=eH x.gF c X}:=by
 rw[avX x,ahL a h];rfl
def avZ(a:q=50+c)(h:c+W X<=32):dm (aB x) q (X.map u8)=aB {x with xb:=eH x.xb c X}:=by
 rw[avY x,ahL a h];rfl
def E9(k:Nat):Nat:=[121,123,125].getD k 0
def w8(p0 p1 p2:Nat):List Value:=[.slice (some ⟨p0,0,none⟩) 64 64,af 6,af 35,af 9,.func (.func 121) #[] #[],.slice (some ⟨p1,0,none⟩) 32 32,af 5,af 31,af 8,.func (.func 123) #[] #[],.slice (some ⟨p2,0,none⟩) 64 64,af 6,af 52,af 9,.func (.func 125) #[] #[]]
def pK(p0 p1 p2 k:Nat):Nat:=[p0,p1,p2].getD k 0
def k3(h:k<3):k=0\/k=1\/k=2:=I
def av0(h:k<3):(w8 p0 p1 p2)[k*5+0]? =some (.slice (some ⟨pK p0 p1 p2 k,0,none⟩) (2^(jY k).log) (2^(jY k).log)):=by rcases k3 h with rfl|rfl|rfl<;>rfl
def av1(h:k<3):(w8 p0 p1 p2)[k*5+1]? =some (af (jY k).log):=by rcases k3 h with rfl|rfl|rfl<;>rfl
def av2(h:k<3):(w8 p0 p1 p2)[k*5+2]? =some (af (cE k).1):=by rcases k3 h with rfl|rfl|rfl<;>rfl
def Kj(h:k<3):(w8 p0 p1 p2)[k*5+3]? =some (af (cE k).2):=by rcases k3 h with rfl|rfl|rfl<;>rfl
def ahM(h:k<3):(w8 p0 p1 p2)[k*5+4]? =some (.func (.func (E9 k)) #[] #[]):=by rcases k3 h with rfl|rfl|rfl<;>rfl
def Sw(k:Nat):List Bl:=[pG,pH,pI].getD k []
def av3(h:k<3)(hi:i<2^(jY k).log):aa (Sw k) i default=l6 k ((jY k).cells.getD i default):=by
 rcases k3 h with rfl|rfl|rfl
 exact avy hi
 exact avB hi
 exact avE hi
def av4(h:k<3):W (Sw k)=2^(jY k).log:=by rcases k3 h with rfl|rfl|rfl<;>rfl
def av5(h:k<3)(args:Array Value)(w:World):(callFunc (E9 k) args).run PP w= .ok (.enter (E9 k) args) w:=by
 rcases k3 h with rfl|rfl|rfl
 exact(inferInstance:Body PP 121).run args w
 exact(inferInstance:Body PP 123).run args w
 exact(inferInstance:Body PP 125).run args w
section
variable {n:Nat}{K:ia}{ρ:Env}{w:World}{all:Array Oper}{d:Option Nat}{ty:TypeId}{pos:String}{aV:Array Edge}{ts:Array TypeId}{y x0 x1 x2 x3:Operand}{v0 v1 v2 v3:Value}{k:Nat}
def av6(a:k<3)(b:aL ρ y= .func (.func (E9 k)) #[] #[])(c:aL ρ x0=v0)(h1:aL ρ x1=v1)(h2:aL ρ x2=v2)(d:aL ρ x3=v3):run PP ρ (.call {callee:= .value y,args:= #[x0,x1,x2,x3],argTypes:=ts}) ty w= .ok (.enter (E9 k) #[v0,v1,v2,v3]) w:=by
 have h:=av5 a #[v0,v1,v2,v3] w;simp[run,execOp,resolve,invoke,Deferred.ofValue,b,c,h1,h2,d,h]
def ahN{m:Nat}{rest:Ot}(a:k<3) (hi:all[m]? =some {dst:=d,op:= .call {callee:= .value y,args:= #[x0,x1,x2,x3],argTypes:=ts},type:=ty,pos:=pos,after:=aV,guard:=none})
 (b:aL ρ y= .func (.func (E9 k)) #[] #[]) (c:aL ρ x0=v0) (h1:aL ρ x1=v1) (h2:aL ρ x2=v2) (f:aL ρ x3=v3) (hd:bH n d=true)
 (h:Calls PP (E9 k) #[v0,v1,v2,v3] w λe w'=> ∃v,e= .returned v/\D PP n all rest K (fU ρ d v) w'):D PP n all (.cons (m,.h) rest) K ρ w:=Xs hi (av6 a b c h1 h2 f) hd h
end
def ahO{br tb tc bb bn bc:Nat}{aE aU:Addr}{zo:Int}{cs:List dx}{bs:List Bl}(m:k<3)(h:H r w ((ah bb (bP bs) 214)::F))(hm:(ah tb (dp cs) 227)∈F)(a:(ah br (aB x) 81)∈F)(b:Gl F aE aU)(c:n<=W cs)(d:n<=512)(f:n<=bn)(g:bn<=W bs)(j: ∀i,i<n->(aa cs i default).sym<=255):Calls PP (E9 k) #[bL br,.int .i64 zo,cK tb n tc,cK bb bn bc] w λe w'=> ∃er l,e= .returned er/\H r w' ((ah bb (bP l) 214)::F)/\W l=W bs/\((∀i,i<n->(aa cs i default).sym<=(cE k).1)->er= .nilIface/\ ∀i,i<n->aa l i default=l6 k (aa cs i default))/\((∃i,i<n/\(cE k).1<(aa cs i default).sym)-> ∃be,er= .iface 182 (bL be)):=by
 rcases k3 m with rfl|rfl|rfl
 exact avq h hm a b c d f g j
 exact avv h hm a b c d f g j
 exact avu h hm a b c d f g j
def H.av7{a b c d:aK}(h:H r w (a::b::c::d::F)):H r w (a::b::c::F):=by
 have:H r w (d::(a::b::c::F)):=h.perm (by
   have e:=(tF (a:=d) (l₁:=[a,b,c]) (l₂:=F))
   simpa using e)
 exact this.tail
def av8(h:H r w F):Calls PP 112 #[] w λe w'=> ∃p0 p1 p2,e= .returned (.agg (w8 p0 p1 p2).toArray)/\H r w' ((ah p2 (bP pI) 214)::(ah p1 (bP pH) 214)::(ah p0 (bP pG) 214)::F):=by
 refine D9 (P:=PP) func112 8 ntmps112 0 223 [] J J (args:=[]) J (bY (fD (eN h J ?_)));intro br w h;refine g_ 3 ?_;refine Jk J (aH (avF h) ?_);rintro e a ⟨p0,rfl,h⟩;refine ak (QU (v1:=af 6) (v2:=af 35) (v3:=af 9) (XG _ _ _ _ _ _ _ _ _) J J J J J) (Jk J (aH (avG h) ?_));rintro e a ⟨p1,rfl,h⟩;refine ak (QU (v1:=af 5) (v2:=af 31) (v3:=af 8) (XG _ _ _ _ _ _ _ _ _) J J J J J) (Jk J (aH (avH h) ?_));rintro e a ⟨p2,rfl,h⟩;refine ak (QU (v1:=af 6) (v2:=af 52) (v3:=af 9) (XG _ _ _ _ _ _ _ _ _) J J J J J) (ak (xH (aqZ _ _ _ _ _ _ _ _ _ _ _ _ _ _ _ _ _ _ _ _ _ _ _ _ _ _ _) J J J) (cI ?_));intro w h;refine aJ (ju (⟨_,rX (w8 p0 p1 p2) h J (Rd.self _) J,?_⟩));exact⟨p0,p1,p2,J,H.av7 h⟩
variable {L:List aK}{E:List UInt8}{lg:Nat}{t:Option Tb}
def aaf{α:Type}{f:Nat->α}{a b:α}:fF (fF f k a) k b=fF f k b:=by
 funext i;unfold fF;split<;>rfl
def aag{α:Type}{f:Nat->α}{v:α}(h:f k=v):fF f k v=f:=by
 funext i;unfold fF;split
 rename_i e;rw[e,h]
 rfl
def aah{α:Type}(f:α->List Value)(zs:List Value)(d:α)(hd:f d=zs)(a:0<W zs)(b: ∀x,W (f x)=W zs): ∀n,dD zs n=(aT n d).flatMap f
 |0=>by unfold dD;simp
 | n+1=>by
  rw[DP,I9,<-aah f zs d hd a b n];unfold dD;rw[vY,List.range_add,gJ,F3];congr 1;simp only[BK,List.flatMap_nil,dN,hd];apply nR;intro i;rw[kP];by_cases hi:i<W zs
  rw[Ah hi];simp only[uE,Function.comp];rw[im,Nat.mul_add_mod,iV hi,gW hi];simp[hi]
  rw[gB (by simp;omega),gB I];rfl
def ahP(n:Nat):dD [bR 0,iW 0,iW 0,D3 0] n=bP (aT n default):=aah ym _ default J an Hr n
def ahQ(n:Nat):dD [iW 0,iW 0,D3 0] n=dp (aT n default):=aah wZ _ default J an Sd n
def Kk{A B:Prop}(h:A\/B): ∃ok:Bool,(ok=true->A)/\(ok=false->B):=by
 rcases h with h|h
 exact⟨true,λ_=>h,(λe=>by cases e)⟩
 exact⟨false,(λe=>by cases e),λ_=>h⟩
def tg(L:List aK)(v:Value)(lg k:Nat):Option Tb->Prop
 |none=>v= .slice none 0 0
 |some t=> ∃b c bs,v= .slice (some ⟨b,0,none⟩) (2^t.log) c/\(some b,C (bP bs) 214)∈L/\2^t.log<=W bs/\2^t.log<=c/\(∀i,i<2^t.log->aa bs i default=l6 k (t.cells.getD i default))/\lg=t.log
def tg.sub{a:List aK}{v:Value}(h:tg L v lg k t)(hs:Sub L a):tg a v lg k t:=by
 cases t with
 |none=>exact h
 |some t=>obtain⟨b,c,bs,h1,h2,d⟩:=h;exact⟨b,c,bs,h1,hs _ h2,d⟩
def tg.slice{v:Value}(h:tg L v lg k t): ∃ad n c,v= .slice ad n c/\(n=0↔t=none):=by
 cases t with
 |none=>exact⟨none,0,0,h,by simp⟩
 |some t=>obtain⟨b,c,bs,h1,_⟩:=h;have:=eA t.log;exact⟨_,_,c,h1,by simp⟩
def ahR{k:Nat}:(cE k).1<=52/\(cE k).2<=9:=by
 unfold cE;by_cases h:k=0
 simp[h]
 by_cases h1:k=1<;>simp[h,h1]
def av9(a:k<3):(jY k).log<=9:=by rcases k3 a with rfl|rfl|rfl<;>decide
def yn(fa:Option Addr)(fn fc:Nat)(eP:Option Nat)(cs:List dx):Prop:=fa=aI eP/\fn<=fc/\fc<=W cs/\(eP=none->fc=0)
def NK(v:Value)(k:Nat)(a:Option Nat)(bs:List Bl):Prop:= ∃n c,v= .slice (aI a) n c/\n<=c/\(c=0\/((∃b,a=some b)/\c=2^(cE k).2/\W bs=2^(cE k).2))
def XR(x:dk)(k:Nat)(v1:Value)(n1:Nat)(v2:Value)(fa:Option Addr)(fn fc:Nat):dk:={x with st:=fF x.st k v1,tb:=fF x.tb k n1,sq:=fF x.sq k v2,fA:=fa,fN:=fn,fC:=fc}
def av_{x:dk}{k:Nat}:XR x k (x.st k) (x.tb k) (x.sq k) x.fA x.fN x.fC=x:=by unfold XR;rw[aag J,aag J,aag J]
section
variable {x:dk}{k:Nat}{v1 v2 v:Value}{n1 m:Nat}{fa a:Option Addr}{fn fc n c:Nat}
def aai(a:k<3):(aB (XR x k v1 n1 v2 fa fn fc)).set (19+k) v=aB (XR x k v n1 v2 fa fn fc):=by unfold XR;rw[avQ a];dsimp only;rw[aaf]
def aaj(a:k<3):(aB (XR x k v1 n1 v2 fa fn fc)).set (22+k) (U8 m)=aB (XR x k v1 m v2 fa fn fc):=by unfold XR;rw[avR a];dsimp only;rw[aaf]
def SC(a:k<3):(aB (XR x k v1 n1 v2 fa fn fc)).set (25+k) v=aB (XR x k v1 n1 v fa fn fc):=by unfold XR;rw[avS a];dsimp only;rw[aaf]
def aak:(aB (XR x k v1 n1 v2 fa fn fc)).set 44 (.slice a n c)=aB (XR x k v1 n1 v2 a n c):=by unfold XR;rw[avP]
def SD(a:k<3):(aB (XR x k v1 n1 v2 fa fn fc))[19+k]? =some v1:=by rw[avT a];unfold XR;dsimp only;rw[zO]
def aal(a:k<3):(aB (XR x k v1 n1 v2 fa fn fc))[22+k]? =some (U8 n1):=by rw[avU a];unfold XR;dsimp only;rw[zO]
def yo(a:k<3):(aB (XR x k v1 n1 v2 fa fn fc))[25+k]? =some v2:=by rw[avV a];unfold XR;dsimp only;rw[zO]
def E_:(aB (XR x k v1 n1 v2 fa fn fc))[44]? =some (.slice fa fn fc):=rfl
end
def av'{P:Program}{ρ:Env}{T ty T':TypeId}{x y:Operand}{len s b a:Nat}{k:IntKind}{u:Int}[hu:cu P T (.array len T')] [hs:Sz P T' s](c:aL ρ x=bL b)(d:aL ρ y= .int k u) [h1:av u a](e:a<len):run P ρ (.indexAddr T x y) ty w= .ok (.value (.pointer (some ⟨b,a*s,none⟩))) w:=by
 rw[Xu c d e,il]
def awa:ke t k 0 E=some (jY k,0):=by unfold ke;rw[ao J]
def awb(h:0<W E)(h2:byte E 0<=(cE k).1):ke t k 1 E=some (qu (byte E 0),1):=by unfold ke;rw[aj an,ao J,aj I]
def ahS(h:W E=0\/(cE k).1<byte E 0):ke t k 1 E=none:=by unfold ke;rw[aj an,ao J,ao h]
def ahT:ke t k 2 E=(fO (num E) (W E) (cE k).2 ((cE k).1+1)).map λx=>(⟨dn x.1 x.2.1,x.2.1⟩,x.2.2):=by unfold ke;rw[aj an,aj an,ao J]
def ahU:ke t k 3 E=t.map λt=>(t,0):=by unfold ke;rw[aj an,aj an,aj an]
def awc{e:aK}(a:k<3):(some (pK p0 p1 p2 k),C (bP (Sw k)) 214)∈e::([(ah p2 (bP pI) 214),(ah p1 (bP pH) 214),(ah p0 (bP pG) 214)]++F):=by
 rcases k3 a with rfl|rfl|rfl
 exact aA (aA (aA bZ))
 exact aA (aA bZ)
 exact aA bZ
def awd{len:Nat}{N size:Nat}{t:Tb}(h:yh len (fO N len (cE k).2 ((cE k).1+1)))(e:(fO N len (cE k).2 ((cE k).1+1)).map (λx=>((⟨dn x.1 x.2.1,x.2.1⟩:Tb),x.2.2))=some (t,size)):len<size+2:=by
 cases hp:fO N len (cE k).2 ((cE k).1+1)with
 |none=>rw[hp]at e;cases e
 |some y=>rw[hp]at e;cases e;exact h y.1 y.2.1 y.2.2 hp
def Ht{e:aK}(G:List aK):Sub (e::F) (e::(G++F)):=λx a=>by
 rcases nP.1 a with rfl|a
 exact fQ ..
 exact aA (fM _ a)
def ahV{p:Prop}(h:p:=by exact⟨aS,bq,aT (2^(cE k).2) default,(2^(cE k).2),az,h,dS ..,aW _⟩):p:=h
theorem aam{br off m dl dc:Nat}{aE aU:Addr}{ad:Option Addr}{eP O:Option Nat}{cs:List dx}{bs:List Bl}(h:H r w ((ah br (aB x) 81)::(eP,C (dp cs) 227)::(O,C (bP bs) 214)::L))(i_:Sub F L)(Y:Gl F aE aU)(CL:aY F (.slice ad dl dc) E)(d:k<3)(hm:m<4)(yi:off<=W E)(hE:W E<=268435456)(ss:yn x.fA x.fN x.fC eP cs)(A:NK (x.sq k) k O bs)(Z:tg ((O,C (bP bs) 214)::F) (x.st k) (x.tb k) k t):Calls PP 104 #[bL br,.slice ad dl dc,af off,af k,.int .u8 (m:Int)] w λe w'=> ∃a er v1 n1 v2 fa fn fc oP kE o qB G,e= .returned (.tuple #[af a,er])/\H r w' ((ah br (aB (XR x k v1 n1 v2 fa fn fc)) 81)::(oP,C (dp kE) 227)::(o,C (bP qB) 214)::(G++L))/\(yn fa fn fc oP kE/\NK v2 k o qB)/\((er= .nilIface/\ ∃Q size,ke t k m (E.drop off)=some (Q,size)/\a=off+size/\tg ((o,C (bP qB) 214)::(G++F)) v1 n1 k (some Q))\/((∃be,er= .iface 182 (bL be))/\ ∀Q size,ke t k m (E.drop off)=some (Q,size)->m=2/\W E-off<size+2)):=by
 have B:=Y.sub i_;have hX:=CL.sub i_;have kV:dl=W E/\dl<=dc:=(by obtain⟨jz,n',c',e1,hl,hc,_⟩:=id hX;cases e1;exact⟨hl,hc⟩);have rh:0<W E-> ∃db q l T,ad=some ⟨db,q,none⟩/\(ah db l T)∈L/\Rd l q (E.map u8):=(by obtain⟨jz,n',c',e1,hl,hc,h3⟩:=id hX;cases e1;intro h0;exact h3 I);have oG:= @ahR k;have NL:=av9 d;have Na:2^(cE k).2<=512:=wI oG.2;have vj:=eA (cE k).2;have D:=A;have z:=ss;obtain⟨R,qc,S,aJa,K⟩:=A;obtain⟨sA,sN,sC,qC,j3⟩:=Z.slice;obtain⟨qW,zM,NN,Km⟩:=ss;rw[<- @av_ x k]at h;refine rU (P:=PP) func104 285 ntmps104 [10,11] J J (args:=[_,_,_,_,_]) J ?_;refine g_ 7 ?_;refine Jk J (aH (av8 h) ?_);rintro e M ⟨p0,p1,p2,rfl,h⟩;refine eN h J ?_;intro bi w h;refine rW (vs:=w8 p0 p1 p2) h J J J J (by show 0+15<=15;omega) J ?_;intro w h;dsimp only[bJ]at h;rw[show(dm _ 0 (w8 p0 p1 p2))=w8 p0 p1 p2 from J]at h;refine g_ 4 ?_;refine ak (av' J J d) ?_;refine g_ 13 ?_;refine au J ?_ ?_<;>intro xM
 refine bY (cm h [0,4,8,12,16,24,28,21,32,39] ?_);intro w h;refine aC 7 ?_;refine aQ J h J (av0 d) (aD J (oD J J d) (dt (.slice (some ⟨pK p0 p1 p2 k,0,none⟩) (2^(jY k).log) (2^(jY k).log)) (SD d) ?_));intro w h;rw[aai d]at h;refine cO (bY (cm h [0,4,8,12,16,28,32,21,24,36,43] ?_));intro w h;refine aC 7 ?_;refine aQ J h J (av1 d) ?_;refine aC 1 ?_;refine aD J (oD J J d) (dt (U8 (jY k).log) (aal d) ?_);intro w h;rw[aaj d]at h;refine cO ?_;refine g_ 7 ?_;replace h:=h.zz [3,3,3,6,6,6,6] 1;have f:m=0:=xM;rw[f];exact⟨off,_,_,_,_,_,_,_,_,_,_,_,[(ah p2 (bP pI) 214),(ah p1 (bP pH) 214),(ah p0 (bP pG) 214)],J,h,⟨z,D⟩,a_ ⟨J,jY k,0,awa,J,pK p0 p1 p2 k,_,Sw k,J,awc d,by rw[av4 d];exact aW _,aW _,λi hi=>av3 d hi,J⟩⟩
 refine g_ 5 ?_;refine au J ?_ ?_<;>intro u5
 refine g_ 8 ?_;refine au J ?_ ?_<;>intro arV
 refine g_ 4 ?_;refine cJ J J J (aH (vi h (aA (aA (aA (aA bZ)))) (B.sub aP)) ?_);rintro e M ⟨be,rfl,h⟩;refine g_ 4 ?_;replace h:=h.zz [3,3,3,6,6,6,6] 1;have f:m=1:=u5;rw[f];exact⟨0,_,_,_,_,_,_,_,_,_,_,_,[(ah p2 (bP pI) 214),(ah p1 (bP pH) 214),(ah p0 (bP pG) 214)],J,h,⟨z,D⟩,bG ⟨⟨be,J⟩,λt1 size e=>by rw[ahS (a_ (by rw[cr];omega))]at e;cases e⟩⟩
 refine aZ (rh I) (λdb eK=>aZ (eK) (λq eJ=>aZ (eJ) (λl fH=>aZ (fH) (λT j1=>?_))));have kW:=kf j1.2.2 (i:=off) I;refine gg j1.2.1 λib ph=>?_;have Cz:=toNat_le (aa E off 0);have tQ:byte (E.drop off) 0=(aa E off 0).toNat:=(by unfold byte;simp[bX]);have zI:0<W (E.drop off):=(by rw[cr];omega);refine g_ 5 ?_;refine ak (da J J j1.1 I) (aX h J kW ?_);refine g_ 11 ?_;refine ak (xH (v1:=iW 0) (v2:=D3 0) (aq0 _ _ _) J J J) (mf J (aq_ _ _ _) h ?_);intro bn w h;refine ee (aJ (cW [(65,83)] (λρ w=> ∃ob:Nat,∃p:List Bl,∃s:Nat,Kn ρ []/\H r w ((ah br (aB (XR x k (x.st k) (x.tb k) (cK ob s (2^(cE k).2)) x.fA x.fN x.fC)) 81)::(eP,C (dp cs) 227)::(ah ob (bP p) 214)::(ah bn (dp [⟨(aa E off 0).toNat,0,0⟩]) 227)::(ah bi (w8 p0 p1 p2) 223)::(ah p2 (bP pI) 214)::(ah p1 (bP pH) 214)::(ah p0 (bP pG) 214)::L)/\(W p=(2^(cE k).2))/\(s<=(2^(cE k).2))) ?_ ?_))
 refine g_ 6 ?_;refine ak (oD J J d) (aX h J ((yo d).trans (by rw[S])) ?_);refine ak (Ge J) ?_;refine g_ 2 ?_;refine au J ?_ ?_<;>intro SF
 refine cm h [0,4,8,12,16,32,36,21,24,30,40,47] ?_;intro w h;refine aC 7 ?_;refine aQ J h J (Kj d) (aD J (gY (b:=(cE k).2) J J dQ aG) ?_);refine aeG J h J J J I I I J ?_;intro bq w h;rw[ahP]at h;refine aD J (oD J J d) (dt (cK bq (2^(cE k).2) (2^(cE k).2)) (yo d) ?_);intro w h;rw[SC d]at h;refine cO ?_;replace h:=h.zz [5,5,5,5,5,5,7,7,8] 1;exact ahV
 have u:=K.resolve_left SF;refine u.1.elim λob N=>?_;have v:x.sq k=cK ob R (2^(cE k).2):=(by rw[S,N,u.2.1];rfl);rw[v,N]at h;refine a8 ?_;replace h:=h.zz [4,4,4,4,4,7,7,7] 0;exact⟨aS,ob,bs,R,az,h,u.2.2,I⟩
 rintro ρ w ⟨ob,p,s,⟨ny,rfl⟩,h,fj,gy⟩;refine bY (cm h [0,4,8,12,16,20,24,36,40,29,32,44,51] ?_);intro w h;refine aC 6 ?_;refine aD J (oD J J d) ?_;refine aC 2 ?_;refine aQ J h J (yo d) (aD J (mX (c:=1) (h1:=av.lit _) J J I) (aD J (oD J J d) (dt (cK ob 1 (2^(cE k).2)) (yo d) ?_)));intro w h;rw[SC d]at h;refine cO (bY (bY (cm h [0,4,8,16,20,24,28,32,36,40,44,13,49,55,56] ?_)));intro w h;refine aC 10 ?_;refine aD J (oD J J d) (aQ J h J (ahM d) (aQ J h J (yo d) ?_));replace h:=h.zz [2] 0;refine ahN d J J J J J J J ((ahO (n:=1) (cs:=[⟨(aa E off 0).toNat,0,0⟩]) d h (aA (aA bZ)) bZ (B.sub aP) (aW 1) I I I (λi hi=>by rw[show i=0 by omega];exact Cz)).mono ?_);rintro e M ⟨sr,zP,rfl,h,fW,U,NO⟩;refine⟨_,J,?_⟩;refine fG J (cO ?_);refine g_ 3 ?_;refine ak (kg sr ((aa E off 0).toNat<=(cE k).1) J (λe=>(U (λi hi=>by rw[show i=0 by omega];exact e)).1) (λe=>NO ⟨0,I,xy e⟩) J) (aJ (au J ?_ ?_))<;>intro zQ
 refine g_ 7 ?_;replace h:=h.zz [7,7,7,3,5,5,7,7] 2;have f:m=1:=u5;rw[f];exact⟨0,_,_,_,_,_,_,_,_,_,_,_,[(ah p2 (bP pI) 214),(ah p1 (bP pH) 214),(ah p0 (bP pG) 214)],J,h,⟨z,_,_,J,I,bG ⟨⟨_,J⟩,J,I⟩⟩,bG ⟨NO ⟨0,I,xy zQ⟩,λt1 size e=>by rw[ahS (bG (by rw[tQ];exact xy zQ))]at e;cases e⟩⟩
 refine a8 (bY (cm h [0,4,8,12,16,20,24,32,36,29,40,47] ?_));intro w h;refine aC 6 ?_;refine aD J (oD J J d) ?_;refine aC 2 ?_;refine aQ J h J (yo d) (aD J (oD J J d) (dt (cK ob 1 (2^(cE k).2)) (SD d) ?_));intro w h;rw[aai d]at h;refine cO ?_;refine g_ 6 ?_;refine ak (oD J J d) (dt (U8 0) (aal d) ?_);intro w h;rw[aaj d]at h;refine g_ 8 ?_;replace h:=h.zz [7,7,7,3,5,5,7,7] 2;have f:m=1:=u5;rw[f];exact⟨off+1,_,_,_,_,_,_,_,_,_,_,_,[(ah p2 (bP pI) 214),(ah p1 (bP pH) 214),(ah p0 (bP pG) 214)],J,h,⟨z,_,_,J,I,bG ⟨⟨_,J⟩,J,I⟩⟩,a_ ⟨J,qu (byte (E.drop off) 0),1,awb zI (by rw[tQ];omega),J,ob,_,zP,J,fQ ..,by show 1<=_;omega,by show 1<=_;omega,λi hi=>by rw[tQ];exact(U (λj hj=>by rw[show j=0 by omega];show(aa E off 0).toNat<=_;omega)).2 i hi,J⟩⟩
 refine g_ 5 ?_;refine au J ?_ ?_<;>intro Kp
 refine cW [(132,151)] (λρ w=> ∃fb:Nat,∃ik:List dx,∃f2 g:Nat,Kn ρ []/\H r w ((ah br (aB (XR x k (x.st k) (x.tb k) (x.sq k) (some ⟨fb,0,none⟩) f2 g)) 81)::(ah fb (dp ik) 227)::(O,C (bP bs) 214)::(ah bi (w8 p0 p1 p2) 223)::(ah p2 (bP pI) 214)::(ah p1 (bP pH) 214)::(ah p0 (bP pG) 214)::L)/\(g<=W ik)/\((2^(cE k).2)<=g)) ?_ ?_
 refine bY (cm h [0,4,8,20,24,28,13,16,33,36,40] ?_);intro w h;refine aC 6 ?_;refine aQ J h J E_ (aD J (Ge J) (aQ J h J (Kj d) (aD J (gY (b:=(cE k).2) J J dQ aG) ?_)));refine aC 2 ?_;refine au J ?_ ?_<;>intro aJb
 refine g_ 5 ?_;refine aX h J (Kj d) (ak (gY (b:=(cE k).2) J J dQ aG) ?_);refine uK h J J J I I I J ?_;intro bc w h;rw[ahQ]at h;refine g_ 2 ?_;refine dt (cK bc (2^(cE k).2) (2^(cE k).2)) E_ ?_;intro w h;rw[aak]at h;refine aJ ?_;replace h:=h.zz [4,4,4,4,7,5,6,7] 1;exact⟨aS,bc,aT (2^(cE k).2) default,(2^(cE k).2),(2^(cE k).2),az,h,(by rw[dS];exact aW _),I⟩
 have aao:eP≠none:=λe=>(by have:=Km e;omega);refine(WW.1 aao).elim λfb pB=>?_;rw[pB]at h;have Hu:x.fA=some ⟨fb,0,none⟩:=(by rw[qW,pB];rfl);rw[Hu]at h;refine a8 ?_;replace h:=h.zz [3,3,3,3,6,6,6] 0;exact⟨aS,fb,cs,x.fN,x.fC,az,h,I,I⟩
 rintro ρ w ⟨fb,ik,f2,g,⟨mn,rfl⟩,h,awe,awf⟩;refine bY (cm h [0,4,8,12,20,24,28,17,33,36,40,44,48,55] ?_);intro w h;refine aC 7 ?_;refine aQ J h J E_ (aQ J h J (Kj d) (aD J (gY (b:=(cE k).2) J J dQ aG) ?_));refine aD J (mX J J I) ?_;refine aC 2 ?_;refine dt (cK fb (2^(cE k).2) g) E_ ?_;intro w h;rw[aak]at h;refine cO (bY (cm h [0,4,8,12,16,20,28,32,36,44,48,52,25,41,57,63,64,68,72,76,80,84,88] ?_));intro w h;refine aC 12 ?_;refine aQ J h J (av2 d) (aQ J h J (Kj d) (aQ J h J E_ ?_));replace h:=h.zz [1] 0;refine ape J J J J J J J J (aH (ahx (tn:=(2^(cE k).2)) (tc:=g) h bZ (B.sub aP) (hX.sub aP) yi hE I oG.2 (aW _) I) ?_);rintro e M ⟨a1,b1,sr,nG,rfl,h,GX,hd⟩;refine(Kk hd).elim λok c_=>?_;have gM:=c_.1;have gj:=c_.2;refine aC 8 ?_;refine g_ 4 ?_;refine ak (kg sr (ok=true) J (λe=>(gM e).1) (λe=>(gj (by simpa using e)).1) J) ?_;refine aJ (au J ?_ ?_)<;>intro y
 have vo:=(gj (by simpa using y)).2;refine g_ 7 ?_;replace h:=h.zz [6,6,6,5,4,5,6] 1;have f:m=2:=Kp;rw[f];exact⟨0,_,_,_,_,_,_,_,_,_,_,_,[(ah p2 (bP pI) 214),(ah p1 (bP pH) 214),(ah p0 (bP pG) 214)],J,h,⟨⟨J,I,I,λe=>by cases e⟩,D⟩,bG ⟨(gj (by simpa using y)).1,λt1 size e=>by rw[ahT,cr]at e;exact⟨J,awd vo e⟩⟩⟩
 have gi:=gM (by simpa using y);refine B8 (gi.2) λout size V=>?_;have X:=Ez V.1 oG.2 I;have ha9:a1<=9:=I;have mO:2^a1<=(2^(cE k).2):=dF I X.2.1;have tI:=eA a1;have lL:=V.2.2;refine a8 (bY (cm h [0,4,8,12,20,24,17,28,32,36,43] ?_));intro w h;refine aC 5 ?_;refine aD J (gY (b:=a1) J J dQ aG) ?_;refine aQ J h J E_ (aD J (mX J J I) ?_);refine aC 2 ?_;refine dt (cK fb (2^a1) g) E_ ?_;intro w h;rw[aak]at h;refine cO (cW [(198,216)] (λρ w=> ∃ob:Nat,∃p:List Bl,∃s:Nat,Kn ρ []/\H r w ((ah br (aB (XR x k (x.st k) (x.tb k) (cK ob s (2^(cE k).2)) (some ⟨fb,0,none⟩) (2^a1) g)) 81)::(ah fb (dp nG) 227)::(ah ob (bP p) 214)::(ah bi (w8 p0 p1 p2) 223)::(ah p2 (bP pI) 214)::(ah p1 (bP pH) 214)::(ah p0 (bP pG) 214)::L)/\(W p=(2^(cE k).2))/\(s<=(2^(cE k).2))) ?_ ?_)
 refine g_ 6 ?_;refine ak (oD J J d) (aX h J ((yo d).trans (by rw[S])) ?_);refine ak (Ge J) ?_;refine g_ 2 ?_;refine au J ?_ ?_<;>intro SG
 refine cm h [0,4,8,12,16,32,36,21,24,30,40,47] ?_;intro w h;refine aC 7 ?_;refine aQ J h J (Kj d) (aD J (gY (b:=(cE k).2) J J dQ aG) ?_);refine aeG J h J J J I I I J ?_;intro bq w h;rw[ahP]at h;refine aD J (oD J J d) (dt (cK bq (2^(cE k).2) (2^(cE k).2)) (yo d) ?_);intro w h;rw[SC d]at h;refine cO ?_;replace h:=h.zz [7,7,7,7,4,5,6,7] 1;exact ahV
 have u:=K.resolve_left SG;refine u.1.elim λob N=>?_;have v:x.sq k=cK ob R (2^(cE k).2):=(by rw[S,N,u.2.1];rfl);rw[v,N]at h;refine a8 ?_;replace h:=h.zz [6,6,6,6,6,5,6] 0;exact⟨aS,ob,bs,R,az,h,u.2.2,I⟩
 rintro ρ w ⟨ob,p,s,⟨nz,rfl⟩,h,fj,gy⟩;refine bY (cm h [0,4,8,12,16,20,24,32,36,44,48,29,40,52,59] ?_);intro w h;refine aC 6 ?_;refine aD J (oD J J d) (lx J (aD J (gY (b:=a1) J J dQ aG) ?_));refine aC 2 ?_;refine aQ J h J (yo d) (aD J (mX J J I) (aD J (oD J J d) (dt (cK ob (2^a1) (2^(cE k).2)) (yo d) ?_)));intro w h;rw[SC d]at h;refine cO (bY (bY (cm h [0,4,8,16,20,24,28,32,40,44,48,52,56,13,37,61,67,68] ?_)));intro w h;refine aC 12 ?_;refine aD J (oD J J d) (aQ J h J (ahM d) (aQ J h J E_ (aQ J h J (yo d) ?_)));replace h:=h.zz [2] 0;refine ahN d J J J J J J J ((ahO (n:=2^a1) (cs:=nG) d h (aA bZ) bZ (B.sub aP) I I (aW _) I (λi hi=>by rw[lL i hi];have:=(GL X.1 hi).2.2.1;have:=X.1.len;omega)).mono ?_);rintro e M ⟨w7,zP,rfl,h,fW,U,NO⟩;refine⟨_,J,?_⟩;have fu:=U (λi hi=>by rw[lL i hi];have:=(GL X.1 hi).2.2.1;omega);have awg:=fu.1;refine fG J (cO ?_);refine g_ 3 ?_;refine ak (kg w7 True J (λ_=>awg) (λe=>absurd trivial e) J) (aJ (au J ?_ ?_))<;>intro awh
 exfalso;exact awh trivial
 refine a8 (bY (cm h [0,4,8,12,16,20,24,32,36,29,40,47] ?_));intro w h;refine aC 6 ?_;refine aD J (oD J J d) ?_;refine aC 2 ?_;refine aQ J h J (yo d) (aD J (oD J J d) (dt (cK ob (2^a1) (2^(cE k).2)) (SD d) ?_));intro w h;rw[aai d]at h;refine cO ?_;refine g_ 8 ?_;refine ak (oD J J d) (dt (U8 a1) (aal d) ?_);intro w h;rw[aaj d]at h;refine g_ 8 ?_;replace h:=h.zz [6,6,6,3,5,5,6] 1;have f:m=2:=Kp;rw[f];exact⟨b1,_,_,_,_,_,_,_,_,_,_,_,[(ah p2 (bP pI) 214),(ah p1 (bP pH) 214),(ah p0 (bP pG) 214)],J,h,⟨⟨J,I,I,λe=>by cases e⟩,_,_,J,I,bG ⟨⟨_,J⟩,J,I⟩⟩,a_ ⟨J,⟨dn out a1,a1⟩,size,by rw[ahT,cr,V.1];rfl,V.2.1,ob,_,zP,J,fQ ..,by show 2^a1<=_;omega,mO,λi hi=>by rw[fu.2 i hi,lL i hi],J⟩⟩
 refine g_ 5 ?_;refine au J ?_ ?_<;>intro NP
 refine g_ 7 ?_;refine ak (oD J J d) (aX h J ((SD d).trans (by rw[qC])) ?_);refine g_ 3 ?_;refine au J ?_ ?_<;>intro SH
 refine g_ 4 ?_;refine eS J J J J (aH (re h (aA (aA (aA (aA bZ)))) (B.sub aP)) ?_);rintro e M ⟨be,rfl,h⟩;refine g_ 4 ?_;replace h:=h.zz [3,3,3,6,6,6,6] 1;have f:m=3:=NP;rw[f];exact⟨0,_,_,_,_,_,_,_,_,_,_,_,[(ah p2 (bP pI) 214),(ah p1 (bP pH) 214),(ah p0 (bP pG) 214)],J,h,⟨z,D⟩,bG ⟨⟨be,J⟩,λt1 size e=>by rw[ahU,j3.1 I]at e;cases e⟩⟩
 refine g_ 8 ?_;replace h:=h.zz [3,3,3,6,6,6,6] 1;have f:m=3:=NP;rw[f];refine(WW.1 (λe=>SH (j3.2 e))).elim λt1 nA=>?_;exact⟨off,_,_,_,_,_,_,_,_,_,_,_,[(ah p2 (bP pI) 214),(ah p1 (bP pH) 214),(ah p0 (bP pG) 214)],J,h,⟨z,D⟩,a_ ⟨J,t1,0,by rw[ahU,nA];rfl,J,by rw[nA]at Z;exact Z.sub (Ht [(ah p2 (bP pI) 214),(ah p1 (bP pH) 214),(ah p0 (bP pG) 214)])⟩⟩
 exfalso;omega
variable {bI:List (Option Tb)}{E3:List UInt8}{m md off p:Nat}{told:Option Tb}
def j4(bI:List (Option Tb))(a:List UInt8):Nat×Nat×Nat×List (Option Tb):=
 if W a=0 then(2,0,0,bI)
 else if byte a 0=0 then(1,0,1,bI)
 else if W a<eh (byte a 0)then(2,0,0,bI)
 else if(a.drop (eh (byte a 0))).length=0 then(2,0,0,bI)
 else if byte (a.drop (eh (byte a 0))) 0 % 4≠0 then(0,0,0,bI)
 else
   let y:=fI (byte (a.drop (eh (byte a 0))) 0) bI ((a.drop (eh (byte a 0))).drop 1) 3
   (y.1,kT a,eh (byte a 0)+1+y.2.2,y.2.1)
structure TI(m:Nat)(bI:List (Option Tb))(E3:List UInt8)(i:Nat)(tl:List (Option Tb))(p:Nat):Prop where
 ne2:(fI m bI E3 i).1≠2
 eq:(fI m bI E3 i).1=1->fI m bI E3 i=(1,tl,p)
def TI.zero{m:Nat}{bI:List (Option Tb)}{E3:List UInt8}:TI m bI E3 0 bI 0:=⟨(by show(1:Nat)≠2;decide),λ_=>rfl⟩
def TI.step{size:Nat}{tl:List (Option Tb)}{t:Tb}(h:TI m bI E3 i tl p)(a:aa tl i none=told)(hm:m/2^(6-2*i) % 4=md)(hb:ke told i md (E3.drop p)=some (t,size)):TI m bI E3 (i+1) (tl.set i (some t)) (p+size):=by
 subst a;subst hm;by_cases h1:(fI m bI E3 i).1=1
 have e:=h.eq h1;have e2:fI m bI E3 (i+1)=if m/2^(6-2*i) % 4=2/\W E3- (p+size)<2 then(0,bI,0)else(1,tl.set i (some t),p+size):=(by rw[fI,e];dsimp only;rw[aj an,hb]);refine⟨?_,?_⟩
 rw[e2];split
 show(0:Nat)≠2;decide
 show(1:Nat)≠2;decide
 rw[e2];split
 intro e;cases e
 intro _;rfl
 have e:=JY h1 (I:i<=i+1);refine⟨?_,?_⟩
 rw[e];exact h.ne2
 rw[e];intro e;exact absurd e h1
def TI.bad{tl:List (Option Tb)}(h:TI m bI E3 i tl p)(a:aa tl i none=told)(hm:m/2^(6-2*i) % 4=md)(hi:i<3)(hb: ∀t size,ke told i md (E3.drop p)=some (t,size)->md=2/\W E3-p<size+2):(fI m bI E3 3).1≠1:=by
 have key:(fI m bI E3 (i+1)).1≠1:=by
  subst a;subst hm;by_cases h1:(fI m bI E3 i).1=1
  have e:=h.eq h1;rw[fI,e];dsimp only;rw[aj an]
  cases hp:ke (aa tl i none) i (m/2^(6-2*i) % 4) (E3.drop p)with
  |none=>dsimp only;decide
  | some y=>
    have:=hb y.1 y.2 hp
    dsimp only
    rw[ao ⟨this.1,I⟩];dsimp only;decide
  rw[JY h1 (I:i<=i+1)];exact h1
 rw[JY key (I:i+1<=3)];exact key
def awi(a:off<W E)(h1:byte (E.drop off) 0≠0)(h2:off+eh (byte (E.drop off) 0)<W E)(b:(aa E (off+eh (byte (E.drop off) 0)) 0).toNat % 4=0):j4 bI (E.drop off)=((fI (aa E (off+eh (byte (E.drop off) 0)) 0).toNat bI (E.drop (off+eh (byte (E.drop off) 0)+1)) 3).1,kT (E.drop off),eh (byte (E.drop off) 0)+1+(fI (aa E (off+eh (byte (E.drop off) 0)) 0).toNat bI (E.drop (off+eh (byte (E.drop off) 0)+1)) 3).2.2,(fI (aa E (off+eh (byte (E.drop off) 0)) 0).toNat bI (E.drop (off+eh (byte (E.drop off) 0)+1)) 3).2.1):=by
 unfold j4;have hb:byte ((E.drop off).drop (eh (byte (E.drop off) 0))) 0=(aa E (off+eh (byte (E.drop off) 0)) 0).toNat:=(by unfold byte;simp[bX,kG]);rw[aj (by rw[cr];omega),aj h1,aj (by rw[cr];omega),aj (by rw[cr,cr];omega),hb,aj I,kG,kG];simp only[fL]
def awj(a:off<W E)(h1:byte (E.drop off) 0=0):j4 bI (E.drop off)=(1,0,1,bI):=by
 unfold j4;rw[aj (by rw[cr];omega),ao h1]
def awk(a:W E<=off):(j4 bI (E.drop off)).1=2:=by
 unfold j4;rw[ao (by rw[cr];omega)]
def awl(h1:byte (E.drop off) 0≠0)(h2:W E<=off+eh (byte (E.drop off) 0)):(j4 bI (E.drop off)).1=2:=by
 unfold j4;by_cases a:W (E.drop off)=0
 rw[ao a]
 rw[aj a,aj h1];by_cases b:W (E.drop off)<eh (byte (E.drop off) 0)
 rw[ao b]
 rw[aj b,ao (by rw[cr,cr];omega)]
def awm(b:off<W E)(h1:byte (E.drop off) 0≠0)(h2:off+eh (byte (E.drop off) 0)<W E)(a:(aa E (off+eh (byte (E.drop off) 0)) 0).toNat % 4≠0):(j4 bI (E.drop off)).1=0:=by
 unfold j4;have hb:byte ((E.drop off).drop (eh (byte (E.drop off) 0))) 0=(aa E (off+eh (byte (E.drop off) 0)) 0).toNat:=(by unfold byte;simp[bX,kG]);rw[aj (by rw[cr];omega),aj h1,aj (by rw[cr];omega),aj (by rw[cr,cr];omega),hb,ao a]
def H.aaq{a b c d e:aK}{G:List aK}(h:H r w (a::b::c::(G++(d::e::L)))):H r w (a::b::c::d::e::(G++L)):=
 h.perm ((((tF (l₁:=G) (a:=d) (l₂:=e::L)).trans ((tF (l₁:=G) (a:=e) (l₂:=L)).cons d)).cons c).cons b|>.cons a)
def ahX(h:p+2<=W E):num (ag E p 2)=(aa E p 0).toNat+(aa E (p+1) 0).toNat*2^8:=by
 have c:W (ag E p 2)=2:=dK h;have a:=tR (ag E p 2) 1 I;have b:=tR (ag E p 2) 0 I;rw[je I]at a;rw[a,b,lD I,lD I];simp[num]
def aar(x:dk)(eP:Option Nat)(cs:List dx)(o0 o1 o2:Option Nat)(b0 b1 b2:List Bl):Prop:=yn x.fA x.fN x.fC eP cs/\NK (x.sq 0) 0 o0 b0/\NK (x.sq 1) 1 o1 b1/\NK (x.sq 2) 2 o2 b2
def Hv(F:List aK)(x:dk)(o0 o1 o2:Option Nat)(b0 b1 b2:List Bl)(bI:List (Option Tb)):Prop:=tg ((o0,C (bP b0) 214)::F) (x.st 0) (x.tb 0) 0 (aa bI 0 none)/\tg ((o1,C (bP b1) 214)::F) (x.st 1) (x.tb 1) 1 (aa bI 1 none)/\tg ((o2,C (bP b2) 214)::F) (x.st 2) (x.tb 2) 2 (aa bI 2 none)
def awn(x y:dk):Prop:=y={x with st:=y.st,tb:=y.tb,sq:=y.sq,fA:=y.fA,fN:=y.fN,fC:=y.fC}
def Kq{v:Value}{a:Option Tb}(h:tg L v lg k t)(e:t=a):tg L v lg k a:=e▸h
def SI(h:Sub F L){G:List aK}:Sub (G++F) (G++L):=λx a=>by
 rcases oX.1 a with a|a
 exact oA _ a
 exact fM _ (h _ a)
def yp(G:List aK):Sub F (G++F):=λ_ a=>fM _ a
def ahY(G a:List aK):Sub F (G++(a++F)):=λ_ b=>fM _ (fM _ b)
def awo{α:Type}{l:List (Option α)}{a b c:Option α}(h:W l=3):aa (((l.set 0 a).set 1 b).set 2 c) 0 none=a/\aa (((l.set 0 a).set 1 b).set 2 c) 1 none=b/\aa (((l.set 0 a).set 1 b).set 2 c) 2 none=c/\aa (l.set 0 a) 1 none=aa l 1 none/\aa ((l.set 0 a).set 1 b) 2 none=aa l 2 none:=by
 match l,h with
 | [_,_,_],_=>exact iG
def SJ{a b:Nat}(h:a=b+p):(E.drop b).drop p=E.drop a:=by rw[kG,h]
def ahZ(h:n=2):n≠1:=I
def awp(h:n=0):n≠1:=I
def aas{p:Prop}(h:p:=by refine g_ 4 ?_;refine cJ J J J (aH (vi h bZ (rj.sub aP)) ?_);rintro e w1 ⟨be,rfl,h⟩;refine g_ 5 ?_;exact⟨0,0,_,false,_,_,_,_,_,_,_,_,_,[],J,h,J,hI,(λe=>by cases e),(λ_=>And.intro ⟨be,J⟩ (ahZ (awl jD I)))⟩):p:=h
def ah0{p:Prop}(h:p:=by exact⟨aS,Kn.mk ⟨ie SK.symm,ie (by rw[Hw]),trivial⟩,h,I,I,I⟩):p:=h
theorem awq{br dl dc:Nat}{aE aU:Addr}{ad:Option Addr}{eP o0 o1 o2:Option Nat}{cs:List dx}{b0 b1 b2:List Bl}(h:H r w ((ah br (aB x) 81)::(eP,C (dp cs) 227)::(o0,C (bP b0) 214)::(o1,C (bP b1) 214)::(o2,C (bP b2) 214)::L))(u:Sub F L)(U:Gl F aE aU)(v:aY F (.slice ad dl dc) E)(hE:W E<=268435456)(yi:off<=W E)(eX:W bI=3)(hI:aar x eP cs o0 o1 o2 b0 b1 b2)(V:Hv F x o0 o1 o2 b0 b1 b2 bI):Calls PP 98 #[bL br,.slice ad dl dc,af off] w λe w'=> ∃n a er ok X y kE vw vx vy vz vA vB G,e= .returned (.tuple #[af n,af a,er])/\H r w' ((ah br (aB X) 81)::(y,C (dp kE) 227)::(vw,C (bP vx) 214)::(vy,C (bP vz) 214)::(vA,C (bP vB) 214)::(G++L))/\awn x X/\aar X y kE vw vy vA vx vz vB/\(ok=true->er= .nilIface/\(j4 bI (E.drop off)).1≠2/\((j4 bI (E.drop off)).1=1-> ∃n8,j4 bI (E.drop off)=(1,n,a-off,n8)/\off<=a/\a<=W E/\Hv (G++F) X vw vy vA vx vz vB n8))/\(ok=false->(∃be,er= .iface 182 (bL be))/\(j4 bI (E.drop off)).1≠1):=by
 have rj:=U.sub u;have hXL:=v.sub u;have kV:dl=W E/\dl<=dc:=(by obtain⟨jz,n',c',e1,hl,hc,_⟩:=id v;cases e1;exact⟨hl,hc⟩);have rh:0<W E-> ∃db q l T,ad=some ⟨db,q,none⟩/\(ah db l T)∈L/\Rd l q (E.map u8):=(by obtain⟨jz,n',c',e1,hl,hc,h3⟩:=id hXL;cases e1;intro h0;exact h3 I);have aJc:W (E.drop off)=W E-off:=cr;have g:byte (E.drop off) 0=(aa E off 0).toNat:=(by unfold byte;simp[bX]);have fj:byte (E.drop off) 1=(aa E (off+1) 0).toNat:=(by unfold byte;simp[bX]);have jL:=toNat_le (aa E off 0);refine nV func98 ntmps98 [6,7,8] ?_;refine g_ 14 ?_;refine au J ?_ ?_<;>intro Ra
 refine g_ 4 ?_;refine cJ J J J (aH (vi h bZ (rj.sub aP)) ?_);rintro e w1 ⟨be,rfl,h⟩;refine g_ 5 ?_;exact⟨0,0,_,false,_,_,_,_,_,_,_,_,_,[],J,h,J,hI,(λe=>by cases e),(λ_=>And.intro ⟨be,J⟩ (ahZ (awk I)))⟩
 refine aZ (rh I) (λdb z=>aZ (z) (λq eJ=>aZ (eJ) (λl fH=>aZ (fH) (λT j=>?_))));have A:=λi (hi:i<W E)=>kf j.2.2 (i:=i) hi;refine gg j.2.1 λib ph=>?_;refine g_ 5 ?_;refine ak (da J J j.1 I) (aX h J (A _ I) ?_);refine g_ 14 ?_;refine au J ?_ ?_<;>intro sT
 refine g_ 8 ?_;have hz:=awj (bI:=bI) (E:=E) (off:=off) I (by rw[g];exact sT);exact⟨0,off+1,_,true,_,_,_,_,_,_,_,_,_,[],J,h,J,hI,(λ_=>⟨J,by rw[hz];show(1:Nat)≠2;decide,λ_=>⟨bI,by rw[hz,tH],I,I,V⟩⟩),(λe=>by cases e)⟩
 have jD:byte (E.drop off) 0≠0:=(by rw[g];exact sT);refine g_ 5 ?_;refine cW [(2,2),(6,8),(10,10),(29,77)] (λρ w=>Kn ρ [(10,af (kT (E.drop off))),(2,af (off+(eh (byte (E.drop off) 0))))]/\H r w ((ah br (aB x) 81)::(eP,C (dp cs) 227)::(o0,C (bP b0) 214)::(o1,C (bP b1) 214)::(o2,C (bP b2) 214)::L)/\((eh (byte (E.drop off) 0))<=3/\1<=(eh (byte (E.drop off) 0))/\off+(eh (byte (E.drop off) 0))<=W E)) ?_ ?_
 refine g_ 5 ?_;refine au J ?_ ?_<;>intro Cv
 have Hw:eh (byte (E.drop off) 0)=1:=(by rw[g];unfold eh;rw[aj I,aj I]);have SK:kT (E.drop off)=(aa E off 0).toNat:=(by unfold kT;rw[Hw,aj an,aj an,g]);refine fD (dg (ak (eZ J (dT _ an)) ?_));exact ee (aJ ⟨aS,Kn.mk ⟨ie SK.symm,ie (by rw[Hw]),trivial⟩,h,I,I,I⟩)
 refine g_ 5 ?_;refine au J ?_ ?_<;>intro Hn
 have Hw:eh (byte (E.drop off) 0)=2:=(by rw[g];unfold eh;rw[aj I,ao I]);have SK:kT (E.drop off)=((aa E off 0).toNat-128)*2^8+(aa E (off+1) 0).toNat:=(by unfold kT;rw[Hw,ao J,g,fj]);refine g_ 8 ?_;refine au J ?_ ?_<;>intro sZ
 exact aas
 refine g_ 4 ?_;refine ak (eZ J (dT _ an)) ?_;refine g_ 1 ?_;refine ak (eB (b:=8) (h2:=av.lit _) J J an aG) ?_;refine dg (dg (ak (da J J j.1 I) (aX h J (A _ I) (ak (eZ J (dT _ an)) ?_))));refine ak (eR J J (by have:=toNat_le (aa E (off+1) 0);simp only[aN];omega)) ?_;refine g_ 7 ?_;exact ah0
 have Hw:eh (byte (E.drop off) 0)=3:=(by rw[g];unfold eh;rw[ao I]);refine g_ 9 ?_;refine au J ?_ ?_<;>intro EP
 exact aas
 have SK:kT (E.drop off)=(aa E (off+1) 0).toNat+(aa E (off+1+1) 0).toNat*2^8+32512:=(by unfold kT;rw[Hw,aj an,ao J,ahX I];simp[bX,fL]);refine a8 (bY (cm h [0,4,8,20,24,28,32,13,16,37,40,44,48,52,56] ?_));intro w h;refine aC 2 ?_;refine aD J (da J J j.1 I) ?_;refine aC 3 ?_;refine aD J (da J J j.1 I) (aQ J h J (A _ I) (aD J (eZ J (dT _ an)) ?_));refine aQ J h J (A _ I) (aD J (eZ J (dT _ an)) ?_);refine aD J (eB (b:=8) (h2:=av.lit _) J J an (by have:=toNat_le (aa E (off+1+1) 0);simp only[aN];omega)) ?_;refine aD J (eR J J (by have:=toNat_le (aa E (off+1+1) 0);have:=toNat_le (aa E (off+1) 0);simp only[aN];omega)) ?_;refine aD J (eR (b:=32512) (h2:=av.lit _) J J (by have:=toNat_le (aa E (off+1+1) 0);have:=toNat_le (aa E (off+1) 0);simp only[aN];omega)) ?_;refine fG J (cO ?_);refine g_ 5 ?_;exact ah0
 rintro ρ w ⟨⟨ny,rfl⟩,h,Rp⟩;refine g_ 8 ?_;refine au J ?_ ?_<;>intro Nx
 exact aas
 refine g_ 5 ?_;refine ak (da J J j.1 I) (aX h J (A _ I) ?_);refine g_ 6 ?_;refine ak (kJ (n:=2) J J (dT _ an) an) ?_;refine g_ 2 ?_;refine au J ?_ ?_<;>intro u6
 refine g_ 4 ?_;refine eS J J J J (aH (re h bZ (rj.sub aP)) ?_);rintro e w1 ⟨be,rfl,h⟩;refine g_ 5 ?_;exact⟨0,0,_,false,_,_,_,_,_,_,_,_,_,[],J,h,J,hI,(λe=>by cases e),(λ_=>And.intro ⟨be,J⟩ (awp (awm I jD I I)))⟩
 have p:=awi (bI:=bI) (E:=E) (off:=off) I jD I I;have Kr:= @TI.zero (aa E (off+(eh (byte (E.drop off) 0))) 0).toNat bI (E.drop (off+(eh (byte (E.drop off) 0))+1));have o:=λa b c=> @awo Tb bI a b c eX;refine g_ 17 ?_;refine ak (qT (b:=6) (h2:=av.lit _) J J (dT _ an)) ?_;refine ak (kJ (n:=2) J J (aM (k6 _ _) (dT _ an)) an) ?_;refine D2 (v3:=af 0) J J J J J J (aH (aam (F:=F) (k:=0) (m:=(aa E (off+(eh (byte (E.drop off) 0))) 0).toNat/2^6 % 2^2) (t:=aa bI 0 none) h (λ_ hh=>aA (aA (u _ hh))) U v an (dY _ an) I hE hI.1 hI.2.1 V.1) ?_);rintro e w1 ⟨a1,sr,v1,n1,u1,fa1,fn1,fc1,j5,ik,oq1,jq,G1,rfl,h,s,su⟩;replace h:=h.aaq;refine(Kk su).elim λok1 qW=>?_;have gM:=qW.1;have Ks:=qW.2;refine g_ 10 ?_;refine ak (kg sr (ok1=true) J (λe=>(gM e).1) (λe=>(Ks (by simpa using e)).1) J) ?_;refine aJ (au J ?_ ?_)<;>intro Ep
 have f:=Ks (by simpa using Ep);have B:(j4 bI (E.drop off)).1≠1:=(by rw[p];exact Kr.bad (told:=aa bI 0 none) J J an (λt size e=>by rw[xA]at e;have:=f.2 t size e;rw[cr];omega));refine g_ 8 ?_;exact⟨0,0,_,false,_,_,_,_,_,_,_,_,_,G1,J,h,J,⟨s.1,s.2,hI.2.2.1,hI.2.2.2⟩,(λe=>by cases e),(λ_=>And.intro f.1 B)⟩
 have gi:=gM (by simpa using Ep);refine aZ (gi.2) (λt1 z=>aZ (z) (λY En=>?_));have vl:=RN En.1;rw[cr]at vl;have CD:a1<=W E:=I;have D:a1=(off+(eh (byte (E.drop off) 0))+1)+(0+Y):=I;have K:=Kr.step (told:=aa bI 0 none) J J (by rw[xA];exact En.1);refine g_ 7 ?_;refine ak (qT (b:=4) (h2:=av.lit _) J J (dT _ an)) ?_;refine ak (kJ (n:=2) J J (aM (k6 _ _) (dT _ an)) an) ?_;replace h:=h.zz [3,2,2] 0;refine D2 (v3:=af 1) J J J J J J (aH (aam (F:=G1++F) (k:=1) (m:=(aa E (off+(eh (byte (E.drop off) 0))) 0).toNat/2^4 % 2^2) (t:=aa bI 1 none) h (λ_ hh=>aA (aA (SI u _ hh))) (U.sub (yp _)) (v.sub (yp _)) an (dY _ an) CD hE s.1 hI.2.2.1 (V.2.1.sub (Ht _))) ?_);rintro e w1 ⟨a2,w7,v2,n2,u2,fa2,fn2,nF,Hx,nG,oq2,zP,d,rfl,h,M,n_⟩;replace h:=h.aaq;refine(Kk n_).elim λJT zM=>?_;have gj:=zM.1;have N:=zM.2;refine g_ 10 ?_;refine ak (kg w7 (JT=true) J (λe=>(gj e).1) (λe=>(N (by simpa using e)).1) J) ?_;refine aJ (au J ?_ ?_)<;>intro O
 have f:=N (by simpa using O);have B:(j4 bI (E.drop off)).1≠1:=(by rw[p];exact K.bad (told:=aa bI 1 none) (o _ none none).2.2.2.1 J an (λt size e=>by rw[SJ D]at e;have:=f.2 t size e;rw[cr];omega));refine g_ 8 ?_;replace h:=h.zz [4,3,4,4,4] 0;rw[<-bV]at h;exact⟨0,0,_,false,_,_,_,_,_,_,_,_,_,(d++G1),J,h,J,⟨M.1,s.2,M.2,hI.2.2.2⟩,(λe=>by cases e),(λ_=>And.intro f.1 B)⟩
 have ka:=gj (by simpa using O);refine aZ (ka.2) (λt2 z=>aZ (z) (λz2 pY=>?_));have w9:=RN pY.1;rw[cr]at w9;have Cj:a2<=W E:=I;have P:a2=(off+(eh (byte (E.drop off) 0))+1)+(0+Y+z2):=I;have s9:=K.step (told:=aa bI 1 none) (o _ none none).2.2.2.1 J (by rw[SJ D];exact pY.1);refine g_ 7 ?_;refine ak (qT (b:=2) (h2:=av.lit _) J J (dT _ an)) ?_;refine ak (kJ (n:=2) J J (aM (k6 _ _) (dT _ an)) an) ?_;replace h:=h.zz [4,2,2] 0;refine D2 (v3:=af 2) J J J J J J (aH (aam (F:=d++(G1++F)) (k:=2) (m:=(aa E (off+(eh (byte (E.drop off) 0))) 0).toNat/2^2 % 2^2) (t:=aa bI 2 none) h (λ_ hh=>aA (aA (SI (SI u) _ hh))) (U.sub (ahY _ _)) (v.sub (ahY _ _)) an (dY _ an) Cj hE M.1 hI.2.2.2 ((V.2.2.sub (Ht _)).sub (Ht _))) ?_);rintro e w1 ⟨Q,CS,v3,n3,u3,fa3,fn3,fc3,of3,cs3,oq3,NQ,G3,rfl,h,Z,E'⟩;replace h:=h.aaq;refine(Kk E').elim λok3 NN=>?_;have mz:=NN.1;have R:=NN.2;refine g_ 10 ?_;refine ak (kg CS (ok3=true) J (λe=>(mz e).1) (λe=>(R (by simpa using e)).1) J) ?_;refine aJ (au J ?_ ?_)<;>intro S
 have f:=R (by simpa using S);have B:(j4 bI (E.drop off)).1≠1:=(by rw[p];exact s9.bad (told:=aa bI 2 none) (o _ _ none).2.2.2.2 J an (λt size e=>by rw[SJ P]at e;have:=f.2 t size e;rw[cr];omega));refine g_ 8 ?_;replace h:=h.zz [2,3,4,4,4] 0;rw[<-bV,<-bV,bV G3 d G1]at h;exact⟨0,0,_,false,_,_,_,_,_,_,_,_,_,(G3++(d++G1)),J,h,J,⟨Z.1,s.2,M.2,Z.2⟩,(λe=>by cases e),(λ_=>And.intro f.1 B)⟩
 have Gw:=mz (by simpa using S);refine B8 (Gw.2) λt3 z3 r8=>?_;have vp:=RN r8.1;rw[cr]at vp;have ha3:Q<=W E:=I;have aJd:Q=(off+(eh (byte (E.drop off) 0))+1)+(0+Y+z2+z3):=I;have sw:=s9.step (told:=aa bI 2 none) (o _ _ none).2.2.2.2 J (by rw[SJ P];exact r8.1);refine g_ 10 ?_;replace h:=h.zz [2,3,4,4,4] 0;rw[<-bV,<-bV,bV G3 d G1]at h;have tI:Q-off=(eh (byte (E.drop off) 0))+1+(0+Y+z2+z3):=I;have BZ:(j4 bI (E.drop off)).1≠2:=(by rw[p];exact sw.ne2);have SL:(j4 bI (E.drop off)).1=1->j4 bI (E.drop off)=(1,kT (E.drop off),Q-off,(((bI.set 0 (some t1)).set 1 (some t2)).set 2 (some t3))):=λe=>(by rw[p]at e;rw[p,sw.eq e,tI]);have hF3:(G3++(d++G1))++F=G3++(d++(G1++F)):=(by rw[bV,bV]);have yq:=Kq ((En.2.2.sub (Ht d)).sub (Ht G3)) ((o (some t1) (some t2) (some t3)).1).symm;have AU:=Kq (pY.2.2.sub (Ht G3)) ((o (some t1) (some t2) (some t3)).2.1).symm;have mR:=Kq r8.2.2 ((o (some t1) (some t2) (some t3)).2.2.1).symm;rw[<-hF3]at yq AU mR;exact⟨kT (E.drop off),Q,_,true,_,_,_,_,_,_,_,_,_,(G3++(d++G1)),J,h,J,⟨Z.1,s.2,M.2,Z.2⟩,(λ_=>⟨J,BZ,λe=>⟨(((bI.set 0 (some t1)).set 1 (some t2)).set 2 (some t3)),SL e,I,I,yq,AU,mR⟩⟩),(λe=>by cases e)⟩
variable {a b wd:List UInt8}{f cy:Nat}
def A0(o:List UInt8)(cy i:Nat):UInt8:=aa o (W o-cy+i % cy) 0
def iP(o:List UInt8)(cy n:Nat):List UInt8:=(cL n).map (A0 o cy)
def zR(o:List UInt8)(cy n:Nat):W (iP o cy n)=n:=by simp[iP]
def awr(o:List UInt8)(cy n:Nat):iP o cy (n+1)=iP o cy n++[A0 o cy n]:=by simp[iP,pR]
def aws{o:List UInt8}(h:i<n):aa (iP o cy n) i 0=A0 o cy i:=by simp[iP,bX,h]
def awt(h:i<W a):aa (a++b) i 0=aa a i 0:=by simp[bX,gP h]
def ah7(h:W a<=i):aa (a++b) i 0=aa b (i-W a) 0:=by simp[bX,l_ h]
def ah8{o:List UInt8}(h1:1<=cy)(h2:cy<=W o)(a:W o-cy<=q)(hp:q<W o+p):aa (o++iP o cy p) q 0=aa o (W o-cy+(q- (W o-cy)) % cy) 0:=by
 by_cases h:q<W o
 rw[awt h,iV I];congr 1;omega
 rw[ah7 I,aws I];unfold A0;rw[show q- (W o-cy)=(q-W o)+cy by omega,Nat.add_mod_right]
def ah9{o:List UInt8}{cy:Nat}(h1:1<=cy)(h2:cy<=W o): ∀n,kS o cy n=o++iP o cy n
 |0=>by simp[kS,iP]
 |n+1=>by rw[kS,ah9 h1 h2 n,awr,bV];congr 2;rw[aF,zR,ah8 h1 h2 I I];unfold A0;rw[show W o+n-cy- (W o-cy)=n by omega]
def piece{o:List UInt8}{B:Nat}(h1:1<=cy)(h2:cy<=W o)(k:W o-cy<=B)(hd:cy∣W o+p-B)(e:B<=W o+p)(f:B+c<=W o+p):iP o cy p++ag (o++iP o cy p) B c=iP o cy (p+c):=by
 apply nR;intro j;have l:W (ag (o++iP o cy p) B c)=c:=dK (by rw[aF,zR];exact f);by_cases d:j<p
 rw[gP (by rw[zR];exact d)];simp[iP,d,show j<p+c by omega]
 rw[l_ (by rw[zR];omega),zR];by_cases g:j<p+c
 have h:(ag (o++iP o cy p) B c)[j-p]? =some (aa (ag (o++iP o cy p) B c) (j-p) 0):=(by rw[bX,gW I];rfl);rw[h,lD I,ah8 h1 h2 I I];have e2:(iP o cy (p+c))[j]? =some (A0 o cy j):=(by simp[iP,g]);rw[e2];congr 1;unfold A0;congr 1;obtain⟨m,hm⟩:=hd;have:j=(B+(j-p) - (W o-cy))+cy*m-cy:=I;have a:1<=m\/m=0:=I;rcases a with a|a
 . obtain⟨b,rfl⟩: ∃b,m=b+1:=⟨m-1,I⟩;have i:j=(B+(j-p) - (W o-cy))+cy*b:=(by rw[Qu]at this;omega);(conv=>rhs;rw[i,Qt])
 subst a;rw[Qv]at hm;omega
 rw[gB I,gB (by rw[zR];omega)]
def awu{o:List UInt8}(h2:cy<=W o)(d:c<=cy):ag o (W o-cy) c=iP o cy c:=by
 apply nR;intro j;have e:W (ag o (W o-cy) c)=c:=dK I;by_cases a:j<c
 have b:(ag o (W o-cy) c)[j]? =some (aa (ag o (W o-cy) c) j 0):=(by rw[bX,gW I];rfl);rw[b,lD I];have e2:(iP o cy c)[j]? =some (A0 o cy j):=(by simp[iP,a]);rw[e2];unfold A0;rw[iV I]
 rw[gB I,gB (by rw[zR];omega)]
def fB(wd:List UInt8)(o:Nat):List UInt8:=wd.drop o++wd.take o
def CT{o:Nat}(h:o<=W wd):W (fB wd o)=W wd:=by simp[fB];omega
def awv{o:Nat}(h:f+o+n<=W wd):ag (fB wd o) f n=ag wd (f+o) n:=by
 unfold fB ag;rw[Aj (by rw[cr];omega),WY (by rw[cr,cr];omega),kG,uC o f]
def aww{o:Nat}(a:o<=W wd)(h1:f+o<=W wd)(h2:W wd<f+o+n)(b:f+n<=W wd):ag (fB wd o) f n=wd.drop (f+o)++wd.take (f+o+n-W wd):=by
 unfold fB ag;rw[Aj (by rw[cr];omega),kG,uC o f,List.take_append,je (by rw[cr];omega),cr,Mg];congr 2;omega
def awx{o:Nat}(a:o<=W wd)(h1:W wd<f+o)(b:f+n<=W wd):ag (fB wd o) f n=ag wd (f+o-W wd) n:=by
 unfold fB ag;rw[FZ,yR (by rw[cr];omega),List.nil_append,cr,IY,Mg];rw[l9 I,show f- (W wd-o)=f+o-W wd by omega]
variable {sp:List Value}{br:Nat}{ob:Option Nat}
def BX(x:dk)(ob:Option Nat)(n c:Nat):dk:={x with bA:=aI ob,bN:=n,bC:=c}
def Hy{a:Option Nat}{b c':Nat}:(aB (BX x ob n c)).set 7 (.slice (aI a) b c')=aB (BX x a b c'):=rfl
def sx:(aB (BX x ob n c))[7]? =some (.slice (aI ob) n c):=rfl
def awy(h1:x.bA=aI ob)(h2:x.bN=n)(a:x.bC=c):BX x ob n c=x:=by subst h2;subst a;unfold BX;rw[<-h1]
def awz(h:i+n<=W a):ag (a++b) i n=ag a i n:=by
 unfold ag;rw[Aj I,WY (by rw[cr];omega)]
def awA:ag (a++b) (W a+i) n=ag b i n:=by
 unfold ag;rw[FZ,yR I,List.nil_append,tH]
def awB(h:q+n<=W X):Rd (X.map u8++sp) q ((ag X q n).map u8):=Rd.of λj a=>by
 rw[cB,dK h]at a
 rw[gP (by rw[cB];omega),kP,kP]
 congr 1
 unfold ag
 rw[qg,ao a,nQ]
def awC{b a:Nat}(h:a<c):cut (some ⟨b,0,none⟩) c a 1=some ⟨b,a,none⟩:=by rw[eU J I,il]
def awD(h:H r w F)(a:(ah br (aB x) 81)∈F){n:Nat}(b:x.wN=n)(c:n<=4294967295):Calls PP 116 #[.pointer (some ⟨br,14,none⟩)] w λe w'=>e= .returned (dB n)/\H r w' F:=by
 obtain⟨d,f⟩:=dw a;refine iu func116 ntmps116 [2] ?_;refine g_ 9 ?_;refine aX h J (show(aB x)[15]? =some (.slice x.wA n x.wC)from by rw[<-b];rfl) ?_;refine g_ 5 ?_;exact⟨J,h⟩
def ah_{p:Prop}(h:p:=by rw[zS]at h dV;exact⟨cf,_,c1,cg,J,I,h,by rw[cB,aF,bF];omega,dV,I,pF⟩):p:=h
theorem awE{bc fr to:Nat}{out:List UInt8}(h:H r w ((ob,C (ar u8 (out)++sp) 5)::F))(p:(ah br (aB x) 81)∈F)(b:aY F (.slice x.wA x.wN x.wC) wd)(g:b8 ob (W out) bc (out.map u8) sp 1)(E:fr<=to)(G:to<=W wd)(c:x.wO<=W wd)(K:W wd<=8388608)(L:W out<=4194304):Calls PP 117 #[.pointer (some ⟨br,14,none⟩),.slice (aI ob) (W out) bc,dB fr,dB to] w λe w'=> ∃i j c' m,e= .returned (.slice (aI i) j c')/\j=W out+(to-fr)/\H r w' ((i,C (ar u8 (out++ag (fB wd x.wO) fr (to-fr))++m) 5)::F)/\b8 i (W out+(to-fr)) c' ((out++ag (fB wd x.wO) fr (to-fr)).map u8) m 1:=by
 obtain⟨M,N⟩:=dw p;have q:x.wN=W wd/\x.wN<=x.wC:=(by obtain⟨O,j,c',s,t,u,_⟩:=id b;cases s;exact⟨t,u⟩);refine xJ func117 ntmps117 [8] ?_;refine g_ 47 ?_;refine au J ?_ ?_<;>intro P
 refine g_ 9 ?_;refine ak (k8 J) ?_;refine g_ 9 ?_;refine au J ?_ ?_<;>intro v
 refine g_ 9 ?_;refine ak (k8 J) ?_;refine g_ 6 ?_;refine gK J ?_;refine g_ 9 ?_;refine ak (wm J J J I I) (me (ar u8 out) sp (((wd.drop ((fr+x.wO) -x.wN)).take (((to+x.wO) -x.wN) - ((fr+x.wO) -x.wN))).map u8) h 0 J J J g (q9 (aY.take (aY.drop b I) I) aP) (by intro y a;obtain⟨z,_,rfl⟩:=jS.1 a;rfl) I an J ?_);intro w cf c1 cg h dV k pF;dsimp only[bJ]at h;rw[<-gJ]at h dV;refine g_ 3 ?_;have bF:W (ag (fB wd x.wO) fr (to-fr))=to-fr:=dK (by rw[CT c];omega);have hw:=awx (n:=to-fr) (f:=fr) c I I;have d:((to+x.wO) -x.wN) - ((fr+x.wO) -x.wN)=to-fr:=I;have zS:(wd.drop ((fr+x.wO) -x.wN)).take (((to+x.wO) -x.wN) - ((fr+x.wO) -x.wN))=ag (fB wd x.wO) fr (to-fr):=(by rw[hw,d,q.1];rfl);exact ah_
 exfalso;omega
 refine g_ 8 ?_;refine au J ?_ ?_<;>intro v
 refine g_ 9 ?_;refine ak (k8 J) ?_;refine g_ 6 ?_;refine jv J ?_;refine g_ 8 ?_;refine ak (jJ J J I I) (me (ar u8 (out)) sp ((wd.drop (fr+x.wO)).map u8) h 0 J J J g (q9 (aY.drop b I) aP) (by intro y a;obtain⟨z,_,rfl⟩:=jS.1 a;rfl) I an J ?_);intro w cf c1 cg h dV k pF;dsimp only[bJ]at h;rw[<-gJ]at h dV;refine g_ 10 ?_;refine ak (mX J J I) (me (ar u8 (out++wd.drop (fr+x.wO))) cg ((wd.take ((to+x.wO) -x.wN)).map u8) h 0 J J J ⟨by rw[cB,aF,cr];omega,dV,k,pF⟩ (q9 (aY.take b I) aP) (by intro y a;obtain⟨z,_,rfl⟩:=jS.1 a;rfl) I an J ?_);intro w A c2 B h l Q D;dsimp only[bJ]at h;rw[<-gJ]at h l;refine g_ 3 ?_;have bF:W (ag (fB wd x.wO) fr (to-fr))=to-fr:=dK (by rw[CT c];omega);have hw:=aww (n:=to-fr) (f:=fr) c I I I;have d:W out+(x.wN- (fr+x.wO))+((to+x.wO) -x.wN)=W out+(to-fr):=I;have zS:out++wd.drop (fr+x.wO)++wd.take ((to+x.wO) -x.wN)=out++ag (fB wd x.wO) fr (to-fr):=(by rw[hw,bV,show fr+x.wO+(to-fr) -W wd=(to+x.wO) -x.wN by omega]);rw[zS]at h l;exact⟨A,_,c2,B,J,I,h,by rw[cB,aF,bF];omega,l,I,D⟩
 refine g_ 5 ?_;refine gK J ?_;refine g_ 9 ?_;refine ak (wm J J J I I) (me (ar u8 out) sp (((wd.drop (fr+x.wO)).take ((to+x.wO) - (fr+x.wO))).map u8) h 0 J J J g (q9 (aY.take (aY.drop b I) I) aP) (by intro y a;obtain⟨z,_,rfl⟩:=jS.1 a;rfl) I an J ?_);intro w cf c1 cg h dV k pF;dsimp only[bJ]at h;rw[<-gJ]at h dV;refine g_ 3 ?_;have bF:W (ag (fB wd x.wO) fr (to-fr))=to-fr:=dK (by rw[CT c];omega);have hw:=awv (o:=x.wO) (n:=to-fr) (f:=fr) (wd:=wd) I;have d:(to+x.wO) - (fr+x.wO)=to-fr:=I;have zS:(wd.drop (fr+x.wO)).take ((to+x.wO) - (fr+x.wO))=ag (fB wd x.wO) fr (to-fr):=(by rw[hw,d];rfl);exact ah_
def awF{O wl ol a:Nat}(hO:O=wl+ol)(h:cy∣O+p- (wl+a))(b:c=ol+p-a)(hb:a<=ol+p):cy∣O+(p+c) - (wl+a):=by
 have e:O+(p+c) - (wl+a)=(O+p- (wl+a))+(O+p- (wl+a)):=I;rw[e];exact Nat.dvd_add h h
def aau{o:List UInt8}:iP o cy 0=[]:=rfl
def awG{a b:Nat}(h:a=b):dB a=dB b:=by rw[h]
def awH{P:Program}{T:TT}{j:Nat}(a:q+n<=W X)(h:q<c\/n=0)(d:L[j]? =some (ob,C (X.map u8++sp) T))(f:ob=none->c=0):Src P r L 1 n (.slice (cut (aI ob) c q 1) n (c-q)) ((ag X q n).map u8):=by
 by_cases g:n=0
 subst g;have:(ag X q 0).map u8=[]:=(by unfold ag;simp);rw[this];exact Src.nil
 cases ob with
 |none=>have:=f J;omega
 | some b=>
   have e:cut (aI (some b)) c q 1=some ⟨b,q,none⟩:=awC I
   rw[e]
   exact Src.slice d (awB a) (by rw[cB,dK a,fg])
def ah'{p:Prop}(h:p:=by refine g_ 3 ?_;refine cJ J J J (aH (R6 h bZ (hG.sub aP) (aA (aA hB)) awI) ?_);rintro e w1 ⟨be,rfl,h⟩;refine g_ 3 ?_;exact⟨_,ob,out,bc,sp,J,h,hk,(λe=>I),(λ_=>Exists.intro be J)⟩):p:=h
theorem awJ{bb bc M:Nat}{aE aU:Addr}{out:List UInt8}{V:Value}{G cI q s:Nat}(h:H r w ((ah br (aB (BX x ob (W out) bc)) 81)::(ob,C (ar u8 (out)++sp) 5)::L))(hG:Gl L aE aU)(hB:(ah bb [bL br,V,.int .u32 (G:Int),.int .u32 (cI:Int),.int .u32 (q:Int),.int .u32 (s:Int)] 207)∈L)(awI:G<=4294967295)(K:aY L (.slice x.wA x.wN x.wC) wd)(hk:b8 ob (W out) bc (out.map u8) sp 1)(t:x.wO<=W wd)(X:W wd<=8388608)(AF:W out<=1048576)(hM:M<=1048576)(Y:cy<=4294967295):Calls PP 108 #[bL br,bL bb,dB cy,dB M] w λe w'=> ∃er u dh c' N,e= .returned er/\H r w' ((ah br (aB (BX x u (W dh) c')) 81)::(u,C (ar u8 (dh)++N) 5)::L)/\b8 u (W dh) c' (dh.map u8) N 1/\((1<=cy/\cy<=W wd+W out)->er= .nilIface/\dh=out++iP (fB wd x.wO++out) cy (M))/\(¬(1<=cy/\cy<=W wd+W out)-> ∃be,er= .iface 182 (bL be)):=by
 have Z:x.wN=W wd/\x.wN<=x.wC:=(by obtain⟨jz,n',c',e1,hl,O,_⟩:=id K;cases e1;exact⟨hl,O⟩);have hO:W (fB wd x.wO++out)=W wd+W out:=(by rw[aF,CT t]);have NU:W (fB wd x.wO)=W wd:=CT t;refine xJ func108 ntmps108 [8] ?_;refine g_ 10 ?_;refine au J ?_ ?_<;>intro Ra
 exact ah'
 have P:1<=cy:=I;refine g_ 10 ?_;refine aX h J sx ?_;refine g_ 4 ?_;refine cW [(3,3),(8,9),(11,13),(25,67)] (λρ w=> ∃p a:Nat,∃b:Option Nat,∃c1:Nat,∃d:List Value,Kn ρ [(3,dB (M-p)),(9,dB a)]/\H r w ((ah br (aB (BX x b (W out+(p)) c1)) 81)::(b,C (ar u8 (out++iP (fB wd x.wO++out) cy (p))++d) 5)::L)/\(W wd+W out<=W wd+a+cy)/\(a<=W out+p)/\(p<=M)/\(p<M->cy∣W (fB wd x.wO++out)+p- (W wd+a))/\(b8 b (W out+(p)) c1 (ar u8 (out++iP (fB wd x.wO++out) cy (p))) d 1)/\(cy<=W wd+W out)/\(p<M->a<W out+p)) ?_ ?_
 refine g_ 6 ?_;refine au J ?_ ?_<;>intro sT
 refine g_ 5 ?_;refine d' J J (aH (awD (x:=BX x ob (W out) bc) (n:=W wd) h bZ Z.1 I) ?_);rintro e w1 ⟨rfl,h⟩;refine g_ 16 ?_;refine au J ?_ ?_<;>intro CM
 exact ah'
 refine g_ 8 ?_;refine cW [(12,12),(43,46)] (λρ w=> ∃c0:Nat,Kn ρ [(12,dB c0)]/\H r w ((ah br (aB (BX x ob (W out) bc)) 81)::(ob,C (ar u8 (out)++sp) 5)::L)/\(c0<=M/\c0<=cy-W out/\(c0=M\/c0=cy-W out))) ?_ ?_
 refine g_ 6 ?_;refine au J ?_ ?_<;>intro EF
 refine g_ 4 ?_;exact⟨aS,M,az,h,I,I,I⟩
 exact a8 ⟨aS,cy-W out,az,h,I,I,I⟩
 rintro ρ w ⟨c0,⟨ny,rfl⟩,h,mZ⟩;refine bY (cm h [0,4,8,12,16,20,24,32,36,40,44,29,51,52,56,63] ?_);intro w h;refine aC 11 ?_;refine aQ J h J sx ?_;replace h:=h.zz [1] 0;refine apd J J J J J J (aH (awE (x:=BX x ob (W out) bc) (wd:=wd) (fr:=W wd- (cy-W out)) (to:=W wd- (cy-W out)+c0) h bZ (K.sub aP) hk (lV _ _) I t X I) ?_);rintro e w1 ⟨Q,R,c2,cZ,rfl,gy,h,v⟩;have S:R=W out+c0:=I;have A:ag (fB wd x.wO) (W wd- (cy-W out)) (W wd- (cy-W out)+c0- (W wd- (cy-W out)))=iP (fB wd x.wO++out) cy (c0):=(by rw[tH,<-awu I I,show(fB wd x.wO++out).length-cy=W wd- (cy-W out) by omega,awz I]);have SN:W wd- (cy-W out)+c0- (W wd- (cy-W out))=c0:=tH _ _;rw[show ag (fB wd (BX x ob (W out) bc).wO) (W wd- (cy-W out)) (W wd- (cy-W out)+c0- (W wd- (cy-W out)))=iP (fB wd x.wO++out) cy (c0)from A]at h v;rw[SN]at v;refine aC 2 ?_;refine iX (.slice (aI Q) R c2) ?_;intro w h;rw[Hy]at h;refine cO ?_;refine g_ 6 ?_;replace h:=h.zz [1] 0;exact⟨aS,c0,0,Q,c2,cZ,az,(by first| (rw[S]at h;exact h)| (rw[aau,dN];exact h)),I,cj _,mZ.1,(λe=>by rw[hO,show W wd+W out+c0- (W wd+0)=cy by omega];exact Qw _),v,I,(λe=>I)⟩
 refine g_ 6 ?_;exact⟨aS,0,W out-cy,ob,bc,sp,az,(by first| (rw[S]at h;exact h)| (rw[aau,dN];exact h)),I,I,cj _,(λe=>by rw[hO,show W wd+W out+0- (W wd+(W out-cy))=cy by omega];exact Qw _),(by rw[aau,dN];exact hk),I,(λe=>I)⟩
 rintro ρ w ⟨p,a,b,c1,d,⟨mn,rfl⟩,h,aJf,f,k,m,g,vh,i⟩;refine bY (Al (cw (σ:=Nat×Option Nat×Nat×List Value) [(3,3),(14,14),(68,101)] (λ⟨p,b,c1,d⟩ ρ w=>Kn ρ [(3,dB (M-p)),(9,dB a)]/\H r w ((ah br (aB (BX x b (W out+(p)) c1)) 81)::(b,C (ar u8 (out++iP (fB wd x.wO++out) cy (p))++d) 5)::L)/\(a<=W out+p)/\(p<=M)/\(p<M->cy∣W (fB wd x.wO++out)+p- (W wd+a))/\(b8 b (W out+(p)) c1 (ar u8 (out++iP (fB wd x.wO++out) cy (p))) d 1)/\(p<M->a<W out+p)) (λ⟨p,b,c1,d⟩=>M-p) (p,b,c1,d) ⟨az,h,f,k,m,g,i⟩ ?_));rintro⟨p,b,c1,d⟩ ρ w ⟨⟨r_,rfl⟩,h,f,k,m,g,i⟩;refine g_ 6 ?_;refine au J ?_ ?_<;>intro JM
 have lZ:p<M:=I;have jL:=i lZ;have aJg:=g.2.2.1;refine g_ 7 ?_;refine aX h J sx ?_;refine g_ 6 ?_;refine cW [(14,14),(78,81)] (λρ w=> ∃c:Nat,Kn ρ [(14,dB c)]/\H r w ((ah br (aB (BX x b (W out+(p)) c1)) 81)::(b,C (ar u8 (out++iP (fB wd x.wO++out) cy (p))++d) 5)::L)/\(c<=M-p/\c<=W out+p-a/\(c=M-p\/c=W out+p-a))) ?_ ?_
 refine g_ 6 ?_;refine au J ?_ ?_<;>intro awK
 refine g_ 4 ?_;exact⟨aS,M-p,az,h,I,I,I⟩
 exact a8 ⟨aS,W out+p-a,az,h,I,I,I⟩
 rintro ρ w ⟨c,⟨nz,rfl⟩,h,O⟩;refine bY (cm h [0,4,8,12,20,24,28,36,40,44,48,17,33,52,59,60,64,71] ?_);intro w h;refine aC 11 ?_;refine aQ J h J sx (aQ J h J sx (aD J (zF a c J J J I) (nU (ar u8 (out++iP (fB wd x.wO++out) cy (p))) d ((ag (out++iP (fB wd x.wO++out) cy (p)) a c).map u8) J h 1 J J J g (awH (j:=1) (by rw[aF,zR];omega) I J g.2.2.2) (by intro y hy;obtain⟨z,_,rfl⟩:=jS.1 hy;rfl) I an J ?_)));intro w T U ep h D gl fk;dsimp only[bJ]at h;rw[<-gJ]at h D;have E:out++iP (fB wd x.wO++out) cy (p)++ag (out++iP (fB wd x.wO++out) cy (p)) a c=out++iP (fB wd x.wO++out) cy (p+c):=(by rw[bV];congr 1;have l:=piece (o:=(fB wd x.wO++out)) (cy:=cy) (p:=p) (c:=c) (B:=W (fB wd x.wO)+a) P I I (by rw[NU];exact m I) I I;rw[bV (fB wd x.wO),awA]at l;exact l);rw[E]at h D;refine aC 2 ?_;refine iX (.slice (aI T) (W out+p+c) U) ?_;intro w h;rw[Hy]at h;refine cO ?_;refine g_ 6 ?_;exact⟨aS,(p+c,T,U,ep),cQ,Kn.mk ⟨awG I,J,trivial⟩,(by rw[<-fL];exact h),I,I,(λe=>awF hO (m I) I f),(by rw[<-fL];exact⟨by rw[cB,aF,zR];omega,D,gl,fk⟩),(λe=>I)⟩
 refine g_ 6 ?_;have F:p=M:=I;have mM:W (out++iP (fB wd x.wO++out) cy (M))=W out+M:=(by rw[aF,zR]);rw[F,<-mM]at h g;exact⟨_,b,(out++iP (fB wd x.wO++out) cy (M)),c1,d,J,h,g,(λ_=>And.intro J J),(λe=>absurd ⟨P,vh⟩ e)⟩
variable {a b:Nat}{s':Sq}
section
variable {N aR aq begin:Nat}{ts:Nat->Tb}{text:List UInt8}{s:Sq}
def NW(N:Nat)(ts:Nat->Tb)(s:Sq):Nat:=(iK ts s.at_ 1).1+dE N s.left (iK ts s.at_ 1).2
def NX(ts:Nat->Tb)(s:Sq):Int:=s.left- (iK ts s.at_ 1).2
def Kt(N:Nat)(ts:Nat->Tb)(s:Sq):Nat:=(iK ts s.at_ 2).1+dE N (NX ts s) (iK ts s.at_ 2).2
def NY(ts:Nat->Tb)(s:Sq):Int:=NX ts s- (iK ts s.at_ 2).2
def rk(N:Nat)(ts:Nat->Tb)(s:Sq):Nat:=(iK ts s.at_ 0).1+dE N (NY ts s) (iK ts s.at_ 0).2
def vC(ts:Nat->Tb)(s:Sq):Int:=NY ts s- (iK ts s.at_ 0).2
def m9(N:Nat)(ts:Nat->Tb)(s:Sq):Nat×Nat×Nat:=mY (NW N ts s) (decide (rk N ts s=0)) s.a s.b s.c
def yr(N:Nat)(ts:Nat->Tb)(text:List UInt8)(s:Sq):List UInt8:=s.out++ag text s.tp (rk N ts s)
def SO:gf N ts aR aq begin text s=
 if vC ts s<0 then(2,s)else if W text-s.tp<rk N ts s then(2,s)
 else if(m9 N ts s).1=0\/W (yr N ts text s)<(m9 N ts s).1 then(2,s)
 else if aR<(m9 N ts s).1\/aq<W (yr N ts text s)-begin+Kt N ts s then(0,s)
 else(1,⟨s.at_,vC ts s,s.tp+rk N ts s,kS (yr N ts text s) (m9 N ts s).1 (Kt N ts s),(m9 N ts s).1,(m9 N ts s).2.1,(m9 N ts s).2.2⟩):=rfl
def aia(h:vC ts s<0\/W text-s.tp<rk N ts s\/(m9 N ts s).1=0\/W (yr N ts text s)<(m9 N ts s).1):(gf N ts aR aq begin text s).1=2:=by
 rw[SO];by_cases h1:vC ts s<0
 rw[ao h1]
 rw[aj h1];by_cases h2:W text-s.tp<rk N ts s
 rw[ao h2]
 rw[aj h2,ao (by rcases h with h|h|h;(· exact absurd h h1);(· exact absurd h h2);(· exact h))]
def awL(h1:aR<(m9 N ts s).1):(gf N ts aR aq begin text s).1≠1:=by
 rw[SO];split
 show(2:Nat)≠1;decide
 split
 show(2:Nat)≠1;decide
 split
 show(2:Nat)≠1;decide
 rw[ao (a_ h1)];show(0:Nat)≠1;decide
def awM(a:(gf N ts aR aq begin text s).1≠0)(h1: ¬vC ts s<0)(h2: ¬W text-s.tp<rk N ts s)(b: ¬((m9 N ts s).1=0\/W (yr N ts text s)<(m9 N ts s).1)):gf N ts aR aq begin text s=(1,⟨s.at_,vC ts s,s.tp+rk N ts s,kS (yr N ts text s) (m9 N ts s).1 (Kt N ts s),(m9 N ts s).1,(m9 N ts s).2.1,(m9 N ts s).2.2⟩):=by
 rw[SO,aj h1,aj h2,aj b]at a ⊢;split at a
 exact absurd J a
 rename_i c;rw[aj c]
def Ku(h:(gf N ts aR aq begin text s).1≠1):mw N ts aR aq begin text (n+1) s=gf N ts aR aq begin text s:=by
 rw[mw];dsimp only;rw[ao h]
def aib(h:gf N ts aR aq begin text s=(1,s')):mw N ts aR aq begin text 1 s=(1,s'):=by
 rw[mw,h];rfl
def aax(h:gf N ts aR aq begin text s=(1,s')):mw N ts aR aq begin text (n+2) s=if(jE N ts s'.at_ s'.left 3).2<0 then(2,s)else mw N ts aR aq begin text (n+1) {s' with at_:=(jE N ts s'.at_ s'.left 3).1,left:=(jE N ts s'.at_ s'.left 3).2}:=by
 rw[mw,h];rfl
def awN(h: ∀s',gf N ts aR aq begin text s=(1,s')->(jE N ts s'.at_ s'.left 3).2<0):(mw N ts aR aq begin text (n+2) s).1≠1:=by
 by_cases h1:(gf N ts aR aq begin text s).1=1
 have e:gf N ts aR aq begin text s=(1,(gf N ts aR aq begin text s).2):=(by rw[<-h1]);rw[aax e,ao (h _ e)];show(2:Nat)≠1;decide
 rw[Ku h1];exact h1
def aic(h:gf N ts aR aq begin text s=(1,s')):s'.at_=s.at_/\s'.left=vC ts s/\s'.tp=s.tp+rk N ts s/\s'.tp<=W text+s.tp/\s'.out=kS (yr N ts text s) (m9 N ts s).1 (Kt N ts s)/\rk N ts s<=W text-s.tp:=by
 rw[SO]at h;split at h
 cases h
 split at h
 cases h
 split at h
 cases h
 split at h
 cases h
 cases h;exact⟨J,J,J,by dsimp only;omega,J,I⟩
def aid: ∀{n:Nat} {s y:Sq},mw N ts aR aq begin text n s=(1,y)->s.tp<=W text->W s.out+(W text-s.tp)<=W y.out+(W text-y.tp)/\y.tp<=W text
 |0,s,y,h,hs=>by cases h;exact⟨aW _,hs⟩
 | n+1,s,y,h,hs=>by
  by_cases h1:(gf N ts aR aq begin text s).1=1
  have e:gf N ts aR aq begin text s=(1,(gf N ts aR aq begin text s).2):=(by rw[<-h1]);obtain⟨s',d⟩: ∃s',(gf N ts aR aq begin text s).2=s':=⟨_,J⟩;rw[d]at e;have b:=aic e;have a:W s.out+(W text-s.tp)<=W s'.out+(W text-s'.tp)/\s'.tp<=W text:=(by rw[b.2.2.2.2.1,b.2.2.1,ER];unfold yr;rw[aF,dK I];omega)
  cases n with
  |zero=>rw[aib e]at h;cases h;exact a
  | succ n=>
    rw[aax e]at h
    split at h
    . cases h
    . have c:=aid h a.2
      exact⟨aM a.1 c.1,c.2⟩
  rw[Ku h1]at h;rw[h]at h1;exact absurd J h1
def SP(ts:Nat->Tb)(at_:List Nat)(left:Int):Int:=left- (cellAt ts at_ 0).bits
def SQ(ts:Nat->Tb)(at_:List Nat)(left:Int):Int:=SP ts at_ left- (cellAt ts at_ 2).bits
def NZ(ts:Nat->Tb)(at_:List Nat)(left:Int):Int:=SQ ts at_ left- (cellAt ts at_ 1).bits
def nx3{left:Int}:jE N ts [a,b,c] left 3=([(cellAt ts [a,b,c] 0).base+dE N left (cellAt ts [a,b,c] 0).bits,(cellAt ts [a,b,c] 1).base+dE N (SQ ts [a,b,c] left) (cellAt ts [a,b,c] 1).bits,(cellAt ts [a,b,c] 2).base+dE N (SP ts [a,b,c] left) (cellAt ts [a,b,c] 2).bits],NZ ts [a,b,c] left):=rfl
end
def aie{v:Nat}{n:Bool}(h:3<v):mY v n a b c=(v-3,a,b):=by unfold mY;rw[ao h]
def awO{v a b c:Nat}{n:Bool}(h1:1<=v)(d:v<=3):mY v n a b c=(let o:=if n=true then v+1 else v;if o=2 then(b,a,c)else if o=3 then(c,a,b)else if o=4 then(a-1,a,b)else(a,b,c)):=by
 unfold mY;rw[aj I];dsimp only;rcases(I:v=1\/v=2\/v=3)with rfl|rfl|rfl<;>cases n<;>rfl
structure Bs(E:List UInt8)(off o bi cn left:Nat):Prop where
 st:off<=o
 le:o<=W E
 vD:cn<=32
 Z9:p_ (num E) o bi cn
 left:cn+8*(o-off)=left
variable {aE aU:Addr}{dc s t:Nat}{ts:Nat->Tb}{ad:Option Addr}
def zT{rb:Nat}{dl o bi cn left:Nat}(h:H r w ((ah rb [bL br,.slice ad dl dc,bR o,bR off,bR bi,bR cn] 207)::F))(i:(ah br (aB x) 81)∈F)(j:Gl F aE aU)(k:aY F (.slice ad dl dc) E)(l:W E<=268435456)(a:Bs E off o bi cn left)(hb:b<=31):Calls PP 106 #[bL rb,.int .u8 (b:Int)] w λe w'=> ∃v er o' d f,e= .returned (.tuple #[bR v,er])/\H r w' ((ah rb [bL br,.slice ad dl dc,bR o',bR off,bR d,bR f] 207)::F)/\o'<=W E/\(b<=left->er= .nilIface/\v<2^b/\Bs E off o' d f (left-b)/\(b<=25->v=dE (num (E.drop off)) (left:Int) b))/\(left<b-> ∃be,er= .iface 182 (bL be)):=by
 have hle:=a.le;have m:=a.st;have z:=a.left;refine(ZF h i j k a.le l I hb a.vD a.Z9).mono ?_;rintro e A ⟨v,er,o1,n,p,rfl,h,h1,h2,q,s⟩;refine⟨v,er,o1,n,p,J,h,I,λg=>?_,λg=>s I⟩;obtain⟨g1,g2,t,g4,g5,u⟩:=q I;have y:=h2 m;refine⟨g1,g2,⟨y,I,t,g4,I⟩,λc=>?_⟩;rw[u c,Ca _ _ _ g,<-AW];congr 1;omega
def awP{cs:List Bl}{y:Bl}(hi:i<W cs)(h:aa cs i default=y):(bP cs)[i*4+0]? =some (dB y.bl)/\(bP cs)[i*4+1]? =some (U8 y.bb)/\(bP cs)[i*4+2]? =some (U8 y.bt)/\(bP cs)[i*4+3]? =some (dG y.bs):=by
 subst h;exact⟨Ss hi an,Ss hi an,Ss hi an,Ss hi an⟩
def RO(x:dk)(a b c:Nat):dk:={x with r1:=a,r2:=b,r3:=c}
def SR{v:Nat}:(aB (BX (RO x a b c) ob n k)).set 9 (dB v)=aB (BX (RO x v b c) ob n k):=rfl
def SU{v:Nat}:(aB (BX (RO x a b c) ob n k)).set 10 (dB v)=aB (BX (RO x a v c) ob n k):=rfl
def aay{v:Nat}:(aB (BX (RO x a b c) ob n k)).set 11 (dB v)=aB (BX (RO x a b v) ob n k):=rfl
def awQ{p o:List UInt8}(h1:1<=cy)(h:cy<=W o):iP (p++o) cy n=iP o cy n:=by
 unfold iP;congr 1;funext i;unfold A0;have hm:=dY i (I:0<cy);rw[aF,ah7 I];congr 1;omega
def aif(h:off<W E)(a:(aa E (W E-1) 0).toNat=0):jg (E.drop off)=none:=by
 have e:aa (E.drop off) (W (E.drop off)-1) 0=aa E (W E-1) 0:=(by rw[cr];simp only[bX,nQ];congr 2;omega);unfold jg uX;rw[e,ao (bG a)]
def aih(h:off<W E)(a:(aa E (W E-1) 0).toNat≠0):jg (E.drop off)=some (7- (8-iE (aa E (W E-1) 0).toNat)+8*(W E-1-off)):=by
 have e:aa (E.drop off) (W (E.drop off)-1) 0=aa E (W E-1) 0:=(by rw[cr];simp only[bX,nQ];congr 2;omega);have hb:=toNat_le (aa E (W E-1) 0);have b:= @lk (aa E (W E-1) 0).toNat 8 I;have hp:=Hi (n:=(aa E (W E-1) 0).toNat) I;unfold jg uX;rw[e,aj (by rw[cr];omega),cr];congr 1;omega
def Hz(h:aY F (.slice ad n c) X):n<=c:=by obtain⟨b,n1,c1,a,d,e,_⟩:=h;cases a;omega
def awR{v:Nat}(h1:2^26<=p)(h2:p<=v):3<v:=I
def awS{v:Nat}(h1:2^26<=p)(h2:p<=v)(a:n<=5000000):n<v-3:=I
def awT{d:Nat}(h1:a<=4194304)(h2:b<=262146)(e:c<=131072)(f:d=b+c):a+d<=5000000:=I
def awU{v:Nat}(h:aY F (.slice ad (n-t) c) (X.drop t))(a:v<=n-t):aY F (.slice (cut ad c v 1) (n- (t+v)) (c-v)) (X.drop (t+v)):=by
 have:=aY.drop h (m:=v) a;rw[kG,Nat.sub_sub]at this;exact this
def tpv(h:a<=c)(h2: ¬c-a<b):a+b<=c:=I
def aii(a:k≠1):(codeF k s).2<=16:=by
 unfold codeF;rw[aj a];split
 exact cj _
 split
 exact cj _
 split
 exact X6 _
 exact X5 _
def awV(h:s<=35):(codeF 0 s).1<=65536:=by
 have: ∀s,s<36->(codeF 0 s).1<=65536:=an;exact this s I
def awW(h:s<=52):(codeF 2 s).1<=65539/\3<=(codeF 2 s).1:=by
 have: ∀s,s<53->(codeF 2 s).1<=65539/\3<=(codeF 2 s).1:=an;exact this s I
def aaz(h:AM ts)(b:k<3)(hi:i<2^(ts k).log):((ts k).cells.getD i default).sym<=(cE k).1/\((ts k).cells.getD i default).bits<=9/\((ts k).cells.getD i default).base+2^((ts k).cells.getD i default).bits<=2^(ts k).log/\2^(ts k).log<=512:=by
 have a:=(h k b).cell i hi;exact⟨a.2.2,a.1,a.2.1,wI (h k b).log⟩
def aaA{bs:List Bl}{B Z_:Nat}{c:dx}(hi:i<W bs)(h:aa bs i default=l6 k c)(a:(codeF k c.sym).1- (if k=1/\2<=c.sym then 3 else 0)=B)(b:(codeF k c.sym).2=Z_)(d:c.bits=t)(e:c.base=n):(bP bs)[i*4+0]? =some (dB B)/\(bP bs)[i*4+1]? =some (U8 Z_)/\(bP bs)[i*4+2]? =some (U8 t)/\(bP bs)[i*4+3]? =some (dG n):=by
 subst a;subst b;subst d;subst e;exact awP hi h
section
variable {x:dk}{ob:Option Nat}{n k a b c:Nat}
def aaB:(aB (BX (RO x a b c) ob n k))[7]? =some (.slice (aI ob) n k):=rfl
def A4:(aB (BX (RO x a b c) ob n k))[9]? =some (dB a):=rfl
def Fa:(aB (BX (RO x a b c) ob n k))[10]? =some (dB b):=rfl
def SV:(aB (BX (RO x a b c) ob n k))[11]? =some (dB c):=rfl
def awX:(aB (BX (RO x a b c) ob n k))[19]? =some (x.st 0):=rfl
def awY:(aB (BX (RO x a b c) ob n k))[20]? =some (x.st 1):=rfl
def awZ:(aB (BX (RO x a b c) ob n k))[21]? =some (x.st 2):=rfl
def aw0:(aB (BX (RO x a b c) ob n k))[22]? =some (U8 (x.tb 0)):=rfl
def aw1:(aB (BX (RO x a b c) ob n k))[23]? =some (U8 (x.tb 1)):=rfl
def aw2:(aB (BX (RO x a b c) ob n k))[24]? =some (U8 (x.tb 2)):=rfl
end
def HB{vs l:List Value}(h:W vs=W l):dm l 0 vs=vs:=by
 rw[BY _ _ _ I,qi,List.nil_append,il,yR I,dN]
theorem aw3{lc many bc aR aq:Nat}{lA:Option Addr}{text pre:List UInt8}(h:H r w ((ah br (aB (BX x ob 0 bc)) 81)::(ob,C (ar u8 ([])++sp) 5)::L))(G:Gl L aE aU)(O:aY L (.slice ad (W E) dc) E)(M:W E<=268435456)(yi:off<=W E)(SW:aY L (.slice lA (W text) lc) text)(hW:aY L (.slice x.wA x.wN x.wC) wd)(hk:b8 ob 0 bc [] sp 1)(hS: ∀k,k<3->tg L (x.st k) (x.tb k) k (some (ts k)))(Kv:AM ts)(uq:x.wO<=W wd)(kB:W wd<=8388608)(aaC: ∃p0,pre=p0++fB wd x.wO/\(p0=[]\/aR<=W wd))(fX:W pre<=4194304)(eX:W text<=131072)(EG:1<=many)(Y':many<=1048576)(pZ:aq<=131072)(kA:1<=x.r1)(aaD:x.r1<=4294967295)(aaE:x.r2<=4294967295)(aaF:x.r3<=4294967295)(Q:(lP ts aR aq pre x.r1 x.r2 x.r3 text many (E.drop off)).1≠0):Calls PP 99 #[bL br,.slice ad (W E) dc,af off,.slice lA (W text) lc,af many] w λe w'=> ∃er b_ mS dh dH a b c,e= .returned er/\H r w' ((ah br (aB (BX (RO x a b c) b_ (W dh) mS)) 81)::(b_,C (ar u8 (dh)++dH) 5)::L)/\b8 b_ (W dh) mS (dh.map u8) dH 1/\((lP ts aR aq pre x.r1 x.r2 x.r3 text many (E.drop off)).1=1->er= .nilIface/\lP ts aR aq pre x.r1 x.r2 x.r3 text many (E.drop off)=(1,pre++dh,a,b,c)/\1<=a/\a<=4294967295/\b<=4294967295/\c<=4294967295)/\((lP ts aR aq pre x.r1 x.r2 x.r3 text many (E.drop off)).1≠1-> ∃be,er= .iface 182 (bL be)):=by
 have kV:W E<=dc:=(by obtain⟨jz,n',c',e1,hl,hc,_⟩:=id O;cases e1;exact hc)
 have SX:off<W E:=by
  rcases dq off (W E) with e|e
  exact e
  exfalso;apply Q;unfold lP;rw[ao (by rw[cr];omega)]
 obtain⟨p0,td,vj⟩:=aaC;obtain⟨T0,C0,b0,tT,fJ,mh,mZ,fY,SY⟩:=hS 0 I;obtain⟨T1,C1,b1,gA,jW,dV,nW,gi,aaG⟩:=hS 1 I;obtain⟨T2,C2,b2,lh,lH,ig,m4,ka,aaH⟩:=hS 2 I;obtain⟨i0,s_⟩:=dw fJ;obtain⟨i1,pC⟩:=dw jW;obtain⟨i2,wX⟩:=dw lH;have aij:=(Kv 0 I).log;have aik:=(Kv 1 I).log;have ail:=(Kv 2 I).log;have aaI:W pre=W p0+W wd:=(by rw[td,aF,CT uq]);have hro:BX x ob 0 bc=BX (RO x x.r1 x.r2 x.r3) ob 0 bc:=rfl;rw[hro]at h;refine rU (P:=PP) func99 368 ntmps99 [10] J J (args:=[_,_,_,_,_]) J ?_;refine g_ 12 ?_;refine wj J J J J J (aH (Hl h bZ (G.sub aP) (O.sub aP) (off:=W E-1) I M I) ?_);rintro e N ⟨vs,N0,rfl,vm,Fb,h,hz,rl⟩;refine g_ 3 ?_;refine eN h J ?_;intro bB w h;refine rW (vs:=vs) h J J vm Fb (by exact aW 6) J ?_;intro w h;dsimp only[bJ]at h;rw[HB (by rw[vm];rfl)]at h;refine g_ 6 ?_;refine ak (kg N0 (¬(aa E (W E-1) 0).toNat=0) J (λe=>(rl e).1) (λe=>hz (F9.1 e)) J) (aJ (au J ?_ ?_))<;>intro CM
 have eC:(aa E (W E-1) 0).toNat=0:=I;have A:(lP ts aR aq pre x.r1 x.r2 x.r3 text many (E.drop off)).1≠1:=(by unfold lP;rw[aj (by rw[cr];omega),aif SX eC];show(2:Nat)≠1;decide);refine g_ 6 ?_;replace h:=h.tail;(try dsimp only[dX]at h);exact⟨_,ob,bc,[],sp,x.r1,x.r2,x.r3,J,h,hk,(λe=>absurd e A),(λ_=>hz eC)⟩
 have eC:(aa E (W E-1) 0).toNat≠0:=I;have fu:=aih SX eC;rw[(rl eC).2]at h;refine cM (7- (8-iE (aa E (W E-1) 0).toNat)+8*(W E-1-off)) λp A5=>?_;rw[A5]at fu;have S_:= @lk (aa E (W E-1) 0).toNat 8 (by have:=toNat_le (aa E (W E-1) 0);omega);have N1:Bs E off (W E-1) (aa E (W E-1) 0).toNat (7- (8-iE (aa E (W E-1) 0).toNat)) p:=⟨I,I,I,p_.init I eC,A5⟩;refine cM (mw (num (E.drop off)) ts aR aq (W pre) text (many) ⟨(lM (num (E.drop off)) ts p 3).1,(lM (num (E.drop off)) ts p 3).2,0,pre,x.r1,x.r2,x.r3⟩) λR nu=>?_;have Kw:=ago (aR:=aR) (aq:=aq) (out:=pre) (a:=x.r1) (b:=x.r2) (c:=x.r3) (text:=text) (many:=many) (cr (i:=off) (l:=E)) fu nu I;have A:R.1≠1->(lP ts aR aq pre x.r1 x.r2 x.r3 text many (E.drop off)).1≠1:=λe=>(by rw[Kw,ao e];exact e);clear hz rl;have Zl:R.1≠0:=λe=>(by apply Q;rw[Kw,ao I];exact e)
 have gn:R.1=1->R.2.left=0/\ ¬aq<W (R.2.out++text.drop R.2.tp)-W pre:=λe=>by
  rw[Kw,aj I]at Q;refine⟨?_,?_⟩
  by_cases hl:R.2.left=0
  exact hl
  rw[ao hl]at Q;exact absurd J Q
  intro hm;by_cases hl:R.2.left=0
  rw[aj I,ao hm]at Q;exact absurd J Q
  rw[ao hl]at Q;exact absurd J Q
 have oE: ∀(at_:List Nat) (z:Int),z<0->(iK ts at_ 1).2+0<=31+(iK ts at_ 1).2->(mw (num (E.drop off)) ts aR aq (W pre) text (many) ⟨at_,z,0,pre,x.r1,x.r2,x.r3⟩).1≠1:=λat_ z hz _=>(by rw[show many=(many-1)+1 by omega];have h2:= @aia (num (E.drop off)) aR aq (W pre) ts text ⟨at_,z,0,pre,x.r1,x.r2,x.r3⟩ (a_ (by unfold vC NY NX;dsimp only;omega));rw[Ku I,h2];decide);refine g_ 7 ?_;refine aX h J (aw0.trans (by rw[SY])) ?_;refine cJ J J J (aH (zT (b:=(ts 0).log) h bZ (G.sub aP) (O.sub aP) M N1 I) ?_);rintro e N ⟨y1,sr,o1,jo,fv,rfl,h,pF,gM,J'⟩;refine g_ 10 ?_;refine ak (kg sr ((ts 0).log<=p) J (λe=>(gM e).1) (λe=>J' I) J) (aJ (au J ?_ ?_))<;>intro Cl
 have j:R.1≠1:=(by rw[<-nu];exact oE _ _ (by show(p:Int) - ((ts 0).log:Int) - ((ts 1).log:Int) - ((ts 2).log:Int)<0;omega) I);refine g_ 6 ?_;replace h:=h.tail;(try dsimp only[dX]at h);exact⟨_,ob,bc,[],sp,x.r1,x.r2,x.r3,J,h,hk,(λe=>absurd e (A j)),(λ_=>J' I)⟩
 replace gM:=gM I;clear J';have Tc:=gM.2.2.1;have yt:=gM.2.2.2 I;refine g_ 7 ?_;refine aX h J (aw1.trans (by rw[aaG])) ?_;refine cJ J J J (aH (zT (b:=(ts 1).log) h bZ (G.sub aP) (O.sub aP) M Tc I) ?_);rintro e N ⟨y2,w7,o2,oH,uk,rfl,h,n7,gj,Ka⟩;refine g_ 10 ?_;refine ak (kg w7 ((ts 1).log<=p- (ts 0).log) J (λe=>(gj e).1) (λe=>Ka I) J) (aJ (au J ?_ ?_))<;>intro aim
 have j:R.1≠1:=(by rw[<-nu];exact oE _ _ (by show(p:Int) - ((ts 0).log:Int) - ((ts 1).log:Int) - ((ts 2).log:Int)<0;omega) I);refine g_ 6 ?_;replace h:=h.tail;(try dsimp only[dX]at h);exact⟨_,ob,bc,[],sp,x.r1,x.r2,x.r3,J,h,hk,(λe=>absurd e (A j)),(λ_=>Ka I)⟩
 replace gj:=gj I;clear Ka;have Td:=gj.2.2.1;have CO:=gj.2.2.2 I;refine g_ 7 ?_;refine aX h J (aw2.trans (by rw[aaH])) ?_;refine cJ J J J (aH (zT (b:=(ts 2).log) h bZ (G.sub aP) (O.sub aP) M Td I) ?_);rintro e N ⟨y3,CS,o3,oN,l5,rfl,h,AX,mz,Fc⟩;refine g_ 10 ?_;refine ak (kg CS ((ts 2).log<=p- (ts 0).log- (ts 1).log) J (λe=>(mz e).1) (λe=>Fc I) J) (aJ (au J ?_ ?_))<;>intro N2
 have j:R.1≠1:=(by rw[<-nu];exact oE _ _ (by show(p:Int) - ((ts 0).log:Int) - ((ts 1).log:Int) - ((ts 2).log:Int)<0;omega) I);refine g_ 6 ?_;replace h:=h.tail;(try dsimp only[dX]at h);exact⟨_,ob,bc,[],sp,x.r1,x.r2,x.r3,J,h,hk,(λe=>absurd e (A j)),(λ_=>Fc I)⟩
 replace mz:=mz I;clear Fc;have Te:=mz.2.2.1;have hy3:=mz.2.2.2 I;have nW:((p- (ts 0).log:Nat):Int)=(p:Int) - ((ts 0).log:Int):=I;have m4:((p- (ts 0).log- (ts 1).log:Nat):Int)=(p:Int) - ((ts 0).log:Int) - ((ts 1).log:Int):=I;have yk:((p- (ts 0).log- (ts 1).log- (ts 2).log:Nat):Int)=(p:Int) - ((ts 0).log:Int) - ((ts 1).log:Int) - ((ts 2).log:Int):=I;rw[nW]at CO;rw[m4]at hy3;have jU:(lM (num (E.drop off)) ts p 3)=([y1,y2,y3],((p- (ts 0).log- (ts 1).log- (ts 2).log:Nat):Int)):=(by rw[yk,yt,CO,hy3];rfl);have Rm:mw (num (E.drop off)) ts aR aq (W pre) text (many-0) (⟨[y1,y2,y3],((p- (ts 0).log- (ts 1).log- (ts 2).log:Nat):Int),0,pre++[],x.r1,x.r2,x.r3⟩:Sq)=R:=(by rw[<-nu,jU,dN];rfl);refine g_ 7 ?_;refine cw (σ:=Nat×Nat×Nat×Nat×Nat×List UInt8×Option Nat×Nat×List Value×Nat×Nat×Nat×Nat×Nat×Nat×Nat×Option Addr×Nat) [(3,3),(10,10),(13,25),(75,352)] (λ⟨q,ls,os,ms,tp,d,m,t,s,a,b,c,o,bi,cn,lf,Kx,mT⟩ ρ w=>Kn ρ [(16,af q),(13,dB ls),(14,dB os),(15,dB ms),(3,.slice Kx (W text-tp) mT)]/\H r w ((ah bB [bL br,.slice ad (W E) dc,bR o,bR off,bR bi,bR cn] 207)::(ah br (aB (BX (RO x a b c) m (W d) t)) 81)::(m,C (ar u8 (d)++s) 5)::L)/\(q<=many)/\(ls<2^(ts 0).log)/\(os<2^(ts 1).log)/\(ms<2^(ts 2).log)/\(tp<=W text)/\(W d<=262146)/\(b8 m (W d) t (d.map u8) s 1)/\((1<=a/\a<=4294967295)/\b<=4294967295/\c<=4294967295)/\(Bs E off o bi cn lf)/\(aY L (.slice Kx (W text-tp) mT) (text.drop tp))/\(mw (num (E.drop off)) ts aR aq (W pre) text (many-q) (⟨[ls,os,ms],(lf:Int),tp,pre++d,a,b,c⟩:Sq)=R)) (λ⟨q,ls,os,ms,tp,d,m,t,s,a,b,c,o,bi,cn,lf,Kx,mT⟩=>many-q) (0,y1,y2,y3,0,[],ob,bc,sp,x.r1,x.r2,x.r3,o3,oN,l5,p- (ts 0).log- (ts 1).log- (ts 2).log,lA,lc) ⟨az,h,(cj _),gM.2.1,gj.2.1,mz.2.1,(cj _),(cj _),hk,⟨⟨kA,aaD⟩,aaE,aaF⟩,Te,SW,Rm⟩ ?_;rintro⟨q,ls,os,ms,tp,d,m,t,s,a,b,c,o,bi,cn,lf,Kx,mT⟩ ρ w ⟨⟨ny,rfl⟩,h,hq,N3,N4,CP,Cp,nC,S,Tf,mA,dd,hR⟩;refine g_ 7 ?_;refine au J ?_ ?_<;>intro aw4
 clear nW m4 yk Cl aim N2 gM gj mz A5 S_ N1 Tc Td Te yt CO hy3 jU Rm fu nu oE CM vm Fb;refine aZ (show ∃U,many-q=U+1 from⟨many-q-1,I⟩) (λU QB=>?_);have Y:=hR;rw[QB]at Y;have hw:=aaI;refine g_ 8 ?_;refine aX h J aaB ?_;refine g_ 6 ?_;refine au J ?_ ?_<;>intro JH
 have j:R.1≠1:=λe=>(by have Hb:mw (num (E.drop off)) ts aR aq (W pre) text (many-q) (⟨[ls,os,ms],(lf:Int),tp,pre++d,a,b,c⟩:Sq)=(1,R.2):=(by rw[hR,<-e]);have oG:=aid Hb Cp;have h2:=(gn e).2;rw[aF,cr]at h2;have h3:=oG.1;dsimp only at h3;rw[aF]at h3;omega);refine bY (fD (cJ J J J (aH (R6 h (aA bZ) (G.sub aP) bZ (by have:=mA.le;omega)) ?_)));rintro e N ⟨be,rfl,h⟩;refine g_ 3 ?_;replace h:=h.tail;(try dsimp only[dX]at h);exact⟨_,m,t,d,s,a,b,c,J,h,S,(λe=>absurd e (A j)),(λ_=>Exists.intro be J)⟩
 refine cM ((codeF 1 ((ts 1).cells.getD os default).sym).2) λV Ky=>(cM (((ts 1).cells.getD os default).bits) λt1 nA=>(cM (((ts 1).cells.getD os default).base) λn1 iZ=>?_));have N5:=aaz Kv (k:=1) I N4;rw[nA,iZ]at N5;refine cM ((codeF 1 ((ts 1).cells.getD os default).sym).1- (if 1=1/\2<=((ts 1).cells.getD os default).sym then 3 else 0)) λK A6=>?_;have HC:=aaA (i:=os) I (gi os N4) A6 Ky nA iZ;refine cM ((codeF 2 ((ts 2).cells.getD ms default).sym).2) λT Ff=>(cM (((ts 2).cells.getD ms default).bits) λt2 AH=>(cM (((ts 2).cells.getD ms default).base) λn2 gy=>?_));have N6:=aaz Kv (k:=2) I CP;rw[AH,gy]at N6;refine cM ((codeF 2 ((ts 2).cells.getD ms default).sym).1- (if 2=1/\2<=((ts 2).cells.getD ms default).sym then 3 else 0)) λB2 th=>?_;have Kz:=aaA (i:=ms) I (ka ms CP) th Ff AH gy;refine cM ((codeF 0 ((ts 0).cells.getD ls default).sym).2) λW0 N7=>(cM (((ts 0).cells.getD ls default).bits) λt0 vE=>(cM (((ts 0).cells.getD ls default).base) λn0 ku=>?_));have N8:=aaz Kv (k:=0) I N3;rw[vE,ku]at N8;refine cM ((codeF 0 ((ts 0).cells.getD ls default).sym).1- (if 0=1/\2<=((ts 0).cells.getD ls default).sym then 3 else 0)) λf A7=>?_;have KC:=aaA (i:=ls) I (fY ls N3) A7 N7 vE ku;refine cM (((ts 1).cells.getD os default).sym) λs1 fe=>?_;have jW:(cE 1).1=31:=rfl;have lH:(cE 2).1=52:=rfl;have ain:(cE 0).1=35:=rfl;have aaJ:s1<=31:=(by rw[<-fe];have:=N5.1;omega);rw[fe,ahD]at A6 Ky;have Tg:V=s1:=Ky.symm;have Kb:2^s1<=2^31:=dF I aaJ;have aio:=eA s1;have aip:K<=2^s1:=(by rw[<-A6];exact vZ _ _);have aaK:T<=16:=(by rw[<-Ff];exact aii I);have aaL:W0<=16:=(by rw[<-N7];exact aii I);have Th:B2=(codeF 2 ((ts 2).cells.getD ms default).sym).1:=(by rw[<-th,aj I];rfl);have Ti:f=(codeF 0 ((ts 0).cells.getD ls default).sym).1:=(by rw[<-A7,aj I];rfl);have aJh:B2<=65539/\3<=B2:=(by rw[Th];exact awW (by have:=N6.1;omega));have aiq:f<=65536:=(by rw[Ti];exact awV (by have:=N8.1;omega));have N9:iK ts [ls,os,ms] 1=(2^s1,s1):=(by show codeF 1 ((ts 1).cells.getD os default).sym=_;rw[fe,ahD]);have Tj:iK ts [ls,os,ms] 2=(B2,T):=(by show codeF 2 ((ts 2).cells.getD ms default).sym=_;rw[Th,<-Ff]);have Tk:iK ts [ls,os,ms] 0=(f,W0):=(by show codeF 0 ((ts 0).cells.getD ls default).sym=_;rw[Ti,<-N7]);have dV:NX ts (⟨[ls,os,ms],(lf:Int),tp,pre++d,a,b,c⟩:Sq)=(lf:Int) - (s1:Int):=(by unfold NX;dsimp only;rw[N9]);have ig:NY ts (⟨[ls,os,ms],(lf:Int),tp,pre++d,a,b,c⟩:Sq)=(lf:Int) - (s1:Int) - (T:Int):=(by unfold NY;rw[dV];dsimp only;rw[Tj]);have mi:vC ts (⟨[ls,os,ms],(lf:Int),tp,pre++d,a,b,c⟩:Sq)=(lf:Int) - (s1:Int) - (T:Int) - (W0:Int):=(by unfold vC;rw[ig];dsimp only;rw[Tk]);have HE:(vC ts (⟨[ls,os,ms],(lf:Int),tp,pre++d,a,b,c⟩:Sq)<0\/W text-tp<rk (num (E.drop off)) ts (⟨[ls,os,ms],(lf:Int),tp,pre++d,a,b,c⟩:Sq)\/(m9 (num (E.drop off)) ts (⟨[ls,os,ms],(lf:Int),tp,pre++d,a,b,c⟩:Sq)).1=0\/W (yr (num (E.drop off)) ts text (⟨[ls,os,ms],(lf:Int),tp,pre++d,a,b,c⟩:Sq))<(m9 (num (E.drop off)) ts (⟨[ls,os,ms],(lf:Int),tp,pre++d,a,b,c⟩:Sq)).1)->R.1≠1:=λe=>(by have h2:= @aia (num (E.drop off)) aR aq (W pre) ts text (⟨[ls,os,ms],(lf:Int),tp,pre++d,a,b,c⟩:Sq) e;rw[<-Y,Ku I,h2];decide);refine g_ 7 ?_;refine aX h J (awY.trans (by rw[gA])) ?_;refine dg (ak (lu J J J I) ?_);refine g_ 8 ?_;refine aX h J (awZ.trans (by rw[lh])) ?_;refine dg (ak (lu J J J I) ?_);refine g_ 8 ?_;refine aX h J (awX.trans (by rw[tT])) ?_;refine dg (ak (lu J J J I) ?_);refine g_ 7 ?_;refine ak (run_load h J HC.2.1) (cJ J J J (aH (zT (b:=V) h bZ (G.sub aP) (O.sub aP) M mA I) ?_));rintro e N ⟨B,zN,o4,AY,AZ,rfl,h,Kf,oO,E8⟩;refine g_ 10 ?_;refine ak (kg zN (V<=lf) J (λe=>(oO e).1) (λe=>E8 I) J) (aJ (au J ?_ ?_))<;>intro G8
 have j:R.1≠1:=HE (a_ (by rw[mi];omega));refine g_ 6 ?_;replace h:=h.tail;(try dsimp only[dX]at h);exact⟨_,m,t,d,s,a,b,c,J,h,S,(λe=>absurd e (A j)),(λ_=>E8 I)⟩
 replace oO:=oO I;clear E8;have Tl:=oO.2.2.1;have A8:B<2^s1:=(by rw[<-Tg];exact oO.2.1);refine g_ 6 ?_;refine ak (run_load h J HC.1) ?_;refine g_ 9 ?_;refine ak (run_load h J Kz.2.1) (cJ J J J (aH (zT (b:=T) h bZ (G.sub aP) (O.sub aP) M Tl I) ?_));rintro e N ⟨y5,A9,o5,bi5,cn5,rfl,h,ho5,sB,Fg⟩;refine g_ 10 ?_;refine ak (kg A9 (T<=lf-V) J (λe=>(sB e).1) (λe=>Fg I) J) (aJ (au J ?_ ?_))<;>intro aaM
 have j:R.1≠1:=HE (a_ (by rw[mi];omega));refine g_ 6 ?_;replace h:=h.tail;(try dsimp only[dX]at h);exact⟨_,m,t,d,s,a,b,c,J,h,S,(λe=>absurd e (A j)),(λ_=>Fg I)⟩
 replace sB:=sB I;clear Fg;have air:=sB.2.2.1;have hy5:=sB.2.2.2 I;have aJi:y5<2^16:=qN sB.2.1 (dF I aaK);refine g_ 6 ?_;refine ak (run_load h J Kz.1) ?_;refine g_ 9 ?_;refine ak (run_load h J KC.2.1) (cJ J J J (aH (zT (b:=W0) h bZ (G.sub aP) (O.sub aP) M air I) ?_));rintro e N ⟨g,er6,o6,N_,Oa,rfl,h,ho6,qD,Fh⟩;refine g_ 10 ?_;refine ak (kg er6 (W0<=lf-V-T) J (λe=>(qD e).1) (λe=>Fh I) J) (aJ (au J ?_ ?_))<;>intro ais
 have j:R.1≠1:=HE (a_ (by rw[mi];omega));refine g_ 6 ?_;replace h:=h.tail;(try dsimp only[dX]at h);exact⟨_,m,t,d,s,a,b,c,J,h,S,(λe=>absurd e (A j)),(λ_=>Fh I)⟩
 replace qD:=qD I;clear Fh;have Ob:=qD.2.2.1;have hy6:=qD.2.2.2 I;have ait:g<2^16:=qN qD.2.1 (dF I aaL);have aw5:Kt (num (E.drop off)) ts (⟨[ls,os,ms],(lf:Int),tp,pre++d,a,b,c⟩:Sq)=B2+y5:=(by unfold Kt;rw[dV];dsimp only;rw[Tj,hy5,show((lf-V:Nat):Int)=(lf:Int) - (s1:Int) by omega]);have KD:rk (num (E.drop off)) ts (⟨[ls,os,ms],(lf:Int),tp,pre++d,a,b,c⟩:Sq)=f+g:=(by unfold rk;rw[ig];dsimp only;rw[Tk,hy6,show((lf-V-T:Nat):Int)=(lf:Int) - (s1:Int) - (T:Int) by omega]);have aiu:s1<=25->NW (num (E.drop off)) ts (⟨[ls,os,ms],(lf:Int),tp,pre++d,a,b,c⟩:Sq)=2^s1+B:=λe=>(by unfold NW;dsimp only;rw[N9,oO.2.2.2 I,Tg]);have Ce:vC ts (⟨[ls,os,ms],(lf:Int),tp,pre++d,a,b,c⟩:Sq)=((lf-V-T-W0:Nat):Int):=(by rw[mi];omega);refine cM (lf-V-T-W0) λu KE=>?_;rw[KE]at Ce Ob;clear KE oO sB qD Tl air hy5 hy6 G8 aaM ais dV ig mi;refine g_ 6 ?_;refine ak (run_load h J KC.1) ?_;refine g_ 4 ?_;refine cW [(22,22),(160,259)] (λρ w=> ∃a2 D F:Nat,Kn ρ [(22,dB a2)]/\H r w ((ah bB [bL br,.slice ad (W E) dc,bR o6,bR off,bR N_,bR Oa] 207)::(ah br (aB (BX (RO x a2 D F) m (W d) t)) 81)::(m,C (ar u8 (d)++s) 5)::L)/\(s1<=25->m9 (num (E.drop off)) ts (⟨[ls,os,ms],(lf:Int),tp,pre++d,a,b,c⟩:Sq)=(a2,D,F))/\(26<=s1->67108861<=a2)/\(a2<=4294967295/\D<=4294967295/\F<=4294967295)) ?_ ?_
 refine g_ 5 ?_;refine ak (run_load h J HC.2.1) ?_;refine g_ 2 ?_;refine au J ?_ ?_<;>intro aJj
 have fP:2<=s1:=I;have Su:4<=2^s1:=aM (show 4<=2^2 by decide) (dF I fP);have HF:K=2^s1-3:=(by rw[<-A6,ao ⟨J,fP⟩]);refine g_ 6 ?_;refine aX h J Fa ?_;refine g_ 2 ?_;refine dt (dB b) SV ?_;intro w h;rw[aay]at h;refine g_ 7 ?_;refine aX h J A4 ?_;refine g_ 2 ?_;refine dt (dB a) Fa ?_;intro w h;rw[SU]at h;refine g_ 6 ?_;refine dt (dB (K+B)) A4 ?_;intro w h;rw[SR]at h;exact aJ ⟨aO 26,K+B,a,b,az,h,(λe=>by unfold m9;rw[aiu e,aie I,HF];show(_,_,_)=(_,_,_);rw[show 2^s1+B-3=2^s1-3+B by omega]),(λe=>by have:2^26<=2^s1:=dF I e;omega),I,I,I⟩
 have fP:s1<=1:=I;have HF:K=2^s1:=(by rw[<-A6,aj I];rfl)
 have aiv:1<=K+B/\K+B<=3:=by
  rcases(I:s1=0\/s1=1)with e|e
  rw[e]at HF A8;omega
  rw[e]at HF A8;omega
 have KF:= @awO (K+B) a b c (decide (rk (num (E.drop off)) ts (⟨[ls,os,ms],(lf:Int),tp,pre++d,a,b,c⟩:Sq)=0)) aiv.1 aiv.2;have aw6:m9 (num (E.drop off)) ts (⟨[ls,os,ms],(lf:Int),tp,pre++d,a,b,c⟩:Sq)=mY (K+B) (decide (rk (num (E.drop off)) ts (⟨[ls,os,ms],(lf:Int),tp,pre++d,a,b,c⟩:Sq)=0)) a b c:=(by unfold m9;rw[aiu I,HF]);have aw7:=λ(e:f+g=0)=>show decide (rk (num (E.drop off)) ts (⟨[ls,os,ms],(lf:Int),tp,pre++d,a,b,c⟩:Sq)=0)=true from sL (by rw[KD];exact e);have aw8:=λ(e: ¬f+g=0)=>show decide (rk (num (E.drop off)) ts (⟨[ls,os,ms],(lf:Int),tp,pre++d,a,b,c⟩:Sq)=0)=false from I4 (by rw[KD];exact e);refine cW [(22,22),(183,186)] (λρ w=> ∃ov:Nat,Kn ρ [(22,dB ov)]/\H r w ((ah bB [bL br,.slice ad (W E) dc,bR o6,bR off,bR N_,bR Oa] 207)::(ah br (aB (BX (RO x a b c) m (W d) t)) 81)::(m,C (ar u8 (d)++s) 5)::L)/\(ov=(if decide (rk (num (E.drop off)) ts (⟨[ls,os,ms],(lf:Int),tp,pre++d,a,b,c⟩:Sq)=0)=true then K+B+1 else K+B))/\(1<=ov/\ov<=4)) ?_ ?_
 refine g_ 5 ?_;refine au J ?_ ?_<;>intro Oc
 refine g_ 5 ?_;exact⟨aO 5,K+B+1,az,h,(by rw[ao (aw7 Oc)]),I⟩
 exact a8 ⟨aO 2,K+B,az,h,(by rw[aj (by rw[aw8 Oc];decide)]),I⟩
 rintro ρ w ⟨ov,⟨mn,rfl⟩,h,nd,aJk⟩;dsimp only at KF;rw[<-nd,<-aw6]at KF;refine g_ 10 ?_;refine au J ?_ ?_<;>intro aJl
 refine g_ 4 ?_;exact aX h J A4 (ee (aJ ⟨aO 14,a,b,c,az,h,(λ_=>by rw[KF,aj I,aj I,aj I]),(λe=>I),I,I,I⟩))
 refine g_ 5 ?_;refine au J ?_ ?_<;>intro RM
 refine g_ 5 ?_;refine aX h J Fa ?_;refine g_ 8 ?_;refine aX h J A4 ?_;refine g_ 2 ?_;refine dt (dB a) Fa ?_;intro w h;rw[SU]at h;refine g_ 6 ?_;refine dt (dB b) A4 ?_;intro w h;rw[SR]at h;exact aJ ⟨aO 29,b,a,c,az,h,(λ_=>by rw[KF,ao RM]),(λe=>I),I,I,I⟩
 refine g_ 5 ?_;refine au J ?_ ?_<;>intro aw9
 refine g_ 5 ?_;refine aX h J SV ?_;refine g_ 8 ?_;refine aX h J Fa ?_;refine g_ 2 ?_;refine dt (dB b) SV ?_;intro w h;rw[aay]at h;refine g_ 7 ?_;refine aX h J A4 ?_;refine g_ 2 ?_;refine dt (dB a) Fa ?_;intro w h;rw[SU]at h;refine g_ 6 ?_;refine dt (dB c) A4 ?_;intro w h;rw[SR]at h;exact aJ ⟨aO 39,c,a,b,az,h,(λ_=>by rw[KF,aj I,ao aw9]),(λe=>I),I,I,I⟩
 refine g_ 5 ?_;refine au J ?_ ?_<;>intro aw_
 refine g_ 5 ?_;refine aX h J A4 ?_;refine g_ 9 ?_;refine aX h J Fa ?_;refine g_ 2 ?_;refine dt (dB b) SV ?_;intro w h;rw[aay]at h;refine g_ 7 ?_;refine aX h J A4 ?_;refine g_ 2 ?_;refine dt (dB a) Fa ?_;intro w h;rw[SU]at h;refine g_ 6 ?_;refine dt (dB (a-1)) A4 ?_;intro w h;rw[SR]at h;exact aJ ⟨aO 42,a-1,a,b,az,h,(λ_=>by rw[KF,aj I,aj I,ao aw_]),(λe=>I),I,I,I⟩
 exfalso;omega
 rintro ρ w ⟨a2,D,F,⟨nz,rfl⟩,h,A_,HG,Tm⟩;refine g_ 6 ?_;refine cW [(10,10),(13,15),(20,21),(262,318)] (λρ w=> ∃l2 u2 m3 vG Od Oe CW:Nat,Kn ρ [(13,dB l2),(14,dB u2),(15,dB m3)]/\H r w ((ah bB [bL br,.slice ad (W E) dc,bR vG,bR off,bR Od,bR Oe] 207)::(ah br (aB (BX (RO x a2 D F) m (W d) t)) 81)::(m,C (ar u8 (d)++s) 5)::L)/\(Bs E off vG Od Oe CW)/\(l2<2^(ts 0).log/\u2<2^(ts 1).log/\m3<2^(ts 2).log)/\(q+1<many->jE (num (E.drop off)) ts [ls,os,ms] ((u:Nat):Int) 3=([l2,u2,m3],(CW:Int)))/\(¬q+1<many->(l2=ls/\u2=os)/\(m3=ms/\CW=u))) ?_ ?_
 refine g_ 6 ?_;refine au J ?_ ?_<;>intro KG
 refine aZ (show ∃m2,U=m2+1 from⟨U-1,I⟩) (λm2 lH=>?_);have aaN:NZ ts [ls,os,ms] (vC ts (⟨[ls,os,ms],(lf:Int),tp,pre++d,a,b,c⟩:Sq))=((u:Nat):Int) - (t0:Int) - (t2:Int) - (t1:Int):=(by rw[Ce];unfold NZ SQ SP;rw[show(cellAt ts [ls,os,ms] 0).bits=t0 from vE,show(cellAt ts [ls,os,ms] 2).bits=t2 from AH,show(cellAt ts [ls,os,ms] 1).bits=t1 from nA])
 have aaO:NZ ts [ls,os,ms] (vC ts (⟨[ls,os,ms],(lf:Int),tp,pre++d,a,b,c⟩:Sq))<0->R.1≠1:=λe=>by
  rw[<-Y,lH]
  exact awN (λs' CV=>by
    have ha:=aic CV
    rw[ha.1,ha.2.1,nx3];exact e)
 refine g_ 5 ?_;refine ak (run_load h J KC.2.2.1) (cJ J J J (aH (zT (b:=t0) h bZ (G.sub aP) (O.sub aP) M Ob I) ?_));rintro e N ⟨y7,er7,o7,bi7,cn7,rfl,h,ho7,vH,aaP⟩;refine g_ 10 ?_;refine ak (kg er7 (t0<=u) J (λe=>(vH e).1) (λe=>aaP I) J) (aJ (au J ?_ ?_))<;>intro aJm
 have j:R.1≠1:=aaO (by rw[aaN];omega);refine g_ 6 ?_;replace h:=h.tail;(try dsimp only[dX]at h);exact⟨_,m,t,d,s,a2,D,F,J,h,S,(λe=>absurd e (A j)),(λ_=>aaP I)⟩
 replace vH:=vH I;clear aaP;have aw':=vH.2.2.1;have hy7:=vH.2.2.2 I;have aJn:=vH.2.1;refine g_ 6 ?_;refine ak (run_load h J KC.2.2.2) ?_;refine g_ 10 ?_;refine ak (run_load h J Kz.2.2.1) (cJ J J J (aH (zT (b:=t2) h bZ (G.sub aP) (O.sub aP) M aw' I) ?_));rintro e N ⟨y8,er8,o8,bi8,cn8,rfl,h,ho8,yu,aaQ⟩;refine g_ 10 ?_;refine ak (kg er8 (t2<=u-t0) J (λe=>(yu e).1) (λe=>aaQ I) J) (aJ (au J ?_ ?_))<;>intro aJo
 have j:R.1≠1:=aaO (by rw[aaN];omega);refine g_ 6 ?_;replace h:=h.tail;(try dsimp only[dX]at h);exact⟨_,m,t,d,s,a2,D,F,J,h,S,(λe=>absurd e (A j)),(λ_=>aaQ I)⟩
 replace yu:=yu I;clear aaQ;have axa:=yu.2.2.1;have hy8:=yu.2.2.2 I;have aJp:=yu.2.1;refine g_ 6 ?_;refine ak (run_load h J Kz.2.2.2) ?_;refine g_ 10 ?_;refine ak (run_load h J HC.2.2.1) (cJ J J J (aH (zT (b:=t1) h bZ (G.sub aP) (O.sub aP) M axa I) ?_));rintro e N ⟨y9,er9,o9,bi9,cn9,rfl,h,fk,sD,aaR⟩;refine g_ 10 ?_;refine ak (kg er9 (t1<=u-t0-t2) J (λe=>(sD e).1) (λe=>aaR I) J) (aJ (au J ?_ ?_))<;>intro aJq
 have j:R.1≠1:=aaO (by rw[aaN];omega);refine g_ 6 ?_;replace h:=h.tail;(try dsimp only[dX]at h);exact⟨_,m,t,d,s,a2,D,F,J,h,S,(λe=>absurd e (A j)),(λ_=>aaR I)⟩
 replace sD:=sD I;clear aaR;have axb:=sD.2.2.1;have Of:=sD.2.2.2 I;have aJr:=sD.2.1;have oF:jE (num (E.drop off)) ts [ls,os,ms] ((u:Nat):Int) 3=([n0+y7,n1+y9,n2+y8],((u-t0-t2-t1:Nat):Int)):=(by rw[nx3];unfold NZ SQ SP;rw[show(cellAt ts [ls,os,ms] 0).bits=t0 from vE,show(cellAt ts [ls,os,ms] 2).bits=t2 from AH,show(cellAt ts [ls,os,ms] 1).bits=t1 from nA,show(cellAt ts [ls,os,ms] 0).base=n0 from ku,show(cellAt ts [ls,os,ms] 2).base=n2 from gy,show(cellAt ts [ls,os,ms] 1).base=n1 from iZ];rw[hy7,hy8,Of,show((u-t0:Nat):Int)=((u:Nat):Int) - (t0:Int) by omega,show((u-t0-t2:Nat):Int)=((u:Nat):Int) - (t0:Int) - (t2:Int) by omega,show((u-t0-t2-t1:Nat):Int)=((u:Nat):Int) - (t0:Int) - (t2:Int) - (t1:Int) by omega]);refine g_ 5 ?_;refine ak (run_load h J HC.2.2.2) ?_;refine g_ 5 ?_;exact⟨aO 63,n0+y7,n1+y9,n2+y8,o9,bi9,cn9,u-t0-t2-t1,az,h,axb,⟨by have:=N8.2.2.1;omega,by have:=N5.2.2.1;omega,by have:=N6.2.2.1;omega⟩,(λ_=>oF),(λe=>absurd KG e)⟩
 exact a8 ⟨aO 3,ls,os,ms,o6,N_,Oa,u,az,h,Ob,⟨N3,N4,CP⟩,(λe=>absurd e KG),(λ_=>⟨⟨J,J⟩,J,J⟩)⟩
 rintro ρ w ⟨l2,u2,m3,vG,Od,Oe,CW,⟨r_,rfl⟩,h,aaS,aaT,axc,axd⟩;refine bY (gK J ?_);refine g_ 10 ?_;refine au J ?_ ?_<;>intro X
 have j:R.1≠1:=HE (bG (a_ (by rw[KD];omega)));refine bY (fD (cJ J J J (aH (R6 h (aA bZ) (G.sub aP) bZ (by have:=aaS.le;omega)) ?_)));rintro e N ⟨be,rfl,h⟩;refine g_ 3 ?_;replace h:=h.tail;(try dsimp only[dX]at h);exact⟨_,m,t,d,s,a2,D,F,J,h,S,(λe=>absurd e (A j)),(λ_=>Exists.intro be J)⟩
 refine a8 (cW [(3,3),(328,343)] (λρ w=> ∃v:List UInt8,∃cP:Option Nat,∃zU:Nat,∃cZ:List Value,∃To:Option Addr,∃gk:Nat,Kn ρ [(3,.slice To (W text- (tp+(f+g))) gk)]/\H r w ((ah bB [bL br,.slice ad (W E) dc,bR vG,bR off,bR Od,bR Oe] 207)::(ah br (aB (BX (RO x a2 D F) cP (W v) zU)) 81)::(cP,C (ar u8 (v)++cZ) 5)::L)/\(v=d++ag text tp (f+g))/\(b8 cP (W v) zU (v.map u8) cZ 1)/\(aY L (.slice To (W text- (tp+(f+g))) gk) (text.drop (tp+(f+g))))/\((f+g)<=W text-tp)) ?_ ?_)
 refine g_ 5 ?_;refine au J ?_ ?_<;>intro aiw
 have j9:=aM (BN.1 X) (Hz dd);refine bY (cm h [0,4,8,12,20,24,28,17,35,36,40,47] ?_);intro w h;refine aC 6 ?_;refine aD J (mX J J j9) (aQ J h J aaB ?_);have gA:tp+(f+g)<=W text:=tpv Cp X;refine nU (ar u8 d) s (((text.drop tp).take (f+g)).map u8) J h 2 J J J S (q9 (aY.take dd (BN.1 X)) aP) (by intro y hy;obtain⟨z,_,rfl⟩:=jS.1 hy;rfl) I an J ?_;intro w dR c9 ep h dC gl fk;dsimp only[bJ]at h;rw[<-gJ]at h dC;have jb:(text.drop tp).take (f+g)=ag text tp (f+g):=rfl;rw[jb]at h dC;have KH:W (d++ag text tp (f+g))=W d+(f+g):=(by rw[aF,dK gA]);refine aC 2 ?_;refine iX (.slice (aI dR) (W d+(f+g)) c9) ?_;intro w h;rw[Hy]at h;refine cO ?_;refine g_ 3 ?_;exact ak (jJ J J (BN.1 X) (Hz dd)) (ee (aJ ⟨aO 18,d++ag text tp (f+g),dR,c9,ep,cut Kx mT (f+g) 1,mT- (f+g),Kn.mk ⟨jw J (Nat.sub_sub ..) J,trivial⟩,(by first|exact h| (rw[KH];exact h)),J,(by rw[KH];exact⟨by rw[cB,KH,fg],dC,gl,fk⟩),awU dd (BN.1 X),BN.1 X⟩))
 have Oh:f+g=0:=Nat.eq_zero_of_not_pos aiw;exact a8 ⟨aO 2,d,m,t,s,Kx,mT,Kn.mk ⟨jw J (by rw[Oh];rfl) J,trivial⟩,(by first|exact h| (rw[KH];exact h)),(by rw[Oh];unfold ag;rw[qi,dN]),S,(by rw[Oh];exact dd),BN.1 X⟩
 rintro ρ w ⟨v,cP,zU,cZ,To,gk,⟨sV,rfl⟩,h,aix,cS,Cq,aJs⟩;have gA:tp+(f+g)<=W text:=tpv Cp X;have axe:W v=W d+(f+g):=(by rw[aix,aF,dK gA]);refine g_ 5 ?_;refine au J ?_ ?_<;>intro aiy
 have aiz:yr (num (E.drop off)) ts text (⟨[ls,os,ms],(lf:Int),tp,pre++d,a,b,c⟩:Sq)=pre++v:=(by unfold yr;dsimp only;rw[KD,aix,bV]);have aaU:W (yr (num (E.drop off)) ts text (⟨[ls,os,ms],(lf:Int),tp,pre++d,a,b,c⟩:Sq))=W pre+W v:=(by rw[aiz,aF]);have Nd:W pre+W v<=5000000:=awT fX nC (aM (BN.1 X) (aM (vZ _ _) eX)) axe
 have axf:26<=s1->R.1≠1:=λe=>HE (bG (bG (bG (by
   rw[aaU]
   have Z:2^26<=2^s1:=dF an e
   have KI:2^s1<=NW (num (E.drop off)) ts (⟨[ls,os,ms],(lf:Int),tp,pre++d,a,b,c⟩:Sq):=by unfold NW;dsimp only;rw[N9];exact lV _ _
   unfold m9;rw[aie (awR Z KI)];exact awS Z KI Nd))))
 refine g_ 5 ?_;replace h:=h.zz [2,2] 0;refine wj J J J J J (aH (awJ (x:=RO x a2 D F) (out:=v) (wd:=wd) h (G.sub aP) bZ (by have:=aaS.le;omega) (hW.sub aP) cS uq kB I I Tm.1) ?_);rintro e N ⟨er,nw,ES,bc3,qs,rfl,h,mP,aiA,SN⟩;refine g_ 5 ?_;refine ak (kg er (1<=a2/\a2<=W wd+W v) J (λe=>(aiA e).1) (λe=>SN e) J) (aJ (au J ?_ ?_))<;>intro aJt
 (try clear M);(try clear yi);(try clear pZ);(try clear kA);(try clear aaD);(try clear aaE);(try clear aaF);(try clear Q);(try clear kV);(try clear SX);(try clear mh);(try clear mZ);(try clear dV);(try clear nW);(try clear ig);(try clear m4);(try clear fY);(try clear gi);(try clear ka);(try clear SY);(try clear aaG);(try clear aaH);(try clear aij);(try clear aik);(try clear ail);(try clear N8);(try clear N5);(try clear N6);(try clear KC);(try clear HC);(try clear Kz);(try clear Ky);(try clear Ff);(try clear N7);(try clear vE);(try clear nA);(try clear AH);(try clear ku);(try clear iZ);(try clear gy);(try clear aaJ);(try clear Kb);(try clear aio);(try clear aip);(try clear aiq);(try clear HF);(try clear fP);(try clear Ti);(try clear Th);(try clear A6);(try clear A7);(try clear th);(try clear jW);(try clear lH);(try clear ain);(try clear Tg);(try clear aaK);(try clear aaL);(try clear N9);(try clear Tj);(try clear Tk);(try clear A8);(try clear ait);(try clear N3);(try clear N4);(try clear CP);(try clear Kf);(try clear ho5);(try clear ho6);(try clear pF);(try clear n7);(try clear AX);(try clear aiy);(try clear mA);(try clear Ob);(try clear hro);(try clear axg)
 have j:R.1≠1:=by
  rcases dq s1 26 with Z|Z
  have he:=A_ (Ml Z);have x_:(m9 (num (E.drop off)) ts (⟨[ls,os,ms],(lf:Int),tp,pre++d,a,b,c⟩:Sq)).1=a2:=(by rw[he]);by_cases hz:a2=0
  exact HE (bG (bG (a_ (by rw[x_];exact hz))))
  by_cases hg:W pre+W v<a2
  exact HE (bG (bG (bG (by rw[x_,aaU];exact hg))))
  have axh:p0≠ []:=λe=>(by rw[e]at aaI;simp at aaI;omega);have CU:=vj.resolve_left axh;have hf:= @awL (num (E.drop off)) aR aq (W pre) ts text (⟨[ls,os,ms],(lf:Int),tp,pre++d,a,b,c⟩:Sq) (by rw[x_];omega);rw[<-Y,Ku hf];exact hf
  exact axf Z
 refine g_ 6 ?_;replace h:=h.zz [1,1,2] 1;exact⟨_,nw,bc3,ES,qs,a2,D,F,J,h,mP,(λe=>absurd e (A j)),(λ_=>SN I)⟩
 (try clear M);(try clear yi);(try clear pZ);(try clear kA);(try clear aaD);(try clear aaE);(try clear aaF);(try clear Q);(try clear kV);(try clear SX);(try clear mh);(try clear mZ);(try clear dV);(try clear nW);(try clear ig);(try clear m4);(try clear fY);(try clear gi);(try clear ka);(try clear SY);(try clear aaG);(try clear aaH);(try clear aij);(try clear aik);(try clear ail);(try clear N8);(try clear N5);(try clear N6);(try clear KC);(try clear HC);(try clear Kz);(try clear Ky);(try clear Ff);(try clear N7);(try clear vE);(try clear nA);(try clear AH);(try clear ku);(try clear iZ);(try clear gy);(try clear aaJ);(try clear Kb);(try clear aio);(try clear aip);(try clear aiq);(try clear HF);(try clear fP);(try clear Ti);(try clear Th);(try clear A6);(try clear A7);(try clear th);(try clear jW);(try clear lH);(try clear ain);(try clear Tg);(try clear aaK);(try clear aaL);(try clear N9);(try clear Tj);(try clear Tk);(try clear A8);(try clear ait);(try clear N3);(try clear N4);(try clear CP);(try clear Kf);(try clear ho5);(try clear ho6);(try clear pF);(try clear n7);(try clear AX);(try clear aiy);(try clear mA);(try clear Ob);(try clear hro);(try clear axg);have Oi:(1<=a2/\a2<=W wd+W v):=I;have aiB:=(aiA Oi).2;have Z: ¬26<=s1:=λe=>(by have:=HG e;omega);have he:=A_ (Ml (Nat.not_le.1 Z));have axi:(gf (num (E.drop off)) ts aR aq (W pre) text (⟨[ls,os,ms],(lf:Int),tp,pre++d,a,b,c⟩:Sq)).1≠0:=λe=>(by apply Zl;rw[<-Y,Ku I];exact e);have aaV:=awM axi (by rw[Ce];omega) (by rw[KD];show ¬W text-tp<_;omega) (by rw[he,aaU];dsimp only;omega);have axj:kS (pre++v) a2 (B2+y5)=pre++ES:=(by rw[ah9 Oi.1 (by rw[aF];omega),aiB,bV];congr 2;rw[td,bV,awQ Oi.1 (by rw[aF,CT uq];exact Oi.2)];rfl);rw[Ce,KD,he,aiz,aw5,axj]at aaV;have aJu:W ES=W v+(B2+y5):=(by rw[aiB,aF,zR]);refine a8 ?_;replace h:=h.zz [1,1,2] 0;refine⟨aO 113,?_⟩
 have axk:mw (num (E.drop off)) ts aR aq (W pre) text (many- (q+1)) (⟨[l2,u2,m3],(CW:Int),tp+(f+g),pre++ES,a2,D,F⟩:Sq)=R:=by
  by_cases Tq:q+1<many
  have hgn:=aax (n:=U-1) aaV;rw[show U-1+2=U+1 by omega,Y,axc Tq,aj cQ]at hgn;rw[hgn,show many- (q+1)=U-1+1 by omega]
  have hb:=axd Tq;have fJ:U=0:=I;rw[fJ,aib aaV]at Y;rw[show many- (q+1)=0 by omega,<-Y,hb.1.1,hb.1.2,hb.2.1,hb.2.2];rfl
 exact⟨(q+1,l2,u2,m3,tp+(f+g),ES,nw,bc3,qs,a2,D,F,vG,Od,Oe,CW,To,gk),cQ,az,h,I,aaT.1,aaT.2.1,aaT.2.2,I,I,mP,⟨⟨Oi.1,Tm.1⟩,Tm.2.1,Tm.2.2⟩,aaS,Cq,axk⟩
 exfalso;omega
 have Tq:many-q=0:=I;rw[Tq]at hR;have Hb:R=(1,(⟨[ls,os,ms],(lf:Int),tp,pre++d,a,b,c⟩:Sq)):=(by rw[<-hR];rfl);have aaW:=gn (by rw[Hb]);rw[Hb]at aaW;have A5:lf=0:=(by have:=aaW.1;dsimp only at this;omega);have HH:=mA.left;refine g_ 7 ?_;refine aX h J aaB (dg (me (ar u8 d) s ((text.drop tp).map u8) h 2 J J J S (q9 dd aP) (by intro y hy;obtain⟨z,_,rfl⟩:=jS.1 hy;rfl) I an J ?_));intro w dR c9 ep h dC gl fk;dsimp only[bJ]at h;rw[<-gJ]at h dC;have KH:W (d++text.drop tp)=W d+(W text-tp):=(by rw[aF,cr]);refine g_ 2 ?_;refine iX (.slice (aI dR) (W d+(W text-tp)) c9) ?_;intro w h;rw[Hy]at h;refine g_ 8 ?_;refine au J ?_ ?_<;>intro aJv
 exfalso;omega
 refine g_ 6 ?_;replace h:=h.tail;(try dsimp only[dX]at h);rw[Hb,aj (λhh=>hh J),aj (λhh=>hh (by dsimp only;rw[A5];rfl)),aj aaW.2]at Kw;rw[<-KH]at h gl;exact⟨_,dR,c9,(d++text.drop tp),ep,a,b,c,J,h,⟨by rw[cB,fg],by rw[dC],gl,fk⟩,(λ_=>⟨J,by rw[Kw,bV],Tf.1.1,Tf.1.2,Tf.2.1,Tf.2.2⟩),(λe=>absurd (by rw[Kw]) e)⟩
variable {hd:Nat}
def aiC(h:p+1<=W E):num (ag E p 1)=(aa E p 0).toNat:=by
 have b:W (ag E p 1)=1:=dK h;have a:=tR (ag E p 1) 0 I;rw[je I]at a;rw[a,lD I];simp[num]
def Tt(h:p+3<=W E):num (ag E p 3)=(aa E p 0).toNat+(aa E (p+1) 0).toNat*2^8+(aa E (p+2) 0).toNat*2^16:=by
 have c:W (ag E p 3)=3:=dK h;have e2:=tR (ag E p 3) 2 I;have a:=tR (ag E p 3) 1 I;have b:=tR (ag E p 3) 0 I;rw[je I]at e2;rw[e2,a,b,lD I,lD I,lD I];simp[num]
def axl(h:[1,2,1,3].getD (byte E 0/4 % 4) 0=hd)(c:hd<=W E)(a:W E≠0){nn:Nat}(b:num (ag E 0 hd)/2^ [3,4,3,4].getD (byte E 0/4 % 4) 0=nn){tr:Option Tr}(hm:byte E 0 % 4<2):dZ tr E=if 131072<nn then(0,[],0,none)else if byte E 0 % 4=1 then(if W E<hd+1 then(2,[],0,none)else(1,aT nn (aa E hd 0),hd+1,tr))else if W E<hd+nn then(2,[],0,none)else(1,ag E hd nn,hd+nn,tr):=by
 subst h;subst b;unfold dZ;rw[aj a,ao hm];dsimp only;rw[aj I]
def aiD(h:[1,2,1,3].getD (byte E 0/4 % 4) 0=hd)(b:W E<hd)(a:W E≠0){tr:Option Tr}(hm:byte E 0 % 4<2):(dZ tr E).1=2:=by
 subst h;unfold dZ;rw[aj a,ao hm];dsimp only;rw[ao I]
def axm(l:UInt8)(i:Nat):aT i l++[l]=aT (i+1) l:=by rw[DP]
def aiE(l:List UInt8)(y:UInt8):l.map u8++[u8 y]=(l++[y]).map u8:=by rw[gJ];rfl
def axn(h:aY F (.slice ad (W X) c) X)(a:q+n<=W X):aY F (.slice (cut ad c q 1) (q+n-q) (c-q)) (ag X q n):=by
 have h1:=aY.take (aY.drop h (m:=q) I) (m:=n) I;rw[tH];exact h1
def aiF{p:Prop}(h:p:=by rintro e w1 ⟨be,rfl,h⟩;refine g_ 5 ?_;exact⟨_,_,[],ob,bc,sp,_,J,h,hk,(λe=>I),(λ_=>Exists.intro be J)⟩):p:=h
def aiG{p:Prop}(h:p:=by refine g_ 4 ?_;refine eS J J J J (aH (re h (aA hR) (hG.sub aP)) ?_);exact aiF):p:=h
def aiH{p:Prop}(h:p:=by refine g_ 4 ?_;refine cJ J J J (aH (vi h (aA hR) (hG.sub aP)) ?_);exact aiF):p:=h
theorem axo{bc:Nat}{tr:Option Tr}(h:H r w ((ob,C (ar u8 ([])++sp) 5)::L))(hR:(ah br (aB x) 81)∈L)(hG:Gl L aE aU)(K:aY L (.slice ad (W E) dc) E)(nY:1<=W E)(hE:W E<=268435456)(hk:b8 ob 0 bc [] sp 1)(hm:byte E 0 % 4<2)(R:(dZ tr E).1≠0):Calls PP 102 #[bL br,.slice ad (W E) dc,af 1,U8 (byte E 0),.slice (aI ob) 0 bc] w λe w'=> ∃n er dh M S U V,e= .returned (.tuple #[af n,V,er])/\H r w' ((M,C (ar u8 (dh)++U) 5)::L)/\b8 M (W dh) S (dh.map u8) U 1/\((dZ tr E).1=1->er= .nilIface/\V= .slice (aI M) (W dh) S/\dZ tr E=(1,dh,n,tr))/\((dZ tr E).1≠1-> ∃be,er= .iface 182 (bL be)):=by
 have j1: ∃db q l T,ad=some ⟨db,q,none⟩/\(ah db l T)∈L/\Rd l q (E.map u8):=(by obtain⟨jz,n',c',N,hl,X,h3⟩:=id K;cases N;exact h3 I);have kV:W E<=dc:=(by obtain⟨jz,n',c',N,hl,X,_⟩:=id K;cases N;exact X);obtain⟨db,q,l,T,u,nZ,yf⟩:=j1;have v:=λi (hi:i<W E)=>kf yf (i:=i) hi;obtain⟨ib,ph⟩:=dw nZ;have eC:=toNat_le (aa E 0 0);have fj:=toNat_le (aa E 1 0);have fW:=toNat_le (aa E 2 0);have A:byte E 0=(aa E 0 0).toNat:=rfl;have aJw:(aa E (1+1) 0).toNat=(aa E 2 0).toNat:=rfl;have hm4: ∀z,byte E 0/4 % 4=z->byte E 0/2^2 % 2^2=z:=λ_ h=>h;refine rU (P:=PP) func102 130 ntmps102 [10,11,12] J J (args:=[_,_,_,_,_]) J ?_;refine g_ 9 ?_;refine ak (wT J J aG) ?_;refine g_ 12 ?_;refine ak (kJ (n:=2) J J (aM (k6 _ _) aG) an) ?_;refine aJ (kp [(2,2),(10,12),(14,14),(23,79)] (λρ w=> ∃hd nn:Nat,Kn ρ [(14,af nn),(2,af hd)]/\H r w ((ob,C (ar u8 ([])++sp) 5)::L)/\(([1,2,1,3].getD (byte E 0/4 % 4) 0)=hd)/\(num (ag E 0 hd)/2^ [3,4,3,4].getD (byte E 0/4 % 4) 0=nn)/\(1<=hd/\hd<=W E/\hd<=3)/\(nn<=2000000)) ?_ ?_)
 refine g_ 6 ?_;refine au J ?_ ?_<;>intro Y
 refine a8 (au J ?_ ?_)<;>intro Y
 have a:byte E 0/4 % 4=0:=I;have c:([1,2,1,3].getD (byte E 0/4 % 4) 0)=1:=(by rw[a];rfl);have d:num (ag E 0 1)/2^ [3,4,3,4].getD (byte E 0/4 % 4) 0=byte E 0/2^3:=(by rw[a,aiC I];show _/2^3=_;simp only[il,<-A]<;>omega);refine g_ 3 ?_;exact ak (eZ J (aM (k6 _ _) aG)) (ee (aJ ⟨aO 6,1,byte E 0/2^3,az,h,c,d,⟨I,I,I⟩,I⟩))
 exfalso;omega
 refine g_ 4 ?_;refine au J ?_ ?_<;>intro Y
 have a:byte E 0/4 % 4=2:=I;have c:([1,2,1,3].getD (byte E 0/4 % 4) 0)=1:=(by rw[a];rfl);have d:num (ag E 0 1)/2^ [3,4,3,4].getD (byte E 0/4 % 4) 0=byte E 0/2^3:=(by rw[a,aiC I];show _/2^3=_;simp only[il,<-A]<;>omega);refine g_ 3 ?_;exact ak (eZ J (aM (k6 _ _) aG)) (ee (aJ ⟨aO 8,1,byte E 0/2^3,az,h,c,d,⟨I,I,I⟩,I⟩))
 refine g_ 5 ?_;refine au J ?_ ?_<;>intro nX
 refine g_ 8 ?_;refine au J ?_ ?_<;>intro Hn
 have a:byte E 0/4 % 4=1:=I;have O:(dZ tr E).1=2:=aiD (hd:=2) (by rw[a];rfl) I I hm;exact aiH
 have a:byte E 0/4 % 4=1:=I;have c:([1,2,1,3].getD (byte E 0/4 % 4) 0)=2:=(by rw[a];rfl);have d:num (ag E 0 2)/2^ [3,4,3,4].getD (byte E 0/4 % 4) 0=byte E 0/2^4+(aa E 1 0).toNat*2^4:=(by rw[a,ahX I];show _/2^4=_;simp only[il,<-A]<;>omega);refine g_ 5 ?_;refine ak (eZ J (aM (k6 _ _) aG)) (dg (dg (ak (da J J u I) (aX h J (v _ I) (ak (eZ J (dT _ an)) ?_)))));refine ak (eB (b:=4) (h2:=av.lit _) J J an aG) ?_;refine g_ 8 ?_;exact⟨aO 24,2,byte E 0/2^4+(aa E 1 0).toNat*2^4,az,h,c,d,⟨I,I,I⟩,I⟩
 refine g_ 5 ?_;refine au J ?_ ?_<;>intro Nw
 refine g_ 9 ?_;refine au J ?_ ?_<;>intro GH
 have a:byte E 0/4 % 4=3:=I;have O:(dZ tr E).1=2:=aiD (hd:=3) (by rw[a];rfl) I I hm;exact aiH
 have a:byte E 0/4 % 4=3:=I;have c:([1,2,1,3].getD (byte E 0/4 % 4) 0)=3:=(by rw[a];rfl);have d:num (ag E 0 3)/2^ [3,4,3,4].getD (byte E 0/4 % 4) 0=byte E 0/2^4+(aa E 1 0).toNat*2^4+(aa E (1+1) 0).toNat*2^12:=(by rw[a,Tt I];show _/2^4=_;simp only[il,<-A]<;>omega);refine a8 (bY (cm h [0,4,8,12,16,20,40,44,48,52,25,28,32,36,57,60,64,68,72] ?_));intro w h;refine aC 2 ?_;refine aD J (eZ J (aM (k6 _ _) aG)) ?_;refine aC 2 ?_;refine aD J (da J J u I) ?_;refine aC 3 ?_;refine aD J (da J J u I) (aQ J h J (v _ I) (aD J (eZ J (dT _ an)) ?_));refine aD J (eB (b:=4) (h2:=av.lit _) J J an aG) ?_;refine aC 1 ?_;refine aQ J h J (v _ I) (aD J (eZ J (dT _ an)) ?_);refine aD J (eB (b:=12) (h2:=av.lit _) J J an aG) ?_;refine aC 3 ?_;refine g_ 5 ?_;exact⟨aO 35,3,byte E 0/2^4+(aa E 1 0).toNat*2^4+(aa E (1+1) 0).toNat*2^12,az,h,c,d,⟨I,I,I⟩,I⟩
 exfalso;omega
 rintro ρ w ⟨hd,nn,⟨ny,rfl⟩,h,c,d,hle,Nd⟩;have f:=axl (tr:=tr) c hle.2.1 I d hm;have iZ: ¬131072<nn:=λe=>(by rw[f,ao e]at R;exact R J);rw[aj iZ]at f;refine g_ 6 ?_;refine au J ?_ ?_<;>intro Nx
 exfalso;omega
 refine a8 (cW [(2,2),(4,4),(10,12),(15,16),(85,127)] (λρ w=> ∃n:Nat,∃g:List UInt8,∃o:Option Nat,∃c2:Nat,∃B:List Value,Kn ρ [(2,af n),(4,.slice (aI o) (W g) c2)]/\H r w ((o,C (ar u8 (g)++B) 5)::L)/\(b8 o (W g) c2 (g.map u8) B 1)/\(dZ tr E=(1,g,n,tr))) ?_ ?_)
 refine g_ 4 ?_;refine au J ?_ ?_<;>intro E0
 refine g_ 10 ?_;refine au J ?_ ?_<;>intro u6
 have O:(dZ tr E).1=2:=(by rw[f,aj I,ao I]);exact aiG
 rw[aj I,aj I]at f;refine g_ 9 ?_;refine ak (wm J J J (lV _ _) I) (me (ar u8 []) sp ((ag E hd nn).map u8) h 0 J J J hk (q9 (axn K I) aP) (by intro y hy;obtain⟨z,_,rfl⟩:=jS.1 hy;rfl) I an J ?_);intro w D F G h p Z Q;dsimp only[bJ]at h;rw[<-gJ,List.nil_append]at h p;refine g_ 8 ?_;exact⟨aO 20,hd+nn,ag E hd nn,D,F,G,Kn.mk ⟨J,jw J (by rw[dK I];omega) J,trivial⟩,h,(by rw[dK I];exact⟨by rw[cB,dK I,fg],p,I,Q⟩),f⟩
 refine g_ 8 ?_;refine au J ?_ ?_<;>intro axp
 have O:(dZ tr E).1=2:=(by rw[f,ao I,ao I]);exact aiG
 rw[ao I,aj I]at f;refine g_ 5 ?_;refine ak (da J J u I) (aX h J (v _ I) ?_);refine g_ 13 ?_;refine cw (σ:=Nat×Option Nat×Nat×List Value) [(4,4),(16,16),(119,127)] (λ⟨i,k,s,m⟩ ρ w=>Kn ρ [(16,af i),(4,.slice (aI k) i s)]/\H r w ((k,C (ar u8 (aT i (aa E hd 0))++m) 5)::L)/\(i<=nn)/\(b8 k i s (ar u8 (aT i (aa E hd 0))) m 1)) (λ⟨i,k,s,m⟩=>nn-i) (0,ob,bc,sp) ⟨az,h,(cj _),hk⟩ ?_;rintro⟨i,k,s,m⟩ ρ w ⟨⟨mn,rfl⟩,h,hi,fi⟩;refine g_ 7 ?_;refine au J ?_ ?_<;>intro aat
 refine g_ 6 ?_;refine mf J (ly _) h ?_;intro bz w h;refine me (ar u8 (aT i (aa E hd 0))) m [u8 (aa E hd 0)] h 1 J J J fi (Src.slice (j:=0) (q2:=0) J ⟨J,trivial⟩ J) (by intro x hx;simp at hx;subst hx;rfl) I an J ?_;intro w D F G h p Z Q;dsimp only[bJ]at h;rw[aiE,axm]at h p;have zu:b8 D (i+1) F (ar u8 (aT (i+1) (aa E hd 0))) G 1:=⟨by rw[cB,dS,fg],p,Z,Q⟩;replace h:=h.tail;(try dsimp only[dX]at h);refine g_ 7 ?_;exact⟨aO 11,(i+1,D,F,G),cQ,az,h,I,zu⟩
 have q6:i=nn:=I;have mP:=fi;rw[q6]at mP h;exact jl ⟨aO 18,hd+1,aT nn (aa E hd 0),k,s,m,Kn.mk ⟨J,jw J (by rw[dS];omega) J,trivial⟩,h,(by rw[dS];exact mP),f⟩
 rintro ρ w ⟨n,g,o,c2,B,⟨nz,rfl⟩,h,cS,t⟩;refine g_ 9 ?_;exact⟨n,_,g,o,c2,B,_,J,h,cS,(λ_=>⟨J,J,t⟩),(λe=>absurd (by rw[t]) e)⟩
end Go.Z
