/- Part 4 of the proof. -/
import Derived.KernelRfl
import Derived.Test.YtmgkiicjpmihfaaGreatDoorQC
set_option linter.all false
set_option maxRecDepth 20000
set_option maxHeartbeats 400000000
open List renaming length -> W, getD -> aa, map -> ar, replicate -> aT, set -> bJ, range -> cL
open UInt8 renaming ofNat -> bS
open Or renaming inl -> a_, inr -> bG
open Go.Z.Env renaming ev -> aL, put -> fU
namespace Go.Z
open Go Go.Proofs Tryz
variable {F F':List aK}{cap db many q:Nat}{ad:Option Addr}{P:Program}{r:fT}{T:TT}{t:Tr}{p:Value}{w:World}
def u4(F:List aK)(p:Value)(t:Tr):Prop:= ∃tb a bi c1 c2 b c,p= .pointer (some ⟨tb,0,none⟩)/\(some tb,C [.slice (some ⟨a,0,none⟩) (W t.syms) c1,.slice (some ⟨bi,0,none⟩) (W t.bits) c2,af t.aq] 146)∈F/\
 (some a,C (t.syms.map af++b) 3)∈F/\(some bi,C (t.bits.map af++c) 3)∈F
def u4.sub(h:u4 F p t)(hs:Sub F F'):u4 F' p t:=by
 obtain⟨tb,a,bi,c1,c2,b,c,h1,h2,d,e⟩:=h;exact⟨tb,a,bi,c1,c2,b,c,h1,hs _ h2,hs _ d,hs _ e⟩
def wQ(F:List aK)(p:Value):Option Tr->Prop
 |none=>p= .pointer none
 |some t=>u4 F p t
def wQ.sub{o:Option Tr}(h:wQ F p o)(hs:Sub F F'):wQ F' p o:=by
 cases o with
 |none=>exact h
 |some t=>exact u4.sub h hs
structure xT(t:Tr):Prop where
 syms:W t.syms=2^t.aq
 bits:W t.bits=2^t.aq
 aq:t.aq<=11
 ar7:1<=t.aq
 le: ∀i,aa t.bits i 0<=11
def Yy{N left:Nat}{t:Tr}(a:xT t): ∀i:Nat,(left:Int) -11*i<=(fy N t left i).1/\(fy N t left i).1<=left
 |0=>by simp[fy]
 |i+1=>by have b:=Yy (N:=N) (left:=left) a i;have:=a.le (dE N (fy N t left i).1 t.aq);simp only[fy];omega
def Yz(l:List UInt8)(x:UInt8):ar u8 l++[u8 x]=ar u8 (l++[x]):=by simp
def ar8{ρ:Env}{A B ty:TypeId}{x:Operand}{v:Int}{n:Nat}{k:IntKind}[hA:cu P A (.int k)] [b:cu P B (.int .u8)](a:aL ρ x= .int k v) [h1:av v n]:run P ρ (.convert A B x) ty w= .ok (.value (u8 (bS n))) w:=by
 rw[DX a J];simp[aN]
def YA{E:List UInt8}{left:Nat}(h:jg E=some left):left<8*W E:=by
 unfold jg at h;split at h
 cases h
 rename_i a;cases h;have h1:uX E<256:=(aa E (W E-1) 0).toNat_lt;have h2:(uX E).log2<8:=(qR I).2 I;omega
def afX{D:List UInt8}{len:Nat}(h:H r w F)(hm:(ah db (D.map u8) T)∈F)(f:0<len->ad=some ⟨db,q,none⟩)(d:q+len<=W D)(hlen:len<=140737488355328)(y:u4 F p t)(a:xT t)(X:many<=1048576):Calls PP 72 #[p,.slice ad len cap,af many] w λe w'=> ∃v out ob c sp,gE (ag D q len) t many=(v,out)/\e= .returned (.tuple #[.slice (aI ob) (W out) c,af v])/\b8 ob (W out) c (out.map u8) sp 1/\H r w' ((ob,C (out.map u8++sp) 5)::F):=by
 obtain⟨Y,Z⟩:=dw hm;obtain⟨tb,sy,bi,c1,c2,cg,cZ,rfl,z,A,B⟩:=y;obtain⟨Rs,Ru⟩:=dw z;obtain⟨YB,YC⟩:=dw A;obtain⟨E,G⟩:=dw B;have eo:=dK d;have K: ∀N l,dE N l t.aq<2^t.aq:=λN l=>wx N l _;have t_:=a.syms;have lL:=a.bits;have L:=a.aq;refine nV func72 ntmps72 [6,7] ?_;refine g_ 12 ?_;refine au J ?_ ?_<;>intro JN
 refine g_ 6 ?_;exact⟨0,[],none,0,[],(by unfold gE;rw[ao I]),J,b8.nil,h.ghost _⟩
 refine g_ 4 ?_;refine d' J J (aH (Yx h hm f d hlen) ?_);rintro e M ⟨ok,bo,left,rfl,b,O,P,h⟩;refine g_ 10 ?_;refine ak (k8 J) (aJ (eY J ?_ ?_))<;>intro g
 (obtain rfl:ok=false:=by cases ok<;>first|rfl| (exfalso;revert g;decide));obtain rfl:=P J;refine g_ 6 ?_;exact⟨2,[],none,0,[],(by unfold gE;rw[aj I,b];rfl),J,b8.nil,h.tail.ghost _⟩
 (obtain rfl:ok=true:=by cases ok<;>first|rfl| (exfalso;revert g;decide));obtain⟨bb,rfl⟩:=O J;rw[ao J]at b;have wL:left<=8*len:=(by have:=YA b;omega);have k:gE (ag D q len) t many=if(fy (num (ag D q len)) t left many).1≠0 then(0,[])else(1,(fy (num (ag D q len)) t left many).2):=(by unfold gE;rw[aj I,b]);replace h:=(h.ghost (C (ar u8 []++[]) 5)).mv 1;dsimp only[dX]at h;refine g_ 12 ?_;refine cw (σ:=Nat×Option Nat×Nat×List Value) [(10,12),(24,59)] (λ⟨i,ob,c,sp⟩ ρ w=>Kn ρ [(24,af i),(10,.slice (aI ob) i c)]/\H r w ((ah bb [.slice ad len cap,.int .i64 (fy (num (ag D q len)) t left i).1] 155)::(ob,C (ar u8 (fy (num (ag D q len)) t left i).2++sp) 5)::F)/\(b8 ob i c (ar u8 (fy (num (ag D q len)) t left i).2) sp 1)/\(i<=many)) (λ⟨i,ob,c,sp⟩=>many-i) (0,none,0,[]) ⟨az,h,b8.nil,cj _⟩ ?_;rintro⟨i,ob,c,sp⟩ ρ w ⟨⟨ny,rfl⟩,h,m,hi⟩;have fx:=Yy (N:=num (ag D q len)) (left:=left) a i;refine g_ 5 ?_;refine au J ?_ ?_<;>intro xM
 refine g_ 7 ?_;refine ak (jx [_,_] h J ⟨J,J,trivial⟩ J) (eN h J ?_);intro ba w h;refine cI ?_;intro w h;refine g_ 7 ?_;refine cJ J J J (aH (Gv (left:=(fy (num (ag D q len)) t left i).1) (n:=t.aq) h (aA (aA hm)) f d I I I I) ?_);rintro e M ⟨rfl,h⟩;replace h:=h.tail;have hk:=K (num (ag D q len)) (fy (num (ag D q len)) t left i).1;refine g_ 3 ?_;refine cm h [0,4,8,16,20,24,32,13,29,36,41,44,48,52,59] ?_;intro w h;refine aC 10 ?_;refine aQ J h J (M8 I) (aD J (pU J J (by have:=a.le (dE (num (ag D q len)) (fy (num (ag D q len)) t left i).1 t.aq);omega) I) ?_);refine aC 2 ?_;refine cI ?_;intro w h;refine cO ?_;refine g_ 8 ?_;refine aX h J (M8 I) (ak (ar8 J) (mf J (ly _) h ?_));intro bz w h;refine me (ar u8 (fy (num (ag D q len)) t left i).2) sp [u8 (bS (aa t.syms (dE (num (ag D q len)) (fy (num (ag D q len)) t left i).1 t.aq) 0))] h 2 J J J m (Src.slice (j:=0) (q2:=0) J ⟨J,trivial⟩ J) (by intro x o;simp at o;subst o;rfl) I an J ?_;intro w Q R S h s U V;dsimp only[bJ]at h;rw[Yz]at h s;replace h:=h.tail;(try dsimp only[dX]at h);refine g_ 6 ?_;exact⟨aS,(i+1,Q,R,S),cQ,az,h,⟨by rw[cB,Co];omega,s,U,V⟩,I⟩
 obtain rfl:i=many:=I;refine g_ 8 ?_;refine ak (Xj (v:=0) J J) (aJ (au J ?_ ?_))<;>intro u
 refine g_ 6 ?_;exact⟨0,[],none,0,[],(by rw[k,ao u]),J,b8.nil,h.tail.tail.ghost _⟩
 refine g_ 8 ?_;refine⟨1,(fy (num (ag D q len)) t left i).2,ob,c,sp,(by rw[k,aj u]),?_,?_,h.tail⟩
 rw[Co];rfl
 rw[Co];exact m
def afY{L:List aK}{j size m c:Nat}{ob:Option Nat}{xs sp:List Value}(a:L[j]? =some (ob,C (xs++sp) T))(hs:b8 ob m c xs sp size):Src P r L size m (.slice (aI ob) m c) xs:=by
 cases ob with
 | none=>
   have h1:=hs.2.2.2 J
   have h2:=hs.2.2.1
   obtain rfl:m=0:=I
   have d:=hs.1
   obtain rfl:xs=[]:=k7.1 I
   exact Src.nil
 |some b=>exact Src.slice a (Rd.left _ _) hs.1
def Rv(D:List UInt8)(q:Nat):num (ag D q 2)<=9223372036854775807:=by
 have:= @qp D q 2;omega
def ar_{D:List UInt8}{len:Nat}{four:Bool}(h:H r w F)(hm:(ah db (D.map u8) T)∈F)(m:0<len->ad=some ⟨db,q,none⟩)(O:q+len<=W D)(j9:len<=cap)(hlen:len<=140737488355328)(P:u4 F p t)(Q:xT t)(EG:many<=1048576):Calls PP 62 #[p,.slice ad len cap,af many,.bool four] w λe w'=> ∃v out ob c sp,gZ (ag D q len) t many four=(v,out)/\e= .returned (.tuple #[.slice (aI ob) (W out) c,af v])/\b8 ob (W out) c (out.map u8) sp 1/\H r w' ((ob,C (out.map u8++sp) 5)::F):=by
 obtain⟨wD,wE⟩:=dw hm;have A:=dK O;have B: ∀a b,a+b<=len->ag (ag D q len) a b=ag D (q+a) b:=λa b Rw=>jy Rw;refine xJ func62 ntmps62 [8,9] ?_;refine g_ 9 ?_;refine ak (k8 J) (aJ (eY J ?_ ?_))<;>intro R
 (obtain rfl:four=false:=by cases four<;>first|rfl| (exfalso;revert R;decide));refine g_ 5 ?_;refine eS J J J J (aH (afX h hm m O hlen P Q EG) ?_);rintro e G ⟨v,out,ob,c,sp,k,rfl,K,h⟩;refine g_ 6 ?_;exact⟨v,out,ob,c,sp,k,J,K,h⟩
 (obtain rfl:four=true:=by cases four<;>first|rfl| (exfalso;revert R;decide));refine g_ 7 ?_;refine au J ?_ ?_<;>intro S
 refine g_ 6 ?_;exact⟨0,[],none,0,[],(by unfold gZ;rw[aj an,ao S]),J,b8.nil,h.ghost _⟩
 refine g_ 8 ?_;refine au J ?_ ?_<;>intro Cv
 refine g_ 6 ?_;exact⟨2,[],none,0,[],(by unfold gZ;rw[aj an,aj S,ao I]),J,b8.nil,h.ghost _⟩
 have L:gZ (ag D q len) t many true=((f_ (ag D q len) t many 4).1,(f_ (ag D q len) t many 4).2.1):=(by unfold gZ;rw[aj an,aj I,aj I]);refine a8 (bY (cm h [0,4,12,16,24,28,11,23,35,38,40] ?_));intro w h;refine lx J (aD J (mX (c:=2) (h1:=av.lit _) J J I) (lx J (aD J (wm (a:=2) (h1:=av.lit _) (c:=4) (h2:=av.lit _) J J J I I) (lx J (aD J (wm (a:=4) (h1:=av.lit _) (c:=6) (h2:=av.lit _) J J J I I) (qU J J J ?_))))));have f:=tV (ad:=ad) (q:=q+0) (len:=2) (cap:=cap-0) h hm (λ_=>m I) I I (Rv _ _);rw[<-B 0 2 I]at f;refine f.mono ?_;clear f;rintro e G ⟨rfl,rfl⟩;refine⟨_,J,?_⟩;refine qU J J J ?_;have f:=tV (ad:=cut ad cap 2 1) (q:=q+2) (len:=2) (cap:=cap-2) h hm (λ_=>eU (m I) I) I I (Rv _ _);rw[<-B 2 2 I]at f;refine f.mono ?_;clear f;rintro e G ⟨rfl,rfl⟩;refine⟨_,J,?_⟩;refine qU J J J ?_;have f:=tV (ad:=cut ad cap 4 1) (q:=q+4) (len:=2) (cap:=cap-4) h hm (λ_=>eU (m I) I) I I (Rv _ _);rw[<-B 4 2 I]at f;refine f.mono ?_;clear f;rintro e G ⟨rfl,rfl⟩;refine⟨_,J,?_⟩;refine qo J J J J (lX _ _ _) h ?_;intro bs w h;refine fG J (cO ?_);refine g_ 3 ?_;refine ak (jJ (a:=6) (h1:=av.lit _) J J I I) ?_;refine g_ 6 ?_;refine ak (nS (b:=4) (h2:=av.lit _) J J I k_) ?_;refine g_ 12 ?_;replace h:=h.ghost (C (ar u8 []++[]) 5);refine cw (σ:=Nat×List UInt8×Nat×Option Addr×Option Nat×Nat×List Value) [(1,1),(8,9),(12,17),(46,86)] (λ⟨i,out,d,l,ob,c,sp⟩ ρ w=>Kn ρ [(46,af i),(12,.slice (aI ob) (W out) c),(1,.slice l (len-d) (cap-d))]/\H r w ((ob,C (ar u8 out++sp) 5)::(ah bs [af (num (ag (ag D q len) 0 2)),af (num (ag (ag D q len) 2 2)),af (num (ag (ag D q len) 4 2))] 3)::F)/\(b8 ob (W out) c (ar u8 out) sp 1)/\(i<=4)/\(f_ (ag D q len) t many i=(1,out,d))/\(d<=len)/\(0<len-d->l=some ⟨db,q+d,none⟩)/\(W out<=1048576*i)) (λ⟨i,out,d,l,ob,c,sp⟩=>4-i) (0,[],6,cut ad cap 6 1,none,0,[]) ⟨az,h,b8.nil,I,J,I,(λU=>eU (m I) I),(by simp)⟩ ?_;rintro⟨i,out,d,l,ob,c,sp⟩ ρ w ⟨⟨nz,rfl⟩,h,K,hi,o,qX,V,AF⟩;refine g_ 5 ?_;refine au J ?_ ?_<;>intro u5
 have N:i≠3->([af (num (ag (ag D q len) 0 2)),af (num (ag (ag D q len) 2 2)),af (num (ag (ag D q len) 4 2))]:List Value)[i]? =some (af (num (ag (ag D q len) (2*i) 2))):=(by intro h3;rcases(I:i=0\/i=1\/i=2)with rfl|rfl|rfl<;>rfl);refine g_ 16 ?_;refine cW [(14,15),(52,61)] (λρ w=> ∃n size:Nat,Kn ρ [(14,af n),(15,af size)]/\H r w ((ob,C (ar u8 out++sp) 5)::(ah bs [af (num (ag (ag D q len) 0 2)),af (num (ag (ag D q len) 2 2)),af (num (ag (ag D q len) 4 2))] 3)::F)/\(n=(if i=3 then many-3*((many+3)/4)else(many+3)/4))/\(size=(if i=3 then len-d else num (ag (ag D q len) (2*i) 2)))) ?_ ?_
 refine g_ 5 ?_;refine au J ?_ ?_<;>intro s
 refine g_ 7 ?_;exact⟨aS,many-3*((many+3)/4),len-d,az,h,(by rw[ao s]),(by rw[ao s])⟩
 replace N:=N s;refine g_ 4 ?_;exact aX h J N (ee (aJ ⟨aS,(many+3)/4,num (ag (ag D q len) (2*i) 2),az,h,(by rw[aj s]),(by rw[aj s])⟩))
 rintro ρ w ⟨n,size,⟨mn,rfl⟩,h,u,M⟩;have Nd:n<=many:=(by rw[u];split<;>omega);refine g_ 8 ?_;refine au J ?_ ?_<;>intro Em
 refine g_ 6 ?_;have g:f_ (ag D q len) t many (i+1)=(2,[],0):=(by rw[f_];dsimp only;rw[o,aj (λe=>e J),<-u,A,<-M];rw[ao I]);have z:=M' (i:=i+1) (E:=(ag D q len)) (t:=t) (many:=many) (by rw[g];decide) (I:i+1<=4);exact⟨2,[],none,0,[],(by rw[L,z,g]),J,b8.nil,h.tail.tail.ghost _⟩
 refine g_ 7 ?_;refine au J ?_ ?_<;>intro X
 refine g_ 6 ?_;have g:f_ (ag D q len) t many (i+1)=(0,[],0):=(by rw[f_];dsimp only;rw[o,aj (λe=>e J),<-u,A,<-M];rw[aj I,ao X]);have z:=M' (i:=i+1) (E:=(ag D q len)) (t:=t) (many:=many) (by rw[g];decide) (I:i+1<=4);exact⟨0,[],none,0,[],(by rw[L,z,g]),J,b8.nil,h.tail.tail.ghost _⟩
 refine g_ 6 ?_;refine ak (mX J J I) (dg (eS J J J J (aH (afX (ad:=l) (q:=q+d) (len:=size) h (aA (aA hm)) (λU=>V I) I I (P.sub (Sub.Yt _ _ _)) Q I) ?_)));rintro e G ⟨v1,part,cf,c1,cg,k,rfl,AI,h⟩;have Y:=Yo (ag D (q+d) size) t n;rw[k]at Y;dsimp only at Y;rw[<-B d size I]at k;refine g_ 12 ?_;refine au J ?_ ?_<;>intro Rq
 refine g_ 7 ?_;have g:f_ (ag D q len) t many (i+1)=(v1,[],0):=(by rw[f_];dsimp only;rw[o,aj (λe=>e J),<-u,A,<-M];rw[aj I,aj X,k];dsimp only;rw[ao I]);have z:=M' (i:=i+1) (E:=(ag D q len)) (t:=t) (many:=many) (by rw[g];dsimp only;omega) (I:i+1<=4);exact⟨v1,[],none,0,[],(by rw[L,z,g]),J,b8.nil,h.tail.tail.tail.ghost _⟩
 refine a8 (cm h [0,4,12,16,20,11,24,28] ?_);intro w h;refine aC 4 ?_;refine aD J (jJ J J I I) (nU (ar u8 out) sp (part.map u8) J h 1 J J J K (afY (j:=0) J AI) (by intro x hx;obtain⟨y,_,rfl⟩:=jS.1 hx;rfl) I an J ?_);intro w dR c9 ep h Z gl fk;dsimp only[bJ]at h;rw[<-gJ]at h Z;refine aC 3 ?_;refine g_ 4 ?_;replace h:=h.tail;(try dsimp only[dX]at h);refine⟨aS,?_⟩;have gA:v1=1:=I;have fX:W part=n:=I;have g:f_ (ag D q len) t many (i+1)=(1,out++part,d+size):=(by rw[f_];dsimp only;rw[o,aj (λe=>e J),<-u,A,<-M,aj I,aj I,k];dsimp only;rw[aj I]);refine⟨(i+1,out++part,d+size,cut l (cap-d) size 1,dR,c9,ep),cQ,?_⟩;refine⟨Kn.mk ⟨J,jw J (by rw[aF]) J,jw J I I,trivial⟩,?_⟩;refine⟨h,⟨by rw[cB,aF,fg],by rw[Z],by rw[aF];exact gl,fk⟩,?_⟩;refine⟨I,g,I,?_,(by rw[aF];omega)⟩;intro U;rw[<-fL];exact eU (V I) I
 obtain rfl:i=4:=I;refine g_ 8 ?_;exact⟨1,out,ob,c,sp,(by rw[L,o]),J,K,(h.mv 1).tail⟩
variable {ws:List Nat}{l m rest sum:Nat}
def w2(w:Nat):Nat:=if 0<w then 2^(w-1)else 0
def eO(ws:List Nat):Nat->Nat
 |0=>0
 |i+1=>eO ws i+w2 (aa ws i 0)
def mq(sum:Nat):Nat:=sum.log2+1
def qY(rest:Nat):Nat:=if rest<=1 then 1 else(rest-1).log2+2
def ff(al:List Nat)(aq w:Nat):Nat->List (Nat×Nat)
 |0=> []
 |i+1=>ff al aq w i++(if aa al i 0=w then aT (2^(w-1)) (i,aq+1-w)else [])
def df(al:List Nat)(aq:Nat):Nat->List (Nat×Nat)
 |0=> []
 |w+1=>df al aq w++ff al aq (w+1) (W al)
def mr(al:List Nat)(aq:Nat):Tr:=⟨(df al aq aq).map (·.1),(df al aq aq).map (·.2),aq⟩
def g9(ws:List Nat):Option Tr:=
 if ws.any (λw=>decide (11<w))=true then none
 else
   let sum:=eO ws (W ws)
   if sum=0 then none
   else
     let aq:=mq sum
     let last:=qY (2^aq-sum)
     if 11<aq\/2^(last-1)≠2^aq-sum then none else some (mr (ws++[last]) aq)
def afZ{w:Nat}(h:w<=11):w2 w<=1024:=by
 unfold w2;split
 exact aM (dF I (I:w-1<=10)) an
 omega
def af0{ws:List Nat}: ∀{i:Nat},(∀j,j<i->aa ws j 0<=11)->eO ws i<=1024*i
 |0,_=>by simp[eO]
 |i+1,h=>by have:=af0 (ws:=ws) (i:=i) (λj a=>h j I);have:=afZ (h i I);rw[eO];omega
def any_false(h: ∀j,j<W ws->aa ws j 0<=11):ws.any (λw=>decide (11<w))=false:=by
 rw[List.any_eq_false];intro x b;obtain⟨j,a,rfl⟩:=DO b;have:=h j a;simp[a]at this;simpa using this
def any_true{j:Nat}(a:j<W ws)(h:11<aa ws j 0):ws.any (λw=>decide (11<w))=true:=by
 rw[Mb];refine⟨ws[j],Ai a,?_⟩;simp[a]at h;simpa using h
def ar'(hs:sum≠0)(h:2^m<=sum):m+1<=mq sum:=by
 unfold mq;rcases dq sum.log2 m with a|a
 have:=(qR hs).1 a;omega
 omega
def asa(h: ¬2^m<=sum)(hm:m<=mq sum)(h1:1<=m):m=mq sum:=by
 unfold mq at*;by_cases hs:sum=0
 subst hs;have:Nat.log2 0=0:=an;omega
 have:=(qR hs).2 (I:sum<2^m);omega
def asb(b:1<=l)(h:2^(l-1)<rest):l+1<=qY rest:=by
 unfold qY;have c:=eA (l-1);rw[aj I];rcases dq (rest-1).log2 (l-1)with a|a
 have:=(qR (I:rest-1≠0)).1 a;omega
 omega
def asd(b:1<=l)(h: ¬2^(l-1)<rest)(hm:l<=qY rest):l=qY rest:=by
 unfold qY at*;by_cases a:rest<=1
 rw[ao a]at*;omega
 rw[aj a]at*;have:=(qR (I:rest-1≠0)).2 (I:rest-1<2^(l-1));omega
def ase(h:rest<=2^m):qY rest<=m+1:=by
 unfold qY;split
 omega
 have:=(qR (I:rest-1≠0)).2 (I:rest-1<2^m);omega
def Ry{al:List Nat}{aq w:Nat}: ∀{i:Nat} {x:Nat×Nat},x∈ff al aq w i->x.2=aq+1-w/\x.1<i/\aa al x.1 0=w
 | i+1,x,h=>by
  rw[ff,oX]at h;rcases h with h|h
  have:=Ry h;exact⟨this.1,I,this.2.2⟩
  split at h
  rename_i e;rw[Qh]at h;rw[h.2];exact⟨J,by simp,e⟩
  cases h
def Rz{al:List Nat}{aq:Nat}: ∀{w:Nat} {x:Nat×Nat},x∈df al aq w->aq+1-w<=x.2/\x.2<=aq/\x.1<W al
 | w+1,x,h=>by
  rw[df,oX]at h;rcases h with h|h
  have:=Rz h;exact⟨I,this.2⟩
  have:=Ry h;omega
def wR(al:List Nat)(w:Nat):Nat->Nat
 |0=>0
 |i+1=>wR al w i+(if aa al i 0<=w then w2 (aa al i 0)else 0)
def YE(al:List Nat)(aq w:Nat): ∀i,wR al (w+1) i=wR al w i+W (ff al aq (w+1) i)
 |0=>rfl
 | i+1=>by
  rw[wR,wR,ff,YE al aq w i,aF];by_cases h:aa al i 0=w+1
  rw[ao h,ao I,aj I,dS,h];simp[w2];omega
  rw[aj h];by_cases a:aa al i 0<=w
  rw[ao I,ao a];simp;omega
  rw[aj I,aj a];simp
def af1(al:List Nat): ∀i,wR al 0 i=0
 |0=>rfl
 | i+1=>by
  rw[wR,af1 al i];split
  rename_i h;have:aa al i 0=0:=I;rw[this];rfl
  rfl
def Nh(al:List Nat)(aq:Nat): ∀w,W (df al aq w)=wR al w (W al)
 |0=>by rw[af1];rfl
 |w+1=>by rw[df,aF,Nh al aq w,YE al aq w]
def RA{al:List Nat}{w:Nat}: ∀{i},(∀j,j<i->aa al j 0<=w)->wR al w i=eO al i
 |0,_=>rfl
 |i+1,h=>by rw[wR,eO,RA (λj a=>h j I),ao (h i I)]
def YF{ws m:List Nat}: ∀{i},i<=W ws->eO (ws++m) i=eO ws i
 |0,_=>rfl
 |i+1,h=>by rw[eO,eO,YF I];congr 2;simp only[bX];rw[gP I]
def af2{ws:List Nat}: ∀{i j:Nat},j<i->w2 (aa ws j 0)<=eO ws i
 | i+1,j,h=>by
  rw[eO];by_cases e:j=i
  subst e;omega
  have:=af2 (ws:=ws) (I:j<i);omega
def Ni(h:g9 ws=some t):xT t/\ ∀s∈t.syms,s<W ws+1:=by
 unfold g9 at h;split at h
 cases h
 rename_i r;dsimp only at h;split at h
 cases h
 rename_i hs;split at h
 cases h
 rename_i hm;cases h;obtain⟨sum,a⟩: ∃sum,eO ws (W ws)=sum:=⟨_,J⟩;obtain⟨aq,b⟩: ∃aq,mq sum=aq:=⟨_,J⟩;obtain⟨last,f⟩: ∃last,qY (2^aq-sum)=last:=⟨_,J⟩;rw[a]at hs hm ⊢;rw[b]at hm ⊢;rw[f]at hm ⊢;have l:aq<=11:=I
 have m:2^(last-1)=2^aq-sum:=by
  rcases Nat.decEq (2^(last-1)) (2^aq-sum)with e|e
  exact absurd (bG e) hm
  exact e
 have u:sum<2^aq:=(by rw[<-b];unfold mq;exact yQ);have v:1<=last:=(by rw[<-f];unfold qY;split<;>omega);have n:last<=aq:=(by have h2:2^(last-1)<2^aq:=I;have:=(Mj (I:1<2)).1 h2;omega)
 have o: ∀j,j<W (ws++[last])->aa (ws++[last]) j 0<=aq:=by
  intro j p;rw[aF,I1]at p;rcases dq j (W ws) with c|c
  have e:aa (ws++[last]) j 0=aa ws j 0:=(by simp only[bX];rw[gP c]);rw[e];have g:=af2 (ws:=ws) c;rw[a]at g;rcases pd (aa ws j 0)with k|k
  omega
  rw[w2,ao k]at g;have q:2^(aa ws j 0-1)<2^aq:=I;have:=(Mj (I:1<2)).1 q;omega
  obtain rfl:j=W ws:=I;simp;exact n
 have hlen:W (df (ws++[last]) aq aq)=2^aq:=(by rw[Nh,RA o,aF,I1,eO,YF (aW _),a];have:aa (ws++[last]) (W ws) 0=last:=(by simp);rw[this,w2,ao I,m];omega);refine⟨⟨by simp[mr,hlen],by simp[mr,hlen],l,?_,?_⟩,?_⟩
 show 1<=aq;rw[<-b];unfold mq;omega
 intro i;show((df (ws++[last]) aq aq).map (·.2)).getD i 0<=11;rw[bX,kP]
 cases d:(df (ws++[last]) aq aq)[i]? with
 |none=>simp
 | some x=>
   have:=Rz (vU d)
   simp;omega
 intro s hs;simp only[mr,jS]at hs;obtain⟨x,d,rfl⟩:=hs;have:=(Rz d).2.2;rwa [aF,I1]at this
variable {al:List Nat}{sp:List Value}{c aq:Nat}{p:Prop}
def RB(l:List Nat)(x:Nat):ar af l++[af x]=ar af (l++[x]):=by simp
def rS(l:List (Nat×Nat)):List Nat:=l.map (·.1)
def rB(l:List (Nat×Nat)):List Nat:=l.map (·.2)
def JR(b:Nat)(l:List (Nat×Nat))(a:Nat):ar af (rS l)++[af a]=ar af (rS (l++[(a,b)])):=by simp[rS]
def asf(a:Nat)(l:List (Nat×Nat))(b:Nat):ar af (rB l)++[af b]=ar af (rB (l++[(a,b)])):=by simp[rB]
def asg(l:List (Nat×Nat)):W (rS l)=W l:=by simp[rS]
def ash(l:List (Nat×Nat)):W (rB l)=W l:=by simp[rB]
def YG(al:List Nat)(w:Nat)(hw:w<=11): ∀i,wR al w i<=1024*i
 |0=>by simp[wR]
 | i+1=>by
  have a:=YG al w hw i;rw[wR];split
  have:=afZ (I:aa al i 0<=11);omega
  omega
def asi{a i k:Nat}(hw:a+1<=11)(b:W al<=257)(hi:i<=W al)(c:k<=2^(a+1-1))(x:Nat×Nat):W (df al aq a++ff al aq (a+1) i++aT k x)<=1000000:=by
 have h1:=Nh al aq a;have h2:=YE al aq a i;have d:=YG al a I (W al);have e:=YG al (a+1) hw i;have f:2^(a+1-1)<=2^10:=dF I I;rw[aF,aF,dS];omega
def asj(h:g9 ws=some (mr al aq)):W (df al aq aq)=2^aq:=by
 have:=(Ni h).1.syms;simpa [mr] using this
def b8.some{ob:Option Nat}{nn size:Nat}{xs:List Value}(h:b8 ob nn c xs sp size)(a:0<nn): ∃s,ob=some s:=by
 cases ob with
 |none=>have:=h.2.2.2 J;have:=h.2.2.1;omega
 |some s=>exact⟨s,J⟩
def Cw{n:Nat}(h:n<=m):2^n<=2^m:=dF I h
def YH(h:p:=by intro w YI YJ YK h Nj GJ YL;dsimp only[bJ]at h;rw[asf i]at h Nj;refine aC 2 ?_;refine cI ?_;intro w h;refine aC 2 ?_;refine cI ?_;intro w h;refine cO ?_;refine g_ 4 ?_;replace h:=h.tail.tail;(try dsimp only[dX]at h);refine⟨aS,?_⟩;have zx:rows++[(i,aq+1- (w0+1))]=df al aq w0++ff al aq (w0+1) i++aT (k+1) (i,aq+1- (w0+1)):=(by rw[r',bV,<-DP]);have asl:W (rows++[(i,aq+1- (w0+1))])=W rows+1:=(by simp);rw[<-asl]at h u6 GJ;refine⟨(k+1,rows++[(i,aq+1- (w0+1))],EJ,EK,Cx,YI,YJ,YK),cQ,az,h,⟨by rw[cB,asg,fg],sW,u6,Cy⟩,⟨by rw[cB,ash,fg],Nj,GJ,YL⟩,I,zx⟩):p:=h
def RC(h:p:=by refine nU (ar af (rB rows)) cZ [af (aq+1- (w0+1))] J h 4 J J J fP (Src.slice (j:=0) (q2:=0) J ⟨J,trivial⟩ J) (by intro x hx;simp at hx;subst hx;rfl) I an J ?_;exact YH):p:=h
def YM(h:p:=by refine nU (ar af (rS rows)) cg [af i] J h 3 J J J fe (Src.slice (j:=0) (q2:=0) J ⟨J,trivial⟩ J) (by intro x hx;simp at hx;subst hx;rfl) I an J ?_;intro w EJ EK Cx h sW u6 Cy;dsimp only[bJ]at h;rw[JR (aq+1- (w0+1))]at h sW;refine nU (ar af (rB rows)) cZ [af (aq+1- (w0+1))] J h 4 J J J fP (Src.slice (j:=1) (q2:=0) J ⟨J,trivial⟩ J) (by intro x hx;simp at hx;subst hx;rfl) I an J ?_;exact YH):p:=h
def YN(h:p:=by refine nU (ar af (rS rows)) cg [af i] J h 3 J J J fe (Src.slice (j:=1) (q2:=0) J ⟨J,trivial⟩ J) (by intro x hx;simp at hx;subst hx;rfl) I an J ?_;intro w EJ EK Cx h sW u6 Cy;dsimp only[bJ]at h;rw[JR (aq+1- (w0+1))]at h sW;exact RC):p:=h
def af3(h:p:=by refine nU (ar af (rS rows)) cg [af i] J h 2 J J J fe (Src.slice (j:=0) (q2:=0) J ⟨J,trivial⟩ J) (by intro x hx;simp at hx;subst hx;rfl) I an J ?_;intro w EJ EK Cx h sW u6 Cy;dsimp only[bJ]at h;rw[JR (aq+1- (w0+1))]at h sW;refine ld J J (mH _) h ?_;intro bx w h;exact RC):p:=h
def asn{wb:Nat}(h:H r w F)(hm:(ah wb (ws.map af++sp) T)∈F)(hlen:W ws<=256)(hc:W ws<=c):Calls PP 71 #[cK wb (W ws) c] w λe w'=> ∃ok t p G,e= .returned (.tuple #[p,.bool ok])/\g9 ws=(if ok=true then some t else none)/\(ok=true->u4 G p t)/\(ok=false->p= .pointer none)/\H r w' (G++F):=by
 obtain⟨wD,wE⟩:=dw hm;refine iu func71 ntmps71 [2,3] ?_;refine g_ 17 ?_;refine cw (σ:=Nat) [(2,4),(6,6),(16,29)] (λi ρ w=>Kn ρ [(16,af i),(4,af (eO ws i))]/\H r w (F)/\(i<=W ws)/\(∀j,j<i->aa ws j 0<=11)) (λi=>W ws-i) (0) ⟨az,h,cj _,(by intro j U;omega)⟩ ?_;rintro i ρ w ⟨⟨ny,rfl⟩,h,hi,hw⟩;have bF:=af0 hw;refine g_ 5 ?_;refine au J ?_ ?_<;>intro V
 refine g_ 5 ?_;refine ak (j8 J J (by first|rfl|assumption|exact tK J I|exact eU J I|exact eU (by assumption) I) I) ?_;refine aX h J (M8 I) ?_;refine g_ 8 ?_;refine au J ?_ ?_<;>intro p6
 refine g_ 6 ?_;exact⟨false,⟨[],[],0⟩,.pointer none,[],J,(by unfold g9;rw[ao (any_true V p6)];rfl),(by intro e;cases e),λ_=>rfl,h⟩
 refine g_ 6 ?_;refine au J ?_ ?_<;>intro X
 refine g_ 4 ?_;refine ak (gY J J dQ (by have:=Cw (I:aa ws i 0-1<=10);simp only[aN];omega)) ?_;refine ak (eR J J (by have:=Cw (I:aa ws i 0-1<=10);simp only[aN];omega)) ?_;refine g_ 6 ?_;refine⟨aS,?_⟩
 have v: ∀j,j<i+1->aa ws j 0<=11:=by
  intro j U;rcases dq j i with f|f
  exact hw j f
  obtain rfl:j=i:=I;omega
 exact⟨i+1,I,Kn.mk ⟨J,ie (by rw[eO,w2,ao X]),trivial⟩,h,I,v⟩
 refine g_ 5 ?_;refine⟨aS,?_⟩
 have v: ∀j,j<i+1->aa ws j 0<=11:=by
  intro j U;rcases dq j i with f|f
  exact hw j f
  obtain rfl:j=i:=I;omega
 exact⟨i+1,I,Kn.mk ⟨J,ie (by rw[eO,w2,aj X];rfl),trivial⟩,h,I,v⟩
 obtain rfl:i=W ws:=I;have o:=any_false hw;refine g_ 7 ?_;refine au J ?_ ?_<;>intro g
 refine g_ 6 ?_;exact⟨false,⟨[],[],0⟩,.pointer none,[],J,(by unfold g9;rw[aj (by rw[o];decide),ao g];rfl),(by intro e;cases e),λ_=>rfl,h⟩
 have Y:(mq (eO ws (W ws)))<=19:=(by unfold mq;have:=(qR g).2 (I:eO ws (W ws)<2^19);omega);have Z:eO ws (W ws)<2^(mq (eO ws (W ws))):=(by unfold mq;exact yQ);refine g_ 7 ?_;refine cw (σ:=Nat) [(7,7),(32,37)] (λm ρ w=>Kn ρ [(7,af m)]/\H r w (F)/\(1<=m)/\(m<=(mq (eO ws (W ws))))) (λm=>(mq (eO ws (W ws))) -m) (1) ⟨az,h,I,(by unfold mq;omega)⟩ ?_;rintro m ρ w ⟨⟨mn,rfl⟩,h,jW,lH⟩;refine g_ 4 ?_;refine ak (gY J J dQ (by have:=Cw (I:m<=20);simp only[aN];omega)) ?_;refine g_ 3 ?_;refine au J ?_ ?_<;>intro z
 refine g_ 7 ?_;refine⟨aS,?_⟩;have A:=ar' g z;exact⟨m+1,I,az,h,I,A⟩
 have q:=asa z lH jW;clear lH;obtain⟨aq,pZ⟩: ∃aq,aq=m:=⟨_,J⟩;rw[<-q,<-pZ]at Y Z;subst pZ;have B:=Cw (I:aq<=20);have zy:qY (2^aq-eO ws (W ws))<=aq+1:=ase (vZ _ _);refine g_ 7 ?_;refine cw (σ:=Nat) [(8,8),(38,47)] (λl ρ w=>Kn ρ [(8,af l)]/\H r w (F)/\(1<=l)/\(l<=qY (2^aq-eO ws (W ws)))) (λl=>qY (2^aq-eO ws (W ws)) -l) (1) ⟨az,h,I,(by unfold qY;split<;>omega)⟩ ?_;rintro l ρ w ⟨⟨nz,rfl⟩,h,dV,ig⟩;refine bY (bY (cm h [0,4,8,12,16,20,24,28] ?_));intro w h;refine aC 2 ?_;refine aD J (gY J J dQ (by have:=Cw (I:l-1<=20);simp only[aN];omega)) ?_;refine lx J (aD J (gY J J dQ aG) ?_);refine aC 4 ?_;refine au J ?_ ?_<;>intro D
 refine g_ 7 ?_;refine⟨aS,?_⟩;have A:=asb dV D;exact⟨l+1,I,az,h,I,A⟩
 have hle:=asd dV D ig;clear ig;obtain⟨last,xU⟩: ∃last,last=l:=⟨_,J⟩;subst xU;refine g_ 3 ?_;refine cm h [0,4,8,12,16,20,24,28,32,36,40,44] ?_;intro w h;refine aC 3 ?_;refine BU (t:=50) J (λE=>?_) (λE=>?_)
 refine aC 10 ?_;refine jv J ?_;refine g_ 6 ?_;exact⟨false,⟨[],[],0⟩,.pointer none,[],J,(by unfold g9;rw[aj (by rw[o];decide)];dsimp only;rw[aj g,<-q,<-hle,ao (a_ I)];rfl),(by intro e;cases e),λ_=>rfl,h⟩
 refine dz J J J J (λw=>run_move) J (dz J J J J (λw=>jm (b:=1) (h2:=av.lit _) J J I k_) J (dz J J J J (λw=>gY J J dQ (by have:=Cw (I:last-1<=20);simp only[aN];omega)) J ?_));refine dz J J J J (λw=>run_move) J (dz J J J J (λw=>gY J J dQ aG) J ?_);refine dz J J J J (λw=>run_move) J (dz J J J J (λw=>jm J J I aG) J (dz J J J J (λw=>Jc J J) J ?_));refine aC 2 ?_;refine au J ?_ ?_<;>intro K
 refine g_ 6 ?_;exact⟨false,⟨[],[],0⟩,.pointer none,[],J,(by unfold g9;rw[aj (by rw[o];decide)];dsimp only;rw[aj g,<-q,<-hle,ao (bG K)];rfl),(by intro e;cases e),λ_=>rfl,h⟩
 have JS:g9 ws=some (mr (ws++[last]) aq):=(by unfold g9;rw[aj (by rw[o];decide)];dsimp only;rw[aj g,<-q,<-hle,aj (by intro f;rcases f with f|f;omega;exact K f)]);have aIA:aq<=11:=I;clear o g Y Z z q B zy D hle hw bF V K jW;refine g_ 4 ?_;replace h:=h.ghost (C ([]++[]) 3);refine me (ob:=none) [] [] (ws.map af) h 0 J J J b8.nil (Src.slice (q2:=0) (Has.at_ (b:=wb)) (Rd.left _ _) (by simp)) (by intro x hx;obtain⟨y,_,rfl⟩:=jS.1 hx;rfl) I an J ?_;intro w ob8 c8 L h qZ zi M;dsimp only[bJ]at h;rw[List.nil_append]at h qZ;refine dg (mf J (mH _) h ?_);intro s w h;refine me (ws.map af) L [af last] h 1 J J J ⟨by simp,qZ,zi,M⟩ (Src.slice (j:=0) (q2:=0) J ⟨J,trivial⟩ J) (by intro x hx;simp at hx;subst hx;rfl) I an J ?_;intro w dR c9 N h dC gl fk;dsimp only[bJ]at h;rw[RB]at h dC
 obtain⟨n,rfl⟩: ∃n,dR=some n:=by
  cases dR with
  |none=>have:=fk J;omega
  |some n=>exact⟨n,J⟩
 replace h:=h.tail;obtain⟨al,O⟩: ∃al,al=ws++[last]:=⟨_,J⟩;rw[<-O]at h;have j7:W al=W ws+1:=(by rw[O];simp);refine g_ 5 ?_;refine ak (Gj (aqP _) J) (tL h J J J ?_);intro bt w h;refine g_ 8 ?_;replace h:=((h.ghost (C (ar af []++[]) 3)).ghost (C (ar af []++[]) 3)).mv 2;dsimp only[dX]at h;refine cw (σ:=Nat×(List (Nat×Nat))×Option Nat×Nat×List Value×Option Nat×Nat×List Value) [(11,13),(68,112)] (λ⟨w0,rows,a,c1,cg,d,c2,cZ⟩ ρ w=>Kn ρ [(11,af (w0+1))]/\H r w ((ah bt [.slice (aI a) (W rows) c1,.slice (aI d) (W rows) c2,af aq] 146)::(a,C (ar af (rS rows)++cg) 3)::(d,C (ar af (rB rows)++cZ) 3)::(ah n (ar af al++N) 3)::F)/\(b8 a (W rows) c1 (ar af (rS rows)) cg 1)/\(b8 d (W rows) c2 (ar af (rB rows)) cZ 1)/\(w0<=aq)/\(rows=df al aq w0)) (λ⟨w0,rows,a,c1,cg,d,c2,cZ⟩=>aq-w0) (0,[],none,0,[],none,0,[]) ⟨az,h,b8.nil,b8.nil,cj _,J⟩ ?_;rintro⟨w0,rows,a,c1,cg,d,c2,cZ⟩ ρ w ⟨⟨r_,rfl⟩,h,fe,fP,mI,r'⟩;refine g_ 7 ?_;refine au J ?_ ?_<;>intro GB
 have af4:=Cw (I:w0+1-1<=20);refine g_ 10 ?_;refine cw (σ:=Nat×(List (Nat×Nat))×Option Nat×Nat×List Value×Option Nat×Nat×List Value) [(12,13),(75,112)] (λ⟨i,rows,a,c1,cg,d,c2,cZ⟩ ρ w=>Kn ρ [(75,af i)]/\H r w ((ah bt [.slice (aI a) (W rows) c1,.slice (aI d) (W rows) c2,af aq] 146)::(a,C (ar af (rS rows)++cg) 3)::(d,C (ar af (rB rows)++cZ) 3)::(ah n (ar af al++N) 3)::F)/\(b8 a (W rows) c1 (ar af (rS rows)) cg 1)/\(b8 d (W rows) c2 (ar af (rB rows)) cZ 1)/\(i<=W al)/\(rows=df al aq w0++ff al aq (w0+1) i)) (λ⟨i,rows,a,c1,cg,d,c2,cZ⟩=>W al-i) (0,rows,a,c1,cg,d,c2,cZ) ⟨az,h,fe,fP,cj _,(by rw[r',ff,dN])⟩ ?_;rintro⟨i,rows,a,c1,cg,d,c2,cZ⟩ ρ w ⟨⟨sV,rfl⟩,h,fe,fP,hi,r'⟩;refine g_ 5 ?_;refine au J ?_ ?_<;>intro aIB
 refine g_ 7 ?_;refine aX h J (M8 I) ?_;refine g_ 10 ?_;refine au J ?_ ?_<;>intro Nl
 refine g_ 5 ?_;refine⟨aS,?_⟩
 first
   | (have zx:rows=df al aq w0++ff al aq (w0+1) (i+1):=by rw[r',ff,aj Nl,dN]
      exact Exists.intro (i+1,rows,a,c1,cg,d,c2,cZ) ⟨cQ,az,h,fe,fP,I,zx⟩)
   | (have P:k=2^(w0+1-1):=I
      have zx:rows=df al aq w0++ff al aq (w0+1) (i+1):=by rw[r',ff,ao u,bV,P]
      have mP:=Cw (I:w0+1-1<=10)
      exact Exists.intro (i+1,rows,a,c1,cg,d,c2,cZ) ⟨cQ,az,h,fe,fP,I,zx⟩)
 have u:aa al i 0=w0+1:=I;refine g_ 5 ?_;refine ak (gY J J dQ aG) ?_;refine g_ 3 ?_;refine cw (σ:=Nat×(List (Nat×Nat))×Option Nat×Nat×List Value×Option Nat×Nat×List Value) [(86,111)] (λ⟨k,rows,a,c1,cg,d,c2,cZ⟩ ρ w=>Kn ρ [(86,af k)]/\H r w ((ah bt [.slice (aI a) (W rows) c1,.slice (aI d) (W rows) c2,af aq] 146)::(a,C (ar af (rS rows)++cg) 3)::(d,C (ar af (rB rows)++cZ) 3)::(ah n (ar af al++N) 3)::F)/\(b8 a (W rows) c1 (ar af (rS rows)) cg 1)/\(b8 d (W rows) c2 (ar af (rB rows)) cZ 1)/\(k<=2^(w0+1-1))/\(rows=df al aq w0++ff al aq (w0+1) i++aT k (i,aq+1- (w0+1)))) (λ⟨k,rows,a,c1,cg,d,c2,cZ⟩=>2^(w0+1-1) -k) (0,rows,a,c1,cg,d,c2,cZ) ⟨az,h,fe,fP,cj _,(by rw[r',I2,dN])⟩ ?_;rintro⟨k,rows,a,c1,cg,d,c2,cZ⟩ ρ w ⟨⟨wK,rfl⟩,h,fe,fP,hk,r'⟩;refine g_ 5 ?_;refine au J ?_ ?_<;>intro GK
 have Cz:=asi (al:=al) (aq:=aq) (I:w0+1<=11) (I:W al<=257) hi hk (i,aq+1- (w0+1));rw[<-r']at Cz;refine g_ 3 ?_;refine xK h (de [0,4,8,12,16,24,36,40,44,52,56,60,64,21] (.fork (de [30] (.fork (de [35,49,70,75,76,80,87,88,92,99] .nil) (.fork (de [49] (.fork (de [35,70,75,76,80,87,88,92,99] .nil) (de [70,35,75,76,80,87,88,92,99] .nil))) (de [70] (.fork (de [35,49,75,76,80,87,88,92,99] .nil) (de [49,35,75,76,80,87,88,92,99] .nil)))))) (.fork (de [49] (.fork (de [30] (.fork (de [35,70,75,76,80,87,88,92,99] .nil) (de [70,35,75,76,80,87,88,92,99] .nil))) (de [70,30,35,75,76,80,87,88,92,99] .nil))) (de [70] (.fork (de [30] (.fork (de [35,49,75,76,80,87,88,92,99] .nil) (de [49,35,75,76,80,87,88,92,99] .nil))) (de [49,30,35,75,76,80,87,88,92,99] .nil)))))) ?_;intro w h;refine aC 14 ?_;refine gR ?_ ?_
 refine ld J J (mH _) h ?_;intro s w h;refine gR ?_ ?_
 refine nU (ar af (rS rows)) cg [af i] J h 2 J J J fe (Src.slice (j:=0) (q2:=0) J ⟨J,trivial⟩ J) (by intro x hx;simp at hx;subst hx;rfl) I an J ?_;intro w EJ EK Cx h sW u6 Cy;dsimp only[bJ]at h;rw[JR (aq+1- (w0+1))]at h sW;refine aC 1 ?_;refine ld J J (mH _) h ?_;intro bx w h;exact RC
 refine gR ?_ ?_
 refine aC 1 ?_;refine gR ?_ ?_
 exact af3
 refine ld J J (mH _) h ?_;intro bx w h;exact YN
 refine ld J J (mH _) h ?_;intro bx w h;refine gR ?_ ?_
 refine nU (ar af (rS rows)) cg [af i] J h 3 J J J fe (Src.slice (j:=1) (q2:=0) J ⟨J,trivial⟩ J) (by intro x hx;simp at hx;subst hx;rfl) I an J ?_;intro w EJ EK Cx h sW u6 Cy;dsimp only[bJ]at h;rw[JR (aq+1- (w0+1))]at h sW;refine aC 1 ?_;exact RC
 refine aC 1 ?_;exact YN
 refine gR ?_ ?_
 refine aC 1 ?_;refine gR ?_ ?_
 refine ld J J (mH _) h ?_;intro s w h;refine gR ?_ ?_
 exact af3
 refine ld J J (mH _) h ?_;intro bx w h;exact YN
 refine ld J J (mH _) h ?_;intro bx w h;refine ld J J (mH _) h ?_;intro s w h;exact YM
 refine ld J J (mH _) h ?_;intro bx w h;refine gR ?_ ?_
 refine ld J J (mH _) h ?_;intro s w h;refine gR ?_ ?_
 refine nU (ar af (rS rows)) cg [af i] J h 3 J J J fe (Src.slice (j:=0) (q2:=0) J ⟨J,trivial⟩ J) (by intro x hx;simp at hx;subst hx;rfl) I an J ?_;intro w EJ EK Cx h sW u6 Cy;dsimp only[bJ]at h;rw[JR (aq+1- (w0+1))]at h sW;refine aC 1 ?_;refine nU (ar af (rB rows)) cZ [af (aq+1- (w0+1))] J h 4 J J J fP (Src.slice (j:=1) (q2:=0) J ⟨J,trivial⟩ J) (by intro x hx;simp at hx;subst hx;rfl) I an J ?_;exact YH
 refine aC 1 ?_;exact YM
 refine aC 1 ?_;refine ld J J (mH _) h ?_;intro s w h;exact YM
 refine g_ 5 ?_;refine⟨aS,?_⟩
 first
   | (have zx:rows=df al aq w0++ff al aq (w0+1) (i+1):=by rw[r',ff,aj Nl,dN]
      exact Exists.intro (i+1,rows,a,c1,cg,d,c2,cZ) ⟨cQ,az,h,fe,fP,I,zx⟩)
   | (have P:k=2^(w0+1-1):=I
      have zx:rows=df al aq w0++ff al aq (w0+1) (i+1):=by rw[r',ff,ao u,bV,P]
      have mP:=Cw (I:w0+1-1<=10)
      exact Exists.intro (i+1,rows,a,c1,cg,d,c2,cZ) ⟨cQ,az,h,fe,fP,I,zx⟩)
 have Q:i=W al:=I;refine g_ 6 ?_;refine⟨aS,?_⟩;have zx:rows=df al aq (w0+1):=(by rw[r',Q,df]);refine⟨(w0+1,rows,a,c1,cg,d,c2,cZ),?_⟩;refine⟨cQ,?_⟩;refine⟨az,?_⟩;refine⟨h,?_⟩;exact⟨fe,fP,I,zx⟩
 have xW:w0=aq:=Nat.le_antisymm mI (Ml (xy GB));rw[xW]at r';refine g_ 8 ?_;rw[O]at r';have AD:=asj JS;rw[<-r']at AD;have lZ:0<W rows:=(by rw[AD];exact eA _);refine(b8.some fe lZ).elim λs1 R=>?_;rw[R]at h;refine(b8.some fP lZ).elim λs2 S=>?_;rw[S]at h;refine⟨true,_,_,[(ah bt [.slice (aI (some s1)) (W rows) c1,.slice (aI (some s2)) (W rows) c2,af aq] 146),(ah s1 (ar af (rS rows)++cg) 3),(ah s2 (ar af (rB rows)++cZ) 3)],J,by rw[JS];rfl,λ_=>?_,(by intro e;cases e),((h.mv 3).tail)⟩;refine⟨bt,s1,s2,c1,c2,cg,cZ,J,?_,?_,?_⟩
 show _∈(_::_);unfold mr;rw[<-r',cB,cB];exact fQ ..
 unfold mr;rw[<-r'];exact aA bZ
 unfold mr;rw[<-r'];exact aA (aA bZ)
def YO{size log:Nat}{shares:List Int}{cs:List dx}(b:W cs=size): ∀{n x:Nat},neg shares n<=size->size-neg shares n<=x->x<size-> ∃s,s<n/\aa (top size log shares cs n) x default=⟨s,log,0⟩/\aa shares s 0= -1
 |0,x,_,h1,h2=>by simp[neg]at h1;omega
 | n+1,x,d,h1,h2=>by
  have hm:= @Aw shares n (n+1) I;by_cases h:aa shares n 0= -1
  have c:neg shares (n+1)=neg shares n+1:=(by rw[neg,ao h]);rw[top,ao h];by_cases e:size-neg shares (n+1)=x
  refine⟨n,I,?_,h⟩;rw[e_,ao ⟨e,by rw[zt];omega⟩]
  obtain⟨s,hs,e2,a⟩:=YO (log:=log) (shares:=shares) (cs:=cs) b (n:=n) (x:=x) I I h2;refine⟨s,I,?_,a⟩;rw[e_,aj I,e2]
  have c:neg shares (n+1)=neg shares n:=(by rw[neg,aj h];omega);obtain⟨s,hs,e2,a⟩:=YO (log:=log) (shares:=shares) (cs:=cs) b (n:=n) (x:=x) I I h2;exact⟨s,I,by rw[top,aj h,e2],a⟩
def YP{log:Nat}{shares:List Int}{cs:List dx}{i:Nat}(hi:i<W cs): ∀{j:Nat},i<j->aa (fin log shares cs j).2 i default=⟨(aa cs i default).sym,iJ log (aa (fin log shares cs i).1 (aa cs i default).sym 0).toNat,(aa (fin log shares cs i).1 (aa cs i default).sym 0).toNat*2^iJ log (aa (fin log shares cs i).1 (aa cs i default).sym 0).toNat-2^log⟩
 | j+1,h=>by
  rw[fin];simp only;by_cases e:i=j
  subst e;rw[e_,ao ⟨J,by rw[(Ax _ _ _ _).2];exact hi⟩,Ay (aW _)]
  rw[e_,aj I,YP hi I]
def af6{log n:Nat}(h1:1<=n)(h2:n<2^(log+1)):iJ log n<=log/\2^log<=n*2^iJ log n/\n*2^iJ log n+2^iJ log n<=2*2^log:=by
 have a:n≠0:=I;have d:n.log2<=log:=(by have:=(qR a).2 h2;omega);have c:=F2 a;have hb:= @yQ n;have b:2^n.log2*2^iJ log n=2^log:=(by rw[<-h_];congr 1;unfold iJ;omega);have e2:2^(n.log2+1)*2^iJ log n=2*2^log:=(by rw[jI,im _ 2,sK,b]);refine⟨by unfold iJ;omega,?_,?_⟩
 rw[<-b];exact rL _ c
 rw[<-e2];have:=rL (2^iJ log n) (show n+1<=2^(n.log2+1)from hb);rw[vY]at this;exact this
def GL{shares:List Int}{log:Nat}(h:iy shares log){i:Nat}(hi:i<2^log):(aa (dn shares log) i default).bits<=log/\(aa (dn shares log) i default).base+2^(aa (dn shares log) i default).bits<=2^log/\(aa (dn shares log) i default).sym<W shares/\aa shares (aa (dn shares log) i default).sym 0≠0:=by
 unfold dn;rcases dq i (high shares log)with h1|h1
 obtain⟨s,e,h2,a⟩:=JE h h1;rw[YP (by rw[M5];exact hi) h1,e];simp only;obtain⟨n,c⟩: ∃n,n=aa (fin log shares (spread shares log) i).1 s 0:=⟨_,J⟩;have b:= @Yf log shares (spread shares log) s i;rw[<-c]at b ⊢;have d:=h.hi s;have e2:((2:Int)^log)=((2^log:Nat):Int):=(by simp);have f:=h.wB;have g:2^(log+1)=2*2^log:=(by rw[jI];omega);have:= @af6 log n.toNat I I;exact⟨this.1,I,h2,I⟩
 rw[Ay h1];unfold spread;rw[M4 h1];have hs:=h.sum;obtain⟨s,h2,a,b⟩:=YO (log:=log) (shares:=shares) (cs:=aT (2^log) (default:dx)) (size:=2^log) (by simp) (n:=W shares) (x:=i) I h1 hi;rw[a];refine⟨aW _,?_,h2,by simp only;omega⟩;simp only;omega
def sd(N:Nat)(cs:List dx):Nat->Nat->Nat->Int->List Nat->Option (List Nat)
 |0,_,_,_,_=>none
 | f+1,cur,a,left,out=>
   let c:=aa cs cur default
   if left-c.bits<0 then(if W out+2<=255 then some (out++[c.sym]++[(aa cs a default).sym])else none)
   else if 255<W out+1 then none
   else sd N cs f a (c.base+dE N left c.bits) (left-c.bits) (out++[c.sym])
def wF(E:List UInt8):Option (List Nat):=
 match fO (num E) (W E) 6 256 with
 |none=>none
 | some x=>
   let a:=E.drop (min x.2.2 (W E))
   match jg a with
   |none=>none
   | some left=>
     let lg:=x.2.1
     let cs:=dn x.1 lg
     if(left:Int) -lg-lg<0 then none
     else sd (num a) cs 257 (dE (num a) left lg) (dE (num a) ((left:Int) -lg) lg) ((left:Int) -lg-lg) []
def af7{N:Nat}{cs:List dx}: ∀{f cur a:Nat} {left:Int} {out ws:List Nat},sd N cs f cur a left out=some ws->W ws<=255/\2<=W ws
 | f+1,cur,a,left,out,ws,h=>by
  rw[sd]at h;split at h
  split at h
  cases h;simp;omega
  cases h
  split at h
  cases h
  exact af7 h
def Nm(N:Nat)(cs:List dx)(f cur a:Nat)(left:Int)(out:List Nat):sd N cs (f+1) cur a left out=
 if left- (aa cs cur default).bits<0 then(if W out+2<=255 then some (out++[(aa cs cur default).sym]++[(aa cs a default).sym])else none)
 else if 255<W out+1 then none
 else sd N cs f a ((aa cs cur default).base+dE N left (aa cs cur default).bits) (left- (aa cs cur default).bits) (out++[(aa cs cur default).sym]):=rfl
attribute [irreducible] sd
def RD(c:dx): ∃x y z,c=⟨x,y,z⟩:=⟨_,_,_,J⟩
def aIC{α:Type}(a:α): ∃b,a=b:=⟨a,J⟩
def gL(E:List UInt8):Option (Tr×Nat):=
 if W E=0 then none
 else
   let b:=byte E 0
   let size:=if 128<=b then(b-127+1)/2 else b
   if W E<1+size then none
   else if 128<=b then(g9 ((cL (b-127)).map λi=>byte E (1+i/2)/2^(4-i % 2*4) % 16)).map λt=>(t,1+size)
   else(wF (ag E 1 size)).bind λws=>(g9 ws).map λt=>(t,1+size)
variable {i x0 x1 y:Nat}
def asq{D:List UInt8}{len size:Nat}:(ag D q len).drop (min size len)=ag D (q+min size len) (len-min size len):=tS
def YQ(hi:i=0\/i=1):([af x0,af x1]:List Value)[i]? =some (af (if i=0 then x0 else x1)):=by
 rcases hi with rfl|rfl<;>rfl
def asr(hi:i=0\/i=1):([af x0,af x1]:List Value).set i (af y)=[af (if i=0 then y else x0),af (if i=0 then x1 else y)]:=by
 rcases hi with rfl|rfl<;>rfl
def ass(hi:i=0\/i=1):([af (if i=0 then y else x0),af (if i=0 then x1 else y)]:List Value)[1-i]? =some (af (if i=0 then x1 else x0)):=by
 rcases hi with rfl|rfl<;>rfl
def ast{a a' b b':Value}(h:a=a')(c:b=b'):Ending.returned (.tuple #[a,b])= .returned (.tuple #[a',b']):=by rw[h,c]
def asu{D:List UInt8}{len:Nat}(h:H r w F)(hm:(ah db (D.map u8) T)∈F)(K:0<len->ad=some ⟨db,q,none⟩)(Y:q+len<=W D)(j9:len<=cap)(hlen:len<=140737488355328):Calls PP 70 #[.slice ad len cap] w λe w'=> ∃ok out ob c sp,e= .returned (.tuple #[.slice (aI ob) (W out) c,.bool ok])/\wF (ag D q len)=(if ok=true then some out else none)/\b8 ob (W out) c (out.map af) sp 1/\H r w' ((ob,C (out.map af++sp) 3)::F):=by
 obtain⟨wD,wE⟩:=dw hm;have Z:=dK Y
 have L: ∀shares lg size,fO (num (ag D q len)) len 6 256=some (shares,lg,size)->wF (ag D q len)=match jg ((ag D q len).drop (min size len))with
     |none=>none
     |some left=>if(left:Int) -lg-lg<0 then none else sd (num ((ag D q len).drop (min size len))) (dn shares lg) 257 (dE (num ((ag D q len).drop (min size len))) left lg) (dE (num ((ag D q len).drop (min size len))) ((left:Int) -lg) lg) ((left:Int) -lg-lg) []:=by
   intro shares lg size hp
   unfold wF;rw[Z,hp];try rfl
 refine iu func70 ntmps70 [2,3] ?_;refine g_ 8 ?_;refine eS (v1:=af 6) (v2:=af 256) J J J J (aH (afW (lJ:=6) (symbols:=256) h hm K Y I I I) ?_);rintro e o ⟨ok,shares,lg,size,ob,cp,sp,rfl,p,A,h⟩;refine g_ 14 ?_;refine ak (k8 J) (aJ (eY J ?_ ?_))<;>intro p6
 (have B:ok=false:=by cases ok<;>first|rfl| (exfalso;revert p6;decide));rw[B]at p;refine g_ 6 ?_;exact⟨false,[],none,0,[],J,(by unfold wF;rw[Z,p];rfl),b8.nil,h.tail.ghost _⟩
 (obtain rfl:ok=true:=by cases ok<;>first|rfl| (exfalso;revert p6;decide));rw[ao J]at p;have s:=Ez p I I;obtain⟨b_,rfl⟩:=A.some s.1.JD;have k:=L _ _ _ p;rw[asq]at k;refine g_ 7 ?_;refine ak (Ao J J) (ak (jJ (a:=min size len) J J I I) (d' J J (aH (Yx (ad:=cut ad cap (min size len) 1) (q:=q+min size len) h (aA hm) (λh0=>eU (K I) I) I I) ?_)));rintro e o ⟨E,bo,left,rfl,t,Cu,jD,h⟩;refine g_ 10 ?_;refine ak (k8 J) (aJ (eY J ?_ ?_))<;>intro Cr
 (have B:E=false:=by cases E<;>first|rfl| (exfalso;revert Cr;decide));rw[B]at t;obtain rfl:=jD B;refine g_ 6 ?_;exact⟨false,[],none,0,[],J,(by rw[k,t];rfl),b8.nil,h.tail.tail.ghost _⟩
 (obtain rfl:E=true:=by cases E<;>first|rfl| (exfalso;revert Cr;decide));obtain⟨bb,rfl⟩:=Cu J;rw[ao J]at t;rw[t]at k;dsimp only at k;have wL:=YA t;rw[dK I]at wL;have Na:=wI s.1.mJ.2;have CA:=s.2.1;have M:=xQ shares lg;have fi:=wx (num (ag D (q+min size len) (len-min size len))) (left:Int) lg;have cS:=wx (num (ag D (q+min size len) (len-min size len))) ((left:Int) -lg) lg;have N:0<len-min size len->cut ad cap (min size len) 1=some ⟨db,q+min size len,none⟩:=λh0=>eU (K I) I;refine g_ 5 ?_;refine cJ J J J (aH (GC (sb:=b_) (shares:=shares) (sp:=sp) (log:=lg) (h.mv 0) (aA bZ) s.1 A.2.2.1) ?_);rintro e o ⟨cb,rfl,h⟩;refine eN h J ?_;intro bt w h;refine cI ?_;intro w h;refine g_ 5 ?_;replace h:=h.zz [2] 0;refine cJ J J J (aH (Gv (ad:=cut ad cap (min size len) 1) (q:=q+min size len) (len:=len-min size len) (left:=(left:Int)) (n:=lg) h (aA (aA (aA (hm)))) N I I I I I) ?_);rintro e o ⟨rfl,h⟩;refine dg (dg (cJ J J J (aH (Gv (ad:=cut ad cap (min size len) 1) (q:=q+min size len) (len:=len-min size len) (left:=((left:Int) -lg)) (n:=lg) h (aA (aA (aA (hm)))) N I I I I I) ?_)));rintro e o ⟨rfl,h⟩;refine ak (At (aqT _ _) J J) (eN h J ?_);intro bs w h;refine cI ?_;intro w h;refine g_ 8 ?_;refine ak (rR (v:=0) J J) (aJ (au J ?_ ?_))<;>intro YR
 refine g_ 6 ?_;exact⟨false,[],none,0,[],J,(by rw[k,ao YR];rfl),b8.nil,h.tail.tail.tail.tail.tail.ghost _⟩
 refine g_ 10 ?_;refine cM (sd (num (ag D (q+min size len) (len-min size len))) (dn shares lg) 257 (dE (num (ag D (q+min size len) (len-min size len))) (left:Int) lg) (dE (num (ag D (q+min size len) (len-min size len))) ((left:Int) -lg) lg) ((left:Int) -lg-lg) []) λR nu=>?_;have u:wF (ag D q len)=R:=(by rw[k,aj YR];exact nu);clear k;replace h:=((((h.mv 4).tail).ghost (C (ar af []++[]) 3)).mv 1).mv 2;dsimp only[dX]at h;refine cw (σ:=Nat×Nat×Nat×Nat×Int×List Nat×Option Nat×Nat×List Value) [(2,3),(11,12),(49,93)] (λ⟨f,i,b,s1,left,out,ob,c,sp⟩ ρ w=>Kn ρ [(12,af i),(11,.slice (aI ob) (W out) c)]/\H r w ((ah bb [.slice (cut ad cap (min size len) 1) (len-min size len) (cap-min size len),.int .i64 left] 155)::(ah bs [af b,af s1] 170)::(ob,C (ar af out++sp) 3)::(ah bt [cK cb (2^lg) (2^lg),af lg] 124)::(ah cb (gC (dn shares lg)) 126)::F)/\(i=0\/i=1)/\(b<2^lg)/\(s1<2^lg)/\(0<=left)/\(left<=8*(len-min size len:Nat))/\(W out<=255)/\(257<=f+W out)/\(b8 ob (W out) c (ar af out) sp 1)/\(sd (num (ag D (q+min size len) (len-min size len))) (dn shares lg) f (if i=0 then b else s1) (if i=0 then s1 else b) left out=R)) (λ⟨f,i,b,s1,left,out,ob,c,sp⟩=>257-W out) (257,0,(dE (num (ag D (q+min size len) (len-min size len))) (left:Int) lg),(dE (num (ag D (q+min size len) (len-min size len))) ((left:Int) -lg) lg),((left:Int) -lg-lg),[],none,0,[]) ⟨az,h,(a_ J),fi,cS,I,I,(cj _),(by simp),b8.nil,nu⟩ ?_;rintro⟨f,i,b,s1,left,out,ob,c,sp⟩ ρ w ⟨⟨ny,rfl⟩,h,hi,xX,fe,mh,qZ,AF,hf,A,hR⟩;refine aZ (RD (aa (dn shares lg) (if i=0 then b else s1) default)) (λl h1=>aZ h1 (λbi h2=>aZ h2 (λd m=>?_)));refine B9 (RD (aa (dn shares lg) (if i=0 then s1 else b) default)) λO oH ba2 CB=>?_;have P:(if i=0 then b else s1)<2^lg:=(by split<;>assumption);have y:(if i=0 then s1 else b)<2^lg:=(by split<;>assumption);have YU:(if i=0 then b else s1)<W (dn shares lg):=(by rw[M];exact P);have JF:(if i=0 then s1 else b)<W (dn shares lg):=(by rw[M];exact y);have zA:=GL s.1 P;rw[m]at zA;dsimp only at zA;have hpb:=eA bi;have Nn:(aa (dn shares lg) (if i=0 then b else s1) default).bits<=32:=(by rw[m];dsimp only;omega);have EL:(aa (dn shares lg) (if i=0 then b else s1) default).base<=1099511627776:=(by rw[m];dsimp only;omega);have r9:=wx (num (ag D (q+min size len) (len-min size len))) left bi;refine aZ (show ∃f1,f=f1+1 from⟨f-1,I⟩) (λf1 qW=>?_);have g:=hR;rw[qW,Nm,m,CB]at g;dsimp only at g;refine g_ 3 ?_;refine cm h [0,4,12,16,9,21,24,28,33,38,43,44] ?_;intro w h;refine aC 5 ?_;refine aQ J h J (YQ hi) (aD J (lu J J J P) (XA J J (aQ J h J (Ey YU m) (ld J J (mH _) h ?_))));intro bz w h;refine nU (ar af out) sp [af l] J h 3 J J J A (Src.slice (j:=0) (q2:=0) J ⟨J,trivial⟩ J) (by intro x z;simp at z;subst z;rfl) I an J ?_;intro w EJ EK Cx h Q u6 Cy;dsimp only[bJ]at h;rw[RB]at h Q;replace h:=h.tail;(try dsimp only[dX]at h);refine fG J (cO (bY (cm h [0,8,12,16,5,21,27,28,35] ?_)));intro w h;refine aC 4 ?_;refine yZ J (λw hk=>jx [_,_] (h.keeps hk) J ⟨J,J,trivial⟩ J) J (aQ J h J (YQ hi) (Ar J J J J J ?_));have G:=afP (ad:=cut ad cap (min size len) 1) (q:=q+min size len) (len:=len-min size len) (lg:=af lg) (cs:=(dn shares lg)) (cl:=2^lg) (i:=(if i=0 then b else s1)) h (aA (aA (aA (aA (hm))))) N I (aA (aA (aA bZ))) I I I YU M.symm Nn EL;rw[m]at G;dsimp only at G;refine G.mono ?_;clear G;rintro e o ⟨rfl,h⟩;refine⟨_,J,?_⟩;refine aC 1 ?_;refine dt (af (d+dE (num (ag D (q+min size len) (len-min size len))) left bi)) (YQ hi) ?_;intro w h;rw[asr hi]at h;refine cO ?_;refine g_ 7 ?_;refine ak (rR (v:=0) J J) (aJ (au J ?_ ?_))<;>intro S
 refine bY (cm h [0,4,12,16,20,9,25,28,32,37,42,47,48] ?_);intro w h;refine aC 6 ?_;refine aQ J h J (ass hi) (aD J (lu J J J y) (XA J J (aQ J h J (Ey JF CB) (ld J J (mH _) h ?_))));intro bz w h;refine nU (ar af (out++[l])) Cx [af O] J h 3 J J J ⟨by rw[cB,aF,I1,fg],Q,u6,Cy⟩ (Src.slice (j:=0) (q2:=0) J ⟨J,trivial⟩ J) (by intro x z;simp at z;subst z;rfl) I an J ?_;intro w YI YJ YK h Nj GJ YL;dsimp only[bJ]at h;rw[RB]at h Nj;replace h:=h.tail;(try dsimp only[dX]at h);refine fG J (cO ?_);refine g_ 10 ?_;have U:W (out++[l]++[O])=W out+2:=(by simp);rw[ao S]at g;refine⟨decide (W out+1+1<=255),out++[l]++[O],YI,YJ,YK,?_⟩;refine⟨ast (jw J U.symm J) J,(by rw[u,<-g];by_cases e:W out+1+1<=255<;>simp[e]),?_,?_⟩
 rw[U];exact⟨by rw[cB,U,fg],Nj,GJ,YL⟩
 exact((h.mv 4).tail.mv 3).tail.tail.tail
 refine g_ 7 ?_;refine au J ?_ ?_<;>intro r7
 refine g_ 6 ?_;rw[aj S,ao I]at g;exact⟨false,[],none,0,[],J,(by rw[u,<-g];rfl),b8.nil,h.tail.tail.tail.tail.tail.ghost _⟩
 refine g_ 6 ?_;refine⟨aS,?_⟩;have V:(if 1-i=0 then(if i=0 then(d+dE (num (ag D (q+min size len) (len-min size len))) left bi)else b)else(if i=0 then s1 else(d+dE (num (ag D (q+min size len) (len-min size len))) left bi)))=(if i=0 then s1 else b):=(by clear h;rcases hi with hi|hi<;>rw[hi]<;>rfl);have X:(if 1-i=0 then(if i=0 then s1 else(d+dE (num (ag D (q+min size len) (len-min size len))) left bi))else(if i=0 then(d+dE (num (ag D (q+min size len) (len-min size len))) left bi)else b))=(d+dE (num (ag D (q+min size len) (len-min size len))) left bi):=(by clear h;rcases hi with hi|hi<;>rw[hi]<;>rfl);have JG:W (out++[l])=W out+1:=(by simp);rw[aj S,aj I]at g;refine⟨(f1,1-i,(if i=0 then(d+dE (num (ag D (q+min size len) (len-min size len))) left bi)else b),(if i=0 then s1 else(d+dE (num (ag D (q+min size len) (len-min size len))) left bi)),left-bi,out++[l],EJ,EK,Cx),cQ,?_⟩;refine⟨Kn.mk ⟨J,jw J JG.symm J,trivial⟩,h,?_⟩;refine⟨I,(by split<;>omega),(by split<;>omega),I,I,I,I,⟨by rw[cB,fg],Q,I,Cy⟩,?_⟩;rw[V,X];exact g
def asx{ρ:Env}{T T' ty:TypeId}{x y:Operand}{k:IntKind}{u:Int}{a:Nat}(c:aL ρ x= .int k u)(d:aL ρ y= .int k ((15:Nat):Int)) [h1:av u a](e:a<=aN k):run P ρ (.binOp .and T x y T') ty w= .ok (.value (.int k ((a % 16:Nat):Int))) w:=by
 rw[yT (b:=15) c d e (by cases k<;>simp[aN])];have:a&&&15=a % 16:=F6 a 4;rw[this]
def af_{ob:Option Nat}{b:Nat}(h:ob=some b):aI ob=some ⟨b,0,none⟩:=by rw[h];rfl
def AJ{D:List UInt8}{len:Nat}(h:i<len):byte (ag D q len) i=(aa D (q+i) 0).toNat:=by rw[byte,lD h]
def YW{E:List UInt8}(h:wF E=some ws):W ws<=255/\2<=W ws:=by
 unfold wF at h;split at h
 cases h
 dsimp only at h;split at h
 cases h
 split at h
 cases h
 exact af7 h
def asy{D:List UInt8}{len:Nat}(h:H r w F)(hm:(some db,C (D.map u8) T)∈F)(k:0<len->ad=some ⟨db,q,none⟩)(L:q+len<=W D)(j9:len<=cap)(hlen:len<=140737488355328):Calls PP 61 #[.slice ad len cap] w λe w'=> ∃ok t n p G,e= .returned (.tuple #[p,af n,.bool ok])/\gL (ag D q len)=(if ok=true then some (t,n)else none)/\(ok=true->u4 G p t)/\(ok=false->p= .pointer none)/\H r w' (G++F):=by
 obtain⟨wD,wE⟩:=dw hm;have M:=dK L;have jL:=toNat_le (aa D (q+0) 0);refine iu func61 ntmps61 [2,3,4] ?_;refine g_ 13 ?_;refine au J ?_ ?_<;>intro GN
 refine g_ 7 ?_;exact⟨false,⟨[],[],0⟩,0,.pointer none,[],J,(by unfold gL;rw[ao I];rfl),(by intro e;cases e),λ_=>rfl,h⟩
 refine g_ 8 ?_;refine ak (da (a:=0) (h1:=av.lit _) J J (k I) I) (aX h J (gX I) ?_);refine g_ 8 ?_;refine cW [(6,7),(20,26)] (λρ w=> ∃n size:Nat,Kn ρ [(6,af n),(7,af size)]/\H r w (F)/\(n=(if 128<=(aa D (q+0) 0).toNat then(aa D (q+0) 0).toNat-127 else(aa D (q+0) 0).toNat))/\(size=(if 128<=(aa D (q+0) 0).toNat then((aa D (q+0) 0).toNat-127+1)/2 else(aa D (q+0) 0).toNat))) ?_ ?_
 refine g_ 5 ?_;refine au J ?_ ?_<;>intro l
 refine g_ 9 ?_;exact ak (nS (b:=2) (h2:=av.lit _) J J I k_) (ee (aJ ⟨aS,(aa D (q+0) 0).toNat-127,((aa D (q+0) 0).toNat-127+1)/2,az,h,(by rw[ao l]),(by rw[ao l])⟩))
 exact a8 ⟨aS,(aa D (q+0) 0).toNat,(aa D (q+0) 0).toNat,az,h,(by rw[aj l]),(by rw[aj l])⟩
 rintro ρ w ⟨n,size,⟨ny,rfl⟩,h,u,v⟩;have YY:size<=255:=(by rw[v];split<;>omega);have gy:n<=255:=(by rw[u];split<;>omega);have N:=AJ (D:=D) (q:=q) (len:=len) (i:=0) I
 have m:gL (ag D q len)=if len<1+size then none else if 128<=(aa D (q+0) 0).toNat then(g9 ((cL ((aa D (q+0) 0).toNat-127)).map λi=>byte (ag D q len) (1+i/2)/2^(4-i % 2*4) % 16)).map λt=>(t,1+size)
     else(wF (ag (ag D q len) 1 size)).bind λws=>(g9 ws).map λt=>(t,1+size):=by
   unfold gL;rw[M,aj I];dsimp only;rw[N,<-v]
 refine g_ 9 ?_;refine au J ?_ ?_<;>intro tU
 refine g_ 7 ?_;exact⟨false,⟨[],[],0⟩,0,.pointer none,[],J,(by rw[m,ao I];rfl),(by intro e;cases e),λ_=>rfl,h⟩
 refine a8 (cW [(2,5),(8,9),(32,66)] (λρ w=> ∃ws:List Nat,∃wb c:Nat,∃sp:List Value,Kn ρ [(5,cK wb (W ws) c)]/\H r w ((some wb,C (ar af ws++sp) 3)::F)/\(W ws<=c)/\(W ws<=256)/\(gL (ag D q len)=(g9 ws).map λt=>(t,1+size))) ?_ ?_)
 refine g_ 3 ?_;refine ak (da (a:=0) (h1:=av.lit _) J J (k I) I) (aX h J (gX I) ?_);refine g_ 2 ?_;refine au J ?_ ?_<;>intro o
 refine g_ 6 ?_;replace h:=h.ghost (C (ar af []++[]) 3);rw[ao o]at u v;refine cw (σ:=Nat×Option Nat×Nat×List Value) [(5,5),(8,8),(37,56)] (λ⟨i,ob,c,sp⟩ ρ w=>Kn ρ [(37,af i),(5,.slice (aI ob) i c)]/\H r w ((ob,C (ar af ((cL i).map λi=>byte (ag D q len) (1+i/2)/2^(4-i % 2*4) % 16)++sp) 3)::F)/\(i<=n)/\(b8 ob i c (ar af ((cL i).map λi=>byte (ag D q len) (1+i/2)/2^(4-i % 2*4) % 16)) sp 1)) (λ⟨i,ob,c,sp⟩=>n-i) (0,none,0,[]) ⟨az,h,cj _,b8.nil⟩ ?_;rintro⟨i,ob,c,sp⟩ ρ w ⟨⟨nz,rfl⟩,h,hi,f⟩
 have y:((cL i).map λi=>byte (ag D q len) (1+i/2)/2^(4-i % 2*4) % 16)++[(aa D (q+(1+i/2)) 0).toNat/2^(4-i % 2*4) % 16]=((cL (i+1)).map λi=>byte (ag D q len) (1+i/2)/2^(4-i % 2*4) % 16)\/n<=i:=by
  rcases dq i n with s|s
  left;rw[pR,gJ,DM,F4,AJ I]
  exact bG s
 refine g_ 5 ?_;refine au J ?_ ?_<;>intro sZ
 replace y:=y.resolve_right I;refine g_ 12 ?_;refine ak (nS (b:=2) (h2:=av.lit _) J J I k_) ?_;refine g_ 1 ?_;refine ak (da J J (k I) I) (aX h J (gX I) (dg (ak (BR (b:=2) (h2:=av.lit _) J J I) ?_)));refine g_ 3 ?_;refine ak (asx J J (aM (k6 _ _) (dT _ an))) ?_;refine g_ 1 ?_;refine mf J (mH _) h ?_;intro bz w h;refine me (ar af ((cL i).map λi=>byte (ag D q len) (1+i/2)/2^(4-i % 2*4) % 16)) sp [af ((aa D (q+(1+i/2)) 0).toNat/2^(4-i % 2*4) % 16)] h 1 J J J f (Src.slice (j:=0) (q2:=0) J ⟨J,trivial⟩ J) (by intro x B;simp at B;subst B;rfl) I an J ?_;intro w O P Q h E gl R;dsimp only[bJ]at h;rw[RB,y]at h E;replace h:=h.tail;(try dsimp only[dX]at h);refine g_ 6 ?_;exact⟨aS,(i+1,O,P,Q),cQ,az,h,I,by simp,E,I,R⟩
 have s:i=n:=I;have z:W ((cL i).map λi=>byte (ag D q len) (1+i/2)/2^(4-i % 2*4) % 16)=i:=(by simp);have A:b8 ob (W ((cL i).map λi=>byte (ag D q len) (1+i/2)/2^(4-i % 2*4) % 16)) c (ar af ((cL i).map λi=>byte (ag D q len) (1+i/2)/2^(4-i % 2*4) % 16)) sp 1:=(by rw[z];exact f);refine(f.some I).elim λwb g=>?_;exact jl ⟨aS,((cL i).map λi=>byte (ag D q len) (1+i/2)/2^(4-i % 2*4) % 16),wb,c,sp,Kn.mk ⟨jw (af_ g) z.symm J,trivial⟩,(by rw[<-g];exact h),A.2.2.1,(by rw[z];omega),(by rw[m,aj I,ao o,s,u])⟩
 refine g_ 9 ?_;refine ak (wm (a:=1) (h1:=av.lit _) J J J I I) (d' J J (aH (asu (ad:=cut ad cap 1 1) (q:=q+1) (len:=1+size-1) h hm (λh0=>eU (k I) I) I I I) ?_));rintro e S ⟨ok,ws,ob,c,sp,rfl,d,f,h⟩;rw[show 1+size-1=size from by omega,<-jy (D:=D) (q:=q) (n:=len) (a:=1) (b:=size) I]at d;refine g_ 9 ?_;refine ak (k8 J) (aJ (eY J ?_ ?_))<;>intro K
 (have U:ok=false:=by cases ok<;>first|rfl| (exfalso;revert K;decide));rw[U]at d;refine g_ 7 ?_;exact⟨false,⟨[],[],0⟩,0,.pointer none,[],J,(by rw[m,aj I,aj o,d];rfl),(by intro e;cases e),λ_=>rfl,h.tail⟩
 (obtain rfl:ok=true:=by cases ok<;>first|rfl| (exfalso;revert K;decide));rw[ao J]at d;refine aZ (f.some (by have:=YW d;omega)) (λwb g=>?_);exact a8 ⟨aS,ws,wb,c,sp,Kn.mk ⟨jw (af_ g) J J,trivial⟩,(by rw[<-g];exact h),f.2.2.1,(by have:=YW d;omega),(by rw[m,aj I,aj o,d,rO])⟩
 rintro ρ w ⟨ws,wb,c,sp,⟨mn,rfl⟩,h,V,X,Y⟩;refine g_ 3 ?_;refine d' J J (aH (asn (wb:=wb) (ws:=ws) (sp:=sp) (c:=c) h bZ X V) ?_);rintro e S ⟨ok,t,p,G,rfl,Z,RE,JU,h⟩;refine g_ 17 ?_;exact⟨ok,t,1+size,p,G,J,(by rw[Y,Z];cases ok<;>rfl),RE,JU,h.grow.tail⟩
def asA{D:List UInt8}{len:Nat}(h:H r w F)(hm:(ah db (D.map u8) T)∈F)(j:0<len->ad=some ⟨db,q,none⟩)(k:q+len<=W D)(l:len<=cap)(hlen:len<=140737488355328):Calls PP 61 #[.slice ad len cap] w λe w'=> ∃ok t n pp G,e= .returned (.tuple #[.pointer pp,af n,.bool ok])/\gL (ag D q len)=(if ok=true then some (t,n)else none)/\(ok=true-> ∃tb,pp=some ⟨tb,0,none⟩/\u4 G (bL tb) t)/\H r w' (G++F):=by
 refine(asy h hm j k l hlen).mono ?_;rintro e s ⟨ok,t,n,p,G,rfl,h1,g,m,i⟩
 cases ok with
 | true=>
   have o:=g J
   obtain⟨tb,a,b,c,d,e,f,rfl,u⟩:=o
   exact⟨true,t,n,_,G,J,h1,λ_=>⟨tb,J,g J⟩,i⟩
 | false=>
   obtain rfl:=m J
   exact⟨false,t,n,_,G,J,h1,(by intro e;cases e),i⟩
variable {E:List UInt8}{n:Nat}{qv:Option Tr}
abbrev af':=Nat×List UInt8×Nat×Option Tr
def nB(many:Nat)(four:Bool)(a:Nat)(tr:Option Tr)(data:List UInt8):af':=
 match tr with
 |none=>(2,[],0,none)
 | some t=>
   if 131072<many\/many=0 then(0,[],0,none)
   else if(gZ data t many four).1=1 then(1,(gZ data t many four).2,a,some t)else((gZ data t many four).1,[],0,none)
def dZ(tr:Option Tr)(E:List UInt8):af':=
 if W E=0 then(2,[],0,none)
 else if byte E 0 % 4<2 then
   let head:=[1,2,1,3].getD (byte E 0/4 % 4) 0
   if W E<head then(2,[],0,none)
   else
     let n:=num (ag E 0 head)/2^ [3,4,3,4].getD (byte E 0/4 % 4) 0
     if 131072<n then(0,[],0,none)
     else if byte E 0 % 4=1 then(if W E<head+1 then(2,[],0,none)else(1,aT n (aa E head 0),head+1,tr))
     else if W E<head+n then(2,[],0,none)else(1,ag E head n,head+n,tr)
 else
   let head:=[3,3,4,5].getD (byte E 0/4 % 4) 0
   let wide:=[10,10,14,18].getD (byte E 0/4 % 4) 0
   if W E<head then(2,[],0,none)
   else
     let v:=num (ag E 0 head)/16
     let many:=v % 2^wide
     let size:=v/2^wide
     let four:=decide (¬byte E 0/4 % 4=0)
     if W E<head+size then(2,[],0,none)
     else if byte E 0 % 4=2 then
       match gL (ag E head size)with
       |none=>(2,[],0,none)
       |some x=>if aa x.1.bits 0 0<x.1.aq then(0,[],0,none)else nB many four (head+size) (some x.1) ((ag E head size).drop x.2)
     else nB many four (head+size) tr (ag E head size)
def Y1(h:gL E=some (t,n)):xT t/\n<=W E/\ ∀s∈t.syms,s<257:=by
 unfold gL at h;split at h
 cases h
 dsimp only at h;obtain⟨size,hs⟩: ∃s,(if 128<=byte E 0 then(byte E 0-127+1)/2 else byte E 0)=s:=⟨_,J⟩;rw[hs]at h;by_cases b:W E<1+size
 rw[ao b]at h;cases h
 rw[aj b]at h;split at h
 cases a:g9 ((cL (byte E 0-127)).map λi=>byte E (1+i/2)/2^(4-i % 2*4) % 16)with
 |none=>rw[a]at h;cases h
 | some c=>
   rw[a]at h;cases h
   have:=Ni a
   refine⟨this.1,I,λs hs=>?_⟩
   have h2:=this.2 s hs
   rw[cB,BM]at h2
   have:byte E 0<=255:=toNat_le _
   omega
 cases hw:wF (ag E 1 size)with
 |none=>rw[hw]at h;cases h
 | some ws=>
   rw[hw,rO]at h
   cases a:g9 ws with
   |none=>rw[a]at h;cases h
   | some c=>
     rw[a]at h;cases h
     have h1:=Ni a
     have d:=YW hw
     exact⟨h1.1,I,λs hs=>by have:=h1.2 s hs;omega⟩
def aga{E:List UInt8}{t:Tr}{many:Nat}(hm:6<=many): ∀i,i<=4->(f_ E t many i).1=1->W (f_ E t many i).2.1=(if i=4 then many else i*((many+3)/4))
 |0,_,_=>by simp[f_]
 | i+1,hi,he=>by
  rw[f_]at he ⊢;dsimp only at he ⊢;obtain⟨nn,d⟩: ∃x,(if i=3 then many-3*((many+3)/4)else(many+3)/4)=x:=⟨_,J⟩;obtain⟨a,h⟩: ∃x,(if i=3 then W E- (f_ E t many i).2.2 else num (ag E (2*i) 2))=x:=⟨_,J⟩;rw[d,h]at he ⊢;by_cases h1:(f_ E t many i).1≠1
  rw[ao h1]at he;exact absurd he h1
  rw[aj h1]at he ⊢;have e:=aga (E:=E) (t:=t) hm i I I;rw[aj I]at e;by_cases h2:W E- (f_ E t many i).2.2<a
  rw[ao h2]at he;cases he
  rw[aj h2]at he ⊢;by_cases f:nn=0
  rw[ao f]at he;cases he
  rw[aj f]at he ⊢;by_cases b:(gE (ag E (f_ E t many i).2.2 a) t nn).1≠1
  rw[ao b]at he;exact absurd he b
  rw[aj b];dsimp only;rcases Yo (ag E (f_ E t many i).2.2 a) t nn with c|c|c
  omega
  omega
  rw[aF,e,c.2,<-d];by_cases g:i=3
  subst g;simp;omega
  rw[aj g,aj I,vY]
def asB{four:Bool}(h:(gZ E t many four).1=1):W (gZ E t many four).2=many:=by
 unfold gZ at*;by_cases a:four=false
 rw[ao a]at h ⊢;rcases Yo E t many with h1|h1|h1
 omega
 omega
 exact h1.2
 rw[aj a]at h ⊢;by_cases h1:many<6
 rw[ao h1]at h;cases h
 rw[aj h1]at h ⊢;by_cases h2:W E<6
 rw[ao h2]at h;cases h
 rw[aj h2]at h ⊢;exact aga I 4 (aW _) h
def agb{a:Nat}{four:Bool}{tr:Option Tr}{data out:List UInt8}(h:nB many four a tr data=(1,out,n,qv)):W out<=131072/\n=a/\qv=tr/\ ∃t,tr=some t:=by
 unfold nB at h;split at h
 cases h
 rename_i t;split at h
 cases h
 rename_i hm;split at h
 rename_i h1;cases h;exact⟨by rw[asB h1];omega,J,J,t,J⟩
 rename_i h1;have:=cD Prod.fst h;exact absurd this h1
def agc{tr:Option Tr}{out:List UInt8}(h:dZ tr E=(1,out,n,qv))(a: ∀t,tr=some t->xT t):W out<=131072/\n<=W E/\(∀t,qv=some t->xT t):=by
 unfold dZ at h;split at h
 cases h
 split at h
 dsimp only at h;split at h
 cases h
 split at h
 cases h
 rename_i c;split at h
 split at h
 cases h
 cases h;refine⟨by simp only[dS];omega,I,a⟩
 split at h
 cases h
 cases h;refine⟨?_,I,a⟩;rw[dK I];omega
 dsimp only at h;split at h
 cases h
 split at h
 cases h
 split at h
 split at h
 cases h
 rename_i x b;split at h
 cases h
 have:=agb h;refine⟨this.1,I,λt e=>?_⟩;rw[this.2.2.1]at e;cases e;exact(Y1 (t:=x.1) (n:=x.2) b).1
 have:=agb h;refine⟨this.1,I,λt e=>?_⟩;rw[this.2.2.1]at e;exact a t e
variable {ρ:Env}{u:Int}{k:IntKind}{L:List aK}{X:List UInt8}{a b d f:Nat}{x y:Operand}{p:Option Addr}{T' ty:TypeId}
def aY(F:List aK)(v:Value)(X:List UInt8):Prop:= ∃ad n c,v= .slice ad n c/\n=W X/\n<=c/\(0<n-> ∃b q l T,ad=some ⟨b,q,none⟩/\(some b,C l T)∈F/\Rd l q (X.map u8))
def aY.nil(F:List aK):aY F (.slice none 0 0) []:=⟨none,0,0,J,J,aW _,λh=>by omega⟩
def aY.sub{v:Value}(h:aY F v X)(hs:Sub F F'):aY F' v X:=by
 obtain⟨ad,n,c,h1,h2,a,d⟩:=h;exact⟨ad,n,c,h1,h2,a,λe=>by obtain⟨b,q,l,T,f,e2,g⟩:=d e;exact⟨b,q,l,T,f,hs _ e2,g⟩⟩
def asC{D:List UInt8}(h:q+n<=W D):Rd (D.map u8) q ((ag D q n).map u8):=by
 have:= @Rd.slice q (D.map u8) n (by simpa using h);simpa [ag,WR,WS] using this
def aY.ag{D:List UInt8}(hm:(ah db (D.map u8) T)∈F)(b:0<n->ad=some ⟨db,q,none⟩)(a:q+n<=W D)(d:n<=c):aY F (.slice ad n c) (ag D q n):=
 ⟨ad,n,c,J,(dK a).symm,d,λe=>⟨db,q,_,T,b e,hm,asC a⟩⟩
def aY.own{ob:Option Nat}(h:b8 ob (W X) c (X.map u8) sp 1):aY ((ob,C (X.map u8++sp) T)::F) (.slice (aI ob) (W X) c) X:=
 ⟨_,_,_,J,J,h.2.2.1,λa=>by
   obtain⟨s,rfl⟩:=h.some a
   exact⟨s,0,_,T,J,fQ ..,Rd.left _ _⟩⟩
def wT{T:TypeId}(c:aL ρ x= .int k u)(d:aL ρ y= .int k ((3:Nat):Int)) [h1:av u a](e:a<=aN k):run P ρ (.binOp .and T x y T') ty w= .ok (.value (.int k ((a % 4:Nat):Int))) w:=by
 rw[yT (b:=3) c d e (by cases k<;>simp[aN])];have:a&&&3=a % 4:=F6 a 2;rw[this]
def kJ{T:TypeId}(c:aL ρ x= .int k u)(d:aL ρ y= .int k ((2^n-1:Nat):Int)) [h1:av u a](e:a<=aN k)(f:2^n-1<=aN k):run P ρ (.binOp .and T x y T') ty w= .ok (.value (.int k ((a % 2^n:Nat):Int))) w:=by
 rw[yT (b:=2^n-1) c d e f];rw[F6]
def ud(h:f<4):([af a,af b,af c,af d]:List Value)[f]? =some (af ([a,b,c,d].getD f 0)):=by
 rcases(I:f=0\/f=1\/f=2\/f=3)with rfl|rfl|rfl|rfl<;>rfl
def GO(f:Nat)(h:a<=m/\b<=m/\c<=m/\d<=m):[a,b,c,d].getD f 0<=m:=by
 match f with
 |0=>exact h.1
 |1=>exact h.2.1
 |2=>exact h.2.2.1
 |3=>exact h.2.2.2
 |f+4=>exact cj _
def agd(e:f<4)(h:m<=a/\m<=b/\m<=c/\m<=d):m<= [a,b,c,d].getD f 0:=by
 match f,e with
 |0,_=>exact h.1
 |1,_=>exact h.2.1
 |2,_=>exact h.2.2.1
 |3,_=>exact h.2.2.2
def JV{D:List UInt8}{q n:Nat}(h:n<=5):num (ag D q n)<1099511627776:=
 qN qp (aM (dF I (I:8*n<=40)) an)
def asD{α:Type}(x z:α){i n:Nat}(h:i<n):(aT i x++aT (n-i) z).set i x=aT (i+1) x++aT (n- (i+1)) z:=by
 rw[IZ _ _ (by simp),dS,vX];have:n-i=(n- (i+1))+1:=I;rw[this,DQ,List.set_cons_zero,DP,bV];rfl
def wQ.some{o:Option Tr}(h:wQ F (.pointer p) o)(hp:p.isNone=false): ∃t,o=some t:=by
 cases o with
 |none=>cases h;cases hp
 |some t=>exact⟨t,J⟩
def wQ.none{o:Option Tr}(h:wQ F (.pointer p) o)(hp:p.isNone=true):o=none:=by
 cases o with
 |none=>rfl
 |some t=>obtain⟨tb,_,_,_,_,_,_,e,_⟩:=h;cases e;cases hp
def u4.parts{tb:Nat}(h:u4 F (bL tb) t): ∃a bi c1 c2 b c,(ah tb [cK a (W t.syms) c1,cK bi (W t.bits) c2,af t.aq] 146)∈F/\(ah a (t.syms.map af++b) 3)∈F/\(ah bi (t.bits.map af++c) 3)∈F:=by
 obtain⟨d,a,bi,c1,c2,b,c,e,h1,h2,f⟩:=h;cases e;exact⟨a,bi,c1,c2,b,c,h1,h2,f⟩
def Sub.app(h:Sub F L)(G:List aK):Sub (G++F) (G++L):=λe he=>by
 rcases oX.1 he with h1|h1
 exact oA _ h1
 exact fM _ (h e h1)
def age(n:Nat):dD [iW 0] n=(aT n (0:UInt8)).map u8:=by
 rw[D6,xz];rfl
def Nq{p:Prop}(h:p:=by replace h:=h.tail.tail;(try dsimp only[dX]at h);exact⟨aS,az,h⟩):p:=h
def asE{D:List UInt8}{len:Nat}{sb:Nat}{x0 x1 y z A B E K M:Value}{p:Option Addr}{tr:Option Tr}(h:H r w ((ah sb [x0,x1,y,.pointer p,z,A,B,E,K,M] 101)::L))(i_:Sub F L)(hm:(ah db (D.map u8) T)∈F)(o:0<len->ad=some ⟨db,q,none⟩)(hq:q+len<=W D)(j9:len<=cap)(hlen:len<=140737488355328)(JW:wQ F (.pointer p) tr)(kC: ∀t,tr=some t->xT t):Calls PP 45 #[bL sb,.slice ad len cap] w λe w'=> ∃v mu nv cv n G pp,e= .returned (.tuple #[.slice mu nv cv,af n,af v])/\(dZ tr (ag D q len)).1=v/\(v=1-> ∃out qv,dZ tr (ag D q len)=(1,out,n,qv)/\aY (G++F) (.slice mu nv cv) out/\wQ (G++F) (.pointer pp) qv)/\H r w' ((ah sb [x0,x1,y,.pointer pp,z,A,B,E,K,M] 101)::(G++L)):=by
 obtain⟨wD,wE⟩:=dw (i_ _ hm);have N:=i_ _ hm;have j:=dK hq;have jL:=toNat_le (aa D (q+0) 0);have f:((aa D (q+0) 0).toNat/2^2 % 4)<4:=I;have xX: ∀b,b<=len->ag (ag D q len) 0 b=ag D q b:=λb hb=>(by rw[jy I];rfl);have fi:=GO (a:=1) (b:=2) (c:=1) (d:=3) (m:=3) ((aa D (q+0) 0).toNat/2^2 % 4) I;have cS:=agd (a:=1) (b:=2) (c:=1) (d:=3) (m:=1) f I;have mP:=GO (a:=3) (b:=3) (c:=4) (d:=5) (m:=5) ((aa D (q+0) 0).toNat/2^2 % 4) I;have s6:=agd (a:=3) (b:=3) (c:=4) (d:=5) (m:=3) f I;have ue:=GO (a:=10) (b:=10) (c:=14) (d:=18) (m:=18) ((aa D (q+0) 0).toNat/2^2 % 4) I;have k:0<len->byte (ag D q len) 0=(aa D (q+0) 0).toNat:=λU=>AJ U;refine iI func45 ntmps45 [4,5,6] ?_;refine g_ 13 ?_;refine au J ?_ ?_<;>intro EO
 refine g_ 7 ?_;exact⟨2,none,0,0,0,[],_,J,(by unfold dZ;rw[ao I]<;>rfl),(by intro e;cases e),h⟩
 refine a8 (bY (cm h [0,4,20,24,9,12,16,44,29,32,36,40,48] ?_));intro w h;refine lx J (aD J (da (a:=0) (h1:=av.lit _) J J (o I) I) (lx J (aD J (da (a:=0) (h1:=av.lit _) J J (o I) I) (aQ J h J (gX I) ?_))));refine aC 1 ?_;refine aD J (wT J J aG) (fG J (aQ J h J (gX I) ?_));refine aC 2 ?_;refine aD J (wT J J aG) (fG J (cO ?_));refine g_ 6 ?_;refine au J ?_ ?_<;>intro l
 have tT:num (ag (ag D q len) 0 ([1,2,1,3].getD ((aa D (q+0) 0).toNat/2^2 % 4) 0))<1099511627776:= @JV (ag D q len) 0 ([1,2,1,3].getD ((aa D (q+0) 0).toNat/2^2 % 4) 0) I;have gA:=k6 (num (ag (ag D q len) 0 ([1,2,1,3].getD ((aa D (q+0) 0).toNat/2^2 % 4) 0))) (2^([3,4,3,4].getD ((aa D (q+0) 0).toNat/2^2 % 4) 0));refine bY (fD (Jt J J J J (uL _ _ _ _) h ?_));intro bk w h;refine dg (ak (j8 J J J f) (aX h J (ud (a:=1) (b:=2) (c:=1) (d:=3) f) ?_));refine g_ 10 ?_;refine au J ?_ ?_<;>intro O
 refine g_ 7 ?_;exact⟨2,none,0,0,0,[],_,J,(by unfold dZ;rw[j,aj I,k I];rw[ao l];dsimp only;rw[ao O]<;>rfl),(by intro e;cases e),h.tail⟩
 refine a8 (cW [(10,10),(48,56)] (λρ w=>Kn ρ [(10,af (num (ag (ag D q len) 0 ([1,2,1,3].getD ((aa D (q+0) 0).toNat/2^2 % 4) 0))/2^([3,4,3,4].getD ((aa D (q+0) 0).toNat/2^2 % 4) 0)))]/\H r w ((ah sb [x0,x1,y,.pointer p,z,A,B,E,K,M] 101)::L)) ?_ ?_)
 refine xK h (de [0,4,8,20] (.fork (de [15,18,24,29,32,36] .nil) (de [18,24] (.fork (de [15,29,32,36] .nil) (de [29,15,32,36] .nil))))) ?_;intro w h;refine aC 2 ?_;refine aD J (mX J J I) (lx J (gR ?_ ?_))
 refine qU J J J ?_;have g:=tV (ad:=ad) (q:=q) (len:=([1,2,1,3].getD ((aa D (q+0) 0).toNat/2^2 % 4) 0)) (cap:=cap) h (aA (aA N)) (λ_=>o I) I I (BJ (Qj (JV I) I));rw[<-xX ([1,2,1,3].getD ((aa D (q+0) 0).toNat/2^2 % 4) 0) I]at g;refine g.mono ?_;clear g;rintro e V ⟨rfl,rfl⟩;refine⟨_,J,?_⟩;refine Eh J J J J J (uL _ _ _ _) h ?_;intro bl w h;refine aD J (j8 J J J f) (aQ J h J (ud (a:=3) (b:=4) (c:=3) (d:=4) f) ?_);refine aC 3 ?_;exact Nq
 refine Eh J J J J J (uL _ _ _ _) h ?_;intro bl w h;refine aD J (j8 J J J f) (gR ?_ ?_)
 refine qU J J J ?_;have g:=tV (ad:=ad) (q:=q) (len:=([1,2,1,3].getD ((aa D (q+0) 0).toNat/2^2 % 4) 0)) (cap:=cap) h (aA (aA (aA N))) (λ_=>o I) I I (BJ (Qj (JV I) I));rw[<-xX ([1,2,1,3].getD ((aa D (q+0) 0).toNat/2^2 % 4) 0) I]at g;refine g.mono ?_;clear g;rintro e V ⟨rfl,rfl⟩;refine⟨_,J,?_⟩;refine aQ J h J (ud (a:=3) (b:=4) (c:=3) (d:=4) f) ?_;refine aC 3 ?_;exact Nq
 refine aQ J h J (ud (a:=3) (b:=4) (c:=3) (d:=4) f) (qU J J J ?_);have g:=tV (ad:=ad) (q:=q) (len:=([1,2,1,3].getD ((aa D (q+0) 0).toNat/2^2 % 4) 0)) (cap:=cap) h (aA (aA (aA N))) (λ_=>o I) I I (BJ (Qj (JV I) I));rw[<-xX ([1,2,1,3].getD ((aa D (q+0) 0).toNat/2^2 % 4) 0) I]at g;refine g.mono ?_;clear g;rintro e V ⟨rfl,rfl⟩;refine⟨_,J,?_⟩;refine aC 3 ?_;exact Nq
 rintro ρ w ⟨⟨mn,rfl⟩,h⟩;refine g_ 6 ?_;refine au J ?_ ?_<;>intro X
 refine g_ 7 ?_;exact⟨0,none,0,0,0,[],_,J,(by unfold dZ;rw[j,aj I,k I];rw[ao l];dsimp only;rw[aj O,ao X]<;>rfl),(by intro e;cases e),h⟩
 refine g_ 7 ?_;refine au J ?_ ?_<;>intro RF
 refine g_ 9 ?_;refine au J ?_ ?_<;>intro Em
 refine g_ 7 ?_;exact⟨2,none,0,0,0,[],_,J,(by unfold dZ;rw[j,aj I,k I];rw[ao l];dsimp only;rw[aj O,aj X,ao RF,ao Em]<;>rfl),(by intro e;cases e),h⟩
 refine g_ 4 ?_;refine uK h J J J I I I J ?_;intro bo w h;rw[age]at h;refine g_ 10 ?_;refine cw (σ:=Nat) [(12,12),(70,80)] (λi ρ w=>Kn ρ [(70,af i)]/\H r w ((ah bo (ar u8 (aT i (aa D (q+([1,2,1,3].getD ((aa D (q+0) 0).toNat/2^2 % 4) 0)) 0)++aT ((num (ag (ag D q len) 0 ([1,2,1,3].getD ((aa D (q+0) 0).toNat/2^2 % 4) 0))/2^([3,4,3,4].getD ((aa D (q+0) 0).toNat/2^2 % 4) 0)) -i) 0)) 5)::(ah sb [x0,x1,y,.pointer p,z,A,B,E,K,M] 101)::L)/\(i<=(num (ag (ag D q len) 0 ([1,2,1,3].getD ((aa D (q+0) 0).toNat/2^2 % 4) 0))/2^([3,4,3,4].getD ((aa D (q+0) 0).toNat/2^2 % 4) 0)))) (λi=>(num (ag (ag D q len) 0 ([1,2,1,3].getD ((aa D (q+0) 0).toNat/2^2 % 4) 0))/2^([3,4,3,4].getD ((aa D (q+0) 0).toNat/2^2 % 4) 0)) -i) (0) ⟨az,(by rw[I2,List.nil_append,F1];exact h),(cj _)⟩ ?_;rintro i ρ w ⟨⟨ny,rfl⟩,h,hi⟩;refine g_ 5 ?_;refine au J ?_ ?_<;>intro GD
 refine g_ 13 ?_;refine ak (da (a:=([1,2,1,3].getD ((aa D (q+0) 0).toNat/2^2 % 4) 0)) J J (o I) I) (aX h J (gX I) ?_);refine g_ 1 ?_;refine ir (v:=u8 (aa D (q+([1,2,1,3].getD ((aa D (q+0) 0).toNat/2^2 % 4) 0)) 0)) h J (gX (by rw[aF,dS,dS];omega)) J J J ?_;intro w h;dsimp only[bJ]at h;rw[<-kH,asD _ _ I]at h;refine g_ 5 ?_;exact⟨aS,i+1,cQ,az,h,I⟩
 refine g_ 11 ?_;have s:dZ tr (ag D q len)=(1,aT (num (ag (ag D q len) 0 ([1,2,1,3].getD ((aa D (q+0) 0).toNat/2^2 % 4) 0))/2^([3,4,3,4].getD ((aa D (q+0) 0).toNat/2^2 % 4) 0)) (aa D (q+([1,2,1,3].getD ((aa D (q+0) 0).toNat/2^2 % 4) 0)) 0),([1,2,1,3].getD ((aa D (q+0) 0).toNat/2^2 % 4) 0)+1,tr):=(by unfold dZ;rw[j,aj I,k I];rw[ao l];dsimp only;rw[aj O,aj X,ao RF,aj Em,show(ag D q len).getD ([1,2,1,3].getD ((aa D (q+0) 0).toNat/4 % 4) 0) 0=(aa D (q+([1,2,1,3].getD ((aa D (q+0) 0).toNat/2^2 % 4) 0)) 0)from lD (i:=([1,2,1,3].getD ((aa D (q+0) 0).toNat/2^2 % 4) 0)) (n:=len) I]);have hiN:i=(num (ag (ag D q len) 0 ([1,2,1,3].getD ((aa D (q+0) 0).toNat/2^2 % 4) 0))/2^([3,4,3,4].getD ((aa D (q+0) 0).toNat/2^2 % 4) 0)):=Nat.le_antisymm hi (Mm GD);have hh:aT i (aa D (q+([1,2,1,3].getD ((aa D (q+0) 0).toNat/2^2 % 4) 0)) 0)++aT ((num (ag (ag D q len) 0 ([1,2,1,3].getD ((aa D (q+0) 0).toNat/2^2 % 4) 0))/2^([3,4,3,4].getD ((aa D (q+0) 0).toNat/2^2 % 4) 0)) -i) 0=aT (num (ag (ag D q len) 0 ([1,2,1,3].getD ((aa D (q+0) 0).toNat/2^2 % 4) 0))/2^([3,4,3,4].getD ((aa D (q+0) 0).toNat/2^2 % 4) 0)) (aa D (q+([1,2,1,3].getD ((aa D (q+0) 0).toNat/2^2 % 4) 0)) 0):=(by rw[hiN,vX,I2,dN]);rw[hh]at h;refine⟨1,some ⟨bo,0,none⟩,(num (ag (ag D q len) 0 ([1,2,1,3].getD ((aa D (q+0) 0).toNat/2^2 % 4) 0))/2^([3,4,3,4].getD ((aa D (q+0) 0).toNat/2^2 % 4) 0)),(num (ag (ag D q len) 0 ([1,2,1,3].getD ((aa D (q+0) 0).toNat/2^2 % 4) 0))/2^([3,4,3,4].getD ((aa D (q+0) 0).toNat/2^2 % 4) 0)),([1,2,1,3].getD ((aa D (q+0) 0).toNat/2^2 % 4) 0)+1,[(ah bo (ar u8 (aT (num (ag (ag D q len) 0 ([1,2,1,3].getD ((aa D (q+0) 0).toNat/2^2 % 4) 0))/2^([3,4,3,4].getD ((aa D (q+0) 0).toNat/2^2 % 4) 0)) (aa D (q+([1,2,1,3].getD ((aa D (q+0) 0).toNat/2^2 % 4) 0)) 0))) 5)],p,J,by rw[s],λ_=>⟨_,_,s,?_,JW.sub (Sub.cons _ _)⟩,h.mv 1⟩;exact⟨_,_,_,J,by rw[dS],aW _,λ_=>⟨bo,0,_,5,J,fQ ..,Rd.self _⟩⟩
 refine g_ 11 ?_;refine au J ?_ ?_<;>intro AK
 refine g_ 7 ?_;exact⟨2,none,0,0,0,[],_,J,(by unfold dZ;rw[j,aj I,k I];rw[ao l];dsimp only;rw[aj O,aj X,aj RF,ao AK]<;>rfl),(by intro e;cases e),h⟩
 refine g_ 8 ?_;refine ak (wm (a:=([1,2,1,3].getD ((aa D (q+0) 0).toNat/2^2 % 4) 0)) (c:=([1,2,1,3].getD ((aa D (q+0) 0).toNat/2^2 % 4) 0)+(num (ag (ag D q len) 0 ([1,2,1,3].getD ((aa D (q+0) 0).toNat/2^2 % 4) 0))/2^([3,4,3,4].getD ((aa D (q+0) 0).toNat/2^2 % 4) 0))) J J J (lV _ _) (aM (Mm AK) j9)) ?_;refine g_ 8 ?_;have s:dZ tr (ag D q len)=(1,ag (ag D q len) ([1,2,1,3].getD ((aa D (q+0) 0).toNat/2^2 % 4) 0) (num (ag (ag D q len) 0 ([1,2,1,3].getD ((aa D (q+0) 0).toNat/2^2 % 4) 0))/2^([3,4,3,4].getD ((aa D (q+0) 0).toNat/2^2 % 4) 0)),([1,2,1,3].getD ((aa D (q+0) 0).toNat/2^2 % 4) 0)+(num (ag (ag D q len) 0 ([1,2,1,3].getD ((aa D (q+0) 0).toNat/2^2 % 4) 0))/2^([3,4,3,4].getD ((aa D (q+0) 0).toNat/2^2 % 4) 0)),tr):=(by unfold dZ;rw[j,aj I,k I];rw[ao l];dsimp only;rw[aj O,aj X,aj RF,aj AK]);have hle:=Mm AK;have asF:([1,2,1,3].getD ((aa D (q+0) 0).toNat/2^2 % 4) 0)+(num (ag (ag D q len) 0 ([1,2,1,3].getD ((aa D (q+0) 0).toNat/2^2 % 4) 0))/2^([3,4,3,4].getD ((aa D (q+0) 0).toNat/2^2 % 4) 0)) - ([1,2,1,3].getD ((aa D (q+0) 0).toNat/2^2 % 4) 0)=(num (ag (ag D q len) 0 ([1,2,1,3].getD ((aa D (q+0) 0).toNat/2^2 % 4) 0))/2^([3,4,3,4].getD ((aa D (q+0) 0).toNat/2^2 % 4) 0)):=tH ..;refine⟨1,cut ad cap ([1,2,1,3].getD ((aa D (q+0) 0).toNat/2^2 % 4) 0) 1,([1,2,1,3].getD ((aa D (q+0) 0).toNat/2^2 % 4) 0)+(num (ag (ag D q len) 0 ([1,2,1,3].getD ((aa D (q+0) 0).toNat/2^2 % 4) 0))/2^([3,4,3,4].getD ((aa D (q+0) 0).toNat/2^2 % 4) 0)) - ([1,2,1,3].getD ((aa D (q+0) 0).toNat/2^2 % 4) 0),cap- ([1,2,1,3].getD ((aa D (q+0) 0).toNat/2^2 % 4) 0),([1,2,1,3].getD ((aa D (q+0) 0).toNat/2^2 % 4) 0)+(num (ag (ag D q len) 0 ([1,2,1,3].getD ((aa D (q+0) 0).toNat/2^2 % 4) 0))/2^([3,4,3,4].getD ((aa D (q+0) 0).toNat/2^2 % 4) 0)),[],p,J,by rw[s],λ_=>⟨_,_,s,?_,JW⟩,h⟩;have jb:=aY.ag (F:=F) (db:=db) (q:=q+([1,2,1,3].getD ((aa D (q+0) 0).toNat/2^2 % 4) 0)) (n:=([1,2,1,3].getD ((aa D (q+0) 0).toNat/2^2 % 4) 0)+(num (ag (ag D q len) 0 ([1,2,1,3].getD ((aa D (q+0) 0).toNat/2^2 % 4) 0))/2^([3,4,3,4].getD ((aa D (q+0) 0).toNat/2^2 % 4) 0)) - ([1,2,1,3].getD ((aa D (q+0) 0).toNat/2^2 % 4) 0)) (c:=cap- ([1,2,1,3].getD ((aa D (q+0) 0).toNat/2^2 % 4) 0)) (ad:=cut ad cap ([1,2,1,3].getD ((aa D (q+0) 0).toNat/2^2 % 4) 0) 1) hm (λU=>eU (o I) I) I I;rw[jy hle];rw[asF]at jb ⊢;exact jb
 have q7:2^([10,10,14,18].getD ((aa D (q+0) 0).toNat/2^2 % 4) 0)<=2^18:=dF I ue;have hw3:=eA ([10,10,14,18].getD ((aa D (q+0) 0).toNat/2^2 % 4) 0);have tT:num (ag (ag D q len) 0 ([3,3,4,5].getD ((aa D (q+0) 0).toNat/2^2 % 4) 0))<1099511627776:=(by have:= @JV (ag D q len) 0 ([3,3,4,5].getD ((aa D (q+0) 0).toNat/2^2 % 4) 0) I;exact this);have gA:(num (ag (ag D q len) 0 ([3,3,4,5].getD ((aa D (q+0) 0).toNat/2^2 % 4) 0))/2^4)<=1099511627776:=aM (k6 _ _) (BJ tT);have u_:((num (ag (ag D q len) 0 ([3,3,4,5].getD ((aa D (q+0) 0).toNat/2^2 % 4) 0))/2^4) % 2^([10,10,14,18].getD ((aa D (q+0) 0).toNat/2^2 % 4) 0))<2^([10,10,14,18].getD ((aa D (q+0) 0).toNat/2^2 % 4) 0):=dY _ hw3;have gv:=k6 (num (ag (ag D q len) 0 ([3,3,4,5].getD ((aa D (q+0) 0).toNat/2^2 % 4) 0))/2^4) (2^([10,10,14,18].getD ((aa D (q+0) 0).toNat/2^2 % 4) 0));refine a8 (cW [(13,14),(99,106)] (λρ w=>Kn ρ [(13,af ([3,3,4,5].getD ((aa D (q+0) 0).toNat/2^2 % 4) 0)),(14,af ([10,10,14,18].getD ((aa D (q+0) 0).toNat/2^2 % 4) 0))]/\H r w ((ah sb [x0,x1,y,.pointer p,z,A,B,E,K,M] 101)::L)) ?_ ?_)
 refine xK h (de [4,20] (.fork (de [2,8,13,32,18,24,29,36] .nil) (de [18,24,29,2,8,13,32,36] .nil))) ?_;intro w h;refine aC 2 ?_;refine gR ?_ ?_
 refine Eh J J J J J (uL _ _ _ _) h ?_;intro bk w h;refine aD J (j8 J J J f) (aQ J h J (ud (a:=3) (b:=3) (c:=4) (d:=5) f) (fG J (Eh J J J J J (uL _ _ _ _) h ?_)));intro bl w h;refine aD J (j8 J J J f) (aQ J h J (ud (a:=10) (b:=10) (c:=14) (d:=18) f) (fG J (cO ?_)));exact Nq
 refine Eh J J J J J (uL _ _ _ _) h ?_;intro bl w h;refine aD J (j8 J J J f) (aQ J h J (ud (a:=10) (b:=10) (c:=14) (d:=18) f) (Eh J J J J J (uL _ _ _ _) h ?_));intro bk w h;refine aD J (j8 J J J f) (aQ J h J (ud (a:=3) (b:=3) (c:=4) (d:=5) f) ?_);refine aC 3 ?_;exact Nq
 rintro ρ w ⟨⟨nz,rfl⟩,h⟩;refine g_ 8 ?_;refine au J ?_ ?_<;>intro P
 refine g_ 7 ?_;exact⟨2,none,0,0,0,[],_,J,(by unfold dZ;rw[j,aj I,k I];rw[aj l];dsimp only;rw[ao P]<;>rfl),(by intro e;cases e),h⟩
 refine g_ 5 ?_;refine ak (mX J J I) (d' J J ?_);have g:=tV (ad:=ad) (q:=q) (len:=([3,3,4,5].getD ((aa D (q+0) 0).toNat/2^2 % 4) 0)) (cap:=cap) h (aA N) (λ_=>o I) I I (BJ (Qj (JV I) I));rw[<-xX ([3,3,4,5].getD ((aa D (q+0) 0).toNat/2^2 % 4) 0) I]at g;refine g.mono ?_;clear g;rintro e V ⟨rfl,rfl⟩;refine⟨_,J,?_⟩;refine g_ 4 ?_;refine cm h [0,4,8,12,16,20,24,28,32,36] ?_;intro w h;refine aC 2 ?_;refine aD J (gY J J dQ aG) ?_;refine aC 1 ?_;refine aD J (kJ (n:=([10,10,14,18].getD ((aa D (q+0) 0).toNat/2^2 % 4) 0)) J J aG aG) ?_;refine aC 6 ?_;refine g_ 10 ?_;refine au J ?_ ?_<;>intro Q
 refine g_ 7 ?_;exact⟨2,none,0,0,0,[],_,J,(by unfold dZ;rw[j,aj I,k I];rw[aj l];dsimp only;rw[aj P,ao Q]<;>rfl),(by intro e;cases e),h⟩
 have RG:=Mm Q;have asG:ag D (q+([3,3,4,5].getD ((aa D (q+0) 0).toNat/2^2 % 4) 0)) (([3,3,4,5].getD ((aa D (q+0) 0).toNat/2^2 % 4) 0)+((num (ag (ag D q len) 0 ([3,3,4,5].getD ((aa D (q+0) 0).toNat/2^2 % 4) 0))/2^4)/2^([10,10,14,18].getD ((aa D (q+0) 0).toNat/2^2 % 4) 0)) - ([3,3,4,5].getD ((aa D (q+0) 0).toNat/2^2 % 4) 0))=ag (ag D q len) ([3,3,4,5].getD ((aa D (q+0) 0).toNat/2^2 % 4) 0) ((num (ag (ag D q len) 0 ([3,3,4,5].getD ((aa D (q+0) 0).toNat/2^2 % 4) 0))/2^4)/2^([10,10,14,18].getD ((aa D (q+0) 0).toNat/2^2 % 4) 0)):=(by have e:([3,3,4,5].getD ((aa D (q+0) 0).toNat/2^2 % 4) 0)+((num (ag (ag D q len) 0 ([3,3,4,5].getD ((aa D (q+0) 0).toNat/2^2 % 4) 0))/2^4)/2^([10,10,14,18].getD ((aa D (q+0) 0).toNat/2^2 % 4) 0)) - ([3,3,4,5].getD ((aa D (q+0) 0).toNat/2^2 % 4) 0)=((num (ag (ag D q len) 0 ([3,3,4,5].getD ((aa D (q+0) 0).toNat/2^2 % 4) 0))/2^4)/2^([10,10,14,18].getD ((aa D (q+0) 0).toNat/2^2 % 4) 0)):=tH ..;rw[e];exact(jy RG).symm);refine g_ 8 ?_;refine ak (wm (a:=([3,3,4,5].getD ((aa D (q+0) 0).toNat/2^2 % 4) 0)) (c:=([3,3,4,5].getD ((aa D (q+0) 0).toNat/2^2 % 4) 0)+((num (ag (ag D q len) 0 ([3,3,4,5].getD ((aa D (q+0) 0).toNat/2^2 % 4) 0))/2^4)/2^([10,10,14,18].getD ((aa D (q+0) 0).toNat/2^2 % 4) 0))) J J J (lV _ _) (aM RG j9)) (ee (aJ (cW [(4,6),(18,21),(136,163)] (λρ w=> ∃G1:List aK,∃pp:Option Addr,∃R:Option Tr,∃Ci:Option Addr,∃q2 u c2:Nat,Kn ρ [(18,.slice Ci u c2)]/\H r w ((ah sb [x0,x1,y,.pointer pp,z,A,B,E,K,M] 101)::(G1++L))/\(wQ (G1++F) (.pointer pp) R)/\(∀t,R=some t->xT t)/\(0<u->Ci=some ⟨db,q2,none⟩)/\(q2+u<=W D)/\(u<=c2)/\(u<=len)/\(dZ tr (ag D q len)=nB ((num (ag (ag D q len) 0 ([3,3,4,5].getD ((aa D (q+0) 0).toNat/2^2 % 4) 0))/2^4) % 2^([10,10,14,18].getD ((aa D (q+0) 0).toNat/2^2 % 4) 0)) (decide (¬((aa D (q+0) 0).toNat/2^2 % 4)=0)) (([3,3,4,5].getD ((aa D (q+0) 0).toNat/2^2 % 4) 0)+((num (ag (ag D q len) 0 ([3,3,4,5].getD ((aa D (q+0) 0).toNat/2^2 % 4) 0))/2^4)/2^([10,10,14,18].getD ((aa D (q+0) 0).toNat/2^2 % 4) 0))) R (ag D q2 u))) ?_ ?_)))
 refine g_ 5 ?_;refine au J ?_ ?_<;>intro RH
 refine g_ 3 ?_;refine d' J J ?_;have lj:=asA (ad:=cut ad cap ([3,3,4,5].getD ((aa D (q+0) 0).toNat/2^2 % 4) 0) 1) (q:=q+([3,3,4,5].getD ((aa D (q+0) 0).toNat/2^2 % 4) 0)) (len:=([3,3,4,5].getD ((aa D (q+0) 0).toNat/2^2 % 4) 0)+((num (ag (ag D q len) 0 ([3,3,4,5].getD ((aa D (q+0) 0).toNat/2^2 % 4) 0))/2^4)/2^([10,10,14,18].getD ((aa D (q+0) 0).toNat/2^2 % 4) 0)) - ([3,3,4,5].getD ((aa D (q+0) 0).toNat/2^2 % 4) 0)) (cap:=cap- ([3,3,4,5].getD ((aa D (q+0) 0).toNat/2^2 % 4) 0)) h (aA N) (λU=>eU (o I) I) I I I;rw[asG]at lj;refine lj.mono ?_;clear lj;rintro e V ⟨ok,t,tn,ppt,G1,rfl,S,RE,h⟩;replace h:=h.grow;refine⟨_,J,?_⟩;refine g_ 12 ?_;refine ak (k8 J) (aJ (eY J ?_ ?_))<;>intro RI
 (have uZ:ok=false:=by cases ok<;>first|rfl| (exfalso;revert RI;decide));rw[uZ,aj an]at S;refine g_ 7 ?_;exact⟨2,none,0,0,0,G1,_,J,(by unfold dZ;rw[j,aj I,k I];rw[aj l];dsimp only;rw[aj P,aj Q,ao RH,S]<;>rfl),(by intro e;cases e),h⟩
 (have gM:ok=true:=by cases ok<;>first|rfl| (exfalso;revert RI;decide));rw[gM,ao J]at S;refine(RE gM).elim λtb Y=>?_;have Ct:=Y.1;have Z:=Y.2;refine aZ (u4.parts Z) (λsy eK=>aZ (eK) (λbi eJ=>aZ (eJ) (λc1 fH=>aZ (fH) (λc2 gN=>aZ (gN) (λcg oJ=>aZ (oJ) (λcZ agi=>?_))))));have x:=agi.1;have Rr:=agi.2.2;clear RE;refine aZ (dw (oA L x)) (λRs Ru=>aZ (dw (oA L Rr)) (λit3 ar9=>?_));have GP:=Y1 S;rw[dK (by rw[j];omega)]at GP;have lL:=GP.1.bits;have Cp:=eA t.aq;refine g_ 3 ?_;refine cm h [0,4,8,24,28,32,13,16,21,37,40] ?_;intro w h;refine lx J (aD J (v_ (cD Value.pointer Ct)) ?_);refine aC 2 ?_;refine aD J (v_ (cD Value.pointer Ct)) ?_;refine aC 3 ?_;refine aQ J h J (M8 I) ?_;refine aC 3 ?_;refine au J ?_ ?_<;>intro Y2
 refine g_ 7 ?_;exact⟨0,none,0,0,0,G1,_,J,(by unfold dZ;rw[j,aj I,k I];rw[aj l];dsimp only;rw[aj P,aj Q,ao RH,S];dsimp only;rw[ao Y2]<;>rfl),(by intro e;cases e),h⟩
 have aID:=GP.2.1;refine a8 (cm h [0,4,8,12,16,20,24,31,32] ?_);intro w h;refine aC 4 ?_;refine aD J (jJ (a:=tn) J J I I) ?_;refine aC 2 ?_;refine cI ?_;intro w h;exact fG J (cO ⟨aS,G1,ppt,some t,cut (cut ad cap ([3,3,4,5].getD ((aa D (q+0) 0).toNat/2^2 % 4) 0) 1) (cap- ([3,3,4,5].getD ((aa D (q+0) 0).toNat/2^2 % 4) 0)) tn 1,q+([3,3,4,5].getD ((aa D (q+0) 0).toNat/2^2 % 4) 0)+tn,((num (ag (ag D q len) 0 ([3,3,4,5].getD ((aa D (q+0) 0).toNat/2^2 % 4) 0))/2^4)/2^([10,10,14,18].getD ((aa D (q+0) 0).toNat/2^2 % 4) 0)) -tn,cap- ([3,3,4,5].getD ((aa D (q+0) 0).toNat/2^2 % 4) 0) -tn,Kn.mk ⟨jw J I J,trivial⟩,h,(by rw[Ct];exact(Z.sub (Sub.left _ _))),(λt' e=>by cases e;exact GP.1),(λU=>eU (eU (o I) I) I),I,I,I,(by unfold dZ;rw[j,aj I,k I];rw[aj l];dsimp only;rw[aj P,aj Q,ao RH,S];dsimp only;rw[aj Y2];exact cD (nB ((num (ag (ag D q len) 0 ([3,3,4,5].getD ((aa D (q+0) 0).toNat/2^2 % 4) 0))/2^4) % 2^([10,10,14,18].getD ((aa D (q+0) 0).toNat/2^2 % 4) 0)) (decide (¬((aa D (q+0) 0).toNat/2^2 % 4)=0)) (([3,3,4,5].getD ((aa D (q+0) 0).toNat/2^2 % 4) 0)+((num (ag (ag D q len) 0 ([3,3,4,5].getD ((aa D (q+0) 0).toNat/2^2 % 4) 0))/2^4)/2^([10,10,14,18].getD ((aa D (q+0) 0).toNat/2^2 % 4) 0))) (some t)) ((cD (List.drop tn) (jy RG)).trans tS))⟩)
 exact a8 ⟨aS,[],p,tr,cut ad cap ([3,3,4,5].getD ((aa D (q+0) 0).toNat/2^2 % 4) 0) 1,q+([3,3,4,5].getD ((aa D (q+0) 0).toNat/2^2 % 4) 0),((num (ag (ag D q len) 0 ([3,3,4,5].getD ((aa D (q+0) 0).toNat/2^2 % 4) 0))/2^4)/2^([10,10,14,18].getD ((aa D (q+0) 0).toNat/2^2 % 4) 0)),cap- ([3,3,4,5].getD ((aa D (q+0) 0).toNat/2^2 % 4) 0),Kn.mk ⟨jw J (tH ..) J,trivial⟩,h,JW,kC,(λU=>eU (o I) I),I,I,I,(by unfold dZ;rw[j,aj I,k I];rw[aj l];dsimp only;rw[aj P,aj Q,aj RH];exact cD (nB ((num (ag (ag D q len) 0 ([3,3,4,5].getD ((aa D (q+0) 0).toNat/2^2 % 4) 0))/2^4) % 2^([10,10,14,18].getD ((aa D (q+0) 0).toNat/2^2 % 4) 0)) (decide (¬((aa D (q+0) 0).toNat/2^2 % 4)=0)) (([3,3,4,5].getD ((aa D (q+0) 0).toNat/2^2 % 4) 0)+((num (ag (ag D q len) 0 ([3,3,4,5].getD ((aa D (q+0) 0).toNat/2^2 % 4) 0))/2^4)/2^([10,10,14,18].getD ((aa D (q+0) 0).toNat/2^2 % 4) 0))) tr) (jy RG))⟩
 rintro ρ w ⟨G1,pp,R,Ci,q2,u,c2,⟨r_,rfl⟩,h,zC,asH,asI,nZ,m4,gy,RJ⟩;refine g_ 7 ?_;refine ak (Ys J J) (aJ (eY J ?_ ?_))<;>intro Y3
 have s7:=wQ.none zC Y3;refine g_ 7 ?_;exact⟨2,none,0,0,0,G1,_,J,(by rw[RJ,s7];rfl<;>rfl),(by intro e;cases e),h⟩
 refine(wQ.some zC Y3).elim λt x=>?_;have asJ:u4 (G1++F) (.pointer pp) t:=(by rw[x]at zC;exact zC);refine g_ 7 ?_;refine eM (t:=171) J (λagj=>?_) (λagj=>?_)
 refine g_ 4 ?_;refine jv J ?_;refine g_ 7 ?_;exact⟨0,none,0,0,0,G1,_,J,(by rw[RJ,x];unfold nB;dsimp only;rw[ao (a_ agj)]<;>rfl),(by intro e;cases e),h⟩
 refine g_ 4 ?_;refine au J ?_ ?_<;>intro asK
 refine g_ 7 ?_;exact⟨0,none,0,0,0,G1,_,J,(by rw[RJ,x];unfold nB;dsimp only;rw[ao (bG asK)]<;>rfl),(by intro e;cases e),h⟩
 refine g_ 11 ?_;refine wj J J J J J (aH (ar_ (ad:=Ci) (q:=q2) (len:=u) (cap:=c2) (many:=((num (ag (ag D q len) 0 ([3,3,4,5].getD ((aa D (q+0) 0).toNat/2^2 % 4) 0))/2^4) % 2^([10,10,14,18].getD ((aa D (q+0) 0).toNat/2^2 % 4) 0))) (four:=(decide (¬((aa D (q+0) 0).toNat/2^2 % 4)=0))) h (aA (fM _ N)) asI nZ m4 I (asJ.sub (λe he=>aA (Sub.app i_ _ e he))) (asH _ x) I) ?_);rintro e V ⟨v,out,ob,c,sp,du,rfl,fZ,h⟩;refine g_ 18 ?_;have s:dZ tr (ag D q len)=if v=1 then(1,out,([3,3,4,5].getD ((aa D (q+0) 0).toNat/2^2 % 4) 0)+((num (ag (ag D q len) 0 ([3,3,4,5].getD ((aa D (q+0) 0).toNat/2^2 % 4) 0))/2^4)/2^([10,10,14,18].getD ((aa D (q+0) 0).toNat/2^2 % 4) 0)),R)else(v,[],0,none):=(by rw[RJ,x];unfold nB;dsimp only;rw[aj (by intro h';rcases h' with h'|h'<;>omega),du]);refine⟨v,aI ob,W out,c,([3,3,4,5].getD ((aa D (q+0) 0).toNat/2^2 % 4) 0)+((num (ag (ag D q len) 0 ([3,3,4,5].getD ((aa D (q+0) 0).toNat/2^2 % 4) 0))/2^4)/2^([10,10,14,18].getD ((aa D (q+0) 0).toNat/2^2 % 4) 0)),(ob,C (ar u8 out++sp) 5)::G1,pp,J,?_,λe=>⟨out,R,by rw[s,ao e],aY.own fZ,zC.sub (Sub.cons _ _)⟩,h.mv 1⟩;rw[s];split
 rename_i e;exact e.symm
 rfl
variable {k kind s:Nat}{ts:Nat->Tb}
structure se(kind:Nat)(t:Tb):Prop where
 len:W t.cells=2^t.log
 log:t.log<=9
 cell: ∀i,i<2^t.log->(t.cells.getD i default).bits<=9/\(t.cells.getD i default).base+2^(t.cells.getD i default).bits<=2^t.log/\(t.cells.getD i default).sym<=(cE kind).1
def se.of{shares:List Int}{log:Nat}(h:iy shares log)(a:W shares<=(cE kind).1+1):se kind ⟨dn shares log,log⟩:=
 ⟨xQ _ _,h.mJ.2,λi hi=>by
   have:=GL h hi
   have b:=h.mJ.2
   exact⟨aM this.1 b,this.2.1,Ml (qN this.2.2.1 a)⟩⟩
def asL(kind:Nat)(a:kind<=2):se kind (jY kind):=by
 refine se.of (JJ kind) ?_;rcases(I:kind=0\/kind=1\/kind=2)with rfl|rfl|rfl<;>decide
def asM(h:s<=(cE kind).1):se kind (qu s):=
 ⟨J,by simp[qu],λi hi=>by
   have:i=0:=by simp[qu]at hi;exact hi
   subst this
   exact⟨by simp[qu],by simp[qu],h⟩⟩
def agk{gD:Option Tb}{mode size:Nat}{t:Tb}(a:kind<=2)(h:ke gD kind mode E=some (t,size))(b: ∀t,gD=some t->se kind t):se kind t:=by
 have c:(cE kind).1<=52/\(cE kind).2<=9:=(by unfold cE;split<;>(try split)<;>decide);unfold ke at h;split at h
 cases h;exact asL kind a
 split at h
 split at h
 cases h
 cases h;exact asM I
 split at h
 cases hp:fO (num E) (W E) (cE kind).2 ((cE kind).1+1)with
 |none=>rw[hp]at h;cases h
 | some x=>
   rw[hp]at h;cases h
   have:=Ez (out:=x.1) (log:=x.2.1) (size:=x.2.2) hp c.2 I
   exact se.of this.1 this.2.2
 cases gD with
 |none=>cases h
 |some d=>cases h;exact b _ J
def lM(N:Nat)(ts:Nat->Tb)(left:Int):Nat->List Nat×Int
 |0=>([0,0,0],left)
 |i+1=>((lM N ts left i).1.set i (dE N (lM N ts left i).2 (ts i).log),(lM N ts left i).2- (ts i).log)
def cellAt(ts:Nat->Tb)(at_:List Nat)(k:Nat):dx:=(ts k).cells.getD (aa at_ k 0) default
def iK(ts:Nat->Tb)(at_:List Nat)(k:Nat):Nat×Nat:=codeF k (cellAt ts at_ k).sym
def cV(N:Nat)(ts:Nat->Tb)(at_:List Nat)(left:Int):Nat->List Nat×Int
 |0=>([0,0,0],left)
 | i+1=>
   let x:=cV N ts at_ left i
   let k:=[1,2,0].getD i 0
   (x.1.set k ((iK ts at_ k).1+dE N x.2 (iK ts at_ k).2),x.2- (iK ts at_ k).2)
def jE(N:Nat)(ts:Nat->Tb)(at_:List Nat)(left:Int):Nat->List Nat×Int
 |0=>(at_,left)
 | i+1=>
   let x:=jE N ts at_ left i
   let k:=[0,2,1].getD i 0
   (x.1.set k ((cellAt ts x.1 k).base+dE N x.2 (cellAt ts x.1 k).bits),x.2- (cellAt ts x.1 k).bits)
def kS(out:List UInt8)(cy:Nat):Nat->List UInt8
 |0=>out
 |n+1=>kS out cy n++[aa (kS out cy n) (W (kS out cy n)-cy) 0]
def ER(out:List UInt8)(cy:Nat): ∀n,W (kS out cy n)=W out+n
 |0=>rfl
 |n+1=>by simp[kS,ER out cy n];omega
structure Sq where
 at_:List Nat
 left:Int
 tp:Nat
 out:List UInt8
 a:Nat
 b:Nat
 c:Nat
def gf(N:Nat)(ts:Nat->Tb)(aR aq begin:Nat)(text:List UInt8)(s:Sq):Nat×Sq:=
 let x:=cV N ts s.at_ s.left 3
 let v0:=aa x.1 0 0
 let v1:=aa x.1 1 0
 let v2:=aa x.1 2 0
 if x.2<0 then(2,s)
 else if W text-s.tp<v0 then(2,s)
 else
   let d:=s.out++ag text s.tp v0
   let o:=mY v1 (decide (v0=0)) s.a s.b s.c
   if o.1=0\/W d<o.1 then(2,s)
   else if aR<o.1\/aq<W d-begin+v2 then(0,s)
   else(1,⟨s.at_,x.2,s.tp+v0,kS d o.1 v2,o.1,o.2.1,o.2.2⟩)
def mw(N:Nat)(ts:Nat->Tb)(aR aq begin:Nat)(text:List UInt8):Nat->Sq->Nat×Sq
 |0,s=>(1,s)
 | n+1,s=>
   let x:=gf N ts aR aq begin text s
   if x.1≠1 then x
   else if n=0 then x
   else
     let y:=jE N ts x.2.at_ x.2.left 3
     if y.2<0 then(2,s)else mw N ts aR aq begin text n {x.2 with at_:=y.1,left:=y.2}
abbrev agl:=Nat×List UInt8×Nat×Nat×Nat
def lP(ts:Nat->Tb)(aR aq:Nat)(out:List UInt8)(a b c:Nat)(text:List UInt8)(many:Nat)(E:List UInt8):agl:=
 if W E=0 then(0,[],0,0,0)
 else match jg E with
   |none=>(2,[],0,0,0)
   | some left=>
     let x:=lM (num E) ts left 3
     let y:=mw (num E) ts aR aq (W out) text many ⟨x.1,x.2,0,out,a,b,c⟩
     if y.1≠1 then(y.1,[],0,0,0)
     else if y.2.left≠0 then(0,[],0,0,0)
     else
       let d:=y.2.out++text.drop y.2.tp
       if aq<W d-W out then(0,[],0,0,0)else(1,d,y.2.a,y.2.b,y.2.c)
def AM(ts:Nat->Tb):Prop:= ∀k,k<3->se k (ts k)
def GQ(ts:Nat->Tb)(at_:List Nat):Prop:=W at_=3/\ ∀k,k<3->aa at_ k 0<2^(ts k).log
def Y4{N:Nat}{ts:Nat->Tb}{left:Int}(h:AM ts): ∀i,i<=3->W (lM N ts left i).1=3/\(∀k,k<i->aa (lM N ts left i).1 k 0<2^(ts k).log)/\left-9*i<=(lM N ts left i).2/\(lM N ts left i).2<=left
 |0,_=>⟨J,λk b=>by omega,by simp[lM],by simp[lM]⟩
 | i+1,hi=>by
  have a:=Y4 (N:=N) (left:=left) h i I;have c:=(h i I).log;rw[lM];refine⟨by simp[a.1],λk b=>?_,by simp only;omega,by simp only;omega⟩;simp only;rw[e_];by_cases e:i=k
  subst e;rw[ao ⟨J,I⟩];exact wx _ _ _
  rw[aj I];exact a.2.1 k I
def agm(a:k<3)(hs:s<=(cE k).1):(codeF k s).2<=31/\(codeF k s).1<=4294967295/\(k=1->1<=(codeF k s).1):=by
 rcases(I:k=0\/k=1\/k=2)with rfl|rfl|rfl
 have h: ∀s,s<36->(codeF 0 s).2<=31/\(codeF 0 s).1<=4294967295:=an
 have := h s (by have:(cE 0).1=35:=rfl; omega)
 exact⟨this.1,this.2,I⟩
 have h: ∀s,s<32->(codeF 1 s).2<=31/\(codeF 1 s).1<=4294967295/\1<=(codeF 1 s).1:=an
 have := h s (by have:(cE 1).1=31:=rfl; omega)
 exact⟨this.1,this.2.1,λ_=>this.2.2⟩
 have h: ∀s,s<53->(codeF 2 s).2<=31/\(codeF 2 s).1<=4294967295:=an
 have := h s (by have:(cE 2).1=52:=rfl; omega)
 exact⟨this.1,this.2,I⟩
def Y5{at_:List Nat}(h:AM ts)(b:GQ ts at_)(a:k<3):(iK ts at_ k).2<=31/\(iK ts at_ k).1<=4294967295/\(k=1->1<=(iK ts at_ k).1):=by
 unfold iK cellAt;exact agm a ((h k a).cell _ (b.2 k a)).2.2
def k3a(h:i<3):[1,2,0].getD i 0<3:=by rcases(I:i=0\/i=1\/i=2)with rfl|rfl|rfl<;>decide
def k3b(h:i<3):[0,2,1].getD i 0<3:=by rcases(I:i=0\/i=1\/i=2)with rfl|rfl|rfl<;>decide
def Y6{N:Nat}{ts:Nat->Tb}{at_:List Nat}{left:Int}(h:AM ts)(a:GQ ts at_): ∀i,i<=3->W (cV N ts at_ left i).1=3/\(∀k,aa (cV N ts at_ left i).1 k 0<=6442450943)/\left-31*i<=(cV N ts at_ left i).2/\(cV N ts at_ left i).2<=left
 | 0,_=>by
  refine⟨J,λk=>?_,by simp[cV],by simp[cV]⟩
  match k with
  |0=>simp[cV]
  |1=>simp[cV]
  |2=>simp[cV]
  |k+3=>simp[cV]
 | i+1,hi=>by
  have b:=Y6 (N:=N) (left:=left) h a i I;have c:=Y5 h a (k3a (I:i<3));rw[cV];refine⟨by simp[b.1],λk=>?_,by simp only;omega,by simp only;omega⟩;simp only;rw[e_];split
  have h1:=wx N (cV N ts at_ left i).2 (iK ts at_ ([1,2,0].getD i 0)).2;have h2:2^(iK ts at_ ([1,2,0].getD i 0)).2<=2^31:=dF I c.1;omega
  exact b.2.1 k
def asN{N:Nat}{at_:List Nat}{left:Int}(h:AM ts)(a:GQ ts at_):1<=aa (cV N ts at_ left 3).1 1 0:=by
 have b:=(Y5 h a (I:1<3)).2.2 J;have e:aa (cV N ts at_ left 3).1 1 0=(iK ts at_ 1).1+dE N left (iK ts at_ 1).2:=rfl;omega
def Y7{N:Nat}{ts:Nat->Tb}{at_:List Nat}{left:Int}(h:AM ts)(b:GQ ts at_): ∀i,i<=3->GQ ts (jE N ts at_ left i).1/\left-9*i<=(jE N ts at_ left i).2/\(jE N ts at_ left i).2<=left
 |0,_=>⟨b,by simp[jE],by simp[jE]⟩
 | i+1,hi=>by
  have a:=Y7 (N:=N) (left:=left) h b i I;have c:=k3b (I:i<3);have f:=(h _ c).cell _ (a.1.2 _ c);rw[jE];simp only;unfold cellAt;refine⟨⟨by simp[a.1.1],λk d=>?_⟩,I,I⟩;rw[e_];split
  rename_i e;have h1:=wx N (jE N ts at_ left i).2 ((ts ([0,2,1].getD i 0)).cells.getD (aa (jE N ts at_ left i).1 ([0,2,1].getD i 0) 0) default).bits;rw[<-e.1];omega
  exact a.1.2 k d
variable {text:List UInt8}{aR:Nat}{p:Prop}{p0 p1 p2 x3:Value}
def q9(hs:aY F (.slice ad n c) X)(d:Sub F L):Src P r L 1 n (.slice ad n c) (X.map u8):=by
 obtain⟨i,k,c',e,h1,h2,f⟩:=hs;cases e;rcases pd n with a|a
 subst a;obtain rfl:X=[]:=k7.1 h1.symm;exact Src.nil
 obtain⟨b,q,l,T,rfl,hm,g⟩:=f a;obtain⟨j,h⟩:=IU (d _ hm);exact Src.slice h g (by simp[h1])
def aY.take(hs:aY F (.slice ad n c) X)(hm:m<=n):aY F (.slice ad m c) (X.take m):=by
 obtain⟨h,i,c',e,h1,h2,a⟩:=hs;cases e;refine⟨ad,m,c,J,by rw[fR];omega,I,λk=>?_⟩;obtain⟨b,q,l,T,d,e2,f⟩:=a I;refine⟨b,q,l,T,d,e2,Rd.of λj g=>?_⟩;rw[cB,fR]at g;rw[f.get j (by rw[cB];omega),kP,kP,qg,ao I]
def aY.drop(hs:aY F (.slice ad n c) X)(hm:m<=n):aY F (.slice (cut ad c m 1) (n-m) (c-m)) (X.drop m):=by
 obtain⟨h,i,c',e,h1,h2,a⟩:=hs;cases e;refine⟨_,_,_,J,by rw[cr];omega,I,λk=>?_⟩;obtain⟨b,q,l,T,d,e2,f⟩:=a I;refine⟨b,q+m,l,T,eU d I,e2,Rd.of λj g=>?_⟩;rw[cB,cr]at g;have:=f.get (m+j) (by rw[cB];omega);rw[<-fL]at this;rw[this,kP,kP,nQ]
def aY.len(hs:aY F (.slice ad n c) X):n=W X/\n<=c:=by
 obtain⟨a,b,c',e,h1,h2,d⟩:=hs;cases e;exact⟨h1,h2⟩
def Y8{x0 x1 a b c d:Value}(e:k<3):([x0,x1,a,x3,p0,p1,p2,b,c,d]:List Value)[4+k]? =some ([p0,p1,p2].getD k undef):=by
 rcases(I:k=0\/k=1\/k=2)with rfl|rfl|rfl<;>rfl
def m7(h:f<3):([af a,af b,af c]:List Value)[f]? =some (af ([a,b,c].getD f 0)):=by
 rcases(I:f=0\/f=1\/f=2)with rfl|rfl|rfl<;>rfl
def agn{v:Nat}{n:Bool}(d:a<=m)(hb:b<=m)(e:c<=m)(h:v<=m):(mY v n a b c).1<=m/\(mY v n a b c).2.1<=m/\(mY v n a b c).2.2<=m:=by
 unfold mY;split
 exact⟨by simp only;omega,d,hb⟩
 dsimp only;obtain⟨k,g⟩: ∃k,(if n=true then v-1+1 else v-1)=k:=⟨_,J⟩;rw[g];by_cases h1:k=1
 rw[ao h1];exact⟨hb,d,e⟩
 by_cases h2:k=2
 rw[aj h1,ao h2];exact⟨e,d,hb⟩
 by_cases f:k=3
 rw[aj h1,aj h2,ao f];exact⟨by simp only;omega,d,hb⟩
 rw[aj h1,aj h2,aj f];exact⟨d,hb,e⟩
def asO(N:Nat)(ts:Nat->Tb)(aR aq begin:Nat)(text:List UInt8)(n:Nat)(s:Sq):mw N ts aR aq begin text (n+1) s=
 if(gf N ts aR aq begin text s).1≠1 then gf N ts aR aq begin text s
 else if n=0 then gf N ts aR aq begin text s
 else if(jE N ts (gf N ts aR aq begin text s).2.at_ (gf N ts aR aq begin text s).2.left 3).2<0 then(2,s)
 else mw N ts aR aq begin text n {(gf N ts aR aq begin text s).2 with at_:=(jE N ts (gf N ts aR aq begin text s).2.at_ (gf N ts aR aq begin text s).2.left 3).1,left:=(jE N ts (gf N ts aR aq begin text s).2.at_ (gf N ts aR aq begin text s).2.left 3).2}:=rfl
def ago{left len:Nat}{out:List UInt8}{R:Nat×Sq}(e:W E=len)(hb:jg E=some left)(d:mw (num E) ts aR aq (W out) text many ⟨(lM (num E) ts left 3).1,(lM (num E) ts left 3).2,0,out,a,b,c⟩=R)(f:0<len):lP ts aR aq out a b c text many E=if R.1≠1 then(R.1,[],0,0,0)else if R.2.left≠0 then(0,[],0,0,0)else if aq<W (R.2.out++text.drop R.2.tp)-W out then(0,[],0,0,0)else(1,R.2.out++text.drop R.2.tp,R.2.a,R.2.b,R.2.c):=by
 unfold lP;rw[aj I,hb];dsimp only;rw[d]
def asP{out:List UInt8}(cy n:Nat)(_:cy<=W out+n):kS out cy (n+1)=kS out cy n++[aa (kS out cy n) (W out+n-cy) 0]:=by
 rw[kS,ER]
def Y9(h:p:=by replace h:=h.tail;(try dsimp only[dX]at h);exact⟨aS,dR,c9,ep,az,(by rw[agp];exact h),by simp,dC,by rw[agp];exact gl,fk⟩):p:=h
def Y_(h:p:=by exact⟨2,J,(by rw[wU,<-gn];rfl),λ_=>h.tail.tail.tail.tail.tail.tail,(by intro e;cases e)⟩):p:=h
def agq(h:p:=by rw[du,ao (show(2:Nat)≠1 by decide)]at gn;exact⟨2,J,(by rw[wU,<-gn];rfl),λ_=>h.tail.tail.tail.tail.tail,(by intro e;cases e)⟩):p:=h
def agr(h:p:=by rw[du,ao (show(0:Nat)≠1 by decide)]at gn;exact⟨0,J,(by rw[wU,<-gn];rfl),λ_=>h.tail.tail.tail.tail.tail,(by intro e;cases e)⟩):p:=h
def ags(h:p:=by exact⟨0,J,(by rw[wU]),λ_=>h.tail.tail.tail.tail.tail,(by intro e;cases e)⟩):p:=h
theorem asQ{D:List UInt8}{len:Nat}{sb co:Nat}{tv:Value}{ob:Option Nat}{out:List UInt8}(h:H r w ((ah sb [.slice (aI ob) (W out) co,af aR,af aq,x3,p0,p1,p2,af a,af b,af c] 101)::(ob,C (ar u8 out++sp) 5)::F))(hm:(ah db (D.map u8) T)∈F)(bF:0<len->ad=some ⟨db,q,none⟩)(X:q+len<=W D)(hlen:len<=140737488355328)(lL: ∀k,k<3->mN F ([p0,p1,p2].getD k undef) (ts k))(f:AM ts)(fZ:b8 ob (W out) co (out.map u8) sp 1)(ET:aY F tv text)(eX:W text<=131072)(EG:1<=many)(Y':many<=1048576)(ha:1<=a)(Cj:a<=1099511627776)(fW:b<=1099511627776)(m4:c<=1099511627776)(AF:W out<=1099511627776)(pZ:aq<=131072)(q_:aR<=1099511627776):Calls PP 47 #[bL sb,tv,af many,.slice ad len cap] w λe w'=> ∃v,e= .returned (af v)/\(lP ts aR aq out a b c text many (ag D q len)).1=v/\(v≠1->H r w' F)/\(v=1-> ∃dh a' b' c' b_ GR dH,lP ts aR aq out a b c text many (ag D q len)=(1,dh,a',b',c')/\b8 b_ (W dh) GR (dh.map u8) dH 1/\1<=a'/\a'<=1099511627776/\b'<=1099511627776/\c'<=1099511627776/\H r w' ((ah sb [.slice (aI b_) (W dh) GR,af aR,af aq,x3,p0,p1,p2,af a',af b',af c'] 101)::(b_,C (ar u8 dh++dH) 5)::F)):=by
 obtain⟨wD,wE⟩:=dw hm;obtain⟨asR,nt0,ct0,rfl,s7,Za,aIE⟩:=id ET;subst s7;have eo:=dK X;refine xJ func47 ntmps47 [8] ?_;refine g_ 11 ?_;refine au J ?_ ?_<;>intro xM
 refine g_ 5 ?_;exact⟨0,J,(by unfold lP;rw[ao I]),λ_=>h.tail.tail,(by intro e;cases e)⟩
 refine g_ 4 ?_;refine d' J J (aH (Yx h (aA (aA hm)) bF X hlen) ?_);rintro e Y ⟨ok,bo,left,rfl,Z,Cu,jD,h⟩;refine g_ 10 ?_;refine ak (k8 J) (aJ (eY J ?_ ?_))<;>intro uY
 (have uZ:ok=false:=by cases ok<;>first|rfl| (exfalso;revert uY;decide));rw[uZ,aj an]at Z;refine g_ 5 ?_;exact⟨2,J,(by unfold lP;rw[aj I,Z]),λ_=>h.tail.tail.tail,(by intro e;cases e)⟩
 (obtain rfl:ok=true:=by cases ok<;>first|rfl| (exfalso;revert uY;decide));obtain⟨bb,rfl⟩:=Cu J;rw[ao J]at Z;have wL:=YA Z;refine g_ 12 ?_;refine eN h J ?_;intro S w h;refine g_ 7 ?_;refine cw (σ:=Nat) [(13,13),(38,54)] (λi ρ w=>Kn ρ [(38,af i)]/\H r w ((ah S (ar af (lM (num (ag D q len)) ts (left:Int) i).1) 44)::(ah bb [.slice ad len cap,.int .i64 (lM (num (ag D q len)) ts (left:Int) i).2] 155)::(ah sb [.slice (aI ob) (W out) co,af aR,af aq,x3,p0,p1,p2,af a,af b,af c] 101)::(ob,C (ar u8 out++sp) 5)::F)/\(i<=3)) (λi=>3-i) (0) ⟨az,h,I⟩ ?_;rintro i ρ w ⟨⟨ny,rfl⟩,h,hi⟩;have Jv:=Y4 (N:=(num (ag D q len))) (left:=(left:Int)) f i hi;refine g_ 5 ?_;refine au J ?_ ?_<;>intro pk
 refine aZ (lL i I) (λtb M=>aZ (M) (λcb g=>?_));have x_:=g.1;refine aZ (dw g.2.1) (λRs Ru=>aZ (dw g.2.2) (λYB YC=>?_));have oK:=(f i I).log;refine g_ 16 ?_;refine aX h J ((Y8 pk).trans (cD some x_)) ?_;refine g_ 3 ?_;replace h:=h.zz [1] 0;refine cJ J J J (aH (Gv (left:=(lM (num (ag D q len)) ts (left:Int) i).2) (n:=(ts i).log) h (aA (aA (aA hm))) bF X I I I I) ?_);rintro e Y ⟨rfl,h⟩;refine g_ 1 ?_;refine ir (v:=af (dE (num (ag D q len)) (lM (num (ag D q len)) ts (left:Int) i).2 (ts i).log)) h J (kq I) J J J ?_;intro w h;dsimp only[bJ]at h;rw[<-kH]at h;refine g_ 5 ?_;replace h:=h.zz [3,3,2,3] 0;exact⟨aS,i+1,cQ,az,h,I⟩
 have B:i=3:=I;rw[B]at h;clear B;refine g_ 8 ?_;have Jv:=Y4 (N:=(num (ag D q len))) (left:=(left:Int)) f 3 (aW _);have asS:GQ ts (lM (num (ag D q len)) ts (left:Int) 3).1:=⟨Jv.1,Jv.2.1⟩;have asT: -27<=(lM (num (ag D q len)) ts (left:Int) 3).2:=I;have asU:(lM (num (ag D q len)) ts (left:Int) 3).2<=8*len:=I;refine cM (mw (num (ag D q len)) ts aR aq (W out) text many ⟨(lM (num (ag D q len)) ts (left:Int) 3).1,(lM (num (ag D q len)) ts (left:Int) 3).2,0,out,a,b,c⟩) λR nu=>?_;have wU:=ago eo Z nu I;refine cw (σ:=Nat×Sq×Option Nat×Nat×List Value×Option Addr×Nat) [(1,1),(8,8),(14,15),(17,20),(22,22),(56,218)] (λ⟨k,s,ob,co,sp,O,l⟩ ρ w=>Kn ρ [(56,af k),(1,.slice O (W text-s.tp) l)]/\H r w ((ah S (ar af s.at_) 44)::(ah bb [.slice ad len cap,.int .i64 s.left] 155)::(ah sb [.slice (aI ob) (W s.out) co,af aR,af aq,x3,p0,p1,p2,af s.a,af s.b,af s.c] 101)::(ob,C (ar u8 s.out++sp) 5)::F)/\(k<many)/\(GQ ts s.at_)/\(-27<=s.left)/\(s.left<=8*len)/\(b8 ob (W s.out) co (ar u8 s.out) sp 1)/\(s.tp<=W text)/\(W out<=W s.out)/\(W s.out<=W out+131072)/\(aY F (.slice O (W text-s.tp) l) (text.drop s.tp))/\(1<=s.a)/\(s.a<=1099511627776)/\(s.b<=1099511627776)/\(s.c<=1099511627776)/\(mw (num (ag D q len)) ts aR aq (W out) text (many-k) s=R)) (λ⟨k,s,ob,co,sp,O,l⟩=>many-k) (0,⟨(lM (num (ag D q len)) ts (left:Int) 3).1,(lM (num (ag D q len)) ts (left:Int) 3).2,0,out,a,b,c⟩,ob,co,sp,asR,ct0) ⟨az,h,I,asS,asT,asU,fZ,(cj _),(aW _),(lV _ _),ET,ha,Cj,fW,m4,nu⟩ ?_;rintro⟨k,s,ob,co,sp,O,l⟩ ρ w ⟨⟨mn,rfl⟩,h,p,u,dV,ig,fZ,Cp,fj,fW,Nr,CD,agt,asV,asW,hR⟩;have Zb:=Y6 (N:=(num (ag D q len))) (left:=s.left) f u 3 (aW _);have uf:=u.1;have s7:=Nr.len;refine aZ (show ∃n,many-k=n+1 from⟨many-k-1,I⟩) (λn hn=>?_);have gn:=hR;rw[hn,asO]at gn;refine g_ 5 ?_;refine au J ?_ ?_<;>intro GU
 refine g_ 10 ?_;refine eN h J ?_;intro bv w h;refine g_ 4 ?_;refine B_ J J J (lX _ _ _) h ?_;intro bz w h;refine g_ 4 ?_;refine cw (σ:=Nat) [(17,19),(61,92)] (λi ρ w=>Kn ρ [(61,af i)]/\H r w ((ah bz [af 1,af 2,af 0] 3)::(ah bv (ar af (cV (num (ag D q len)) ts s.at_ s.left i).1) 44)::(ah S (ar af s.at_) 44)::(ah bb [.slice ad len cap,.int .i64 (cV (num (ag D q len)) ts s.at_ s.left i).2] 155)::(ah sb [.slice (aI ob) (W s.out) co,af aR,af aq,x3,p0,p1,p2,af s.a,af s.b,af s.c] 101)::(ob,C (ar u8 s.out++sp) 5)::F)/\(i<=3)) (λi=>3-i) (0) ⟨az,h,I⟩ ?_;rintro i ρ w ⟨⟨nz,rfl⟩,h,hi⟩;have hvi:=Y6 (N:=(num (ag D q len))) (left:=s.left) f u i hi;have aIF:=hvi.1;refine g_ 5 ?_;refine au J ?_ ?_<;>intro GV
 have k3:=k3a GV;refine aZ (lL ([1,2,0].getD i 0) I) (λtb M=>aZ (M) (λcb g=>?_));have x_:=g.1;refine aZ (dw g.2.1) (λRs Ru=>aZ (dw g.2.2) (λYB YC=>?_));refine aZ (RD ((ts ([1,2,0].getD i 0)).cells.getD (aa s.at_ ([1,2,0].getD i 0) 0) default)) (λo M=>aZ (M) (λbi eJ=>aZ (eJ) (λbs z=>?_)));have agu:iK ts s.at_ ([1,2,0].getD i 0)=codeF ([1,2,0].getD i 0) o:=(by unfold iK cellAt;rw[z]);have AB:=Y5 f u k3;rw[agu]at AB;have jV:aa s.at_ ([1,2,0].getD i 0) 0<W (ts ([1,2,0].getD i 0)).cells:=(by rw[(f _ k3).len];exact u.2 _ k3);have U:o<=(cE ([1,2,0].getD i 0)).1:=(by have:=((f _ k3).cell _ (u.2 _ k3)).2.2;rw[z]at this;exact this);have r9:=wx (num (ag D q len)) (cV (num (ag D q len)) ts s.at_ s.left i).2 (codeF ([1,2,0].getD i 0) o).2;have EU:2^(codeF ([1,2,0].getD i 0) o).2<=2^31:=dF I AB.1;refine g_ 6 ?_;refine aX h J (m7 (a:=1) (b:=2) (c:=0) GV) ?_;refine g_ 3 ?_;refine cm h [0,4,8,12,16,20,40,44,25,28,32,37,49,52,56,61,67,68,72,76,80,84] ?_;intro w h;refine aC 8 ?_;refine aQ J h J ((Y8 k3).trans (cD some x_)) ?_;refine aC 3 ?_;refine aQ J h J (kq I) (aD J (lu J J J jV) (XA J J (aQ J h J (Ey jV z) (lW J J J J (aH (afy (kind:=([1,2,0].getD i 0)) (c:=o) h I (by intro e;rw[e]at U;exact U) (by intro e;rw[e]at U;exact U) (by intro e;rw[e]at U;exact U)) ?_)))));rintro e Y ⟨rfl,h⟩;refine aC 6 ?_;refine g_ 5 ?_;replace h:=h.zz [3] 0;refine cJ J J J (aH (Gv (left:=(cV (num (ag D q len)) ts s.at_ s.left i).2) (n:=(codeF ([1,2,0].getD i 0) o).2) h (aA (aA (aA (aA (aA hm))))) bF X I I I I) ?_);rintro e Y ⟨rfl,h⟩;refine g_ 2 ?_;refine ir (v:=af ((codeF ([1,2,0].getD i 0) o).1+dE (num (ag D q len)) (cV (num (ag D q len)) ts s.at_ s.left i).2 (codeF ([1,2,0].getD i 0) o).2)) h J (kq I) J J J ?_;intro w h;dsimp only[bJ]at h;rw[<-kH,<-agu]at h;refine g_ 5 ?_;replace h:=h.zz [5,5,2,5,5,5] 0;exact⟨aS,i+1,cQ,az,h,I⟩
 have B:i=3:=I;rw[B]at h;clear B;refine g_ 8 ?_;refine ak (rR (v:=0) J J) (aJ (au J ?_ ?_))<;>intro E
 refine g_ 5 ?_;have du:gf (num (ag D q len)) ts aR aq (W out) text s=(2,s):=(by unfold gf;dsimp only;rw[ao E]);rw[du,ao (show(2:Nat)≠1 by decide)]at gn;exact Y_
 refine g_ 5 ?_;refine aX h J (kq I) ?_;refine g_ 4 ?_;refine au J ?_ ?_<;>intro P
 refine g_ 5 ?_;have du:gf (num (ag D q len)) ts aR aq (W out) text s=(2,s):=(by unfold gf;dsimp only;rw[aj E,ao P]);rw[du,ao (show(2:Nat)≠1 by decide)]at gn;exact Y_
 have agp:W (s.out++ag text s.tp (aa (cV (num (ag D q len)) ts s.at_ s.left 3).1 0 0))=W s.out+(aa (cV (num (ag D q len)) ts s.at_ s.left 3).1 0 0):=(by rw[aF,dK I]);refine a8 (cW [(1,1),(103,118)] (λρ w=> ∃cf:Option Nat,∃ug:Nat,∃cg:List Value,Kn ρ [(1,.slice (cut O l (aa (cV (num (ag D q len)) ts s.at_ s.left 3).1 0 0) 1) (W text-s.tp- (aa (cV (num (ag D q len)) ts s.at_ s.left 3).1 0 0)) (l- (aa (cV (num (ag D q len)) ts s.at_ s.left 3).1 0 0)))]/\H r w ((ah bv (ar af (cV (num (ag D q len)) ts s.at_ s.left 3).1) 44)::(ah S (ar af s.at_) 44)::(ah bb [.slice ad len cap,.int .i64 (cV (num (ag D q len)) ts s.at_ s.left 3).2] 155)::(ah sb [.slice (aI cf) (W (s.out++ag text s.tp (aa (cV (num (ag D q len)) ts s.at_ s.left 3).1 0 0))) ug,af aR,af aq,x3,p0,p1,p2,af s.a,af s.b,af s.c] 101)::(cf,C (ar u8 (s.out++ag text s.tp (aa (cV (num (ag D q len)) ts s.at_ s.left 3).1 0 0))++cg) 5)::F)/\(b8 cf (W (s.out++ag text s.tp (aa (cV (num (ag D q len)) ts s.at_ s.left 3).1 0 0))) ug (ar u8 (s.out++ag text s.tp (aa (cV (num (ag D q len)) ts s.at_ s.left 3).1 0 0))) cg 1)) ?_ ?_)
 refine xK h (de [0,4,8,12,20,24,40,44,17,29,32] (.fork (de [39,56,60] (.fork (de [49,52,67,68] .nil) (de [67,49,52,68] .nil))) (de [49,52,39,56,60,67,68] .nil))) ?_;intro w h;refine aC 9 ?_;refine aQ J h J (kq I) (aD J (mX J J I) (gR ?_ ?_))
 refine nU (ar u8 s.out) sp ((ag text s.tp (aa (cV (num (ag D q len)) ts s.at_ s.left 3).1 0 0)).map u8) J h 5 J J J fZ (q9 (aY.take Nr I) (by intro e he;repeat(first|exact he|apply nq))) (by intro x G;obtain⟨y,_,rfl⟩:=jS.1 G;rfl) I an J ?_;intro w dR c9 ep h dC gl fk;dsimp only[bJ]at h;rw[<-gJ]at h dC;refine aC 2 ?_;refine gR ?_ ?_
 refine aQ J h J (kq I) (aD J (jJ J J I I) (cI ?_));intro w h;refine fG J (cO ?_);exact Y9
 refine cI ?_;intro w h;refine aQ J h J (kq I) (aD J (jJ J J I I) (fG J (cO ?_)));exact Y9
 refine aQ J h J (kq I) (aD J (jJ J J I I) (nU (ar u8 s.out) sp ((ag text s.tp (aa (cV (num (ag D q len)) ts s.at_ s.left 3).1 0 0)).map u8) J h 5 J J J fZ (q9 (aY.take Nr I) (by intro e he;repeat(first|exact he|apply nq))) (by intro x G;obtain⟨y,_,rfl⟩:=jS.1 G;rfl) I an J ?_));intro w dR c9 ep h dC gl fk;dsimp only[bJ]at h;rw[<-gJ]at h dC;refine aC 2 ?_;refine cI ?_;intro w h;refine fG J (cO ?_);exact Y9
 rintro ρ w ⟨cf,ug,cg,⟨r_,rfl⟩,h,AI⟩;refine g_ 4 ?_;refine aX h J (kq I) ?_;refine g_ 1 ?_;refine aX h J (kq I) ?_;refine g_ 1 ?_;replace h:=h.zz [3] 0;refine eS J J J J (aH (afA (v:=(aa (cV (num (ag D q len)) ts s.at_ s.left 3).1 1 0)) (none:=decide ((aa (cV (num (ag D q len)) ts s.at_ s.left 3).1 0 0)=0)) h (asN f u) (by have:=Zb.2.1 1;omega) CD agt) ?_);rintro e Y ⟨a1,b1,c1,Q,rfl,h⟩;have K:=agn (v:=(aa (cV (num (ag D q len)) ts s.at_ s.left 3).1 1 0)) (n:=decide ((aa (cV (num (ag D q len)) ts s.at_ s.left 3).1 0 0)=0)) agt asV asW (by have:=Zb.2.1 1;omega);rw[Q]at K;dsimp only at K;refine g_ 8 ?_;refine eM (t:=128) J (λasX=>?_) (λasX=>?_)
 refine g_ 9 ?_;refine jv J ?_;refine g_ 5 ?_;have du:gf (num (ag D q len)) ts aR aq (W out) text s=(2,s):=(by unfold gf;dsimp only;rw[aj E,aj P,Q];dsimp only;rw[ao (a_ I)]);exact agq
 refine g_ 9 ?_;refine au J ?_ ?_<;>intro RK
 refine g_ 5 ?_;have du:gf (num (ag D q len)) ts aR aq (W out) text s=(2,s):=(by unfold gf;dsimp only;rw[aj E,aj P,Q];dsimp only;rw[ao (bG RK)]);exact agq
 refine g_ 3 ?_;refine cm h [0,4,8,12,17,20,24,28,32,36,48,56,68,72,76,41,44,52,61,64,81,84,88] ?_;intro w h;refine aC 7 ?_;refine BU (t:=143) J (λagv=>?_) (λagv=>?_)
 refine aC 17 ?_;refine jv J ?_;refine g_ 5 ?_;have du:gf (num (ag D q len)) ts aR aq (W out) text s=(0,s):=(by unfold gf;dsimp only;rw[aj E,aj P,Q];dsimp only;rw[aj (by intro d;rcases d with d|d<;>omega),ao (a_ agv)]);exact agr
 refine dz J J J J (λw=>run_move) J (dz J J J J (λw=>v_ J) J (dz J J J J (λw=>pg J) J (dz J J J J (λw=>run_move) J (dz J J J J (λw=>MB (a:=2) (h1:=av.lit _) J J I) J (dz J J J J (λw=>run_move) J (dz J J J J (λw=>v_ J) J (dz J J J J (λw=>pg J) J (qk J J J J (λw p=>run_load (h.keeps p) J J) J (dz J J J J (λw=>DY J) J (dz J J J J (λw=>jm J J I aG) J (qk J J J J (λw p=>run_load (h.keeps p) J (kq I)) J (dz J J J J (λw=>eR J J (by have:=Zb.2.1 2;simp only[aN];omega)) J ?_))))))))))));refine qk J J J J (λw p=>run_load (h.keeps p) J J) J (dz J J J J (λw=>Mr J J) J ?_);refine aC 2 ?_;refine au J ?_ ?_<;>intro agw
 refine g_ 5 ?_;have du:gf (num (ag D q len)) ts aR aq (W out) text s=(0,s):=(by unfold gf;dsimp only;rw[aj E,aj P,Q];dsimp only;rw[aj (by intro d;rcases d with d|d<;>omega),ao (bG agw)]);exact agr
 refine g_ 5 ?_;refine aX h J (kq I) ?_;refine g_ 3 ?_;refine cw (σ:=Nat×Option Nat×Nat×List Value) [(162,186)] (λ⟨j,A,V,L⟩ ρ w=>Kn ρ [(162,af j)]/\H r w ((ah sb [.slice (aI A) (W (s.out++ag text s.tp (aa (cV (num (ag D q len)) ts s.at_ s.left 3).1 0 0))+j) V,af aR,af aq,x3,p0,p1,p2,af a1,af b1,af c1] 101)::(ah bv (ar af (cV (num (ag D q len)) ts s.at_ s.left 3).1) 44)::(ah S (ar af s.at_) 44)::(ah bb [.slice ad len cap,.int .i64 (cV (num (ag D q len)) ts s.at_ s.left 3).2] 155)::(A,C (ar u8 (kS (s.out++ag text s.tp (aa (cV (num (ag D q len)) ts s.at_ s.left 3).1 0 0)) a1 j)++L) 5)::F)/\(j<=(aa (cV (num (ag D q len)) ts s.at_ s.left 3).1 2 0))/\(b8 A (W (s.out++ag text s.tp (aa (cV (num (ag D q len)) ts s.at_ s.left 3).1 0 0))+j) V (ar u8 (kS (s.out++ag text s.tp (aa (cV (num (ag D q len)) ts s.at_ s.left 3).1 0 0)) a1 j)) L 1)) (λ⟨j,A,V,L⟩=>(aa (cV (num (ag D q len)) ts s.at_ s.left 3).1 2 0) -j) (0,cf,ug,cg) ⟨az,h,(cj _),AI⟩ ?_;rintro⟨j,A,V,L⟩ ρ w ⟨⟨sV,rfl⟩,h,hj,tX⟩;refine(tX.some I).elim λo9 nC=>?_;rw[nC]at h;refine g_ 5 ?_;refine au J ?_ ?_<;>intro aIG
 refine g_ 3 ?_;refine cm h [0,4,8,12,20,24,28,36,40,44,56,17,33,49,52,60,64,69,74,79,80,84,91] ?_;intro w h;refine aC 17 ?_;refine aQ J h J (M9 (by rw[ER];omega)) ?_;refine ld J J (ly _) h ?_;intro bz w h;refine nU (ob:=some o9) (ar u8 (kS (s.out++ag text s.tp (aa (cV (num (ag D q len)) ts s.at_ s.left 3).1 0 0)) a1 j)) L [u8 (aa (kS (s.out++ag text s.tp (aa (cV (num (ag D q len)) ts s.at_ s.left 3).1 0 0)) a1 j) (W (s.out++ag text s.tp (aa (cV (num (ag D q len)) ts s.at_ s.left 3).1 0 0))+j-a1) 0)] J h 5 J J J (by rw[<-nC];exact tX) (Src.slice (j:=0) (q2:=0) J ⟨J,trivial⟩ J) (by intro x G;simp at G;subst G;rfl) I an J ?_;intro w dR c9 ep h dC gl fk;dsimp only[bJ]at h;rw[Yz,<-asP a1 j I]at h dC;replace h:=h.tail;(try dsimp only[dX]at h);refine aC 2 ?_;refine cI ?_;intro w h;refine cO ?_;refine g_ 4 ?_;exact⟨aS,(j+1,dR,c9,ep),cQ,az,h,I,by rw[cB,ER];omega,dC,gl,fk⟩
 have Nt:j=(aa (cV (num (ag D q len)) ts s.at_ s.left 3).1 2 0):=I;rw[<-nC,Nt]at h;rw[Nt]at tX;clear Nt;refine g_ 9 ?_;refine au J ?_ ?_<;>intro aIH
 have du:gf (num (ag D q len)) ts aR aq (W out) text s=(1,⟨s.at_,(cV (num (ag D q len)) ts s.at_ s.left 3).2,s.tp+(aa (cV (num (ag D q len)) ts s.at_ s.left 3).1 0 0),(kS (s.out++ag text s.tp (aa (cV (num (ag D q len)) ts s.at_ s.left 3).1 0 0)) a1 (aa (cV (num (ag D q len)) ts s.at_ s.left 3).1 2 0)),a1,b1,c1⟩):=(by unfold gf;dsimp only;rw[aj E,aj P,Q];dsimp only;rw[aj (by intro d;rcases d with d|d<;>omega),aj (by intro d;rcases d with d|d<;>omega)]);rw[du,aj (λd=>d J)]at gn;have ku:n=0:=I;rw[ao ku]at gn;rw[<-gn]at wU;dsimp only at wU;rw[aj (λd=>d J)]at wU;have Zc:W ((kS (s.out++ag text s.tp (aa (cV (num (ag D q len)) ts s.at_ s.left 3).1 0 0)) a1 (aa (cV (num (ag D q len)) ts s.at_ s.left 3).1 2 0))++text.drop (s.tp+(aa (cV (num (ag D q len)) ts s.at_ s.left 3).1 0 0)))=W (s.out++ag text s.tp (aa (cV (num (ag D q len)) ts s.at_ s.left 3).1 0 0))+(aa (cV (num (ag D q len)) ts s.at_ s.left 3).1 2 0)+(W text-s.tp- (aa (cV (num (ag D q len)) ts s.at_ s.left 3).1 0 0)):=(by rw[aF,ER,cr];omega);rw[Zc]at wU;refine g_ 8 ?_;refine ak (Xj (v:=0) J J) (aJ (au J ?_ ?_))<;>intro RL
 refine g_ 5 ?_;rw[ao RL]at wU;exact ags
 refine g_ 9 ?_;have asY:aY F (.slice (cut O l (aa (cV (num (ag D q len)) ts s.at_ s.left 3).1 0 0) 1) (W text-s.tp- (aa (cV (num (ag D q len)) ts s.at_ s.left 3).1 0 0)) (l- (aa (cV (num (ag D q len)) ts s.at_ s.left 3).1 0 0))) (text.drop (s.tp+(aa (cV (num (ag D q len)) ts s.at_ s.left 3).1 0 0))):=(by have:=aY.drop (m:=(aa (cV (num (ag D q len)) ts s.at_ s.left 3).1 0 0)) Nr I;rwa [kG]at this);refine me (ob:=A) (ar u8 (kS (s.out++ag text s.tp (aa (cV (num (ag D q len)) ts s.at_ s.left 3).1 0 0)) a1 (aa (cV (num (ag D q len)) ts s.at_ s.left 3).1 2 0))) L ((text.drop (s.tp+(aa (cV (num (ag D q len)) ts s.at_ s.left 3).1 0 0))).map u8) h 4 J J J tX (q9 asY (by intro e he;repeat(first|exact he|apply nq))) (by intro x G;obtain⟨y,_,rfl⟩:=jS.1 G;rfl) I an J ?_;intro w dR c9 ep h dC gl fk;dsimp only[bJ]at h;rw[<-gJ]at h dC;refine g_ 2 ?_;refine cI ?_;intro w h;refine g_ 3 ?_;refine cm h [0,4,8,20,28,32,36,13,16,24,41,44] ?_;intro w h;refine aC 13 ?_;refine au J ?_ ?_<;>intro agx
 refine g_ 5 ?_;rw[aj RL,ao agx]at wU;exact ags
 refine g_ 6 ?_;rw[aj RL,aj agx]at wU;rw[<-Zc]at h;refine⟨1,J,(by rw[wU]),(λe=>absurd J e),λ_=>⟨_,a1,b1,c1,dR,c9,ep,wU,⟨?_,dC,?_,fk⟩,I,K.1,K.2.1,K.2.2,((((h.mv 1).tail).mv 1).tail.mv 1).tail⟩⟩
 rw[cB,fg]
 rw[Zc];exact gl
 have du:gf (num (ag D q len)) ts aR aq (W out) text s=(1,⟨s.at_,(cV (num (ag D q len)) ts s.at_ s.left 3).2,s.tp+(aa (cV (num (ag D q len)) ts s.at_ s.left 3).1 0 0),(kS (s.out++ag text s.tp (aa (cV (num (ag D q len)) ts s.at_ s.left 3).1 0 0)) a1 (aa (cV (num (ag D q len)) ts s.at_ s.left 3).1 2 0)),a1,b1,c1⟩):=(by unfold gf;dsimp only;rw[aj E,aj P,Q];dsimp only;rw[aj (by intro d;rcases d with d|d<;>omega),aj (by intro d;rcases d with d|d<;>omega)]);rw[du,aj (λd=>d J)]at gn;rw[aj (I: ¬n=0)]at gn;dsimp only at gn;refine g_ 4 ?_;refine B_ J J J (lX _ _ _) h ?_;intro bz w h;refine g_ 4 ?_;refine cw (σ:=Nat) [(22,22),(193,212)] (λi ρ w=>Kn ρ [(193,af i)]/\H r w ((ah bz [af 0,af 2,af 1] 3)::(ah sb [.slice (aI A) (W (s.out++ag text s.tp (aa (cV (num (ag D q len)) ts s.at_ s.left 3).1 0 0))+(aa (cV (num (ag D q len)) ts s.at_ s.left 3).1 2 0)) V,af aR,af aq,x3,p0,p1,p2,af a1,af b1,af c1] 101)::(ah bv (ar af (cV (num (ag D q len)) ts s.at_ s.left 3).1) 44)::(ah S (ar af (jE (num (ag D q len)) ts s.at_ (cV (num (ag D q len)) ts s.at_ s.left 3).2 i).1) 44)::(ah bb [.slice ad len cap,.int .i64 (jE (num (ag D q len)) ts s.at_ (cV (num (ag D q len)) ts s.at_ s.left 3).2 i).2] 155)::(A,C (ar u8 (kS (s.out++ag text s.tp (aa (cV (num (ag D q len)) ts s.at_ s.left 3).1 0 0)) a1 (aa (cV (num (ag D q len)) ts s.at_ s.left 3).1 2 0))++L) 5)::F)/\(i<=3)) (λi=>3-i) (0) ⟨az,h,I⟩ ?_;rintro i ρ w ⟨⟨wK,rfl⟩,h,hi⟩;have CG:=Y7 (N:=(num (ag D q len))) (left:=(cV (num (ag D q len)) ts s.at_ s.left 3).2) f u i hi;have aII:=CG.1.1;refine g_ 5 ?_;refine au J ?_ ?_<;>intro RM
 have k3:=k3b RM;refine aZ (lL ([0,2,1].getD i 0) I) (λtb M=>aZ (M) (λcb g=>?_));have x_:=g.1;refine aZ (dw g.2.1) (λRs Ru=>aZ (dw g.2.2) (λYB YC=>?_));refine B9 (RD ((ts ([0,2,1].getD i 0)).cells.getD (aa (jE (num (ag D q len)) ts s.at_ (cV (num (ag D q len)) ts s.at_ s.left 3).2 i).1 ([0,2,1].getD i 0) 0) default)) λo bi bs z=>?_;have jV:aa (jE (num (ag D q len)) ts s.at_ (cV (num (ag D q len)) ts s.at_ s.left 3).2 i).1 ([0,2,1].getD i 0) 0<W (ts ([0,2,1].getD i 0)).cells:=(by rw[(f _ k3).len];exact CG.1.2 _ k3);have zA:=(f _ k3).cell _ (CG.1.2 _ k3);rw[z]at zA;dsimp only at zA;have dC:=(f _ k3).log;have M7:=wI dC;have r9:=wx (num (ag D q len)) (jE (num (ag D q len)) ts s.at_ (cV (num (ag D q len)) ts s.at_ s.left 3).2 i).2 bi;refine g_ 6 ?_;refine aX h J (m7 (a:=0) (b:=2) (c:=1) RM) (ee (aJ (cm h [0,4,8,12,16,20,36,40,44,25,28,33,49,55,56,63] ?_)));intro w h;refine aC 9 ?_;refine aQ J h J ((Y8 k3).trans (cD some x_)) (aen J J (yZ J (λw p=>jx [_,_] (h.keeps p) J ⟨J,J,trivial⟩ J) J (aQ J h J (kq I) ?_)));replace h:=h.zz [4] 0;refine Ar J J J J J ?_;have oF:=afP (lg:=af (ts ([0,2,1].getD i 0)).log) (cs:=(ts ([0,2,1].getD i 0)).cells) (cl:=W (ts ([0,2,1].getD i 0)).cells) (i:=aa (jE (num (ag D q len)) ts s.at_ (cV (num (ag D q len)) ts s.at_ s.left 3).2 i).1 ([0,2,1].getD i 0) 0) h (aA (aA (aA (aA (aA hm))))) bF X (aA (aA (aA (aA (aA g.2.2))))) I I I jV J (by rw[z];dsimp only;omega) (by rw[z];dsimp only;omega);rw[z]at oF;dsimp only at oF;refine oF.mono ?_;clear oF;rintro e Y ⟨rfl,h⟩;refine⟨_,J,?_⟩;refine aC 1 ?_;refine xF (v:=af (bs+dE (num (ag D q len)) (jE (num (ag D q len)) ts s.at_ (cV (num (ag D q len)) ts s.at_ s.left 3).2 i).2 bi)) J h J (kq I) J J J ?_;intro w h;dsimp only[bJ]at h;rw[<-kH]at h;refine cO ?_;refine g_ 4 ?_;replace h:=h.zz [5,1,5,5,5,5] 0;refine⟨aS,?_⟩;have AB:cellAt ts (jE (num (ag D q len)) ts s.at_ (cV (num (ag D q len)) ts s.at_ s.left 3).2 i).1 ([0,2,1].getD i 0)=⟨o,bi,bs⟩:=z;have asZ:(jE (num (ag D q len)) ts s.at_ (cV (num (ag D q len)) ts s.at_ s.left 3).2 (i+1))=((jE (num (ag D q len)) ts s.at_ (cV (num (ag D q len)) ts s.at_ s.left 3).2 i).1.set ([0,2,1].getD i 0) (bs+dE (num (ag D q len)) (jE (num (ag D q len)) ts s.at_ (cV (num (ag D q len)) ts s.at_ s.left 3).2 i).2 bi),(jE (num (ag D q len)) ts s.at_ (cV (num (ag D q len)) ts s.at_ s.left 3).2 i).2-bi):=(by rw[jE,AB]);refine⟨i+1,I,az,?_,I⟩;rw[asZ];exact h
 have B:i=3:=I;rw[B]at h;clear B;refine g_ 7 ?_;refine ak (rR (v:=0) J J) (aJ (au J ?_ ?_))<;>intro GW
 refine g_ 5 ?_;rw[ao GW]at gn;exact Y_
 refine g_ 5 ?_;replace h:=h.zz [5,2,5,5,5,5] 2;refine⟨aS,?_⟩;rw[aj GW]at gn;have gN:=Y7 (N:=(num (ag D q len))) (left:=(cV (num (ag D q len)) ts s.at_ s.left 3).2) f u 3 (aW _);have agy:=aY.drop (m:=(aa (cV (num (ag D q len)) ts s.at_ s.left 3).1 0 0)) Nr I;rw[kG]at agy;refine⟨(k+1,⟨(jE (num (ag D q len)) ts s.at_ (cV (num (ag D q len)) ts s.at_ s.left 3).2 3).1,(jE (num (ag D q len)) ts s.at_ (cV (num (ag D q len)) ts s.at_ s.left 3).2 3).2,s.tp+(aa (cV (num (ag D q len)) ts s.at_ s.left 3).1 0 0),(kS (s.out++ag text s.tp (aa (cV (num (ag D q len)) ts s.at_ s.left 3).1 0 0)) a1 (aa (cV (num (ag D q len)) ts s.at_ s.left 3).1 2 0)),a1,b1,c1⟩,A,V,L,cut O l (aa (cV (num (ag D q len)) ts s.at_ s.left 3).1 0 0) 1,l- (aa (cV (num (ag D q len)) ts s.at_ s.left 3).1 0 0)),cQ,?_⟩;have GX:=ER (s.out++ag text s.tp (aa (cV (num (ag D q len)) ts s.at_ s.left 3).1 0 0)) a1 (aa (cV (num (ag D q len)) ts s.at_ s.left 3).1 2 0);refine⟨Kn.mk ⟨J,jw J cQ J,trivial⟩,?_,?_⟩
 dsimp only;rw[GX];exact h
 dsimp only;rw[GX];refine⟨I,gN.1,I,I,tX,I,I,I,?_,I,K.1,K.2.1,K.2.2,?_⟩
 rw[show W text- (s.tp+(aa (cV (num (ag D q len)) ts s.at_ s.left 3).1 0 0))=W text-s.tp- (aa (cV (num (ag D q len)) ts s.at_ s.left 3).1 0 0)from by omega];exact agy
 rw[show many- (k+1)=n from by omega];exact gn
 exact absurd p GU
end Go.Z
