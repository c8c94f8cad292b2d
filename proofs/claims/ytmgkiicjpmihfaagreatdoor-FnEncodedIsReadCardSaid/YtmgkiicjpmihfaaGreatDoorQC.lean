/- Part 3 of the proof. -/
import Derived.KernelRfl
import Derived.Laws.Pointers
import Derived.Test.YtmgkiicjpmihfaaGreatDoorQB
set_option linter.all false
set_option maxRecDepth 20000
set_option maxHeartbeats 400000000
open List renaming length -> W, getD -> aa, map -> ar, replicate -> aT, set -> bJ, range -> cL
open UInt8 renaming ofNat -> bS
open Or renaming inl -> a_, inr -> bG
open Go.Z.Env renaming ev -> aL, put -> fU
namespace Go.Z
open Go Go.Proofs Tryz
variable {i n q:Nat}
def num:List UInt8->Nat
 | []=>0
 |x::l=>x.toNat+256*num l
def XK: ∀(l:List UInt8),num l<2^(8*W l)
 | []=>by simp[num]
 |x::l=>by have h:=XK l;have a:=x.toNat_lt;simp only[num,dL,yO,fg,h_];omega
def XL: ∀(l:List UInt8) (k:Nat),(aa l k 0).toNat=num l/256^k % 256
 | [],k=>by simp[num]
 |x::l,0=>by have a:=x.toNat_lt;simp[num]
 |x::l,k+1=>by have a:=x.toNat_lt;have b:=XL l k;simp only[qh,b,num,jI];have:(x.toNat+256*num l)/ (256^k*256)=num l/256^k:=(by rw[im (256^k) 256,<-rM];congr 1;omega);rw[this]
def Ju(k:Nat):(256:Nat)^k=2^(8*k):=by rw[Mc]
def afe(l:List UInt8)(p:Nat):(aa l (p/8) 0).toNat/2^(p % 8) % 2=num l/2^p % 2:=by
 rw[XL,Ju];have hp:p=8*(p/8)+p % 8:=I;have b:p % 8<8:=dY _ I;(conv=>rhs;rw[hp,h_,<-rM]);generalize num l/2^(8*(p/8))=m;have h2:(256:Nat)=2^(p % 8)*2^(8-p % 8):=(by rw[<-h_,show p % 8+(8-p % 8)=8 by omega]);rw[h2,Md];have a:2^(8-p % 8)=2*2^(7-p % 8):=(by rw[<-xu];congr 1;omega);rw[a];exact Nat.mod_mul_right_mod _ _ _
def aff(a:Nat):a&&&1=a % 2:=Nat.and_one_is_mod a
def QY(m i:Nat):m % 2^(i+1)=m % 2^i+m/2^i % 2*2^i:=by
 rw[jI,Me,im (2^i)]
def pW{v b:Nat}(a:v<2^i):v|||b*2^i=v+b*2^i:=by
 rw[Qb,<-Nat.shiftLeft_eq,<-Nat.shiftLeft_add_eq_or_of_lt a,uC]
def dJ(N p n:Nat):Nat:=N/2^p % 2^n
def afg(N p:Nat):dJ N p 0=0:=by simp[dJ,IX]
def Gk(N p n:Nat):dJ N p n<2^n:=dY _ (eA n)
def afh(N p i:Nat):dJ N p (i+1)=dJ N p i+N/2^(p+i) % 2*2^i:=by
 unfold dJ;rw[QY,rM,<-h_]
def ari(N p i:Nat):dJ N p (i+1)=2*dJ N (p+1) i+N/2^p % 2:=by
 unfold dJ;have e:N/2^(p+1)=N/2^p/2:=(by rw[jI,rM]);rw[e];generalize N/2^p=m;rw[jI,im (2^i) 2,Me];omega
def dE(N:Nat)(left:Int):Nat->Nat
 |0=>0
 |n+1=>2*dE N left n+(if 0<=left-n-1 then N/2^(left-n-1).toNat % 2 else 0)
def wx(N:Nat)(left:Int): ∀n,dE N left n<2^n
 |0=>by simp[dE]
 |n+1=>by have:=wx N left n;simp only[dE,jI];split<;>omega
def Ca(N:Nat): ∀(n l:Nat),n<=l->dE N (l:Int) n=dJ N (l-n) n
 |0,l,_=>by simp[dE,afg]
 |n+1,l,h=>by have e:((l:Int) -n-1).toNat=l- (n+1):=I;rw[dE,Ca N n l I,ao I,e,ari];congr 3;omega
def ag(D:List UInt8)(q n:Nat):List UInt8:=(D.drop q).take n
def dK{D:List UInt8}(h:q+n<=W D):W (ag D q n)=n:=by simp[ag];omega
def lD{D:List UInt8}(h:i<n):aa (ag D q n) i 0=aa D (q+i) 0:=by
 simp only[ag,bX,qg,nQ,ao h]
variable {F:List aK}{bb cap db:Nat}{ad:Option Addr}{r:fT}{T:TT}{w:World}
def gh(N len at_:Nat)(bad:Bool)(n:Nat):Nat×Nat×Bool:=if at_+n<=8*len then(dJ N at_ n,at_+n,bad)else(0,at_,true)
def arj{D:List UInt8}{len:Nat}{at_:Nat}{bad:Bool}(h:H r w ((ah bb [.slice ad len cap,.int .i64 (at_:Int),.bool bad] 167)::(ah db (D.map u8) T)::F))(k:0<len->ad=some ⟨db,q,none⟩)(o:q+len<=W D)(p:at_<=8*len)(s:n<=32)(hlen:len<=281474976710656):Calls PP 73 #[bL bb,.int .i64 (n:Int)] w λe w'=> ∃v at' g,gh (num (ag D q len)) len at_ bad n=(v,at',g)/\e= .returned (.int .i64 (v:Int))/\H r w' ((ah bb [.slice ad len cap,.int .i64 (at':Int),.bool g] 167)::(ah db (D.map u8) T)::F):=by
 refine iI func73 ntmps73 [4] ?_;refine g_ 15 ?_;refine cw (σ:=Nat) [(4,7),(9,46)] (λi ρ w=>Kn ρ [(9,af i),(5,af (dJ (num (ag D q len)) at_ i))]/\H r w ((ah bb [.slice ad len cap,.int .i64 (at_:Int),.bool bad] 167)::(ah db (D.map u8) T)::F)/\i<=n/\at_+i<=8*len) (λi=>n-i) 0 ⟨Kn.mk ⟨J,by rw[afg];rfl,trivial⟩,h,cj _,I⟩ ?_;rintro i ρ w ⟨⟨t,rfl⟩,h,hi,u⟩;have l:=Gk (num (ag D q len)) at_ i;have m:2^i<=2^32:=dF I I;have a:dJ (num (ag D q len)) at_ i<=4294967296:=I;refine g_ 5 ?_;refine au J ?_ ?_<;>intro x
 refine g_ 22 ?_;refine ak (nS (b:=8) (h2:=av.lit _) J J I k_) ?_;refine g_ 7 ?_;refine au J ?_ ?_<;>intro y
 refine g_ 5 ?_;refine cI ?_;intro w h;refine g_ 6 ?_;exact⟨0,at_,true,(by rw[gh,aj I]),J,h⟩
 have z:=k I;have j:(aa D (q+(at_+i)/8) 0).toNat/2^((at_+i) % 8)&&&1=num (ag D q len)/2^(at_+i) % 2:=(by rw[aff,<-lD (I:(at_+i)/8<len)];exact afe _ _);have c:num (ag D q len)/2^(at_+i) % 2<=1:=I;have d:num (ag D q len)/2^(at_+i) % 2*2^i<=4294967296:=aM (tG c m) an;have f:dJ (num (ag D q len)) at_ i||| ((aa D (q+(at_+i)/8) 0).toNat/2^((at_+i) % 8)&&&1)*2^i=dJ (num (ag D q len)) at_ (i+1):=(by rw[j,pW l,afh]);rw[<-j]at d c;refine g_ 8 ?_;refine ak (nS (b:=8) (h2:=av.lit _) J J I k_) (ak (da J J (by first|rfl|assumption|exact tK J I|exact eU J I|exact eU (by assumption) I) I) ?_);refine aX h J (gX I) (dg (ak (BR (b:=8) (h2:=av.lit _) J J I) (ak (qT J J (dT _ an)) ?_)));refine ak (yT (b:=1) (h2:=⟨J⟩) J J (aM (k6 _ _) (dT _ an)) an) ?_;refine ak (eZ J (aM c an)) ?_;refine dg (ak (eB J J dQ (aM d an)) ?_);refine ak (fq J J (aM a an) (aM d an)) ?_;refine g_ 6 ?_;refine⟨aS,?_⟩;refine⟨i+1,I,Kn.mk ⟨J,?_,trivial⟩,h,I,I⟩;refine int_eq (cD Int.ofNat ?_);exact f
 refine g_ 11 ?_;refine cI ?_;intro w h;refine g_ 7 ?_;obtain rfl:i=n:=I;exact⟨_,at_+i,bad,(by rw[gh,ao I]),J,h⟩
def afi{p:Prop}(h:p:=by refine⟨i+1,I,Kn.mk ⟨J,int_eq (cD Int.ofNat ?_),trivial⟩,h,I⟩;rw[r6];omega):p:=h
def arl{D:List UInt8}{len:Nat}{left:Int}(h:H r w ((ah bb [.slice ad len cap,.int .i64 left] 155)::(ah db (D.map u8) T)::F))(c:0<len->ad=some ⟨db,q,none⟩)(g:q+len<=W D)(j:left<=8*len)(k: -1000000000000<=left)(l:n<=32)(hlen:len<=281474976710656):Calls PP 65 #[bL bb,.int .i64 (n:Int)] w λe w'=>e= .returned (af (dE (num (ag D q len)) left n))/\H r w' ((ah bb [.slice ad len cap,.int .i64 (left-n)] 155)::(ah db (D.map u8) T)::F):=by
 refine iI func65 ntmps65 [4] ?_;refine g_ 15 ?_;refine cw (σ:=Nat) [(5,5),(7,44)] (λi ρ w=>Kn ρ [(7,af i),(5,af (dE (num (ag D q len)) left i))]/\H r w ((ah bb [.slice ad len cap,.int .i64 (left-i)] 155)::(ah db (D.map u8) T)::F)/\i<=n) (λi=>n-i) 0 ⟨az,by simpa using h,cj _⟩ ?_;rintro i ρ w ⟨⟨m,rfl⟩,h,hi⟩;have o:=wx (num (ag D q len)) left i;have s:2^i<=2^32:=dF I I;have d:dE (num (ag D q len)) left i<=4294967296:=I;refine g_ 5 ?_;refine au J ?_ ?_<;>intro t
 refine g_ 9 ?_;refine ak (pU J J I I) ?_;refine g_ 2 ?_;refine cI ?_;intro w h;refine g_ 13 ?_;refine ak (Am J J) (aJ (au J ?_ ?_))<;>intro u
 obtain⟨p,hp⟩: ∃p:Nat,left- (i:Int) -1=(p:Int):=⟨(left- (i:Int) -1).toNat,I⟩;rw[hp]at h;have v:=c I;have f:(aa D (q+p/8) 0).toNat/2^(p % 8)&&&1=num (ag D q len)/2^p % 2:=(by rw[aff,<-lD (I:p/8<len)];exact afe _ _);have r6:dE (num (ag D q len)) left (i+1)=2*dE (num (ag D q len)) left i+((aa D (q+p/8) 0).toNat/2^(p % 8)&&&1):=(by rw[dE,hp,ao I,f];rfl);have x:(aa D (q+p/8) 0).toNat/2^(p % 8)&&&1<=1:=WM;refine cm h [0,4,8,12,20,24,28,48,52,56,17,33,36,40,45,61,64,68,72,76,80,84] ?_;intro w h;refine aC 12 ?_;refine aD J (nS (b:=8) (h2:=av.lit _) J J I k_) (aD J (da J J (by first|rfl|assumption|exact tK J I|exact eU J I|exact eU (by assumption) I) I) ?_);refine aQ J h J (gX I) ?_;refine aC 1 ?_;refine aD J (BR (b:=8) (h2:=av.lit _) J J I) ?_;refine aC 1 ?_;refine aD J (yT (b:=1) (h2:=av.lit _) J J k_ k_) ?_;refine aC 4 ?_;refine g_ 4 ?_;refine⟨aS,?_⟩;have a:left- (i:Int) -1=left- ((i+1:Nat):Int):=I;(rw[<-hp,a]at h);exact afi
 have r6:dE (num (ag D q len)) left (i+1)=2*dE (num (ag D q len)) left i+0:=(by rw[dE,aj I]);refine g_ 5 ?_;refine⟨aS,?_⟩;have a:left- (i:Int) -1=left- ((i+1:Nat):Int):=I;rw[a]at h;exact afi
 refine g_ 7 ?_;obtain rfl:i=n:=I;exact⟨J,h⟩
def arn{v:Value}{at_:Nat}{bad:Bool}(h:H r w ((ah bb [v,.int .i64 (at_:Int),.bool bad] 167)::F))(a:at_<=2251799813685248):Calls PP 75 #[bL bb] w λe w'=>e= .returned (af ((at_+7)/8))/\H r w' ((ah bb [v,.int .i64 (at_:Int),.bool bad] 167)::F):=by
 refine iu func75 ntmps75 [2] ?_;refine g_ 11 ?_;refine ak (nS (b:=8) (h2:=av.lit _) J J I k_) ?_;refine g_ 3 ?_;exact⟨J,h⟩
variable {α:Type}
def Cb: ∀(a b:List UInt8),num (a++b)=num a+256^W a*num b
 | [],b=>by simp[num]
 |x::a,b=>by simp only[List.cons_append,num,Cb a b,dL,jI];rw[yO,<-sK,im 256 (256^W a)];omega
def lY(l:List α)(d:α)(i:Nat)(h:i<W l):l.take (i+1)=l.take i++[aa l i d]:=by
 rw[List.take_succ_eq_append_getElem h];simp[h]
def tR(l:List UInt8)(i:Nat)(h:i<W l):num (l.take (i+1))=num (l.take i)+(aa l i 0).toNat*2^(8*i):=by
 rw[lY l 0 i h,Cb];simp[num,Ju,l9 (BJ h),im]
def Ek(l:List UInt8)(i:Nat):num (l.take i)<2^(8*i):=by
 have h:=XK (l.take i);refine qN h (dF I ?_);simp;omega
def XN(l:List UInt8)(i:Nat):num (l.take i)<=num l:=by
 (conv=>rhs;rw[<-uD i l,Cb]);omega
def XO(l:List UInt8)(i:Nat)(h:i<W l):num (l.take i)||| (aa l i 0).toNat*2^(8*i)=num (l.take (i+1)):=by
 rw[pW (Ek l i),tR l i h]
def dA:Nat:=18446744073709551616
def fV:0<dA:=by unfold dA;omega
def Au:dA=2^64:=by unfold dA;decide
def P1:Nat:=11400714785074694791
def P2:Nat:=14029467366897019727
def P3:Nat:=1609587929392839161
def P4:Nat:=9650029242287828579
def P5:Nat:=2870177450012600261
def uV:P1=11400714785074694791:=rfl
def Av:P2=14029467366897019727:=rfl
def Q0:P3=1609587929392839161:=rfl
def Q1:P4=9650029242287828579:=rfl
def Jw:P5=2870177450012600261:=rfl
def jn:dA=18446744073709551616:=rfl
attribute [irreducible] P1 P2 P3 P4 P5 dA
def rotl(x k:Nat):Nat:=x*2^(k&&&63) % dA|||x/2^(64- (k&&&63))
def jf(a lane:Nat):Nat:=rotl ((a+lane*P2 % dA) % dA) 31*P1 % dA
def iY(a lane:Nat):jf a lane<dA:=by unfold jf;exact dY _ fV
def xN(h a:Nat):Nat:=((h^^^jf 0 a)*P1 % dA+P4) % dA
def aro(h a:Nat):xN h a<dA:=by unfold xN;exact dY _ fV
attribute [irreducible] rotl jf xN
abbrev V4:=List Nat
def v0:V4:=[(P1+P2) % dA,P2,0,(0+dA-P1) % dA]
def lane(E:List UInt8)(i:Nat):Nat:=num (ag E (8*i) 8)
def qV(v:V4)(E:List UInt8)(i:Nat):V4:=(cL 4).map λj=>if j<i then jf (aa v j 0) (lane E j)else aa v j 0
def Gm(v:V4)(E:List UInt8):V4:=qV v E 4
def arp(v:V4)(E:List UInt8)(h:W v=4):qV v E 0=v:=by
 match v,h with
 | [a,b,c,d],_=>simp[qV,cL,List.range.loop]
def zj(v:V4)(E:List UInt8)(i:Nat):W (qV v E i)=4:=by simp[qV]
def XP(v:V4)(E:List UInt8)(i j:Nat)(a:j<4):aa (qV v E i) j 0=if j<i then jf (aa v j 0) (lane E j)else aa v j 0:=by
 simp[qV,bX,a]
def arq(v:V4)(E:List UInt8)(i:Nat)(hi:i<4):(qV v E i).set i (jf (aa v i 0) (lane E i))=qV v E (i+1):=by
 apply nR;intro j;rw[vV];by_cases e:i=j
 subst e;rw[ao J,zj,ao hi];simp[qV,hi]
 rw[aj e];by_cases a:j<4
 simp only[qV,kP,Ah a,uE];congr 1;by_cases h1:j<i
 rw[ao h1,ao I]
 rw[aj h1,aj I]
 rw[gB (by rw[zj];omega),gB (by rw[zj];omega)]
def Q2(f:α->Nat->α)(n:Nat)(h:α):(cL (n+1)).foldl f h=f ((cL n).foldl f h) n:=by
 rw[pR,Qc,Mf,Qd]
def kR(n:Nat)(E:List UInt8)(v:V4):V4:=(cL n).foldl (λv i=>Gm v (E.drop (32*i))) v
def Jx(n:Nat)(E:List UInt8)(v:V4):kR (n+1) E v=Gm (kR n E v) (E.drop (32*n)):=Q2 _ _ _
def zk(v:V4):Nat:=(((rotl (aa v 0 0) 1+rotl (aa v 1 0) 7) % dA+rotl (aa v 2 0) 12) % dA+rotl (aa v 3 0) 18) % dA
def pX(v:V4)(i:Nat):Nat:=(cL i).foldl (λh j=>xN h (aa v j 0)) (zk v)
def Q3(v:V4):Nat:=pX v 4
def Jy(v:V4)(i:Nat):pX v (i+1)=xN (pX v i) (aa v i 0):=Q2 _ _ _
def afj(v:V4):zk v<dA:=by unfold zk;exact dY _ fV
attribute [irreducible] zk
def MT(v:V4)(i:Nat):pX v i<dA:=by
 cases i with
 |zero=>exact afj v
 |succ i=>exact(Jy v i).symm▸aro _ _
def afk(n:Nat)(E:List UInt8)(v:V4)(h:W v=4):W (kR n E v)=4:=by
 cases n with
 |zero=>exact h
 |succ n=>rw[Jx];exact zj _ _ _
def MU(v:V4):Prop:= ∀j,aa v j 0<dA
def afl(v:V4)(E:List UInt8)(i:Nat)(h:MU v):MU (qV v E i):=λj=>by
 by_cases a:j<4
 rw[XP _ _ _ _ a];split
 exact iY _ _
 exact h j
 have:aa (qV v E i) j 0=0:=(by rw[bX,gB (by rw[zj];omega)];rfl);rw[this];exact fV
def Gp(n:Nat)(E:List UInt8)(v:V4)(h:MU v):MU (kR n E v):=by
 induction n with
 |zero=>exact h
 |succ n a=>rw[Jx];exact afl _ _ _ a
def Gq:MU v0:=λj=>by
 match j with
 |0=>exact dY _ fV
 |1=>show P2<dA;rw[Av,jn];decide
 |2=>exact fV
 |3=>exact dY _ fV
 |_+4=>exact fV
def tS{D:List UInt8}{k:Nat}:(ag D q n).drop k=ag D (q+k) (n-k):=by
 simp[ag,IY,kG]
def jy{D:List UInt8}{a b:Nat}(h:a+b<=n):ag (ag D q n) a b=ag D (q+a) b:=by
 simp only[ag,IY,kG,Mg];rw[l9 I]
def qp{D:List UInt8}{q n:Nat}:num (ag D q n)<2^(8*n):=
 qN (XK _) (dF I (by simp[ag];omega))
def El(h x:Nat):Nat:=(rotl (h^^^jf 0 x) 27*P1 % dA+P4) % dA
def zl(h x:Nat):Nat:=(rotl (h^^^(x*P1 % dA)) 23*P2 % dA+P3) % dA
def Cc(h x:Nat):Nat:=rotl (h^^^(x*P5 % dA)) 11*P1 % dA
def ars(h x:Nat):El h x<dA:=by unfold El;exact dY _ fV
def afm(h x:Nat):zl h x<dA:=by unfold zl;exact dY _ fV
def afn(h x:Nat):Cc h x<dA:=by unfold Cc;exact dY _ fV
attribute [irreducible] El zl Cc
def xO(n:Nat)(E:List UInt8)(h:Nat):Nat:=(cL n).foldl (λh i=>El h (num (ag E (8*i) 8))) h
def XQ(n:Nat)(E:List UInt8)(h:Nat):xO (n+1) E h=El (xO n E h) (num (ag E (8*n) 8)):=Q2 _ _ _
def zm(E:List UInt8)(h:Nat):Nat:=E.foldl (λh x=>Cc h x.toNat) h
def Q4(E:List UInt8)(x:UInt8)(h:Nat):zm (E++[x]) h=Cc (zm E h) x.toNat:=by
 unfold zm;rw[Qc,Mf,Qd]
def Q6(h:Nat):Nat:=(h^^^h/2^33)*P2 % dA
def Q7(h:Nat):Nat:=(h^^^h/2^29)*P3 % dA
attribute [irreducible] Q6 Q7
def XS(h:Nat):Nat:=Q7 (Q6 h)^^^Q7 (Q6 h)/2^32
def XT(E:List UInt8)(h:Nat):Nat:=
 let h1:=xO (W E/8) E h
 let a:=E.drop (8*(W E/8))
 let h2:=if 4<=W a then zl h1 (num (ag a 0 4))else h1
 let b:=if 4<=W a then a.drop 4 else a
 XS (zm b h2)
def lF(D:List UInt8):Nat:=
 XT (D.drop (32*(W D/32))) (((if 32<=W D then Q3 (kR (W D/32) D v0)else P5)+W D) % dA)
def afo(n:Nat)(E:List UInt8)(h:Nat)(a:h<dA):xO n E h<dA:=by
 cases n with
 |zero=>exact a
 |succ n=>exact(XQ n E h).symm▸ars _ _
def afp{D:List UInt8}{sp:List Value}(h:i<W D):(D.map u8++sp)[i]? =some (u8 (aa D i 0)):=by
 rw[gP (by simpa using h)];exact gX h
def sR{x k:Nat}(b:x<dA)(d:k<=63):Calls PP 32 #[.int .u64 (x:Int),.int .i64 (k:Int)] w λe w'=>e= .returned (cR (rotl x k))/\w'=w:=by
 have c:k&&&63<=63:=WM;rw[jn]at b;refine iI func32 ntmps32 [4] ?_;refine g_ 15 ?_;refine ak (DW J J (by first|decide| (simp only[IntKind.bits];omega)) J) ?_;refine g_ 4 ?_;refine ak (fq J J aG (aM (k6 _ _) aG)) ?_;refine g_ 3 ?_;refine⟨(Jl (a:=x*2^(k&&&63) % (aN .u64+1)|||x/2^(64- (k&&&63))) ?_),J⟩;unfold rotl;rw[jn];rfl
def XU{a l:Nat}(c:a<dA)(d:l<dA):Calls PP 30 #[.int .u64 (a:Int),.int .u64 (l:Int)] w λe w'=>e= .returned (cR (jf a l))/\w'=w:=by
 rw[jn]at c d;refine iI func30 ntmps30 [4] ?_;refine g_ 8 ?_;refine ak (pT (b:=14029467366897019727) (h2:=av.lit _) J J J) (ak (qj J J J) (cJ (v1:=af 31) J J J (aH (sR (k:=31) (by rw[jn];exact dY _ an) an) ?_)));rintro e f ⟨rfl,rfl⟩;refine ak (pT (b:=11400714785074694791) (h2:=av.lit _) J J J) ?_;refine g_ 3 ?_;refine⟨(Jl (a:=rotl ((a+l*14029467366897019727 % (aN .u64+1)) % (aN .u64+1)) 31*11400714785074694791 % (aN .u64+1)) ?_),J⟩;unfold jf;rw[uV,Av,jn];rfl
def afq{D:List UInt8}(h:n=8):num (ag D q n)<=18446744073709551615:=by
 subst h;have:=qp (D:=D) (q:=q) (n:=8);omega
def art{D:List UInt8}(h:n=8):num (ag D q n)<dA:=by
 have:=afq (D:=D) (q:=q) h;have a:=jn;omega
def afr(X:Nat):((X^^^X/2^33)*14029467366897019727 % (aN .u64+1)^^^(X^^^X/2^33)*14029467366897019727 % (aN .u64+1)/2^29)*1609587929392839161 % (aN .u64+1)^^^((X^^^X/2^33)*14029467366897019727 % (aN .u64+1)^^^(X^^^X/2^33)*14029467366897019727 % (aN .u64+1)/2^29)*1609587929392839161 % (aN .u64+1)/2^32=XS X:=by
 unfold XS Q7 Q6;rw[Av,Q0,jn];rfl
def a9{x:Nat}(h:x<dA):x<=aN .u64:=by
 have a:=jn;simp only[aN];omega
variable {l:List Value}{p:Prop}
def afs(h:p:=by have MS:=bF I;have MV:=XO (ag D q len) i I;rw[lD I]at MV;have fW:num ((ag D q len).take (i+1))<=num (ag D q len):=XN _ _;have sS:(aa D (q+i) 0).toNat*2^(8*i)<=num (ag D q len):=(by rw[<-MV]at fW;exact aM Nat.right_le_or fW);refine g_ 6 ?_;refine ak (da J J (by first|rfl|assumption|exact tK J I|exact eU J I|exact eU (by assumption) I) I) ?_;refine aX h J (hl _ I I) ?_;refine g_ 9 ?_;refine ak (eB J J dQ aG) ?_;refine ak (fq J J aG aG) ?_;refine g_ 6 ?_;refine⟨aO 16,?_⟩;refine⟨i+1,I,Kn.mk ⟨J,?_,trivial⟩,h,I,hw⟩;exact int_eq (cD Int.ofNat MV)):p:=h
def afu(h:p:=by refine g_ 7 ?_;obtain rfl:i=len:=I;rw[je I];exact⟨J,hw.trans mI⟩):p:=h
def afv{D:List UInt8}{len:Nat}(h:H r w ((ah db l T)::F))(hl: ∀i,q<=i->i<q+len->l[i]? =some (u8 (aa D i 0)))(bF:0<len->ad=some ⟨db,q,none⟩)(b:q+len<=W D)(hlen:len<=8)(hN:num (ag D q len)<=9223372036854775807):Calls PP 22 #[.slice ad len cap] w λe w'=>e= .returned (af (num (ag D q len)))/\w'=w:=by
 obtain⟨a,mI⟩: ∃a,a=w:=⟨_,J⟩;have c:=dK b;refine iu func22 ntmps22 [2] ?_;refine g_ 16 ?_;refine cw (σ:=Nat) [(3,5),(8,20)] (λi ρ w=>Kn ρ [(8,af i),(3,af (num ((ag D q len).take i)))]/\H r w ((ah db l T)::F)/\i<=len/\w=a) (λi=>len-i) 0 ⟨Kn.mk ⟨J,by rw[qi];rfl,trivial⟩,h,cj _,mI.symm⟩ ?_;rintro i ρ w ⟨⟨d,rfl⟩,h,hi,hw⟩;have f:num ((ag D q len).take i)<=num (ag D q len):=XN _ _;refine g_ 5 ?_;refine au J ?_ ?_<;>intro g
 exact afs
 exact afu
def XV{D:List UInt8}{len:Nat}(h:H r w ((ah db l T)::F))(hl: ∀i,q<=i->i<q+len->l[i]? =some (u8 (aa D i 0)))(bF:0<len->ad=some ⟨db,q,none⟩)(b:q+len<=W D)(hlen:len<=8)(hN:num (ag D q len)<=18446744073709551615):Calls PP 31 #[.slice ad len cap] w λe w'=>e= .returned (cR (num (ag D q len)))/\w'=w:=by
 obtain⟨a,mI⟩: ∃a,a=w:=⟨_,J⟩;have c:=dK b;refine iu func31 ntmps31 [2] ?_;refine g_ 16 ?_;refine cw (σ:=Nat) [(3,5),(8,20)] (λi ρ w=>Kn ρ [(8,af i),(3,cR (num ((ag D q len).take i)))]/\H r w ((ah db l T)::F)/\i<=len/\w=a) (λi=>len-i) 0 ⟨Kn.mk ⟨J,by rw[qi];rfl,trivial⟩,h,cj _,mI.symm⟩ ?_;rintro i ρ w ⟨⟨d,rfl⟩,h,hi,hw⟩;have f:num ((ag D q len).take i)<=num (ag D q len):=XN _ _;refine g_ 5 ?_;refine au J ?_ ?_<;>intro g
 exact afs
 exact afu
variable {sp:List Value}
def XY{D:List UInt8}{len:Nat}(h:H r w ((ah db l T)::F))(C: ∀i,q<=i->i<q+len->l[i]? =some (u8 (aa D i 0)))(N:0<len->ad=some ⟨db,q,none⟩)(hq:q+len<=W D)(j9:len<=cap)(hlen:len<=140737488355328):Calls PP 21 #[.slice ad len cap] w λe w'=>e= .returned (cR (lF (ag D q len)))/\H r w' ((ah db l T)::F):=by
 have eo:=dK hq;have hM:=jn;refine iu func21 ntmps21 [2] ?_;refine g_ 8 ?_;refine ak (eZ J (by first|assumption|exact a9 d|exact a9 g|exact a9 (iY _ _)|exact a9 (dY _ fV)|exact a9 f|exact dT _ an| (simp only[aN];omega))) ?_;refine g_ 6 ?_;refine cW [(0,0),(4,7),(9,9),(15,73)] (λρ w=> ∃k s h1,k=len/32/\Kn ρ [(0,.slice s (len-32*k) (cap-32*k)),(4,cR h1)]/\h1=(if 32<=len then Q3 (kR k (ag D q len) v0)else P5)/\(0<len-32*k->s=some ⟨db,q+32*k,none⟩)/\H r w ((ah db l T)::F)) ?_ ?_
 refine g_ 6 ?_;refine au J ?_ ?_<;>intro E
 . refine g_ 7 ?_;refine ak (ao1 (b:=11400714785074694791) (h2:=av.lit _) J J (by first|assumption|exact a9 d|exact a9 g|exact a9 (iY _ _)|exact a9 (dY _ fV)|exact a9 f|exact dT _ an| (simp only[aN];omega)) J) ?_;refine ak (aeC (v0:=cR 11400714785074694791) (v1:=cR 14029467366897019727) (v2:=cR 0) (aqG _ _ _ _) J J J J) (eN h J ?_);intro O w h;refine cI ?_;intro w h;refine g_ 5 ?_;refine ak (qj (b:=14029467366897019727) (h2:=av.lit _) J J J) ?_;refine g_ 1 ?_;refine cI ?_;intro w h;refine g_ 3 ?_;have S:ar cR (kR 0 (ag D q len) v0)=[cR ((11400714785074694791+14029467366897019727) % (aN .u64+1)),cR 14029467366897019727,cR 0,cR ((0+(aN .u64+1) -11400714785074694791) % (aN .u64+1))]:=(by show ar cR v0=_;unfold v0;rw[uV,Av,jn];rfl);rw[<-S]at h;refine cw (σ:=Nat×Option Addr) [(0,0),(7,7),(25,47)] (λ⟨k,s⟩ ρ w=>Kn ρ [(0,.slice s (len-32*k) (cap-32*k))]/\H r w ((ah O (ar cR (kR k (ag D q len) v0)) 76)::(ah db l T)::F)/\32*k<=len/\(0<len-32*k->s=some ⟨db,q+32*k,none⟩)) (λ⟨k,s⟩=>len-32*k) (0,ad) ⟨az,h,cj _,N⟩ ?_;clear h S;rintro⟨k,s⟩ ρ w ⟨⟨mW,rfl⟩,h,aIq,G⟩;refine g_ 7 ?_;refine au J ?_ ?_<;>intro sT
   have p:=afk k (ag D q len) v0 J;have P:=λu=>eU (l:=32) (cap:=cap-32*k) (G u);refine g_ 8 ?_;refine cw (σ:=Nat) [(7,7),(30,47)] (λi ρ w=>Kn ρ [(30,af i)]/\H r w ((ah O (ar cR (qV (kR k (ag D q len) v0) ((ag D q len).drop (32*k)) i)) 76)::(ah db l T)::F)/\i<=4) (λi=>4-i) 0 ⟨az,by rw[arp _ _ p];exact h,I⟩ ?_;rintro i ρ w ⟨⟨U,rfl⟩,h,hi⟩;refine g_ 5 ?_;refine au J ?_ ?_<;>intro tU
   have Q:=arq (kR k (ag D q len) v0) ((ag D q len).drop (32*k)) i I;rw[<-show(qV (kR k (ag D q len) v0) ((ag D q len).drop (32*k)) i).getD i 0=aa (kR k (ag D q len) v0) i 0 from by rw[XP _ _ _ _ I,aj I]]at Q;rw[show lane ((ag D q len).drop (32*k)) i=num (ag D (q+32*k+8*i) 8)from by unfold lane;rw[tS,jy I]]at Q;have e8:8*i+8-8*i=8:=I;refine g_ 8 ?_;refine cm h [0,4,8,16,20,24,28,32,36,40,13,46,50,52,59] ?_;intro w h;refine aC 5 ?_;refine aD J (BQ (a:=8) (h1:=av.lit _) J J (by first|assumption|exact a9 d|exact a9 g|exact a9 (iY _ _)|exact a9 (dY _ fV)|exact a9 f|exact dT _ an| (simp only[aN];omega))) ?_;refine lx J (aD J (BQ (a:=8) (h1:=av.lit _) J J (by first|assumption|exact a9 d|exact a9 g|exact a9 (iY _ _)|exact a9 (dY _ fV)|exact a9 f|exact dT _ an| (simp only[aN];omega))) ?_);refine aD J (eR (b:=8) (h2:=av.lit _) J J (by first|assumption|exact a9 d|exact a9 g|exact a9 (iY _ _)|exact a9 (dY _ fV)|exact a9 f|exact dT _ an| (simp only[aN];omega))) ?_;refine aD J (wm J J J I I) (aQ J h J (Gg (by first| (rw[p];omega)| (rw[zj];omega))) ?_);refine BV J J J ((XV (h.mv 1) (λi9 h1 h2=>C i9 I I) (λ_=>eU (G I) I) I I (afq I)).mono ?_);rintro e o ⟨rfl,rfl⟩;refine⟨_,J,ft.refl _,?_⟩;refine BW J J J J ((XU (afl _ _ _ (Gp k _ _ Gq) i) (art I)).mono ?_);rintro e o ⟨rfl,rfl⟩;refine⟨_,J,ft.refl _,?_⟩;refine aC 1 ?_;refine xF (v:= .int _ _) J h J (Gg (D:=qV (kR k (ag D q len) v0) ((ag D q len).drop (32*k)) i) (by rw[zj];omega)) J J J ?_;intro w h;dsimp only[bJ]at h;refine cO (fD (ak (eR (b:=1) (h2:=av.lit _) J J (by first|assumption|exact a9 d|exact a9 g|exact a9 (iY _ _)|exact a9 (dY _ fV)|exact a9 f|exact dT _ an| (simp only[aN];omega))) ?_));refine dg (aJ (⟨aO 20,?_⟩));rw[e8,<-kH,Q]at h;exact⟨i+1,I,az,h,I⟩
   refine g_ 3 ?_;refine ak (jJ (a:=32) (h1:=av.lit _) J J I I) (ee (aJ (⟨aO 9,?_⟩)));obtain rfl:i=4:=I;rw[show qV (kR k (ag D q len) v0) (List.drop (32*k) (ag D q len)) 4=kR (k+1) (ag D q len) v0 from(Jx _ _ _).symm]at h;refine⟨(k+1,cut s (cap-32*k) 32 1),cQ,Kn.mk ⟨?_,trivial⟩,h,I,?_⟩
   exact jw J I I
   intro u;rw[P I I];exact cD (λz=>some (⟨db,z,none⟩:Addr)) I
   have p:=afk k (ag D q len) v0 J;have A:k=len/32:=I;refine jl (bY (cm h [0,12,28,44,5,17,33,49,10,22,24,38,40,54,56,60] ?_));intro w h;refine aC 4 ?_;refine aQ J h J (Gg (by first| (rw[p];omega)| (rw[zj];omega))) ?_;refine aQ J h J (Gg (by first| (rw[p];omega)| (rw[zj];omega))) ?_;refine aQ J h J (Gg (by first| (rw[p];omega)| (rw[zj];omega))) ?_;refine aQ J h J (Gg (by first| (rw[p];omega)| (rw[zj];omega))) ?_;refine BW (v1:=af 1) J J J J ((sR (k:=1) (Gp k _ _ Gq 0) an).mono ?_);rintro e o ⟨rfl,rfl⟩;refine⟨_,J,ft.refl _,?_⟩;refine BW (v1:=af 7) J J J J ((sR (k:=7) (Gp k _ _ Gq 1) an).mono ?_);rintro e o ⟨rfl,rfl⟩;refine⟨_,J,ft.refl _,?_⟩;refine aD J (qj J J J) (BW (v1:=af 12) J J J J ((sR (k:=12) (Gp k _ _ Gq 2) an).mono ?_));rintro e o ⟨rfl,rfl⟩;refine⟨_,J,ft.refl _,?_⟩;refine aD J (qj J J J) (BW (v1:=af 18) J J J J ((sR (k:=18) (Gp k _ _ Gq 3) an).mono ?_));rintro e o ⟨rfl,rfl⟩;refine⟨_,J,ft.refl _,?_⟩;refine aD J (qj J J J) (fG J (cO (bY (fD (ak (jx (ar cR (kR k (ag D q len) v0)) h J (Rd.self _) (by rw[cB,p])) ?_)))));refine g_ 3 ?_;have K:zk (kR k (ag D q len) v0)=zk (kR k (ag D q len) v0):=rfl;(conv at K=>lhs;unfold zk);rw[jn]at K;refine cw (σ:=Nat) [(4,4),(9,9),(64,73)] (λi ρ w=>Kn ρ [(64,af i),(4,cR (pX (kR k (ag D q len) v0) i))]/\H r w ((ah O (ar cR (kR k (ag D q len) v0)) 76)::(ah db l T)::F)/\i<=4) (λi=>4-i) 0 ⟨Kn.mk ⟨J,int_eq (cD Int.ofNat K),trivial⟩,h,I⟩ ?_;clear h K;rintro i ρ w ⟨⟨U,rfl⟩,h,hi⟩;have g:=MT (kR k (ag D q len) v0) i;refine g_ 5 ?_;refine au J ?_ ?_<;>intro Em
   . refine g_ 5 ?_;refine ak (aeE J J I (Gg (by rw[p];omega))) ?_;refine g_ 5 ?_;refine cJ (v0:=cR 0) J J J (aH (XU (a:=0) fV (Gp k _ _ Gq i)) ?_);rintro e o ⟨rfl,rfl⟩;refine ak (uG J J (by first|assumption|exact a9 d|exact a9 g|exact a9 (iY _ _)|exact a9 (dY _ fV)|exact a9 f|exact dT _ an| (simp only[aN];omega)) (by first|assumption|exact a9 d|exact a9 g|exact a9 (iY _ _)|exact a9 (dY _ fV)|exact a9 f|exact dT _ an| (simp only[aN];omega))) ?_;refine ak (pT (b:=11400714785074694791) (h2:=av.lit _) J J J) (ak (qj (b:=9650029242287828579) (h2:=av.lit _) J J J) ?_);refine g_ 3 ?_;refine ak (eR (b:=1) (h2:=av.lit _) J J (by first|assumption|exact a9 d|exact a9 g|exact a9 (iY _ _)|exact a9 (dY _ fV)|exact a9 f|exact dT _ an| (simp only[aN];omega))) ?_;refine dg (aJ (⟨aO 12,?_⟩));refine⟨i+1,I,Kn.mk ⟨J,int_eq (cD Int.ofNat ?_),trivial⟩,h,I⟩;rw[Jy];(conv=>rhs;unfold xN);rw[uV,Q1,jn];rfl
   obtain rfl:i=4:=I;have V:pX (kR k (ag D q len) v0) 4=Q3 (kR k (ag D q len) v0):=rfl;refine jl ?_;replace h:=h.tail;(try dsimp only[dX]at h);refine⟨aO 38,?_⟩
   first
     |exact Exists.intro _ ⟨_,_,A,az,(by rw[ao E];first|rfl|exact V),G,h⟩
     |exact⟨0,ad,2870177450012600261,I,az,(by rw[aj E,Jw]),N,h⟩
 refine a8 (⟨aO 3,?_⟩)
 first
   |exact Exists.intro _ ⟨_,_,A,az,(by rw[ao E];first|rfl|exact V),G,h⟩
   |exact⟨0,ad,2870177450012600261,I,az,(by rw[aj E,Jw]),N,h⟩
 rintro ρ w ⟨k,pj,h1,hk,⟨Ap,rfl⟩,X,Cf,h⟩
 have aIr:h1<dA:=by
  rw[X];split
  exact MT _ _
  rw[Jw,jn];decide
 refine g_ 4 ?_;refine ak (qj J J J) ?_;refine g_ 4 ?_;have Cg:W (ag D (q+32*k) (len-32*k))=len-32*k:=dK I;have Y:(h1+len) % (aN .u64+1)=(h1+len) % dA:=(by rw[jn];rfl);refine cw (σ:=Nat×Option Addr) [(0,0),(4,4),(77,90)] (λ⟨j,L⟩ ρ w=>Kn ρ [(0,.slice L (len-32*k-8*j) (cap-32*k-8*j)),(4,cR (xO j (ag D (q+32*k) (len-32*k)) ((h1+len) % dA)))]/\H r w ((ah db l T)::F)/\8*j<=len-32*k/\(0<len-32*k-8*j->L=some ⟨db,q+32*k+8*j,none⟩)) (λ⟨j,L⟩=>len-32*k-8*j) (0,pj) ⟨Kn.mk ⟨J,int_eq (cD Int.ofNat Y),trivial⟩,h,cj _,Cf⟩ ?_;clear h Y;rintro⟨j,L⟩ ρ w ⟨⟨mW,rfl⟩,h,hj,x⟩;have d:=afo j (ag D (q+32*k) (len-32*k)) ((h1+len) % dA) (dY _ fV);refine g_ 7 ?_;refine au J ?_ ?_<;>intro Q9
 refine g_ 6 ?_;refine ak (mX (c:=8) (h1:=av.lit _) J J I) (d' J J (aH (XV h (λi9 h1 h2=>C i9 I I) (λ_=>x I) I I (by have:=qp (D:=D) (q:=q+32*k+8*j) (n:=8);omega)) ?_));rintro e o ⟨rfl,rfl⟩;refine cJ (v0:=cR 0) J J J (aH (XU (a:=0) fV (by have:=qp (D:=D) (q:=q+32*k+8*j) (n:=8);rw[jn];omega)) ?_);rintro e o ⟨rfl,rfl⟩;refine ak (uG J J (by first|assumption|exact a9 d|exact a9 g|exact a9 (iY _ _)|exact a9 (dY _ fV)|exact a9 f|exact dT _ an| (simp only[aN];omega)) (by first|assumption|exact a9 d|exact a9 g|exact a9 (iY _ _)|exact a9 (dY _ fV)|exact a9 f|exact dT _ an| (simp only[aN];omega))) ?_;refine cJ (v1:=af 27) J J J (aH (sR (k:=27) (by rw[Au];exact Ma (by rw[<-Au];exact d) (by rw[<-Au];exact iY _ _)) an) ?_);rintro e o ⟨rfl,rfl⟩;refine ak (pT (b:=11400714785074694791) (h2:=av.lit _) J J J) (ak (qj (b:=9650029242287828579) (h2:=av.lit _) J J J) ?_);refine g_ 4 ?_;refine ak (jJ (a:=8) (h1:=av.lit _) J J I I) (ee (aJ (⟨aO 16,?_⟩)));refine⟨(j+1,_),cQ,Kn.mk ⟨jw J I I,int_eq (cD Int.ofNat ?_),trivial⟩,h,I,?_⟩
 . rw[XQ,jy I];(conv=>rhs;unfold El);rw[uV,Q1,jn];rfl
 intro u;rw[eU (x I) I];exact cD (λz=>some (⟨db,z,none⟩:Addr)) I
 refine jl (cW [(0,0),(4,4),(91,104)] (λρ w=> ∃m l3 R y,l3=len-32*k-8*j-m/\m=(if 4<=len-32*k-8*j then 4 else 0)/\Kn ρ [(0,.slice R l3 (cap-32*k-8*j-m)),(4,cR y)]/\y=(if 4<=len-32*k-8*j then zl (xO j (ag D (q+32*k) (len-32*k)) ((h1+len) % dA)) (num (ag D (q+32*k+8*j) 4))else xO j (ag D (q+32*k) (len-32*k)) ((h1+len) % dA))/\(0<l3->R=some ⟨db,q+32*k+8*j+m,none⟩)/\H r w ((ah db l T)::F)) ?_ ?_)
 . refine g_ 6 ?_;refine au J ?_ ?_<;>intro t
   . refine g_ 4 ?_;refine ak (mX (c:=4) (h1:=av.lit _) J J I) (d' J J (aH (XV h (λi9 h1 h2=>C i9 I I) (λ_=>x I) I I (by have:=qp (D:=D) (q:=q+32*k+8*j) (n:=4);omega)) ?_));rintro e o ⟨rfl,rfl⟩;refine ak (pT (b:=11400714785074694791) (h2:=av.lit _) J J J) (ak (uG J J (by first|assumption|exact a9 d|exact a9 g|exact a9 (iY _ _)|exact a9 (dY _ fV)|exact a9 f|exact dT _ an| (simp only[aN];omega)) (by first|assumption|exact a9 d|exact a9 g|exact a9 (iY _ _)|exact a9 (dY _ fV)|exact a9 f|exact dT _ an| (simp only[aN];omega))) ?_);refine cJ (v1:=af 23) J J J (aH (sR (k:=23) (by rw[Au];exact Ma (by rw[<-Au];exact d) (dY _ an)) an) ?_);rintro e o ⟨rfl,rfl⟩;refine ak (pT (b:=14029467366897019727) (h2:=av.lit _) J J J) (ak (qj (b:=1609587929392839161) (h2:=av.lit _) J J J) ?_);refine g_ 4 ?_;refine ak (jJ (a:=4) (h1:=av.lit _) J J I I) (ee (aJ (⟨aO 16,?_⟩)))
     first
       |exact Exists.intro 4 (Exists.intro _ (Exists.intro _ (Exists.intro _ (And.intro J (And.intro (by rw[ao t]) (And.intro az (And.intro (by
           rw[ao t]
           conv=>rhs;unfold zl
           rw[uV,Av,Q0,jn];rfl) ⟨(λu=>eU (x I) I),h⟩)))))))
       |exact⟨0,_,_,_,J,(by rw[aj t]),az,(by rw[aj t]),(λu=>x I),h⟩
   refine a8 (⟨aO 3,?_⟩)
   first
     |exact Exists.intro 4 (Exists.intro _ (Exists.intro _ (Exists.intro _ (And.intro J (And.intro (by rw[ao t]) (And.intro az (And.intro (by
         rw[ao t]
         conv=>rhs;unfold zl
         rw[uV,Av,Q0,jn];rfl) ⟨(λu=>eU (x I) I),h⟩)))))))
     |exact⟨0,_,_,_,J,(by rw[aj t]),az,(by rw[aj t]),(λu=>x I),h⟩
 rintro ρ w ⟨m,l3,R,y,Z,hm,⟨ρ3,rfl⟩,B,Q_,h⟩
 have r8:y<dA:=by
  rw[B];split
  exact afm _ _
  exact d
 have Jz:W (ag D (q+32*k+8*j+m) l3)=l3:=dK (by split at hm<;>omega);have hD3:q+32*k+8*j+m+l3<=W D:=(by split at hm<;>omega);have hD4:32*k+8*j+m+l3=len:=(by split at hm<;>omega);refine g_ 8 ?_;refine cw (σ:=Nat) [(4,4),(11,11),(107,118)] (λi ρ w=>Kn ρ [(107,af i),(4,cR (zm ((ag D (q+32*k+8*j+m) l3).take i) y))]/\H r w ((ah db l T)::F)/\i<=l3) (λi=>l3-i) 0 ⟨Kn.mk ⟨J,by rw[qi];rfl,trivial⟩,h,cj _⟩ ?_;rintro i ρ w ⟨⟨U,rfl⟩,h,hi⟩
 have f:zm ((ag D (q+32*k+8*j+m) l3).take i) y<dA:=by
  cases i with
  |zero=>rw[qi];exact r8
  |succ i=>exact(cD (zm · y) (lY _ 0 i (by rw[Jz];omega))).trans (Q4 _ _ _)▸afn _ _
 refine g_ 5 ?_;refine au J ?_ ?_<;>intro Ep
 . have aIs:=Q_ I;refine g_ 5 ?_;refine ak (da J J (by first|rfl|assumption|exact tK J I|exact eU J I|exact eU (by assumption) I) I) ?_;refine aX h J (C _ I I) ?_;refine g_ 5 ?_;refine ak (eZ J (by first|assumption|exact a9 d|exact a9 g|exact a9 (iY _ _)|exact a9 (dY _ fV)|exact a9 f|exact dT _ an| (simp only[aN];omega))) ?_;refine ak (pT (b:=2870177450012600261) (h2:=av.lit _) J J J) (ak (uG J J (by first|assumption|exact a9 d|exact a9 g|exact a9 (iY _ _)|exact a9 (dY _ fV)|exact a9 f|exact dT _ an| (simp only[aN];omega)) (by first|assumption|exact a9 d|exact a9 g|exact a9 (iY _ _)|exact a9 (dY _ fV)|exact a9 f|exact dT _ an| (simp only[aN];omega))) ?_);refine cJ (v1:=af 11) J J J (aH (sR (k:=11) (by rw[Au];exact Ma (by rw[<-Au];exact f) (dY _ an)) an) ?_);rintro e o ⟨rfl,rfl⟩;refine ak (pT (b:=11400714785074694791) (h2:=av.lit _) J J J) ?_;refine g_ 3 ?_;refine ak (eR (b:=1) (h2:=av.lit _) J J (by first|assumption|exact a9 d|exact a9 g|exact a9 (iY _ _)|exact a9 (dY _ fV)|exact a9 f|exact dT _ an| (simp only[aN];omega))) ?_;refine dg (aJ (⟨aO 14,?_⟩));refine⟨i+1,I,Kn.mk ⟨J,int_eq (cD Int.ofNat ?_),trivial⟩,h,I⟩;rw[lY _ 0 i (by rw[Jz];omega),Q4,lD I];(conv=>rhs;unfold Cc);rw[uV,Jw,jn];rfl
 refine g_ 5 ?_;refine ak (qT (b:=33) (h2:=av.lit _) J J (by first|assumption|exact a9 d|exact a9 g|exact a9 (iY _ _)|exact a9 (dY _ fV)|exact a9 f|exact dT _ an| (simp only[aN];omega))) ?_;refine ak (uG J J (by first|assumption|exact a9 d|exact a9 g|exact a9 (iY _ _)|exact a9 (dY _ fV)|exact a9 f|exact dT _ an| (simp only[aN];omega)) (by first|assumption|exact a9 d|exact a9 g|exact a9 (iY _ _)|exact a9 (dY _ fV)|exact a9 f|exact dT _ an| (simp only[aN];omega))) ?_;refine ak (pT (b:=14029467366897019727) (h2:=av.lit _) J J J) ?_;refine g_ 6 ?_;refine ak (qT (b:=29) (h2:=av.lit _) J J (by first|assumption|exact a9 d|exact a9 g|exact a9 (iY _ _)|exact a9 (dY _ fV)|exact a9 f|exact dT _ an| (simp only[aN];omega))) ?_;refine ak (uG J J (by first|assumption|exact a9 d|exact a9 g|exact a9 (iY _ _)|exact a9 (dY _ fV)|exact a9 f|exact dT _ an| (simp only[aN];omega)) (by first|assumption|exact a9 d|exact a9 g|exact a9 (iY _ _)|exact a9 (dY _ fV)|exact a9 f|exact dT _ an| (simp only[aN];omega))) ?_;refine ak (pT (b:=1609587929392839161) (h2:=av.lit _) J J J) ?_;refine g_ 6 ?_;refine ak (qT (b:=32) (h2:=av.lit _) J J (by first|assumption|exact a9 d|exact a9 g|exact a9 (iY _ _)|exact a9 (dY _ fV)|exact a9 f|exact dT _ an| (simp only[aN];omega))) ?_;refine ak (uG J J (by first|assumption|exact a9 d|exact a9 g|exact a9 (iY _ _)|exact a9 (dY _ fV)|exact a9 f|exact dT _ an| (simp only[aN];omega)) (by first|assumption|exact a9 d|exact a9 g|exact a9 (iY _ _)|exact a9 (dY _ fV)|exact a9 f|exact dT _ an| (simp only[aN];omega))) ?_;refine g_ 3 ?_;obtain rfl:i=l3:=I;rw[je I]at f ⊢;refine⟨Jl ?_,h⟩;refine(afr _).trans ?_;have X0:(len-32*k)/8=j:=I;unfold lF XT;dsimp only;rw[eo,tS,dK I,<-hk,<-X,X0,tS,dK I];by_cases M:4<=len-32*k-8*j
 rw[ao M]at hm B ⊢;rw[ao M,tS,jy I,B,Z,hm];rfl
 rw[aj M]at hm B ⊢;rw[aj M,B,Z,hm,kN,F1]
def arv{D:List UInt8}{len:Nat}(h:H r w ((ah db (D.map u8++sp) T)::F))(a:0<len->ad=some ⟨db,q,none⟩)(b:q+len<=W D)(hlen:len<=8)(hN:num (ag D q len)<=9223372036854775807):Calls PP 22 #[.slice ad len cap] w λe w'=>e= .returned (af (num (ag D q len)))/\w'=w:=
 afv h (λi _ h2=>afp I) a b hlen hN
def arx{D:List UInt8}{len:Nat}(h:H r w ((ah db (D.map u8++sp) T)::F))(a:0<len->ad=some ⟨db,q,none⟩)(b:q+len<=W D)(c:len<=cap)(hlen:len<=140737488355328):Calls PP 21 #[.slice ad len cap] w λe w'=>e= .returned (cR (lF (ag D q len)))/\H r w' ((ah db (D.map u8++sp) T)::F):=
 XY h (λi _ h2=>afp I) a b c hlen
variable {c kind:Nat}
def cE(kind:Nat):Nat×Nat:=if kind=0 then(35,9)else if kind=1 then(31,8)else(52,9)
def Es:List Nat:=[1,1,1,1,2,2,3,3,4,6,7,8,9,10,11,12,13,14,15,16]
def Et:List Nat:=[1,1,1,1,2,2,3,3,4,4,5,7,8,9,10,11,12,13,14,15,16]
def JA(l:List Nat)(n:Nat):Nat:=(cL n).foldl (λs k=>s+2^aa l k 0) 0
def afx(l:List Nat)(n:Nat):JA l (n+1)=JA l n+2^aa l n 0:=Q2 _ _ _
def codeF(kind c:Nat):Nat×Nat:=
 if kind=1 then(2^c,c)else if kind=0/\c<16 then(c,0)else if kind=2/\c<32 then(c+3,0)
 else if kind=2 then(35+JA Et (c-32),aa Et (c-32) 0)else(16+JA Es (c-16),aa Es (c-16) 0)
def X5(k:Nat):aa Es k 0<=16:=by
 by_cases h:k<20
 exact(by decide: ∀k:Fin 20,aa Es k 0<=16) ⟨k,h⟩
 rw[bX,gB (by simp[Es];omega)];simp
def X6(k:Nat):aa Et k 0<=16:=by
 by_cases h:k<21
 exact(by decide: ∀k:Fin 21,aa Et k 0<=16) ⟨k,h⟩
 rw[bX,gB (by simp[Et];omega)];simp
def ary(l:List Nat)(a: ∀k,aa l k 0<=16)(n:Nat):JA l n<=n*65536:=by
 induction n with
 |zero=>exact aW 0
 | succ n b=>
   rw[afx]
   have:=dF (I:0<2) (a n)
   omega
def mY(v:Nat)(none:Bool)(a b c:Nat):Nat×Nat×Nat:=
 if v>3 then(v-3,a,b)
 else
   let k:=if none=true then v-1+1 else v-1
   if k=1 then(b,a,c)else if k=2 then(c,a,b)else if k=3 then(a-1,a,b)else(a,b,c)
def Q'(b:kind<=2):Calls PP 53 #[.int .i64 (kind:Int)] w λe w'=>e= .returned (.tuple #[af (cE kind).1,af (cE kind).2])/\w'=w:=by
 refine iu func53 ntmps53 [2,3] ?_;refine g_ 16 ?_;refine au J ?_ ?_<;>intro a
 refine g_ 6 ?_;refine⟨?_,J⟩;(rw[cE,ao I];rfl)
 refine g_ 5 ?_;refine au J ?_ ?_<;>intro c
 refine g_ 6 ?_;refine⟨?_,J⟩;(rw[cE,aj I,ao I];rfl)
 refine g_ 7 ?_;refine⟨?_,J⟩;(rw[cE,aj I,aj I];rfl)
def afy(h:H r w F)(E:kind<=2)(y:kind=1->c<=31)(z:kind=0->c<=35)(A:kind=2->c<=52):Calls PP 54 #[.int .i64 (kind:Int),.int .i64 (c:Int)] w λe w'=>e= .returned (.tuple #[af (codeF kind c).1,af (codeF kind c).2])/\H r w' F:=by
 refine iI func54 ntmps54 [4,5] ?_;refine g_ 6 ?_;refine kp [(4,5),(10,32)] (λρ w=>(kind≠1/\(kind=0->16<=c)/\(kind=2->32<=c))/\H r w F) ?_ ?_
 refine g_ 6 ?_;refine au J ?_ ?_<;>intro g
 refine g_ 3 ?_;refine ak (eB (a:=1) (h1:=av.lit _) J J dQ (aM (yP 1 (dF I (y g))) an)) ?_;refine g_ 5 ?_;refine⟨?_,h⟩;rw[codeF,ao g];show Ending.returned (.tuple #[af (1*2^c),af c])= .returned (.tuple #[af (2^c),af c]);rw[rN]
 refine g_ 5 ?_;refine eM (t:=19) J (λj=>?_) (λj=>?_)
 refine g_ 5 ?_;refine au J ?_ ?_<;>intro G
 refine g_ 7 ?_;exact⟨(by rw[codeF,aj g,ao I];rfl),h⟩
 refine g_ 5 ?_;refine eM (t:=27) J (λl=>?_) (λl=>?_)
 refine g_ 5 ?_;refine au J ?_ ?_<;>intro B
 refine g_ 8 ?_;exact⟨(by rw[codeF,aj g,aj I,ao I];rfl),h⟩
 exact a8 ⟨aS,I,h⟩
 refine g_ 5 ?_;exact gK J (a8 ⟨aS,I,h⟩)
 refine g_ 5 ?_;refine gK J ?_;refine g_ 5 ?_;refine eM (t:=27) J (λl=>?_) (λl=>?_)
 refine g_ 5 ?_;refine au J ?_ ?_<;>intro B
 refine g_ 8 ?_;exact⟨(by rw[codeF,aj g,aj I,ao I];rfl),h⟩
 exact a8 ⟨aS,I,h⟩
 refine g_ 5 ?_;exact gK J (a8 ⟨aS,I,h⟩)
 rintro ρ w ⟨C,h⟩;refine bY (fD (uJ (v:=λb=>cK b 20 20) (λw=>B7 (u:=λb=>cK b 20 20) (λw=>aq5 (1) (1) (1) (1) (2) (2) (3) (3) (4) (6) (7) (8) (9) (10) (11) (12) (13) (14) (15) (16) w) J) h J ?_));intro m w h;refine g_ 7 ?_;refine cW [(6,8),(34,36)] (λρ w=> ∃bb f b0 f0,(f=if kind=2 then Et else Es)/\b0=(if kind=2 then 35 else 16)/\f0=(if kind=2 then 32 else 16)/\W f=(if kind=2 then 21 else 20)/\Kn ρ [(6,cK bb (W f) (W f)),(7,af b0),(8,af f0)]/\H r w ((ah bb (f.map af) 3)::F)) ?_ ?_
 refine g_ 5 ?_;refine au J ?_ ?_<;>intro d
 refine bY (fD (uJ (v:=λb=>cK b 21 21) (λw=>B7 (u:=λb=>cK b 21 21) (λw=>aq6 (1) (1) (1) (1) (2) (2) (3) (3) (4) (4) (5) (7) (8) (9) (10) (11) (12) (13) (14) (15) (16) w) J) h J ?_));intro m w h;refine g_ 6 ?_;replace h:=h.zz [1] 1;refine⟨aS,?_⟩
 first
   | have n:kind=2:=d
     exact⟨_,Et,35,32,(ao d).symm,(ao d).symm,(ao d).symm,(by rw[ao d];rfl),az,h⟩
   | have n: ¬kind=2:=d
     exact⟨_,Es,16,16,(aj d).symm,(aj d).symm,(aj d).symm,(by rw[aj d];rfl),az,h⟩
 refine a8 (⟨aS,?_⟩)
 first
   | have n:kind=2:=d
     exact⟨_,Et,35,32,(ao d).symm,(ao d).symm,(ao d).symm,(by rw[ao d];rfl),az,h⟩
   | have n: ¬kind=2:=d
     exact⟨_,Es,16,16,(aj d).symm,(aj d).symm,(aj d).symm,(by rw[aj d];rfl),az,h⟩
 rintro ρ w ⟨bb,f,b0,f0,i,q,s,o,⟨K,rfl⟩,h⟩
 have p: ∀k,aa f k 0<=16:=by
  intro k;rw[i];split
  exact X6 k
  exact X5 k
 have x: ∀k,1*2^aa f k 0<=65536:=λk=>aM (yP 1 (dF I (p k))) an
 have D:f0<=c/\c-f0<W f/\b0<=35/\W f<=21:=by
  rw[s,o,q];by_cases e2:kind=2
  rw[ao e2,ao e2,ao e2];have:=A e2;omega
  rw[aj e2,aj e2,aj e2];have:=z I;omega
 refine g_ 7 ?_;refine cw (σ:=Nat) [(7,7),(9,9),(38,51)] (λc1 ρ w=>Kn ρ [(9,af c1),(7,af (b0+JA f (c1-f0)))]/\H r w ((ah bb (f.map af) 3)::F)/\f0<=c1/\c1<=c) (λc1=>c-c1) f0 ⟨Kn.mk ⟨J,by rw[vX];rfl,trivial⟩,h,aW _,D.1⟩ ?_;rintro c1 ρ w ⟨⟨L,rfl⟩,h,M,N⟩;refine g_ 7 ?_;refine au J ?_ ?_<;>intro O
 refine g_ 9 ?_;refine ak (j8 J J (by first|rfl|assumption|exact tK J I|exact eU J I|exact eU (by assumption) I) I) ?_;refine aX h J (kq I) (ak (eB (a:=1) (h1:=av.lit _) J J (by have:=p (c1-f0);simp only[IntKind.bits];omega) (by have:=x (c1-f0);simp only[aN];omega)) ?_);refine ak (eR J J (by have:=x (c1-f0);have:=ary f p (c1-f0);simp only[aN];omega)) ?_;refine g_ 7 ?_;refine⟨aS,?_⟩;refine⟨c1+1,I,Kn.mk ⟨J,int_eq (cD Int.ofNat ?_),trivial⟩,h,I,I⟩;rw[show c1+1-f0=c1-f0+1 from by omega,afx];omega
 refine jl (bY (cm h [0,4,8,12,16,20,28,25,32] ?_));intro w h;refine aC 5 ?_;refine aD J (j8 J J (by first|rfl|assumption|exact tK J I|exact eU J I|exact eU (by assumption) I) I) ?_;refine fG J (aQ J h J (kq I) (fG J (cO (ju ?_))));refine⟨?_,h.tail⟩;obtain rfl:c1=c:=I;rw[codeF,aj I,aj I,aj I];subst i q s;by_cases e2:kind=2
 simp only[ao e2];rfl
 simp only[aj e2];rfl
def JC(h:p:=by refine ak (xH (MG _ _ _) J J J) ?_;refine g_ 2 ?_;refine cI ?_;intro w h;refine g_ 11 ?_;replace h:=h.tail;(try dsimp only[dX]at h);(exact Exists.intro _ ⟨_,_,(by unfold mY;dsimp only;(repeat' split)<;>first|rfl| (exfalso;omega)| (exfalso;simp_all;done)| (exfalso;simp_all;omega)),J,h⟩)):p:=h
def X9(h:p:=by (exact Exists.intro _ ⟨_,_,(by unfold mY;dsimp only;(repeat' split)<;>first|rfl| (exfalso;omega)| (exfalso;simp_all;done)| (exfalso;simp_all;omega)),J,h⟩)):p:=h
def afA{st:Nat}{x0 g i j k l m:Value}{v a b:Nat}{none:Bool}(h:H r w ((ah st [x0,g,i,j,k,l,m,af a,af b,af c] 101)::F))(p:1<=v)(q:v<=1099511627776)(s:1<=a)(t:a<=1099511627776):Calls PP 38 #[.pointer (some ⟨st,0,Option.none⟩),.int .i64 (v:Int),.bool none] w λe w'=> ∃a' b' c',mY v none a b c=(a',b',c')/\e= .returned (af a')/\H r w' ((ah st [x0,g,i,j,k,l,m,af a',af b',af c'] 101)::F):=by
 refine nV func38 ntmps38 [6] ?_;refine g_ 10 ?_;refine au J ?_ ?_<;>intro u
 refine bY (cm h [0,4,8,12,16,20,24,32,36,40,44,29,49,52,56,60,67] ?_);intro w h;refine aC 13 ?_;refine aD J (xH (MG _ _ _) J J J) ?_;refine aC 2 ?_;refine MF J h J J J J (by first|decide|simp|omega) J ?_;intro w h;(try dsimp only[dm,bJ]at h);refine cO ?_;refine g_ 7 ?_;exact X9
 refine g_ 12 ?_;refine eY J ?_ ?_<;>intro x
 refine g_ 10 ?_;refine ak (jx [_,_,_] h J ⟨J,J,J,trivial⟩ J) (eN h J ?_);intro d w h;refine cI ?_;intro w h;refine g_ 12 ?_;refine au J ?_ ?_<;>intro n
 refine g_ 8 ?_;exact JC
 refine g_ 5 ?_;refine au J ?_ ?_<;>intro f
 refine g_ 8 ?_;exact JC
 refine g_ 5 ?_;refine au J ?_ ?_<;>intro o
 refine g_ 9 ?_;exact JC
 refine g_ 11 ?_;replace h:=h.tail;(try dsimp only[dX]at h);exact X9
 refine g_ 6 ?_;refine ak (jx [_,_,_] h J ⟨J,J,J,trivial⟩ J) (eN h J ?_);intro d w h;refine cI ?_;intro w h;refine g_ 12 ?_;refine au J ?_ ?_<;>intro n
 refine g_ 8 ?_;exact JC
 refine g_ 5 ?_;refine au J ?_ ?_<;>intro f
 refine g_ 8 ?_;exact JC
 refine g_ 5 ?_;refine au J ?_ ?_<;>intro o
 refine g_ 9 ?_;exact JC
 refine g_ 11 ?_;replace h:=h.tail;(try dsimp only[dX]at h);exact X9
section
def Gu{e:aK}(h:e∈F): ∃F0,F.Perm (e::F0):=by
 obtain⟨s,t,rfl⟩:=List.append_of_mem h;exact⟨s++t,tF⟩
def dw{b:Nat}(h:(ah b l T)∈F): ∃i,Has F b l T i:=by
 obtain⟨i,hi,e⟩:=DO h;exact⟨i,⟨by rw[gW hi,e]⟩⟩
def X_{α:Type}(f:α->List Value)(s:Nat)(a: ∀x,W (f x)=s): ∀l:List α,W (l.flatMap f)=W l*s
 | []=>by simp
 |x::l=>by rw[BK,aF,a,X_ f s a l,dL,vY];omega
def MX{α:Type}(f:α->List Value)(s:Nat)(a: ∀x,W (f x)=s)(d:α): ∀(l:List α) (i j:Nat),i<W l->j<s->(l.flatMap f)[i*s+j]? =(f (aa l i d))[j]?
 |x::l,0,j,_,b=>by rw[BK,gP (by rw[a];omega)];simp
 |x::l,i+1,j,hi,b=>by rw[BK,l_ (by rw[a,vY];omega),a];have:(i+1)*s+j-s=i*s+j:=(by rw[vY];omega);rw[this,MX f s a d l i j (by simpa using hi) b];simp
def X'(f:α->List Value)(s:Nat)(a: ∀x,W (f x)=s)(d:α)(l:List α)(i:Nat)(hi:i<W l):Rd (l.flatMap f) (i*s) (f (aa l i d)):=
 Rd.of λj b=>MX f s a d l i j hi (by rw[<-a (aa l i d)];exact b)
def afC(a b:List Value): ∀(vs:List Value) (q:Nat),W a<=q->dm (a++b) q vs=a++dm b (q-W a) vs:=by
 intro vs
 induction vs generalizing b with
 |nil=>intro q _;rfl
 | cons v vs c=>
   intro q d
   show dm ((a++b).set q v) (q+1) vs=a++dm (b.set (q-W a) v) (q-W a+1) vs
   rw[IZ _ _ d,c _ _ I]
   congr 2;omega
def afD: ∀(vs xs b:List Value),W vs=W xs-> ∀p:List Value,dm (p++(xs++b)) (W p) vs=p++(vs++b)
 | [],[],b,_,p=>rfl
 |v::vs,x::xs,b,h,p=>by show dm ((p++(x::xs++b)).set (W p) v) (W p+1) vs=_;have:(p++(x::xs++b)).set (W p) v=(p++[v])++(xs++b):=(by simp);rw[this];have e:=afD vs xs b (by simpa using h) (p++[v]);rw[aF]at e;simpa using e
def Rb{α:Type}(f:α->List Value)(s:Nat)(a: ∀x,W (f x)=s)(y:α): ∀(l:List α) (i:Nat),i<W l->dm (l.flatMap f) (i*s) (f y)=(l.set i y).flatMap f
 |x::l,0,_=>by have:=afD (f y) (f x) (l.flatMap f) (by rw[a,a]) [];simpa using this
 |x::l,i+1,hi=>by rw[BK,afC _ _ _ _ (by rw[a,vY];omega),a];have:(i+1)*s-s=i*s:=(by rw[vY];omega);rw[this,Rb f s a y l i (by simpa using hi)];simp
structure dx where
 sym:Nat
 bits:Nat
 base:Nat
instance :Inhabited dx:=⟨⟨0,0,0⟩⟩
def wy(c:dx):List Value:=[af c.sym,af c.bits,af c.base]
def gC(cs:List dx):List Value:=cs.flatMap wy
def Rc(c:dx):W (wy c)=3:=rfl
def Re{cs:List dx}(hi:i<W cs):Rd (gC cs) (i*3) (wy (aa cs i default)):=X' wy 3 Rc default cs i hi
def Rf{cs:List dx}{j:Nat}(hi:i<W cs)(a:j<3):(gC cs)[i*3+j]? =(wy (aa cs i default))[j]? :=MX wy 3 Rc default cs i j hi a
variable {r:fT}{w:World}{F:List aK}{db bb q:Nat}{ad:Option Addr}{D:List UInt8}{len cap:Nat}{T:TT}
def tV(h:H r w F)(hm:(ah db (D.map u8) T)∈F)(a:0<len->ad=some ⟨db,q,none⟩)(b:q+len<=W D)(hlen:len<=8)(hN:num (ag D q len)<=9223372036854775807):Calls PP 22 #[.slice ad len cap] w λe w'=>e= .returned (af (num (ag D q len)))/\w'=w:=by
 obtain⟨F0,hp⟩:=Gu hm;exact arv (sp:=[]) (F:=F0) (T:=T) (by rw[dN];exact h.perm hp) a b hlen hN
def Rg{at_:Nat}{bad:Bool}(h:H r w ((ah bb [.slice ad len cap,.int .i64 (at_:Int),.bool bad] 167)::F))(hm:(ah db (D.map u8) T)∈F)(d:0<len->ad=some ⟨db,q,none⟩)(f:q+len<=W D)(g:at_<=8*len)(i:n<=32)(hlen:len<=281474976710656):Calls PP 73 #[bL bb,.int .i64 (n:Int)] w λe w'=> ∃v at' c,gh (num (ag D q len)) len at_ bad n=(v,at',c)/\e= .returned (.int .i64 (v:Int))/\H r w' ((ah bb [.slice ad len cap,.int .i64 (at':Int),.bool c] 167)::F):=by
 obtain⟨F0,hp⟩:=Gu hm;refine(arj (h.perm (hp.cons _)) d f g i hlen).mono ?_;rintro e w' ⟨v,a,b,h1,h2,j⟩;exact⟨v,a,b,h1,h2,j.perm (hp.cons _).symm⟩
def Gv{left:Int}(h:H r w ((ah bb [.slice ad len cap,.int .i64 left] 155)::F))(hm:(ah db (D.map u8) T)∈F)(a:0<len->ad=some ⟨db,q,none⟩)(b:q+len<=W D)(c:left<=8*len)(d: -1000000000000<=left)(f:n<=32)(hlen:len<=281474976710656):Calls PP 65 #[bL bb,.int .i64 (n:Int)] w λe w'=>e= .returned (af (dE (num (ag D q len)) left n))/\H r w' ((ah bb [.slice ad len cap,.int .i64 (left-n)] 155)::F):=by
 obtain⟨F0,hp⟩:=Gu hm;refine(arl (h.perm (hp.cons _)) a b c d f hlen).mono ?_;rintro e w' ⟨h1,h2⟩;exact⟨h1,h2.perm (hp.cons _).symm⟩
def arB(h:H r w F)(hm:(ah db (D.map u8++sp) T)∈F)(a:0<len->ad=some ⟨db,q,none⟩)(b:q+len<=W D)(c:len<=cap)(hlen:len<=140737488355328):Calls PP 21 #[.slice ad len cap] w λe w'=>e= .returned (cR (lF (ag D q len)))/\H r w' F:=by
 obtain⟨F0,hp⟩:=Gu hm;refine(arx (h.perm hp) a b c hlen).mono ?_;rintro e w' ⟨h1,h2⟩;exact⟨h1,h2.perm hp.symm⟩
end
variable {shares:List Int}{k log:Nat}
def pos(size k:Nat):Nat:=k*(size/2+size/8+3) % size
def MY(size k:Nat):pos size (k+1)=(pos size k+size/2+size/8+3) % size:=by
 unfold pos;generalize hs:size/2+size/8+3=s;have e:k*s % size+size/2+size/8+3=k*s % size+s:=I;rw[e,Nat.mod_add_mod,vY]
def MZ(size:Nat):pos size 0=0:=by simp[pos]
def Ya(size:Nat):pos size size=0:=by simp[pos]
def wz{size k:Nat}(h:0<size):pos size k<size:=dY _ h
def arC(h:5<=log/\log<=9):log=5\/log=6\/log=7\/log=8\/log=9:=I
def Rh:Nat->Nat
 |5=>7
 |6=>3
 |7=>91
 |8=>11
 |_=>363
def afE(h:5<=log/\log<=9):(2^log/2+2^log/8+3)*Rh log % 2^log=1:=by
 rcases arC h with rfl|rfl|rfl|rfl|rfl<;>decide
def afF(h:5<=log/\log<=9)(a:k<2^log):pos (2^log) k*Rh log % 2^log=k:=by
 unfold pos;rw[Nat.mod_mul_mod,sK,Nat.mul_mod,afE h,fg,Nat.mod_mod,iV a]
def Ri{k':Nat}(h:5<=log/\log<=9)(a:k<2^log)(b:k'<2^log)(e:pos (2^log) k=pos (2^log) k'):k=k':=by
 have h1:=afF h a;rw[e,afF h b]at h1;exact h1.symm
def Yb{x:Nat}(h:5<=log/\log<=9)(a:x<2^log): ∃k,k<2^log/\pos (2^log) k=x:=by
 refine⟨x*Rh log % 2^log,dY _ (eA _),?_⟩;unfold pos;rw[Nat.mod_mul_mod,sK,im (Rh log),Nat.mul_mod,afE h,fg,Nat.mod_mod,iV a]
def jB(size high:Nat):Nat->Nat
 |0=>0
 |k+1=>jB size high k+(if pos size k<high then 1 else 0)
def M0{size high:Nat}: ∀{k k':Nat},k<=k'->jB size high k<=jB size high k'
 | k, 0, h => by have:k=0:=I; subst this;exact aW _
 | k,k'+1,h=>by
   rcases dq k' k with a|a
   . have:k=k'+1:=I
     subst this;exact aW _
   . exact aM (M0 a) (by simp[jB])
def afG(size high:Nat): ∀k,jB size high k=(cL k).countP (λi=>decide (pos size i<high))
 |0=>rfl
 |k+1=>by rw[pR,Qe,<-afG size high k];simp[jB,Qf]
def afH: ∀(n m:Nat),m<=n->(cL n).countP (λi=>decide (i<m))=m
 | 0, m, h => by have:m=0:=I; subst this;rfl
 | n+1,m,h=>by
   rw[pR,Qe]
   rcases dq n m with b|b
   . have e:m=n+1:=I
     subst e
     have:(cL n).countP (λi=>decide (i<n+1))=W (cL n):=List.countP_eq_length.2 (λa c=>by have:=oY.1 c;simp;omega)
     rw[this];simp[Qf]
   . rw[afH n m b];simp[Qf];omega
def afI(h:5<=log/\log<=9):((cL (2^log)).map (pos (2^log))).Perm (cL (2^log)):=by
 refine(List.perm_ext_iff_of_nodup ?_ WO).2 λa=>?_
 rw[List.nodup_iff_pairwise_ne,List.pairwise_map];refine List.Pairwise.imp_of_mem ?_ (List.nodup_iff_pairwise_ne.1 WO);intro a b c hb d e;exact d (Ri h (oY.1 c) (oY.1 hb) e)
 rw[jS,oY];constructor
 rintro⟨k,_,rfl⟩;exact wz (eA _)
 intro c;obtain⟨k,f,e⟩:=Yb h c;exact⟨k,oY.2 f,e⟩
def M1{high:Nat}(h:5<=log/\log<=9)(a:high<=2^log):jB (2^log) high (2^log)=high:=by
 rw[afG];have:=(afI h).countP_eq (λi=>decide (i<high));rw[afH _ _ a,Qg]at this;exact this
def neg(shares:List Int):Nat->Nat
 |0=>0
 |i+1=>neg shares i+(if aa shares i 0= -1 then 1 else 0)
def fE(shares:List Int):Nat->List Nat
 |0=> []
 |i+1=>fE shares i++aT (aa shares i 0).toNat i
def Yc(shares:List Int){i j:Nat}(h:i<=j): ∃l,fE shares j=fE shares i++l:=by
 induction j with
 | zero => have:i=0:=I; subst this;exact⟨[],by simp⟩
 | succ j b=>
   rcases dq j i with a|a
   . have:i=j+1:=I
     subst this;exact⟨[],by simp⟩
   . obtain⟨l,c⟩:=b a
     exact⟨l++aT (aa shares j 0).toNat j,by rw[fE,c,bV]⟩
def afJ{j t:Nat}(h:i<j)(b:t<(aa shares i 0).toNat):(fE shares j)[W (fE shares i)+t]? =some i:=by
 obtain⟨l,a⟩:=Yc shares (show i+1<=j from h);rw[a,fE,bV,l_ I,gP (by rw[dS];omega)];rw[rK,ao I]
def afK{shares:List Int}: ∀{i s:Nat},s∈fE shares i->s<i/\0<aa shares s 0
 | i+1,s,h=>by
  rw[fE,oX]at h;rcases h with h|h
  have:=afK h;exact⟨I,this.2⟩
  rw[Qh]at h;obtain⟨h1,rfl⟩:=h;exact⟨I,I⟩
def Aw{shares:List Int}: ∀{i j:Nat},i<=j->neg shares i<=neg shares j
 | i, 0, h => by have:i=0:=I; subst this;exact aW _
 | i,j+1,h=>by
   rcases dq j i with a|a
   . have:i=j+1:=I
     subst this;exact aW _
   . exact aM (Aw a) (by simp[neg])
structure iy(shares:List Int)(log:Nat):Prop where
 mJ:5<=log/\log<=9
 len:W shares<=256
 lo: ∀i,-1<=aa shares i 0
 hi: ∀i,aa shares i 0<=2^log
 sum:W (fE shares (W shares))+neg shares (W shares)=2^log
def top(size log:Nat)(shares:List Int)(cs:List dx):Nat->List dx
 |0=>cs
 |i+1=>if aa shares i 0= -1 then(top size log shares cs i).set (size-neg shares (i+1)) ⟨i,log,0⟩else top size log shares cs i
def zt(size log:Nat)(shares:List Int)(cs:List dx)(i:Nat):W (top size log shares cs i)=W cs:=by
 induction i with
 |zero=>rfl
 |succ i a=>rw[top];split<;>simp[a]
def Yd{size log:Nat}{shares:List Int}{cs:List dx}: ∀{i x:Nat},x<size-neg shares i->aa (top size log shares cs i) x default=aa cs x default
 |0,x,_=>rfl
 | i+1,x,h=>by
  have a:= @Aw shares i (i+1) I;rw[top];split
  rw[bX,BI I,<-bX,Yd I]
  exact Yd I
def lG(size high:Nat)(ex:List Nat)(cs:List dx):Nat->List dx
 |0=>cs
 |k+1=>if pos size k<high then(lG size high ex cs k).set (pos size k) {aa (lG size high ex cs k) (pos size k) default with sym:=aa ex (jB size high k) 0}else lG size high ex cs k
def M3(size high:Nat)(ex:List Nat)(cs:List dx)(k:Nat):W (lG size high ex cs k)=W cs:=by
 induction k with
 |zero=>rfl
 |succ k a=>rw[lG];split<;>simp[a]
def Ye{size high:Nat}{ex:List Nat}{cs:List dx}: ∀{k k':Nat},k<=k'->jB size high k=jB size high k'->lG size high ex cs k'=lG size high ex cs k
 | k, 0, h, _ => by have:k=0:=I; subst this;rfl
 | k,k'+1,h,e=>by
   rcases dq k' k with a|a
   . have:k=k'+1:=I
     subst this;rfl
   . have h1:= @M0 size high _ _ a
     rw[jB]at e
     have h2: ¬pos size k'<high:=by
       intro hp;rw[ao hp]at e;omega
     rw[aj h2]at e
     rw[lG,aj h2,Ye a I]
def M4{size high:Nat}{ex:List Nat}{cs:List dx}: ∀{k x:Nat},high<=x->aa (lG size high ex cs k) x default=aa cs x default
 |0,x,_=>rfl
 | k+1,x,h=>by
  rw[lG];split
  rw[bX,BI I,<-bX,M4 h]
  exact M4 h
def e_(l:List α)(i j:Nat)(v d:α):aa (l.set i v) j d=if i=j/\i<W l then v else aa l j d:=by
 simp only[bX,vV];by_cases h:i=j
 subst h;by_cases h2:i<W l
 simp[h2]
 simp[h2]
 simp[h]
def afL{log high:Nat}{ex:List Nat}{cs:List dx}(h:5<=log/\log<=9)(d:W cs=2^log)(f:high<=2^log): ∀{k x:Nat},x<high->(∃k',k'<k/\pos (2^log) k'=x)->k<=2^log->
   ∃j,j<jB (2^log) high k/\aa (lG (2^log) high ex cs k) x default={aa cs x default with sym:=aa ex j 0}
 |0,x,_,⟨k',h1,_⟩,_=>by omega
 | k+1,x,g,⟨k',h1,e⟩,i=>by
   rw[lG,jB]
   by_cases a:k'=k
   . subst a
     rw[ao I,ao I,e,e_,ao ⟨J,by rw[M3];omega⟩]
     refine⟨jB (2^log) high k',I,?_⟩
     have hb:aa (lG (2^log) high ex cs k') x default=aa cs x default:=by
       have: ∀m,m<=k'->aa (lG (2^log) high ex cs m) x default=aa cs x default:=by
         intro m
         induction m with
         |zero=>intro _;rfl
         | succ m b=>
           intro hm
           rw[lG];split
           . rw[e_,aj,b I]
             rintro⟨e2,_⟩
             have:=Ri h (k:=m) (k':=k') I I (by rw[e2,e])
             omega
           . exact b I
       exact this k' (aW _)
     rw[hb]
   . obtain⟨j,l,c⟩:=afL h d f (k:=k) (ex:=ex) (cs:=cs) g ⟨k',I,e⟩ I
     by_cases hp:pos (2^log) k<high
     . rw[ao hp,ao hp,e_,aj]
       . exact⟨j,I,c⟩
       . rintro⟨e2,_⟩
         exact a (Ri h I I (by rw[e,e2]))
     . rw[aj hp,aj hp];exact⟨j,I,c⟩
def iJ(log n:Nat):Nat:=log-n.log2
def fin(log:Nat)(shares:List Int)(cs:List dx):Nat->List Int×List dx
 |0=>(shares,cs)
 | i+1=>
   let x:=fin log shares cs i
   let c:=aa x.2 i default
   let n:=aa x.1 c.sym 0
   (x.1.set c.sym (n+1),x.2.set i ⟨c.sym,iJ log n.toNat,n.toNat*2^iJ log n.toNat-2^log⟩)
def high(shares:List Int)(log:Nat):Nat:=2^log-neg shares (W shares)
def spread(shares:List Int)(log:Nat):List dx:=
 lG (2^log) (high shares log) (fE shares (W shares)) (top (2^log) log shares (aT (2^log) default) (W shares)) (2^log)
def dn(shares:List Int)(log:Nat):List dx:=(fin log shares (spread shares log) (high shares log)).2
def Ax(log:Nat)(shares:List Int)(cs:List dx): ∀i,W (fin log shares cs i).1=W shares/\W (fin log shares cs i).2=W cs
 |0=>⟨J,J⟩
 |i+1=>by simp[fin,Ax log shares cs i]
def Ay{log:Nat}{shares:List Int}{cs:List dx}: ∀{i x:Nat},i<=x->aa (fin log shares cs i).2 x default=aa cs x default
 |0,x,_=>rfl
 |i+1,x,h=>by rw[fin];simp only;rw[e_,aj I,Ay I]
def Yf{log:Nat}{shares:List Int}{cs:List dx}(s:Nat): ∀(i:Nat),aa shares s 0<=aa (fin log shares cs i).1 s 0/\aa (fin log shares cs i).1 s 0<=aa shares s 0+i
 |0=>by simp[fin]
 | i+1=>by
  have a:=Yf (log:=log) (shares:=shares) (cs:=cs) s i;rw[fin];simp only;rw[e_];split
  rename_i e;rw[e.1];omega
  omega
def iy.JD(h:iy shares log):0<W shares:=by
 rcases pd (W shares) with e|e
 have:=h.sum;rw[e]at this;have h1:=eA log;simp only[fE,neg,eW]at this;omega
 exact e
def M5(shares:List Int)(log:Nat):W (spread shares log)=2^log:=by rw[spread,M3,zt];simp
def xQ(shares:List Int)(log:Nat):W (dn shares log)=2^log:=by rw[dn,(Ax _ _ _ _).2,M5]
def iy.Rj(h:iy shares log):high shares log=W (fE shares (W shares)):=by
 have:=h.sum;unfold high;omega
def iy.wB(_:iy shares log):high shares log<=2^log:=vZ _ _
def JE(h:iy shares log){x:Nat}(a:x<high shares log): ∃s,aa (spread shares log) x default=⟨s,0,0⟩/\s<W shares/\1<=aa shares s 0:=by
 obtain⟨k,c,e⟩:=Yb h.mJ (show x<2^log from qN a h.wB);obtain⟨j,b,e2⟩:=afL (ex:=fE shares (W shares)) (cs:=top (2^log) log shares (aT (2^log) default) (W shares)) h.mJ (by rw[zt];simp) h.wB a ⟨k,c,e⟩ (aW _);rw[M1 h.mJ h.wB,h.Rj]at b;have hm:=Ai b;have:=afK hm;refine⟨_,?_,this.1,this.2⟩;rw[spread,e2,Yd (by unfold high at a;exact a)];have:aa (aT (2^log) (default:dx)) x default=default:=(by rw[bX,rK];split<;>rfl);rw[this];simp[b];exact⟨J,J⟩
variable {x:Nat}
def uX(E:List UInt8):Nat:=(aa E (W E-1) 0).toNat
def jg(E:List UInt8):Option Nat:=if W E=0\/uX E=0 then none else some (8*(W E-1)+(uX E).log2)
def afM:x/2^n=0↔x<2^n:=by
 rw[Nat.div_eq_zero_iff];have:=eA n;omega
def Yg(h1:x<2^(n+1))(h2: ¬x<2^n):x.log2=n:=by
 have a:x≠0:=(by have:=eA n;omega);exact(I0 a).2 ⟨I,h1⟩
def afN{D:List UInt8}{len:Nat}(h:H r w F)(hm:(ah db (D.map u8++sp) T)∈F)(a:0<len->ad=some ⟨db,q,none⟩)(b:q+len<=W D)(c:len<=cap)(hlen:len<=140737488355328):Calls PP 15 #[.slice ad len cap] w λe w'=>e= .returned (bR (lF (ag D q len) % 4294967296))/\H r w' F:=by
 obtain⟨d,f⟩:=dw hm;refine iu func15 ntmps15 [2] ?_;refine g_ 7 ?_;refine d' J J (aH (arB h hm a b c hlen) ?_);rintro e g ⟨rfl,h⟩;refine ak (DX J J) ?_;refine g_ 3 ?_;exact⟨J,h⟩
def afO{sym:Nat}(h:H r w F):Calls PP 56 #[.int .i64 (sym:Int)] w λe w'=> ∃cb,e= .returned (.agg #[cK cb 1 1,af 0])/\H r w' ((ah cb (gC [⟨sym,0,0⟩]) 126)::F):=by
 refine D9 (P:=PP) func56 7 ntmps56 2 124 [] J J (args:=[_]) J (bY (fD (eN h J ?_)));intro bt w h;refine g_ 4 ?_;refine ak (Gj (aqN _) J) (mf J (ara _ _ _) h ?_);intro bc w h;refine ak (At (v1:=af 0) (aeL _ _ _ _) J J) (cI ?_);intro w h;refine aJ (ju (⟨_,rX [_,_] h J ⟨J,J,trivial⟩ J,?_⟩));exact⟨bc,J,(h.mv 1).tail⟩
def arD{D:List UInt8}{len:Nat}(h:H r w F)(hm:(ah db (D.map u8) T)∈F)(j:0<len->ad=some ⟨db,q,none⟩)(l:q+len<=W D)(hlen:len<=140737488355328):Calls PP 64 #[.slice ad len cap] w λe w'=>(jg (ag D q len)=none->e= .returned (.tuple #[.pointer none,.bool false])/\H r w' F)/\(∀left,jg (ag D q len)=some left-> ∃bb,e= .returned (.tuple #[bL bb,.bool true])/\H r w' ((ah bb [.slice ad len cap,af left] 155)::F)):=by
 obtain⟨m,o⟩:=dw hm;have d:=dK l;have b:0<len->uX (ag D q len)=(aa D (q+(len-1)) 0).toNat:=(by intro p;rw[uX,d,lD I]);refine iu func64 ntmps64 [2,3] ?_;refine g_ 12 ?_;refine eM (t:=8) J (λg=>?_) (λg=>?_)
 refine g_ 9 ?_;refine jv J ?_;refine g_ 6 ?_
 first
   | (refine And.intro (λ_=>And.intro J h) (λleft a=>?_)
      rw[jg,ao (by first| (left;omega)| (right;rw[b I];assumption)| (right;rw[b I];omega))]at a
      cases a)
   | (have hb:jg (ag D q len)=some (8*(len-1)+n):=by
        rw[jg,aj (by rw[b I,d];omega),b I,d,Yg i f]
      refine⟨(λc=>?_),(λleft a=>?_)⟩
      . rw[hb]at c;cases c
      . rw[hb]at a;cases a
        exact Exists.intro _ ⟨J,h⟩)
 refine g_ 4 ?_;refine dI J J J (da J J (j I) I) J (dI J J J (run_load h J (gX I)) J ?_);refine g_ 3 ?_;refine au J ?_ ?_<;>intro s
 refine g_ 6 ?_
 first
   | (refine And.intro (λ_=>And.intro J h) (λleft a=>?_)
      rw[jg,ao (by first| (left;omega)| (right;rw[b I];assumption)| (right;rw[b I];omega))]at a
      cases a)
   | (have hb:jg (ag D q len)=some (8*(len-1)+n):=by
        rw[jg,aj (by rw[b I,d];omega),b I,d,Yg i f]
      refine⟨(λc=>?_),(λleft a=>?_)⟩
      . rw[hb]at c;cases c
      . rw[hb]at a;cases a
        exact Exists.intro _ ⟨J,h⟩)
 refine g_ 7 ?_;have u:0<len/\(aa D (q+(len-1)) 0).toNat≠0:=I;refine cw (σ:=Nat) [(4,4),(17,27)] (λn ρ w=>Kn ρ [(4,af n)]/\H r w F/\n<=7/\(aa D (q+(len-1)) 0).toNat<2^(n+1)) (λn=>n) 7 ⟨az,h,aW _,WQ (toNat_le _) an⟩ ?_;rintro n ρ w ⟨⟨v,rfl⟩,h,c,i⟩;refine g_ 7 ?_;refine ak (da J J (j I) I) (aX h J (gX I) ?_);refine g_ 4 ?_;refine au J ?_ ?_<;>intro k
 have f:=afM.1 k;have x:n≠0:=(by intro e;subst e;omega);refine g_ 7 ?_;exact⟨aS,n-1,I,az,h,I,(by rw[show n-1+1=n from by omega];exact f)⟩
 have f:=λe=>k (afM.2 e);refine g_ 10 ?_;refine ak (At (aqQ _ _ _ _) J J) (tL h J J J ?_);intro bb w h;refine g_ 4 ?_
 first
   | (refine And.intro (λ_=>And.intro J h) (λleft a=>?_)
      rw[jg,ao (by first| (left;omega)| (right;rw[b I];assumption)| (right;rw[b I];omega))]at a
      cases a)
   | (have hb:jg (ag D q len)=some (8*(len-1)+n):=by
        rw[jg,aj (by rw[b I,d];omega),b I,d,Yg i f]
      refine⟨(λc=>?_),(λleft a=>?_)⟩
      . rw[hb]at c;cases c
      . rw[hb]at a;cases a
        exact Exists.intro _ ⟨J,h⟩)
def afP{D:List UInt8}{len:Nat}{cb cl:Nat}{lg:Value}{cs:List dx}{left:Int}(h:H r w ((ah bb [.slice ad len cap,.int .i64 left] 155)::F))(hm:(ah db (D.map u8) T)∈F)(a:0<len->ad=some ⟨db,q,none⟩)(b:q+len<=W D)(f:(ah cb (gC cs) 126)∈F)(c:left<=8*len)(d: -1000000000000<=left)(hlen:len<=281474976710656)(hi:i<W cs)(g:cl=W cs)(hb:(aa cs i default).bits<=32)(m:(aa cs i default).base<=1099511627776):Calls PP 66 #[.agg #[cK cb cl cl,lg],bL bb,.int .i64 (i:Int)] w λe w'=>e= .returned (af ((aa cs i default).base+dE (num (ag D q len)) left (aa cs i default).bits))/\H r w' ((ah bb [.slice ad len cap,.int .i64 (left- (aa cs i default).bits)] 155)::F):=by
 obtain⟨n,o⟩:=dw hm;obtain⟨j,p⟩:=dw f;subst g;have s:=wx (num (ag D q len)) left (aa cs i default).bits;have t:=dF (I:0<2) hb;have k:2^32=4294967296:=an;refine nV func66 ntmps66 [6] ?_;refine bY (fD (tL h J J J ?_));intro bt w h;refine g_ 7 ?_;refine ak (lu J J (by first|rfl|assumption|exact tK J I|exact eU J I|exact eU (by assumption) I) I) ?_;refine ak (jx (wy (aa cs i default)) h J (Re hi) J) (eN h J ?_);intro bc w h;refine cI ?_;intro w h;refine aJ (bY (xK h (de [0,8,12,17] (.fork (de [5,23,24,28] .nil) (de [23,5,24,28] .nil))) ?_));intro w h;refine aC 4 ?_;refine gR ?_ ?_
 refine aC 1 ?_;replace h:=h.zz [2] 0;refine lW J J J J (aH (Gv h (aA (aA hm)) a b c d hb hlen) ?_);rintro e l ⟨rfl,h⟩;refine aC 3 ?_;refine ju ?_;replace h:=h.zz [2,2] 2;exact⟨J,h⟩
 replace h:=h.zz [2] 0;refine lW J J J J (aH (Gv h (aA (aA hm)) a b c d hb hlen) ?_);rintro e l ⟨rfl,h⟩;refine aC 4 ?_;refine ju ?_;replace h:=h.zz [2,2] 2;exact⟨J,h⟩
variable {b:Bool}{N a f symbols:Nat}
def ky(N len at_:Nat)(bad:Bool)(aq:Nat):Nat×Nat×Bool:=
 let g:=aq.log2
 let a:=2^(g+1) -1-aq
 let x:=gh N len at_ bad g
 if x.1<a then x
 else
   let y:=gh N len x.2.1 x.2.2 1
   let v:=if y.1=1 then x.1+2^g else x.1
   (if v>=2^g then v-a else v,y.2)
def Eu{len at_ v:Nat}{bad:Bool}(h:gh N len at_ bad n=(v,a,b))(c:at_<=8*len):a<=8*len/\at_<=a/\(b=false->bad=false/\a=at_+n):=by
 unfold gh at h;split at h
 cases h;exact⟨I,I,λe=>⟨e,J⟩⟩
 cases h;exact⟨c,aW _,λe=>by cases e⟩
def M6{len at_ v:Nat}{bad:Bool}(h:gh N len at_ bad n=(v,a,b)):v<2^n:=by
 unfold gh at h;split at h
 cases h;exact Gk _ _ _
 cases h;exact eA _
def arE{D:List UInt8}{len:Nat}{at_ aq:Nat}{bad:Bool}(h:H r w ((ah bb [.slice ad len cap,.int .i64 (at_:Int),.bool bad] 167)::F))(hm:(ah db (D.map u8) T)∈F)(k:0<len->ad=some ⟨db,q,none⟩)(l:q+len<=W D)(E:at_<=8*len)(hlen:len<=281474976710656)(G:1<=aq)(K:aq<=1048576):Calls PP 74 #[bL bb,.int .i64 (aq:Int)] w λe w'=> ∃v at' m,ky (num (ag D q len)) len at_ bad aq=(v,at',m)/\e= .returned (af v)/\H r w' ((ah bb [.slice ad len cap,.int .i64 (at':Int),.bool m] 167)::F)/\at'<=8*len/\at_<=at'/\v<=aq:=by
 obtain⟨g,f⟩: ∃g,g=aq.log2:=⟨_,J⟩;have p:2^g<=aq:=(by rw[f];exact F2 I);have s:aq<2^(g+1):=(by rw[f];exact yQ)
 have L:g<=20:=by
  rcases dq 20 g with c|c
  have:=dF (I:0<2) c;have e:2^(20+1)=2097152:=an;omega
  exact c
 have M:2^(g+1)=2*2^g:=(by rw[jI];omega);have t:2^(g+1-1)=2^g:=rfl;refine iI func74 ntmps74 [4] ?_;refine g_ 10 ?_;refine cw (σ:=Nat) [(5,5),(8,13)] (λn ρ w=>Kn ρ [(5,af n)]/\H r w ((ah bb [.slice ad len cap,.int .i64 (at_:Int),.bool bad] 167)::F)/\n<=g+1) (λn=>g+1-n) 0 ⟨az,h,I⟩ ?_;rintro n ρ w ⟨⟨N,rfl⟩,h,O⟩;refine g_ 8 ?_;refine au J ?_ ?_<;>intro u
 have o:n<=g:=by
  rcases dq g n with c|c
  have e:=yN (qN s (dF (I:0<2) c));rw[e]at u;omega
  exact c
 refine g_ 7 ?_;exact⟨aS,n+1,I,az,h,I⟩
 have o:n=g+1:=by
  rcases dq n (g+1)with c|c
  have e:=dF (I:0<2) (I:n<=g);have:=Qi (aM e p) (eA n);omega
  omega
 subst o;refine g_ 4 ?_;refine ak (eB (a:=1) (h1:=av.lit _) J J (by first|decide| (simp only[IntKind.bits];omega)) k_) ?_;refine g_ 10 ?_;refine cJ J J J (aH (Rg (at_:=at_) (bad:=bad) (n:=g+1-1) h hm k l I I hlen) ?_);rintro e x ⟨v1,a1,b1,i,rfl,h⟩;have y:=Eu i I;have P:=M6 i;refine g_ 9 ?_;refine au J ?_ ?_<;>intro Q
 refine g_ 6 ?_;refine⟨_,_,_,?_,J,h,I,I,I⟩;unfold ky;dsimp only;have d:gh (num (ag D q len)) len at_ bad g=(v1,a1,b1):=i;rw[<-f,d];dsimp only
 first
   | (exfalso;omega)
   |rw[ao I]
   | (rw[aj I,j]
      dsimp only
      first
        | (rw[ao b,ao I]
           refine cD (λz=>(z,a2,b2)) ?_;omega)
        | (rw[ao b,aj I]
           refine cD (λz=>(z,a2,b2)) ?_;omega)
        | (rw[aj b,ao I]
           refine cD (λz=>(z,a2,b2)) ?_;omega)
        | (rw[aj b,aj I]))
 refine g_ 5 ?_;refine cJ (v1:=af 1) J J J (aH (Rg (at_:=a1) (bad:=b1) (n:=1) h hm k l I I hlen) ?_);rintro e x ⟨v2,a2,b2,j,rfl,h⟩;have A:=Eu j I;have B:=M6 j;refine g_ 2 ?_;refine au J ?_ ?_<;>intro b
 refine g_ 4 ?_;refine ak (eB (a:=1) (h1:=av.lit _) J J (by first|decide| (simp only[IntKind.bits];omega)) k_) ?_;refine g_ 9 ?_;refine ak (eB (a:=1) (h1:=av.lit _) J J (by first|decide| (simp only[IntKind.bits];omega)) k_) ?_;refine g_ 2 ?_;refine au J ?_ ?_<;>intro C
 refine g_ 12 ?_;refine⟨_,_,_,?_,J,h,I,I,I⟩;unfold ky;dsimp only;have d:gh (num (ag D q len)) len at_ bad g=(v1,a1,b1):=i;rw[<-f,d];dsimp only
 first
   | (exfalso;omega)
   |rw[ao I]
   | (rw[aj I,j]
      dsimp only
      first
        | (rw[ao b,ao I]
           refine cD (λz=>(z,a2,b2)) ?_;omega)
        | (rw[ao b,aj I]
           refine cD (λz=>(z,a2,b2)) ?_;omega)
        | (rw[aj b,ao I]
           refine cD (λz=>(z,a2,b2)) ?_;omega)
        | (rw[aj b,aj I]))
 refine g_ 7 ?_;refine⟨_,_,_,?_,J,h,I,I,I⟩;unfold ky;dsimp only;have d:gh (num (ag D q len)) len at_ bad g=(v1,a1,b1):=i;rw[<-f,d];dsimp only
 first
   | (exfalso;omega)
   |rw[ao I]
   | (rw[aj I,j]
      dsimp only
      first
        | (rw[ao b,ao I]
           refine cD (λz=>(z,a2,b2)) ?_;omega)
        | (rw[ao b,aj I]
           refine cD (λz=>(z,a2,b2)) ?_;omega)
        | (rw[aj b,ao I]
           refine cD (λz=>(z,a2,b2)) ?_;omega)
        | (rw[aj b,aj I]))
 refine g_ 7 ?_;refine ak (eB (a:=1) (h1:=av.lit _) J J (by first|decide| (simp only[IntKind.bits];omega)) k_) ?_;refine g_ 2 ?_;refine au J ?_ ?_<;>intro C
 refine g_ 12 ?_;refine⟨_,_,_,?_,J,h,I,I,I⟩;unfold ky;dsimp only;have d:gh (num (ag D q len)) len at_ bad g=(v1,a1,b1):=i;rw[<-f,d];dsimp only
 first
   | (exfalso;omega)
   |rw[ao I]
   | (rw[aj I,j]
      dsimp only
      first
        | (rw[ao b,ao I]
           refine cD (λz=>(z,a2,b2)) ?_;omega)
        | (rw[ao b,aj I]
           refine cD (λz=>(z,a2,b2)) ?_;omega)
        | (rw[aj b,ao I]
           refine cD (λz=>(z,a2,b2)) ?_;omega)
        | (rw[aj b,aj I]))
 refine g_ 7 ?_;refine⟨_,_,_,?_,J,h,I,I,I⟩;unfold ky;dsimp only;have d:gh (num (ag D q len)) len at_ bad g=(v1,a1,b1):=i;rw[<-f,d];dsimp only
 first
   | (exfalso;omega)
   |rw[ao I]
   | (rw[aj I,j]
      dsimp only
      first
        | (rw[ao b,ao I]
           refine cD (λz=>(z,a2,b2)) ?_;omega)
        | (rw[ao b,aj I]
           refine cD (λz=>(z,a2,b2)) ?_;omega)
        | (rw[aj b,ao I]
           refine cD (λz=>(z,a2,b2)) ?_;omega)
        | (rw[aj b,aj I]))
def nt(N len symbols:Nat):Nat->List Int->Nat->Option (List Int×Nat)
 |0,_,_=>none
 | f+1,out,a=>
   let x:=gh N len a false 2
   let b:=out++aT x.1 0
   if x.2.2=true\/symbols<W b then none
   else if x.1<3 then some (b,x.2.1)else nt N len symbols f b x.2.1
def gz(N len symbols:Nat):Nat->Nat->List Int->Nat->Option (List Int×Nat)
 |0,_,_,_=>none
 | f+1,left,out,a=>
   if left=0 then some (out,a)
   else
     let x:=ky N len a false (left+1)
     if x.2.2=true\/symbols<=W out then none
     else
       let b:=out++[(x.1:Int) -1]
       let c:=if x.1=0 then left-1 else left- (x.1-1)
       if x.1=1 then
         (nt N len symbols (symbols+1) b x.2.1).bind λy=>gz N len symbols f c y.1 y.2
       else gz N len symbols f c b x.2.1
def fO(N len lJ symbols:Nat):Option (List Int×Nat×Nat):=
 let x:=gh N len 0 false 4
 if x.2.2=true\/lJ<x.1+5 then none
 else
   match gz N len symbols (symbols+1) (2^(x.1+5)) [] x.2.1 with
   |none=>none
   |some y=>some (y.1,x.1+5,(y.2+7)/8)
def b8(ob:Option Nat)(nn c:Nat)(xs sp:List Value)(size:Nat):Prop:=W xs=nn*size/\W (xs++sp)=c*size/\nn<=c/\(ob=none->c=0)
def xR{len left:Nat}{out:List Int}(b:left≠0){v a1:Nat}{b1:Bool}(c:ky N len a false (left+1)=(v,a1,b1)):gz N len symbols (f+1) left out a=if b1=true\/symbols<=W out then none else if v=1 then(nt N len symbols (symbols+1) (out++[(v:Int) -1]) a1).bind λy=>gz N len symbols f (if v=0 then left-1 else left- (v-1)) y.1 y.2 else gz N len symbols f (if v=0 then left-1 else left- (v-1)) (out++[(v:Int) -1]) a1:=by
 (conv=>lhs;unfold gz);rw[aj b,c]
def tW{len:Nat}{out:List Int}{v a1:Nat}{b1:Bool}(b:gh N len a false 2=(v,a1,b1)):nt N len symbols (f+1) out a=if b1=true\/symbols<W (out++aT v 0) then none else if v<3 then some (out++aT v 0,a1)else nt N len symbols f (out++aT v 0) a1:=by
 (conv=>lhs;unfold nt);rw[b]
def b8.nil{size:Nat}:b8 none 0 0 [] [] size:=⟨by simp,by simp,aW _,λ_=>rfl⟩
def afR(l:List Int)(p:Int):ar i64 l++[i64 p]=ar i64 (l++[p]):=by simp
def arF{left v:Nat}(a:1<=left)(b:v<=left+1):(left:Int) -max ((v:Int) -1) (-((v:Int) -1))=((if v=0 then left-1 else left- (v-1):Nat):Int):=by
 by_cases e:v=0
 subst e;rw[ao J];simp;omega
 rw[aj e,Int.max_eq_left I];omega
def arG(left v:Nat):(if v=0 then left-1 else left- (v-1))<=left:=by split<;>omega
def arH{left v:Nat}(a:1<=left)(b:v<=left+1): ∃x:Nat,(if v=0 then left-1 else left- (v-1))=x/\(left:Int) -max ((v:Int) -1) (-((v:Int) -1))=(x:Int)/\x<=left:=
 ⟨_,J,arF a b,arG _ _⟩
def arI(l:List Int)(i:Nat):l++aT i 0++[(0:Int)]=l++aT (i+1) 0:=by
 rw[bV,DP]
def arJ{D:List UInt8}{len:Nat}{lJ:Nat}(h:H r w F)(hm:(ah db (D.map u8) T)∈F)(bF:0<len->ad=some ⟨db,q,none⟩)(hq:q+len<=W D)(hlen:len<=281474976710656)(mL:lJ<=9)(lK:symbols<=256):Calls PP 63 #[.slice ad len cap,.int .i64 (lJ:Int),.int .i64 (symbols:Int)] w λe w'=>(fO (num (ag D q len)) len lJ symbols=none->e= .returned (.tuple #[.slice none 0 0,af 0,af 0,.bool false])/\H r w' F)/\(∀out log size,fO (num (ag D q len)) len lJ symbols=some (out,log,size)-> ∃ob c sp,e= .returned (.tuple #[.slice (aI ob) (W out) c,af log,af size,.bool true])/\b8 ob (W out) c (ar i64 out) sp 1/\H r w' ((ob,C (ar i64 out++sp) 3)::F)):=by
 refine nV func63 ntmps63 [6,7,8,9] ?_;refine g_ 10 ?_;refine ak (Gj (aqS _ _ _) J) (tL h J J J ?_);intro bb w h;refine g_ 5 ?_;refine cJ (v1:=af 4) J J J (aH (Rg (at_:=0) (bad:=false) (n:=4) h hm bF hq I I hlen) ?_);rintro e w1 ⟨v1,a1,b1,L,rfl,h⟩;have afQ:=Eu L I;have AD:=M6 L;refine g_ 11 ?_;refine xG (t:=27) J (λzq=>?_) (λzq=>?_)
 refine g_ 5 ?_;refine jv J ?_;refine g_ 8 ?_;refine And.intro (λ_=>And.intro J (by first|exact h|exact h.tail|exact h.tail.tail)) (λo l s hp=>?_);rw[show fO (num (ag D q len)) len lJ symbols=none from by unfold fO;dsimp only;rw[L,ao (a_ zq)]]at hp;cases hp
 refine g_ 5 ?_;refine au J ?_ ?_<;>intro tU
 refine g_ 8 ?_;refine And.intro (λ_=>And.intro J (by first|exact h|exact h.tail|exact h.tail.tail)) (λo l s hp=>?_);rw[show fO (num (ag D q len)) len lJ symbols=none from by unfold fO;dsimp only;rw[L,ao (bG tU)]]at hp;cases hp
 subst zq;have M7:2^(v1+5)<=2^9:=dF I I;have e9:2^9=512:=an;refine g_ 8 ?_;refine ak (eB (a:=1) (h1:=av.lit _) J J dQ aG) ?_;refine g_ 4 ?_;obtain⟨R,nu⟩: ∃R,gz (num (ag D q len)) len symbols (symbols+1) (2^(v1+5)) [] a1=R:=⟨_,J⟩;have A:fO (num (ag D q len)) len lJ symbols=R.map (λy=>(y.1,v1+5,(y.2+7)/8)):=(by unfold fO;dsimp only;rw[L,aj (by simp;omega)];dsimp only;rw[nu];cases R<;>rfl);replace h:=(h.ghost (C (ar i64 []++[]) 3)).mv 1;dsimp only[dX]at h;refine cw (σ:=Nat×Nat×List Int×Nat×Option Nat×Nat×List Value) [(6,9),(12,16),(34,86)] (λ⟨f,left,out,a,ob,c,sp⟩ ρ w=>Kn ρ [(13,af left),(12,.slice (aI ob) (W out) c)]/\H r w ((ah bb [.slice ad len cap,af a,.bool false] 167)::(ob,C (ar i64 (out)++sp) 3)::F)/\b8 ob (W out) c (ar i64 out) sp 1/\left<=512/\W out<=symbols/\a<=8*len/\symbols+1-W out<=f/\gz (num (ag D q len)) len symbols f left out a=R) (λ⟨f,left,out,a,ob,c,sp⟩=>symbols+1-W out) (symbols+1,2^(v1+5),[],a1,none,0,[]) ⟨Kn.mk ⟨int_eq (cD Int.ofNat (rN _)),J,trivial⟩,h,b8.nil,I,cj _,afQ.1,by simp,nu⟩ ?_;rintro⟨f,left,out,a,ob,c,sp⟩ ρ w ⟨⟨Ap,rfl⟩,h,fZ,jX,AF,ha,hf,S⟩;refine g_ 6 ?_;refine au J ?_ ?_<;>intro jA
 obtain⟨f1,rfl⟩: ∃f1,f=f1+1:=⟨f-1,I⟩;refine g_ 7 ?_;refine cJ J J J (aH (arE (at_:=a) (bad:=false) (aq:=left+1) h (aA hm) bF hq I hlen I I) ?_);rintro e w1 ⟨v2,a2,b2,lh,rfl,h,Cj,ha3,hvm⟩;refine g_ 10 ?_;refine xG (t:=44) J (λGz=>?_) (λGz=>?_)
 refine g_ 6 ?_;refine jv J ?_;refine g_ 8 ?_;refine And.intro (λ_=>And.intro J (by first|exact h|exact h.tail|exact h.tail.tail)) (λo l s hp=>?_);rw[show fO (num (ag D q len)) len lJ symbols=none from by rw[A,<-S,xR I lh,ao (a_ Gz)];rfl]at hp;cases hp
 refine g_ 6 ?_;refine au J ?_ ?_<;>intro Cl
 refine g_ 8 ?_;refine And.intro (λ_=>And.intro J (by first|exact h|exact h.tail|exact h.tail.tail)) (λo l s hp=>?_);rw[show fO (num (ag D q len)) len lJ symbols=none from by rw[A,<-S,xR I lh,ao (bG Cl)];rfl]at hp;cases hp
 refine g_ 4 ?_;refine ak (pU J J I I) ?_;refine g_ 6 ?_;refine mf J (mH _) h ?_;intro bz w h;refine me (ar i64 (out)) sp [i64 ((v2:Int) -1)] h 2 J J J fZ (Src.slice (j:=0) (q2:=0) J ⟨J,trivial⟩ J) (by intro x M;simp at M;subst M;rfl) I an J ?_;intro w dR c9 ep h K gl fk;dsimp only[bJ]at h;rw[afR]at h K;replace h:=h.tail;(try dsimp only[dX]at h);refine g_ 7 ?_;refine ak (Xm J I I) (ak (Xv J J) (ak (pU J J I I) ?_));refine g_ 6 ?_;refine ak (rR J J) (aJ (au J ?_ ?_))<;>intro Gr
 exfalso;omega
 clear Gr;subst Gz;have dV:1<=left:=I;refine(arH dV hvm).elim λU Yh=>?_;have arK:=Yh.1;have arL:=Yh.2.1;have aIw:=Yh.2.2;have fP:=xR (N:=num (ag D q len)) (len:=len) (symbols:=symbols) (f:=f1) (out:=out) (a:=a) (Nat.ne_of_gt dV) lh;rw[aj (by simp;omega),arK,S]at fP;refine a8 (kp [(6,9),(12,12),(16,16),(64,86)] (λρ w=> ∃b d k c2 p,Kn ρ [(12,.slice (aI k) (W b) c2)]/\H r w ((ah bb [.slice ad len cap,af d,.bool false] 167)::(k,C (ar i64 (b)++p) 3)::F)/\b8 k (W b) c2 (ar i64 b) p 1/\W out+1<=W b/\W b<=symbols/\d<=8*len/\gz (num (ag D q len)) len symbols f1 U b d=R) ?_ ?_)
 refine cw (σ:=Nat×List Int×Nat×Option Nat×Nat×List Value) [(6,9),(12,12),(16,16),(64,86)] (λ⟨g,b,d,k,c2,p⟩ ρ w=>Kn ρ [(12,.slice (aI k) (W b) c2)]/\H r w ((ah bb [.slice ad len cap,af d,.bool false] 167)::(k,C (ar i64 (b)++p) 3)::F)/\b8 k (W b) c2 (ar i64 b) p 1/\W out+1<=W b/\(W b<=symbols)/\d<=8*len/\symbols+1-W b<=g/\(if v2=1 then(nt (num (ag D q len)) len symbols g b d).bind (λy=>gz (num (ag D q len)) len symbols f1 U y.1 y.2)else gz (num (ag D q len)) len symbols f1 U b d)=R) (λ⟨g,b,d,k,c2,p⟩=>symbols+1-W b) (symbols+1,out++[(v2:Int) -1],a2,dR,c9,ep) ⟨Kn.mk ⟨jw J (by simp) J,trivial⟩,h,⟨by simp,K,by simpa using gl,fk⟩,by simp,by simp;omega,Cj,I,fP.symm⟩ ?_;rintro⟨g,b,d,k,c2,p⟩ ρ w ⟨⟨mW,rfl⟩,h,O,JF,V,X,hg,m⟩;refine g_ 4 ?_;refine ak (Mt J J) (aJ (au J ?_ ?_))<;>intro Em
 have Y:v2=1:=I;refine aZ (show ∃g1,g=g1+1 from⟨g-1,I⟩) (λg1 P=>?_);refine g_ 5 ?_;refine cJ (v1:=af 2) J J J (aH (Rg (at_:=d) (bad:=false) (n:=2) h (aA hm) bF hq I I hlen) ?_);rintro e w1 ⟨v4,Z,b4,B,rfl,h⟩;have aIx:=Eu B I;have aIy:=M6 B;refine g_ 9 ?_;refine cw (σ:=Nat×Option Nat×Nat×List Value) [(12,12),(69,74)] (λ⟨i,u,E,v⟩ ρ w=>Kn ρ [(69,af i),(12,.slice (aI u) (W b+i) E)]/\H r w ((ah bb [.slice ad len cap,af Z,.bool b4] 167)::(u,C (ar i64 (b++aT i 0)++v) 3)::F)/\b8 u (W b+i) E (ar i64 (b++aT i 0)) v 1/\i<=v4) (λ⟨i,u,E,v⟩=>v4-i) (0,k,c2,p) ⟨az,by rw[show b++aT 0 (0:Int)=b from by simp];exact h,by rw[show b++aT 0 (0:Int)=b from by simp];exact O,cj _⟩ ?_;rintro⟨i,u,E,v⟩ ρ w ⟨⟨Q8,rfl⟩,h,G,hi⟩;refine g_ 5 ?_;refine au J ?_ ?_<;>intro GB
 refine g_ 5 ?_;refine mf J (mH _) h ?_;intro bz w h;refine me (ar i64 (b++aT i 0)) v [i64 (0)] h 2 J J J G (Src.slice (j:=0) (q2:=0) J ⟨J,trivial⟩ J) (by intro x M;simp at M;subst M;rfl) I an J ?_;intro w dR c9 ep h K gl fk;dsimp only[bJ]at h;rw[afR]at h K;replace h:=h.tail;(try dsimp only[dX]at h);refine g_ 6 ?_;refine⟨aS,?_⟩;rw[arI]at h K;exact⟨(i+1,dR,c9,ep),cQ,az,h,⟨by simp,K,I,fk⟩,I⟩
 refine g_ 9 ?_;refine xG (t:=79) J (λz=>?_) (λz=>?_)
 refine g_ 6 ?_;refine jv J ?_;refine g_ 8 ?_;refine And.intro (λ_=>And.intro J (by first|exact h|exact h.tail|exact h.tail.tail)) (λo l s hp=>?_);rw[show fO (num (ag D q len)) len lJ symbols=none from by rw[A,<-m,ao I,P,tW B,ao (a_ z)];rfl]at hp;cases hp
 refine g_ 6 ?_;refine au J ?_ ?_<;>intro Yi
 refine g_ 8 ?_;refine And.intro (λ_=>And.intro J (by first|exact h|exact h.tail|exact h.tail.tail)) (λo l s hp=>?_);rw[show fO (num (ag D q len)) len lJ symbols=none from by rw[A,<-m,ao I,P,tW B,ao (bG (by simp;omega))];rfl]at hp;cases hp
 refine g_ 6 ?_;refine au J ?_ ?_<;>intro JH
 refine jl (⟨aS,?_⟩)
 first
   | (have iZ: ¬v2=1:=I
      rw[aj iZ]at m
      exact Exists.intro b ⟨d,k,c2,p,az,h,O,JF,V,X,m⟩)
   | (have Q:i=v4:=I
      rw[Q]at h G
      rw[z]at h
      rw[ao Y,P,tW B,aj (by simp[z];omega),ao JH]at m
      exact Exists.intro (b++aT v4 0) ⟨Z,u,E,v,Kn.mk ⟨jw J (by simp;omega) J,trivial⟩,h,(by rw[aF,dS];exact G),(by simp;omega),(by simp;omega),I,m⟩)
 refine a8 (⟨aS,?_⟩);have Q:i=v4:=I;rw[Q]at h G;rw[z]at h;refine⟨(g1,b++aT v4 0,Z,u,E,v),(by simp;omega),Kn.mk ⟨jw J (by simp;omega) J,trivial⟩,h,(by rw[aF,dS];exact G),(by simp;omega),(by simp;omega),I,(by simp;omega),?_⟩;rw[ao Y,P,tW B,aj (by simp[z];omega),aj JH]at m;rw[ao Y];exact m
 refine jl (⟨aS,?_⟩)
 first
   | (have iZ: ¬v2=1:=I
      rw[aj iZ]at m
      exact Exists.intro b ⟨d,k,c2,p,az,h,O,JF,V,X,m⟩)
   | (have Q:i=v4:=I
      rw[Q]at h G
      rw[z]at h
      rw[ao Y,P,tW B,aj (by simp[z];omega),ao JH]at m
      exact Exists.intro (b++aT v4 0) ⟨Z,u,E,v,Kn.mk ⟨jw J (by simp;omega) J,trivial⟩,h,(by rw[aF,dS];exact G),(by simp;omega),(by simp;omega),I,m⟩)
 rintro ρ w ⟨b,d,k,c2,p,⟨Q8,rfl⟩,h,O,JF,V,X,m⟩;refine⟨aS,?_⟩;refine⟨(f1,U,b,d,k,c2,p),cQ,Kn.mk ⟨cD (Value.int .i64) arL,J,trivial⟩,h,O,I,V,X,I,m⟩
 refine g_ 6 ?_;refine d' J J (aH (arn h I) ?_);rintro e w1 ⟨rfl,h⟩;refine g_ 6 ?_;have mh:left=0:=I;have Rm:R=some (out,a):=(by rw[<-S,mh];refine aZ (show ∃f1,f=f1+1 from⟨f-1,I⟩) (λf1 qW=>?_);rw[qW];unfold gz;rw[ao J]);rw[Rm]at A;refine⟨(λhn=>?_),(λo l s hp=>?_)⟩
 rw[A]at hn;cases hn
 rw[A]at hp;simp only[uE,P_,qO]at hp;refine⟨ob,c,sp,?_⟩;rw[<-hp.1,<-hp.2.1,<-hp.2.2];exact⟨J,fZ,h.tail⟩
variable {cs:List dx}{b:Nat}
def Rn{D:List Int}(h:i<W D):(D.map i64++sp)[i]? =some (i64 (aa D i 0)):=by
 rw[gP (by simpa using h)];exact y_ h
def afS{D:List Int}(h:i<W D)(a:aa D i 0=(n:Int)):(D.map i64++sp)[i]? =some (af n):=by
 rw[Rn h,a]
def arM{D:List Int}(v:Int)(h:i<W D):(D.map i64++sp).set i (i64 v)=(D.set i v).map i64++sp:=by
 rw[Mh _ _ (by simpa using h),kH]
def M8{D:List Nat}(h:i<W D):(D.map af++sp)[i]? =some (af (aa D i 0)):=by
 rw[gP (by simpa using h)];exact kq h
def M9{D:List UInt8}(h:i<W D):(D.map u8++sp)[i]? =some (u8 (aa D i 0)):=by
 rw[gP (by simpa using h)];exact gX h
def Rd.left(a b:List Value):Rd (a++b) 0 a:=Rd.of λj c=>by rw[il,gP c]
def arN(cs:List dx):W (gC cs)=W cs*3:=X_ wy 3 Rc cs
def Ey(hi:i<W cs)(h:aa cs i default=⟨a,b,c⟩):(gC cs)[i*3+0]? =some (af a):=by rw[Rf hi I,h];rfl
def JI(hi:i<W cs)(h:aa cs i default=⟨a,b,c⟩):(gC cs)[i*3+1]? =some (af b):=by rw[Rf hi I,h];rfl
def Yj(hi:i<W cs)(h:aa cs i default=⟨a,b,c⟩):(gC cs)[i*3+2]? =some (af c):=by rw[Rf hi I,h];rfl
def wH{v:Value}(h:l[q]? =some v):l.set q v=l:=by
 apply nR;intro j;rw[vV];split
 rename_i e;subst e;rw[h,ao (qP.1 h).1]
 rfl
def set_set(l:List Value)(q:Nat)(u v:Value):(l.set q u).set q v=l.set q v:=by
 rw[Mi]
def Ro(a b c:Nat)(hi:i<W cs):dm (gC cs) (i*3) [af a,af b,af c]=gC (cs.set i ⟨a,b,c⟩):=Rb wy 3 Rc ⟨a,b,c⟩ cs i hi
def arO(v:Nat)(hi:i<W cs)(h:aa cs i default=⟨a,b,c⟩):(gC cs).set (i*3+0) (af v)=gC (cs.set i ⟨v,b,c⟩):=by
 rw[<-Ro v b c hi];show _=(((gC cs).set (i*3) (af v)).set (i*3+1) (af b)).set (i*3+1+1) (af c);rw[wH (q:=i*3+1) (v:=af b),wH (q:=i*3+1+1) (v:=af c)]
 rfl
 rw[BI I];exact Yj hi h
 rw[BI I];exact JI hi h
def arP(v:Nat)(hi:i<W cs)(h:aa cs i default=⟨a,b,c⟩):(gC cs).set (i*3+1) (af v)=gC (cs.set i ⟨a,v,c⟩):=by
 rw[<-Ro a v c hi];show _=(((gC cs).set (i*3) (af a)).set (i*3+1) (af v)).set (i*3+1+1) (af c);rw[wH (q:=i*3) (v:=af a) (Ey hi h),wH (q:=i*3+1+1) (v:=af c)];rw[BI I];exact Yj hi h
def arQ(v:Nat)(hi:i<W cs)(h:aa cs i default=⟨a,b,c⟩):(gC cs).set (i*3+2) (af v)=gC (cs.set i ⟨a,b,v⟩):=by
 rw[<-Ro a b v hi];show _=(((gC cs).set (i*3) (af a)).set (i*3+1) (af b)).set (i*3+1+1) (af v);rw[wH (q:=i*3) (v:=af a) (Ey hi h),wH (q:=i*3+1) (v:=af b) (JI hi h)]
def List.arR{α:Type}{l:List α}{d v:α}(h:i<W l)(e:aa l i d=v):l.set i v=l:=by
 subst e;apply nR;intro j;rw[vV];split
 rename_i e;subst e;simp[h]
 rfl
def arS(n:Nat):dD [af 0,af 0,af 0] n=gC (aT n default):=by
 induction n with
 |zero=>rfl
 | succ n a=>
   have h1:gC (aT (n+1) default)=gC (aT n default)++wy default:=by
     rw[DP];simp[gC]
   rw[h1,<-a]
   unfold dD
   have b:W ([af 0,af 0,af 0]:List Value)=3:=rfl
   rw[b,vY,List.range_add,gJ,F3]
   congr 1
   have:cL 3=[0,1,2]:=rfl
   rw[this]
   simp only[DM,F4,Function.comp]
   have c:(n*3+0) % 3=0:=I
   have d:(n*3+1) % 3=1:=I
   have e2:(n*3+2) % 3=2:=I
   rw[c,d,e2];rfl
def gY{P:Program}{ρ:Env}{T T' ty:TypeId}{x y:Operand}{k k':IntKind}{v:Int}(c:aL ρ x= .int k ((1:Nat):Int))(d:aL ρ y= .int k' v) [h2:av v b](e:b<=k.bits)(hb:2^b<=aN k):run P ρ (.binOp .shl T x y T') ty w= .ok (.value (.int k ((2^b:Nat):Int))) w:=by
 have:=eB (P:=P) (ρ:=ρ) (T:=T) (T':=T') (ty:=ty) (w:=w) (x:=x) (y:=y) (a:=1) c d e I;rw[this,rN]
def ie(h:a=b):af a=af b:=by rw[h]
def wI(h:n<=9):2^n<=512:=aM (dF I h) an
def Yk(h:5<=n):32<=2^n:=aM an (dF (I:0<2) h)
def arT(a:1<=n)(h:n*2^b<2^log):b+1<=iJ log n:=by
 have h1:=F2 (I:n≠0);have h2:2^(n.log2+b)<2^log:=(by rw[h_];exact WQ (rL _ h1) h);have c:=(Mj (I:1<2)).1 h2;unfold iJ;omega
def arU(h: ¬n*2^b<2^log)(hb:b<=iJ log n):b=iJ log n:=by
 have h1:= @yQ n;unfold iJ at*;rcases dq b (log-n.log2)with h2|h2
 . exfalso;apply h
   calc n*2^b<2^(n.log2+1)*2^b:=Nat.mul_lt_mul_of_pos_right h1 (eA b)
     _=2^(n.log2+1+b):=(h_ ..).symm
     _<=2^log:=dF I I
 omega
def wt:List Int->Nat
 | []=>0
 |p::l=>(if p= -1 then 1 else p.toNat)+wt l
def Cm: ∀(a b:List Int),wt (a++b)=wt a+wt b
 | [],b=>by simp[wt]
 |p::a,b=>by simp only[List.cons_append,wt,Cm a b];omega
def Yl(n:Nat):wt (aT n 0)=0:=by
 induction n with
 |zero=>rfl
 |succ n a=>rw[DQ,wt,a];decide
def afT(l:List Int): ∀i,i<=W l->W (fE l i)+neg l i=wt (l.take i)
 |0,_=>by simp[fE,neg,wt]
 | i+1,h=>by
  have a:=afT l i I;rw[lY l 0 i I,Cm,<-a];simp only[fE,neg,wt,aF,dS];split
  rename_i e;rw[e];simp;omega
  omega
def afU{len aq v a1:Nat}{b b1:Bool}(hm:1<=aq)(h:ky N len a b aq=(v,a1,b1)):v<=aq:=by
 obtain⟨g,c⟩: ∃g,g=aq.log2:=⟨_,J⟩;have f:2^g<=aq:=(by rw[c];exact F2 I);have i:aq<2^(g+1):=(by rw[c];exact yQ);have j:2^(g+1)=2*2^g:=(by rw[jI];omega);unfold ky at h;dsimp only at h;rw[<-c]at h;rcases d:gh N len a b g with⟨x,k,l⟩;have m:=M6 d;rw[d]at h;dsimp only at h;split at h
 cases h;omega
 have e:=cD Prod.fst h;dsimp only at e;rw[<-e];split<;>split<;>omega
def Ym{N len symbols:Nat}: ∀{f:Nat} {out dh:List Int} {a a':Nat},nt N len symbols f out a=some (dh,a')-> ∃n,dh=out++aT n 0/\W dh<=symbols
 | f+1,out,dh,a,a',h=>by
  rcases b:gh N len a false 2 with⟨v,a1,b1⟩;rw[tW b]at h;split at h
  cases h
  rename_i d;split at h
  cases h;exact⟨v,J,I⟩
  obtain⟨n,c,e2⟩:=Ym h;exact⟨v+n,by rw[c,bV,F5],e2⟩
def Yn{N len symbols:Nat}: ∀{f left:Nat} {out dh:List Int} {a a':Nat},gz N len symbols f left out a=some (dh,a')->(∀p∈out,-1<=p)->W out<=symbols->wt dh=wt out+left/\(∀p∈dh,-1<=p)/\W dh<=symbols
 | f+1,left,out,dh,a,a',h,hp,i=>by
  by_cases b:left=0
  unfold gz at h;rw[ao b]at h;cases h;subst b;exact⟨J,hp,i⟩
  rcases d:ky N len a false (left+1)with⟨v,a1,b1⟩;rw[xR b d]at h;have hle:=afU I d;split at h
  cases h
  rename_i j
  have e: ∀p∈out++[(v:Int) -1],-1<=p:=by
   intro p hm;rcases oX.1 hm with hm|hm
   exact hp p hm
   simp at hm;subst hm;omega
  have hw:wt (out++[(v:Int) -1])+(if v=0 then left-1 else left- (v-1))=wt out+left:=(by rw[Cm];simp only[wt];split<;>split<;>omega);split at h
  cases c:nt N len symbols (symbols+1) (out++[(v:Int) -1]) a1 with
  |none=>rw[c]at h;cases h
  | some y=>
    rw[c]at h
    obtain⟨n,g,e2⟩:=Ym (dh:=y.1) (a':=y.2) c
    have:=Yn (show gz N len symbols f _ y.1 y.2=some (dh,a')from h) (by
      intro p hm;rw[g]at hm
      rcases oX.1 hm with hm|hm
      . exact e p hm
      . rw[Qh]at hm;omega) e2
    rw[g,Cm,Yl]at this
    exact⟨I,this.2⟩
  have:=Yn h e (by simp;omega);exact⟨I,this.2⟩
def afV: ∀{l:List Int} {i:Nat},aa l i 0<=wt l
 | [],i=>by simp[wt]
 |p::l,0=>by simp only[pS,wt];split<;>omega
 |p::l,i+1=>by simp only[qh,wt];have:= @afV l i;split<;>omega
def iy.of(a:5<=log/\log<=9)(b:W shares<=256)(hp: ∀p∈shares,-1<=p)(hw:wt shares=2^log):iy shares log:=by
 have c: ∀i,-1<=aa shares i 0:=by
  intro i;rcases dq i (W shares) with h|h
  have:aa shares i 0=shares[i]:=(by simp[h]);rw[this];exact hp _ (Ai h)
  have:aa shares i 0=0:=(by simp[h]);omega
 refine⟨a,b,c,λi=>?_,?_⟩
 have:= @afV shares i;rw[hw]at this;simpa using this
 rw[afT shares _ (aW _),BL,hw]
def Ez{len lJ:Nat}{out:List Int}{size:Nat}(h:fO N len lJ symbols=some (out,log,size))(hm:lJ<=9)(hs:symbols<=256):iy out log/\log<=lJ/\W out<=symbols:=by
 unfold fO at h;dsimp only at h;rcases c:gh N len 0 false 4 with⟨v,a,b⟩;rw[c]at h;dsimp only at h;split at h
 cases h
 rename_i d
 cases hp:gz N len symbols (symbols+1) (2^(v+5)) [] a with
 |none=>rw[hp]at h;cases h
 | some y=>
   rw[hp]at h;cases h
   have:=Yn (dh:=y.1) (a':=y.2) hp (by simp) (cj _)
   exact⟨iy.of I I this.2.1 (by rw[this.1];simp[wt]),I,this.2.2⟩
def wJ(kind:Nat):List Int:=
 if kind=0 then [4,3,2,2,2,2,2,2,2,2,2,2,2,1,1,1,2,2,2,2,2,2,2,2,2,3,2,1,1,1,1,1,-1,-1,-1,-1]
 else if kind=1 then [1,1,1,1,1,1,2,2,2,1,1,1,1,1,1,1,1,1,1,1,1,1,1,1,-1,-1,-1,-1,-1]
 else [1,4,3,2,2,2,2,2,2,1,1,1,1,1,1,1,1,1,1,1,1,1,1,1,1,1,1,1,1,1,1,1,1,1,1,1,1,1,1,1,1,1,1,1,1,1,-1,-1,-1,-1,-1,-1,-1]
def EA(kind:Nat):Nat:=if kind=1 then 5 else 6
def JJ(kind:Nat):iy (wJ kind) (EA kind):=by
 unfold wJ EA;by_cases a:kind=0
 rw[ao a,aj I];exact iy.of I an an an
 by_cases h1:kind=1
 rw[aj a,ao h1,ao h1];exact iy.of I an an an
 rw[aj a,aj h1,aj h1];exact iy.of I an an an
structure Tb where
 cells:List dx
 log:Nat
def jY(kind:Nat):Tb:=⟨dn (wJ kind) (EA kind),EA kind⟩
def qu(s:Nat):Tb:=⟨[⟨s,0,0⟩],0⟩
def byte(E:List UInt8)(i:Nat):Nat:=(aa E i 0).toNat
def ke(gD:Option Tb)(kind mode:Nat)(E:List UInt8):Option (Tb×Nat):=
 if mode=0 then some (jY kind,0)
 else if mode=1 then(if W E=0\/(cE kind).1<byte E 0 then none else some (qu (byte E 0),1))
 else if mode=2 then(fO (num E) (W E) (cE kind).2 ((cE kind).1+1)).map λx=>(⟨dn x.1 x.2.1,x.2.1⟩,x.2.2)
 else gD.map λt=>(t,0)
structure Tr where
 syms:List Nat
 bits:List Nat
 aq:Nat
def fy(N:Nat)(t:Tr)(left:Nat):Nat->Int×List UInt8
 |0=>(left,[])
 | i+1=>
   let x:=fy N t left i
   let k:=dE N x.1 t.aq
   (x.1-aa t.bits k 0,x.2++[bS (aa t.syms k 0)])
def Co(N:Nat)(t:Tr)(left:Nat): ∀i,W (fy N t left i).2=i
 |0=>rfl
 |i+1=>by simp[fy,Co N t left i]
def gE(E:List UInt8)(t:Tr)(many:Nat):Nat×List UInt8:=
 if W E=0 then(0,[])
 else match jg E with
   |none=>(2,[])
   |some left=>if(fy (num E) t left many).1≠0 then(0,[])else(1,(fy (num E) t left many).2)
def f_(E:List UInt8)(t:Tr)(many:Nat):Nat->Nat×List UInt8×Nat
 |0=>(1,[],6)
 | i+1=>
   let x:=f_ E t many i
   if x.1≠1 then x
   else
     let n:=if i=3 then many-3*((many+3)/4)else(many+3)/4
     let size:=if i=3 then W E-x.2.2 else num (ag E (2*i) 2)
     if W E-x.2.2<size then(2,[],0)
     else if n=0 then(0,[],0)
     else
       let y:=gE (ag E x.2.2 size) t n
       if y.1≠1 then(y.1,[],0)else(1,x.2.1++y.2,x.2.2+size)
def gZ(E:List UInt8)(t:Tr)(many:Nat)(four:Bool):Nat×List UInt8:=
 if four=false then gE E t many
 else if many<6 then(0,[])
 else if W E<6 then(2,[])
 else((f_ E t many 4).1,(f_ E t many 4).2.1)
def M'{E:List UInt8}{t:Tr}{many i:Nat}(h:(f_ E t many i).1≠1): ∀{j},i<=j->f_ E t many j=f_ E t many i
 | 0, b => by have:i=0:=I; subst this;rfl
 | j+1,b=>by
   rcases dq j i with a|a
   . have:i=j+1:=I
     subst this;rfl
   . have c:=M' h a
     rw[f_];dsimp only;rw[c,ao h]
def Yo(E:List UInt8)(t:Tr)(many:Nat):((gE E t many).1=0/\(gE E t many).2=[])\/((gE E t many).1=2/\(gE E t many).2=[])\/((gE E t many).1=1/\W (gE E t many).2=many):=by
 unfold gE;split
 exact .inl ⟨J,J⟩
 split
 exact .inr (.inl ⟨J,J⟩)
 split
 exact .inl ⟨J,J⟩
 exact .inr (.inr ⟨J,Co _ _ _ _⟩)
def GC{sb:Nat}(h:H r w F)(hm:(ah sb (shares.map i64++sp) T)∈F)(hs:iy shares log)(hc:W shares<=c):Calls PP 59 #[cK sb (W shares) c,af log] w λe w'=> ∃cb,e= .returned (.agg #[cK cb (2^log) (2^log),af log])/\H r w' ((ah cb (gC (dn shares log)) 126)::F):=by
 obtain⟨ix,Yp⟩:=dw hm;have X:=Yk hs.mJ.1;have Na:=wI hs.mJ.2;have JK:=hs.mJ;have hlen:=hs.len;have mh:=hs.JD;have Y:=λi (hi:i<=W shares)=> @Aw shares i (W shares) hi;have tY:=hs.sum;have Z:=hs.Rj;have Rp:=hs.wB;have jh:=M1 hs.mJ hs.wB;refine D9 (P:=PP) func59 128 ntmps59 4 124 [] J J (args:=[_,_]) J (bY (fD (eN h J ?_)));intro j w h;refine g_ 4 ?_;refine ak (gY (b:=log) J J dQ aG) ?_;refine g_ 5 ?_;refine uK h J J J I I I J ?_;intro bc w h;rw[arS]at h;refine dg (ak (At (aeL _ _ _ _) J J) (eN h J ?_));intro bt w h;refine cI ?_;intro w h;refine g_ 14 ?_;refine cw (σ:=Nat) [(7,9),(26,42)] (λi ρ w=>Kn ρ [(26,af i),(7,af (2^log-neg shares i))]/\H r w ((ah bt [cK bc (2^log) (2^log),af log] 124)::(ah bc (gC (top (2^log) log shares (aT (2^log) default) i)) 126)::(ah j [.slice none 0 0,af 0] 124)::F)/\(i<=W shares)) (λi=>W shares-i) (0) ⟨az,h,cj _⟩ ?_;rintro i ρ w ⟨⟨ny,rfl⟩,h,hi⟩;refine g_ 5 ?_;refine au J ?_ ?_<;>intro sT
 have a:neg shares (i+1)=neg shares i+(if aa shares i 0= -1 then 1 else 0):=rfl;have N:=Y (i+1) sT;refine g_ 6 ?_;refine ak (j8 J J (by first|rfl|assumption|exact tK J I|exact eU J I|exact eU (by assumption) I) I) ?_;refine aX h J (Rn I) ?_;refine g_ 6 ?_;refine ak (Mt J J) (aJ (au J ?_ ?_))<;>intro u
 rw[ao u]at a;refine g_ 12 ?_;refine ak (At (aqO _ _) J J) (ak (lu J J (by first|rfl|assumption|exact tK J I|exact eU J I|exact eU (by assumption) I) I) ?_);refine rW h J J J J (by rw[arN,zt];simp;omega) J ?_;intro w h;dsimp only[bJ]at h
 rw[show dm (gC (top (2^log) log shares (aT (2^log) default) i)) ((2^log-neg shares i-1)*3) [af i,af log,af 0]=gC (top (2^log) log shares (aT (2^log) default) (i+1))from by
   have e:=a
   have e2:top (2^log) log shares (aT (2^log) default) (i+1)=(top (2^log) log shares (aT (2^log) default) i).set (2^log-neg shares i-1) ⟨i,log,0⟩:=by
     rw[top,ao u,e,show 2^log- (neg shares i+1)=2^log-neg shares i-1 from by omega]
   rw[e2]
   exact Ro i log 0 (by rw[zt];simp;omega)]at h
 refine g_ 5 ?_;refine⟨aS,?_⟩
 first
   |exact⟨i+1,I,Kn.mk ⟨J,ie (by rw[a];omega),trivial⟩,h,I⟩
   | (have e2:top (2^log) log shares (aT (2^log) default) (i+1)=top (2^log) log shares (aT (2^log) default) i:=by
        rw[top,aj u]
      refine⟨i+1,I,Kn.mk ⟨J,ie (by rw[a];rfl),trivial⟩,?_,I⟩
      rw[e2];exact h)
 rw[aj u]at a;refine g_ 5 ?_;refine⟨aS,?_⟩
 first
   |exact⟨i+1,I,Kn.mk ⟨J,ie (by rw[a];omega),trivial⟩,h,I⟩
   | (have e2:top (2^log) log shares (aT (2^log) default) (i+1)=top (2^log) log shares (aT (2^log) default) i:=by
        rw[top,aj u]
      refine⟨i+1,I,Kn.mk ⟨J,ie (by rw[a];rfl),trivial⟩,?_,I⟩
      rw[e2];exact h)
 obtain rfl:i=W shares:=I;refine g_ 13 ?_;refine cw (σ:=Nat×Nat) [(10,12),(45,73)] (λ⟨i,k⟩ ρ w=>Kn ρ [(45,af i),(10,af (pos (2^log) k))]/\H r w ((ah bt [cK bc (2^log) (2^log),af log] 124)::(ah bc (gC (lG (2^log) (high shares log) (fE shares (W shares)) (top (2^log) log shares (aT (2^log) default) (W shares)) k)) 126)::(ah j [.slice none 0 0,af 0] 124)::F)/\(i<=W shares)/\(jB (2^log) (high shares log) k=W (fE shares i))/\(k<=(2^log))/\(0<(high shares log)->pos (2^log) k<(high shares log))) (λ⟨i,k⟩=>W shares-i) (0,0) ⟨(Kn.mk ⟨J,ie (MZ _).symm,trivial⟩),h,cj _,J,cj _,(by intro h0;rw[MZ];exact h0)⟩ ?_;rintro⟨i,k⟩ ρ w ⟨⟨mn,rfl⟩,h,hi,m,A,d⟩;refine g_ 5 ?_;refine au J ?_ ?_<;>intro JL
 have O:i<W shares:=JL;refine g_ 6 ?_;refine ak (j8 J J (by first|rfl|assumption|exact tK J I|exact eU J I|exact eU (by assumption) I) I) ?_;refine aX h J (Rn I) ?_;refine g_ 9 ?_;refine cw (σ:=Nat×Nat) [(10,10),(51,72)] (λ⟨t,k⟩ ρ w=>Kn ρ [(51,af t),(10,af (pos (2^log) k))]/\H r w ((ah bt [cK bc (2^log) (2^log),af log] 124)::(ah bc (gC (lG (2^log) (high shares log) (fE shares (W shares)) (top (2^log) log shares (aT (2^log) default) (W shares)) k)) 126)::(ah j [.slice none 0 0,af 0] 124)::F)/\(jB (2^log) (high shares log) k=W (fE shares i)+t)/\(t<=(aa shares i 0).toNat)/\(k<=(2^log))/\(0<(high shares log)->pos (2^log) k<(high shares log))) (λ⟨t,k⟩=>(aa shares i 0).toNat-t) (0,k) ⟨az,h,m,cj _,A,d⟩ ?_;rintro⟨t,k⟩ ρ w ⟨⟨nz,rfl⟩,h,m,ht,A,d⟩;refine bY (fD (ak (rR J J) (aJ (bY (au J ?_ ?_)))))<;>intro arV
 have mM:=Yc shares (show i+1<=W shares from O);have arW:W (fE shares i)+(aa shares i 0).toNat<=W (fE shares (W shares)):=(by obtain⟨l,hl⟩:=mM;rw[hl,fE];simp);have Q:0<high shares log:=I;have d:=d Q
 have G:k<(2^log):=by
  rcases dq k (2^log)with o|o
  exact o
  have:= @M0 (2^log) (high shares log) _ _ o;omega
 have fi:jB (2^log) (high shares log) (k+1)=W (fE shares i)+t+1:=(by rw[jB,ao d,m]);have R:pos (2^log) k<W (lG (2^log) (high shares log) (fE shares (W shares)) (top (2^log) log shares (aT (2^log) default) (W shares)) k):=(by rw[M3,zt];simp;exact wz I);refine g_ 9 ?_;refine ak (lu J J J (wz I)) (qm J (dt (af i) (Ey R J) ?_));intro w h
 rw[show(gC (lG (2^log) (high shares log) (fE shares (W shares)) (top (2^log) log shares (aT (2^log) default) (W shares)) k)).set (pos (2^log) k*3+0) (af i)=gC (lG (2^log) (high shares log) (fE shares (W shares)) (top (2^log) log shares (aT (2^log) default) (W shares)) (k+1))from by
   rw[arO i R J,lG,ao d,m,bX (l:=fE shares (W shares)),afJ O I];rfl]at h
 refine aJ (Al (cw (σ:=Nat) [(10,10),(59,71)] (λq ρ w=>Kn ρ [(10,af (pos (2^log) q))]/\H r w ((ah bt [cK bc (2^log) (2^log),af log] 124)::(ah bc (gC (lG (2^log) (high shares log) (fE shares (W shares)) (top (2^log) log shares (aT (2^log) default) (W shares)) (q+1))) 126)::(ah j [.slice none 0 0,af 0] 124)::F)/\(q<(2^log))/\(jB (2^log) (high shares log) (q+1)=W (fE shares i)+t+1)) (λq=>(2^log) -q) (k) ⟨az,h,G,fi⟩ ?_));rintro q ρ w ⟨⟨r_,rfl⟩,h,hq,Yr⟩;have hpq:= @wz (2^log) q I;refine g_ 5 ?_;refine ak (nS (b:=2) (h2:=av.lit _) J J I k_) ?_;refine g_ 2 ?_;refine ak (nS (b:=8) (h2:=av.lit _) J J I k_) ?_;refine g_ 3 ?_;refine ak (BR J J I) ?_;refine g_ 8 ?_;refine au J ?_ ?_<;>intro S
 refine g_ 5 ?_;exact⟨aS,(t+1,q+1),cQ,Kn.mk ⟨J,ie (MY _ _).symm,trivial⟩,h,I,I,I,(λ_=>by rw[MY];exact S)⟩
 refine a8 (⟨aS,?_⟩);have K: ¬pos (2^log) (q+1)<high shares log:=(by rw[MY];exact S)
 have ji:q+1<2^log:=by
  rcases dq (q+1) (2^log)with o|o
  exact o
  exfalso;apply K;rw[show q+1=2^log from by omega,Ya];exact Q
 exact⟨q+1,I,Kn.mk ⟨ie (MY _ _).symm,trivial⟩,(by rw[lG,aj K];exact h),ji,(by rw[jB,aj K];exact Yr)⟩
 refine g_ 5 ?_;refine⟨aS,?_⟩;have Cp:t=(aa shares i 0).toNat:=I;exact⟨(i+1,k),cQ,az,h,I,(by rw[fE,aF,dS,m,Cp]),A,d⟩
 obtain rfl:i=W shares:=I;have G:jB (2^log) (high shares log) k=jB (2^log) (high shares log) (2^log):=(by rw[jh,m,Z]);rw[<-Ye A G]at h;refine g_ 4 ?_;replace h:=h.ghost (C ([]++[]) 3);refine me (ob:=none) [] [] (shares.map i64) h 0 J J J b8.nil (Src.slice (q2:=0) (Has.at_ (b:=sb)) (Rd.left _ _) (by simp)) (by intro x hx;obtain⟨y,_,rfl⟩:=jS.1 hx;rfl) I an J ?_;intro w U c9 B h dC gl fk;dsimp only[bJ]at h
 obtain⟨p,rfl⟩: ∃p,U=some p:=by
  cases U with
  |none=>have:=fk J;omega
  |some p=>exact⟨p,J⟩
 rw[List.nil_append]at h;replace h:=h.zz [2,2] 0;refine g_ 9 ?_;refine cw (σ:=Nat) [(14,16),(77,126)] (λi ρ w=>Kn ρ [(77,af i)]/\H r w ((ah bt [cK bc (2^log) (2^log),af log] 124)::(ah bc (gC (fin log shares (spread shares log) i).2) 126)::(ah p (ar i64 ((fin log shares (spread shares log) i).1)++B) 3)::(ah j [.slice none 0 0,af 0] 124)::F)/\(i<=(high shares log))) (λi=>(high shares log) -i) (0) ⟨az,h,cj _⟩ ?_;rintro i ρ w ⟨⟨sV,rfl⟩,h,hi⟩;refine g_ 5 ?_;refine au J ?_ ?_<;>intro Rq
 refine(JE hs Rq).elim λs fe=>?_;obtain⟨fP,jC,EC⟩:=fe;have v:i<W (fin log shares (spread shares log) i).2:=(by rw[(Ax _ _ _ _).2,M5];omega);have z:aa (fin log shares (spread shares log) i).2 i default=⟨s,0,0⟩:=(by rw[Ay (aW _),fP]);have D:s<W (fin log shares (spread shares log) i).1:=(by rw[(Ax _ _ _ _).1];exact jC);have oF:= @Yf log shares (spread shares log) s i;have aIz:=hs.hi s;refine(Int.eq_ofNat_of_zero_le (I:0<=aa (fin log shares (spread shares log) i).1 s 0)).elim λn E=>?_;have N:1<=n:=I;have h2l:((2:Int)^log)=((2^log:Nat):Int):=(by simp);have gy:n<=1024:=I;have L:(fin log shares (spread shares log) (i+1)).1=(fin log shares (spread shares log) i).1.set s ((n:Int)+1):=(by rw[fin];simp only;rw[z];simp only;rw[E]);have M:(fin log shares (spread shares log) (i+1)).2=(fin log shares (spread shares log) i).2.set i ⟨s,iJ log n,n*2^iJ log n-2^log⟩:=(by rw[fin];simp only;rw[z];simp only;rw[E];rfl);refine g_ 13 ?_;refine ak (lu J J (by first|rfl|assumption|exact tK J I|exact eU J I|exact eU (by assumption) I) I) ?_;refine g_ 8 ?_;refine aX h J (Ey v z) ?_;refine g_ 1 ?_;refine aX h J (afS D E) ?_;refine g_ 8 ?_;refine aX h J (Ey v z) ?_;refine g_ 1 ?_;refine aX h J (afS D E) ?_;refine g_ 2 ?_;refine dt (af (n+1)) (Rn D) ?_;intro w h
 rw[show(ar i64 (fin log shares (spread shares log) i).1++B).set s (af (n+1))=ar i64 (fin log shares (spread shares log) (i+1)).1++B from by
   rw[arM _ D,L];rfl]at h
 refine g_ 3 ?_;refine cw (σ:=Nat) [(100,114)] (λb ρ w=>Kn ρ []/\H r w ((ah bt [cK bc (2^log) (2^log),af log] 124)::(ah bc (gC ((fin log shares (spread shares log) i).2.set i ⟨s,b,0⟩)) 126)::(ah p (ar i64 ((fin log shares (spread shares log) (i+1)).1)++B) 3)::(ah j [.slice none 0 0,af 0] 124)::F)/\(b<=iJ log n)) (λb=>iJ log n-b) (0) ⟨az,(by rw[List.arR v z];exact h),cj _⟩ ?_;rintro b ρ w ⟨⟨wK,rfl⟩,h,hb⟩;have f:i<W ((fin log shares (spread shares log) i).2.set i (⟨s,b,0⟩:dx)):=(by rw[dW];exact v);have g:aa ((fin log shares (spread shares log) i).2.set i (⟨s,b,0⟩:dx)) i default=⟨s,b,0⟩:=(by rw[e_,ao ⟨J,v⟩]);have wL:iJ log n<=9:=(by unfold iJ;omega);have ED:=wI (aM hb wL);have Nd:=tG gy ED;refine g_ 7 ?_;refine aX h J (JI f g) (ak (eB J J dQ aG) ?_);refine g_ 3 ?_;refine au J ?_ ?_<;>intro V
 refine g_ 6 ?_;refine aX h J (JI f g) ?_;refine g_ 3 ?_;refine dt (af (b+1)) (JI f g) ?_;intro w h;rw[arP (b+1) f g,Mi]at h;refine aJ (⟨aS,?_⟩);have jL:=arT N V;exact⟨b+1,I,az,h,jL⟩
 refine g_ 7 ?_;refine aX h J (JI f g) (ak (eB J J dQ aG) ?_);refine g_ 4 ?_;refine dt (af (n*2^b-2^log)) (Yj f g) ?_;intro w h;rw[arQ (n*2^b-2^log) f g,Mi]at h;refine g_ 5 ?_;refine⟨aS,?_⟩;have fW:b=iJ log n:=arU V hb;rw[show(fin log shares (spread shares log) i).2.set i ⟨s,b,n*2^b-2^log⟩=(fin log shares (spread shares log) (i+1)).2 from by rw[M,fW]]at h;exact⟨i+1,I,az,h,I⟩
 obtain rfl:i=(high shares log):=I;refine g_ 3 ?_;refine ak (jx [_,_] h J ⟨J,J,trivial⟩ J) (cI ?_);intro w h;refine aJ (ju (⟨_,rX [_,_] h J ⟨J,J,trivial⟩ J,?_⟩));exact⟨bc,J,((h.mv 3).tail.mv 2).tail.tail⟩
section
variable {P:Program}{E:TypeId}{ρ:Env}{T T' ty:TypeId}{w:World}{x y:Operand}{p:Option Addr}
def arZ [hu:cu P T (.pointer E)](a:aL ρ x= .pointer p)(b:aL ρ y= .pointer none):run P ρ (.binOp .neq T x y T') ty w= .ok (.value (.bool p.isSome)) w:=by
 have h:=run_neq_pointer_nil (P:=P) w T p (by have:=hu.eq;simp[Program.pointee,this]);have e:(!p.isNone)=p.isSome:=(by cases p<;>rfl);rw[e]at h;simp only[run,execOp,a,b];simp[eqGuard,h]
def Ys [hu:cu P T (.pointer E)](a:aL ρ x= .pointer p)(b:aL ρ y= .pointer none):run P ρ (.binOp .eql T x y T') ty w= .ok (.value (.bool p.isNone)) w:=by
 have h:=run_eql_pointer_nil (P:=P) w T p (by have:=hu.eq;simp[Program.pointee,this]);simp only[run,execOp,a,b];simp[eqGuard,h]
end
variable {F':List aK}{p:Value}
def Sub(F F':List aK):Prop:= ∀e,e∈F->e∈F'
def Sub.refl(F:List aK):Sub F F:=λ_ h=>h
def Sub.trans{a:List aK}(h:Sub F F')(b:Sub F' a):Sub F a:=λe m=>b e (h e m)
def Sub.left(G F:List aK):Sub G (G++F):=λ_ h=>oA _ h
def Sub.right(G F:List aK):Sub F (G++F):=λ_ h=>fM _ h
def H.grow{G:List aK}{e:aK}(h:H r w (G++e::F)):H r w (e::(G++F)):=h.perm tF
def Sub.cons(e:aK)(F:List aK):Sub F (e::F):=λ_ h=>aA h
def Sub.Yt(e a:aK)(F:List aK):Sub F (e::a::F):=λ_ h=>aA (aA h)
def mN(F:List aK)(p:Value)(t:Tb):Prop:= ∃tb cb,p= .pointer (some ⟨tb,0,none⟩)/\(some tb,C [.slice (some ⟨cb,0,none⟩) (W t.cells) (W t.cells),af t.log] 124)∈F/\(some cb,C (gC t.cells) 126)∈F
def mN.sub{t:Tb}(h:mN F p t)(hs:Sub F F'):mN F' p t:=by
 obtain⟨tb,cb,h1,h2,a⟩:=h;exact⟨tb,cb,h1,hs _ h2,hs _ a⟩
def tZ(F:List aK)(p:Value):Option Tb->Prop
 |none=>p= .pointer none
 |some t=>mN F p t
def tZ.sub{o:Option Tb}(h:tZ F p o)(hs:Sub F F'):tZ F' p o:=by
 cases o with
 |none=>exact h
 |some t=>exact mN.sub h hs
def Yu{e a:aK}(h:e=a):a∈e::F:=by rw[h];exact fQ ..
def ar0(b:Nat):((ah b [af 4,af 3,af 2,af 2,af 2,af 2,af 2,af 2,af 2,af 2,af 2,af 2,af 2,af 1,af 1,af 1,af 2,af 2,af 2,af 2,af 2,af 2,af 2,af 2,af 2,af 3,af 2,af 1,af 1,af 1,af 1,af 1,.int .i64 (-1),.int .i64 (-1),.int .i64 (-1),.int .i64 (-1)] 3):aK)=(ah b ((wJ 0).map i64++[]) 3):=by kernel_rfl
def ar3(b:Nat):((ah b [af 1,af 1,af 1,af 1,af 1,af 1,af 2,af 2,af 2,af 1,af 1,af 1,af 1,af 1,af 1,af 1,af 1,af 1,af 1,af 1,af 1,af 1,af 1,af 1,.int .i64 (-1),.int .i64 (-1),.int .i64 (-1),.int .i64 (-1),.int .i64 (-1)] 3):aK)=(ah b ((wJ 1).map i64++[]) 3):=by kernel_rfl
def ar4(b:Nat):((ah b [af 1,af 4,af 3,af 2,af 2,af 2,af 2,af 2,af 2,af 1,af 1,af 1,af 1,af 1,af 1,af 1,af 1,af 1,af 1,af 1,af 1,af 1,af 1,af 1,af 1,af 1,af 1,af 1,af 1,af 1,af 1,af 1,af 1,af 1,af 1,af 1,af 1,af 1,af 1,af 1,af 1,af 1,af 1,af 1,af 1,af 1,.int .i64 (-1),.int .i64 (-1),.int .i64 (-1),.int .i64 (-1),.int .i64 (-1),.int .i64 (-1),.int .i64 (-1)] 3):aK)=(ah b ((wJ 2).map i64++[]) 3):=by kernel_rfl
def Yv{p:Prop}(h:p:=by rintro e w1 ⟨cb,rfl,h⟩;refine eN h J ?_;intro bt w h;refine cI ?_;intro w h;refine g_ 6 ?_;refine⟨bt,cb,J,?_⟩;unfold jY;rw[xQ];exact(h.mv 2).tail):p:=h
def Yw(h:H r w F)(g:kind<=2):Calls PP 57 #[af kind] w λe w'=> ∃tb cb,e= .returned (bL tb)/\H r w' ((ah tb [cK cb (W (jY kind).cells) (W (jY kind).cells),af (jY kind).log] 124)::(ah cb (gC (jY kind).cells) 126)::F):=by
 refine iu func57 ntmps57 [2] ?_;refine g_ 23 ?_;refine au J ?_ ?_<;>intro c
 obtain rfl:kind=0:=c;refine fD (uJ (v:=λb=>cK b 36 36) (λw=>B7 (u:=λb=>cK b 36 36) (λw=>aq8 (4) (3) (2) (2) (2) (2) (2) (2) (2) (2) (2) (2) (2) (1) (1) (1) (2) (2) (2) (2) (2) (2) (2) (2) (2) (3) (2) (1) (1) (1) (1) (1) (-1) (-1) (-1) (-1) w) J) h J ?_);intro a w h;refine g_ 6 ?_;refine cJ J J J (aH (GC (sb:=a) (shares:=wJ 0) (sp:=[]) (log:=EA 0) h (Yu (ar0 _)) (JJ 0) an) ?_);exact Yv
 refine g_ 5 ?_;refine au J ?_ ?_<;>intro d
 obtain rfl:kind=1:=d;refine bY (fD (uJ (v:=λb=>cK b 29 29) (λw=>B7 (u:=λb=>cK b 29 29) (λw=>aq7 (1) (1) (1) (1) (1) (1) (2) (2) (2) (1) (1) (1) (1) (1) (1) (1) (1) (1) (1) (1) (1) (1) (1) (1) (-1) (-1) (-1) (-1) (-1) w) J) h J ?_));intro a w h;refine g_ 9 ?_;refine cJ J J J (aH (GC (sb:=a) (shares:=wJ 1) (sp:=[]) (log:=EA 1) h (Yu (ar3 _)) (JJ 1) an) ?_);exact Yv
 refine g_ 5 ?_;refine au J ?_ ?_<;>intro f
 obtain rfl:kind=2:=f;refine fD (uJ (v:=λb=>cK b 53 53) (λw=>B7 (u:=λb=>cK b 53 53) (λw=>aq9 (1) (4) (3) (2) (2) (2) (2) (2) (2) (1) (1) (1) (1) (1) (1) (1) (1) (1) (1) (1) (1) (1) (1) (1) (1) (1) (1) (1) (1) (1) (1) (1) (1) (1) (1) (1) (1) (1) (1) (1) (1) (1) (1) (1) (1) (1) (-1) (-1) (-1) (-1) (-1) (-1) (-1) w) J) h J ?_);intro a w h;refine g_ 6 ?_;refine cJ J J J (aH (GC (sb:=a) (shares:=wJ 2) (sp:=[]) (log:=EA 2) h (Yu (ar4 _)) (JJ 2) an) ?_);exact Yv
 exfalso;omega
def afW{D:List UInt8}{len:Nat}{lJ:Nat}(h:H r w F)(hm:(ah db (D.map u8) T)∈F)(c:0<len->ad=some ⟨db,q,none⟩)(d:q+len<=W D)(hlen:len<=281474976710656)(f:lJ<=9)(g:symbols<=256):Calls PP 63 #[.slice ad len cap,.int .i64 (lJ:Int),.int .i64 (symbols:Int)] w λe w'=> ∃ok out lg size ob a sp,e= .returned (.tuple #[.slice (aI ob) (W out) a,af lg,af size,.bool ok])/\fO (num (ag D q len)) len lJ symbols=(if ok=true then some (out,lg,size)else none)/\b8 ob (W out) a (out.map i64) sp 1/\H r w' ((ob,C (out.map i64++sp) 3)::F):=by
 refine(arJ h hm c d hlen f g).mono ?_;rintro e k ⟨h1,h2⟩
 cases b:fO (num (ag D q len)) len lJ symbols with
 | none=>
   obtain⟨rfl,h⟩:=h1 b
   exact⟨false,[],0,0,none,0,[],J,J,b8.nil,h.ghost _⟩
 | some x=>
   obtain⟨out,lg,size⟩:=x
   obtain⟨ob,a,sp,rfl,i,j⟩:=h2 _ _ _ b
   exact⟨true,out,lg,size,ob,a,sp,J,J,i,j⟩
def Yx{D:List UInt8}{len:Nat}(h:H r w F)(hm:(ah db (D.map u8) T)∈F)(d:0<len->ad=some ⟨db,q,none⟩)(f:q+len<=W D)(hlen:len<=140737488355328):Calls PP 64 #[.slice ad len cap] w λe w'=> ∃ok a left,e= .returned (.tuple #[.pointer (aI a),.bool ok])/\jg (ag D q len)=(if ok=true then some left else none)/\(ok=true-> ∃b,a=some b)/\(ok=false->a=none)/\H r w' ((a,C [.slice ad len cap,af left] 155)::F):=by
 refine(arD h hm d f hlen).mono ?_;rintro e i ⟨h1,h2⟩
 cases c:jg (ag D q len)with
 | none=>
   obtain⟨rfl,h⟩:=h1 c
   exact⟨false,none,0,J,J,(by intro e;cases e),λ_=>rfl,h.ghost _⟩
 | some x=>
   obtain⟨b,rfl,g⟩:=h2 _ c
   exact⟨true,some b,x,J,J,λ_=>⟨b,J⟩,(by intro e;cases e),g⟩
def ar5{D:List UInt8}{len:Nat}{L:List aK}{sb:Nat}{x0 d f g p0 p1 p2:Value}{mode:Nat}{gD:Option Tb}(h:H r w ((ah sb [x0,d,f,g,p0,p1,p2,af a,af b,af c] 101)::L))(x:Sub F L)(hm:(ah db (D.map u8) T)∈F)(o:0<len->ad=some ⟨db,q,none⟩)(y:q+len<=W D)(hlen:len<=281474976710656)(z:kind<=2)(U:mode<=3)(hold:tZ F ([p0,p1,p2].getD kind undef) gD):Calls PP 46 #[bL sb,af kind,af mode,.slice ad len cap] w λe w'=> ∃ok t size G A,e= .returned (.tuple #[af size,.bool ok])/\ke gD kind mode (ag D q len)=(if ok=true then some (t,size)else none)/\(ok=true->mN (G++F) A t)/\H r w' ((ah sb ([x0,d,f,g,p0,p1,p2,af a,af b,af c].set (4+kind) A) 101)::(G++L)):=by
 obtain⟨V,X⟩:=dw (x _ hm);have B:=dK y;have p:0<len->byte (ag D q len) 0=(aa D (q+0) 0).toNat:=(by intro M;rw[byte,lD M]);have C:(cE kind).1<=52/\(cE kind).2<=9/\5<=(cE kind).2:=(by unfold cE;split<;>(try split)<;>decide);have i:([x0,d,f,g,p0,p1,p2,af a,af b,af c]:List Value)[4+kind]? =some ([p0,p1,p2].getD kind undef):=(by rcases(I:kind=0\/kind=1\/kind=2)with rfl|rfl|rfl<;>simp);have j:([x0,d,f,g,p0,p1,p2,af a,af b,af c]:List Value).set (4+kind) ([p0,p1,p2].getD kind undef)=[x0,d,f,g,p0,p1,p2,af a,af b,af c]:=wH i;refine xJ func46 ntmps46 [8,9] ?_;refine g_ 8 ?_;refine d' J J (aH (Q' z) ?_);rintro e m ⟨rfl,rfl⟩;refine g_ 17 ?_;refine au J ?_ ?_<;>intro N
 obtain rfl:mode=0:=N;refine bY (cm h [0,4,8,16,20,15,24,31] ?_);intro w h;refine aC 5 ?_;refine qU J J J (aH (Yw h z) ?_);rintro e m ⟨tb,cb,rfl,h⟩;refine aC 1 ?_;refine dt (.pointer _) i ?_;intro w h;refine cO ?_;refine g_ 6 ?_;exact⟨true,jY kind,0,[(ah tb [cK cb (W (jY kind).cells) (W (jY kind).cells),af (jY kind).log] 124),(ah cb (gC (jY kind).cells) 126)],_,J,(by unfold ke;rw[ao J];rfl),λ_=>⟨tb,cb,J,fQ ..,aA bZ⟩,h.mv 2⟩
 refine g_ 5 ?_;refine au J ?_ ?_<;>intro O
 obtain rfl:mode=1:=O;refine g_ 7 ?_;refine eM (t:=38) J (λs=>?_) (λs=>?_)
 refine g_ 8 ?_;refine jv J ?_;refine g_ 6 ?_;exact⟨false,qu 0,0,[],_,J,(by unfold ke;rw[aj I,ao J,ao (a_ I)];rfl),(by intro e;cases e),(by rw[j];exact h)⟩
 refine g_ 1 ?_;refine dI J J J (da (a:=0) (h1:=av.lit _) J J (o I) I) J (dI J J J (run_load h J (gX I)) J ?_);refine g_ 5 ?_;refine au J ?_ ?_<;>intro P
 refine g_ 6 ?_;exact⟨false,qu 0,0,[],_,J,(by unfold ke;rw[aj I,ao J,ao (bG (by rw[p I];exact P))];rfl),(by intro e;cases e),(by rw[j];exact h)⟩
 refine g_ 4 ?_;refine ak (da (a:=0) (h1:=av.lit _) J J (o I) I) (aX h J (gX I) ?_);refine g_ 1 ?_;refine d' J J (aH (afO (sym:=(aa D (q+0) 0).toNat) h) ?_);rintro e m ⟨cb,rfl,h⟩;refine eN h J ?_;intro bt w h;refine cI ?_;intro w h;refine g_ 8 ?_;refine dt (.pointer _) i ?_;intro w h;refine g_ 7 ?_;exact⟨true,qu (aa D (q+0) 0).toNat,1,[(ah bt [cK cb 1 1,af 0] 124),(ah cb (gC [⟨(aa D (q+0) 0).toNat,0,0⟩]) 126)],_,J,(by unfold ke;rw[aj I,ao J,aj (by rw[p I];intro u;rcases u with u|u<;>omega),p I];rfl),λ_=>⟨bt,cb,J,fQ ..,aA bZ⟩,h.mv 2⟩
 refine g_ 5 ?_;refine au J ?_ ?_<;>intro Q
 obtain rfl:mode=2:=Q;refine g_ 6 ?_;refine eS J J J J (aH (afW (lJ:=(cE kind).2) (symbols:=(cE kind).1+1) h (aA (x _ hm)) o y hlen C.2.1 I) ?_);rintro e m ⟨ok,out,lg,size,ob,Y,sp,rfl,n,v,h⟩;refine g_ 14 ?_;refine ak (k8 J) (aJ (eY J ?_ ?_))<;>intro E
 (have R:ok=false:=by cases ok<;>first|rfl| (exfalso;revert E;decide));refine g_ 6 ?_;subst R;exact⟨false,qu 0,0,[],_,J,(by unfold ke;rw[aj I,aj I,ao J,B,n];rfl),(by intro e;cases e),(by rw[j];exact h.tail)⟩
 (obtain rfl:ok=true:=by cases ok<;>first|rfl| (exfalso;revert E;decide));rw[ao J]at n;have K:=Ez n C.2.1 I
 obtain⟨k,rfl⟩: ∃k,ob=some k:=by
  cases ob with
  |none=>have:=v.2.2.2 J;have:=K.1.JD;have:=v.2.2.1;omega
  |some k=>exact⟨k,J⟩
 refine g_ 5 ?_;refine cJ J J J (aH (GC (sb:=k) (shares:=out) (sp:=sp) (log:=lg) h bZ K.1 v.2.2.1) ?_);rintro e m ⟨cb,rfl,h⟩;refine eN h J ?_;intro bt w h;refine cI ?_;intro w h;refine g_ 8 ?_;refine dt (.pointer _) i ?_;intro w h;refine g_ 8 ?_;exact⟨true,⟨dn out lg,lg⟩,size,[(ah bt [cK cb (2^lg) (2^lg),af lg] 124),(ah cb (gC (dn out lg)) 126)],_,J,(by unfold ke;rw[aj I,aj I,ao J,B,n];rfl),λ_=>⟨bt,cb,J,(by rw[xQ];exact fQ ..),aA bZ⟩,(h.mv 2).tail.mv 2⟩
 obtain rfl:mode=3:=I
 obtain⟨pp,S,l⟩: ∃pp:Option Addr,[p0,p1,p2].getD kind undef= .pointer pp/\pp.isSome=gD.isSome:=by
  cases gD with
  |none=>exact⟨none,hold,J⟩
  |some t=>obtain⟨tb,cb,e,_⟩:=hold;exact⟨_,e,J⟩
 refine a8 (bY (cm h [0,4,8,12,16,28,21,24,32] ?_));intro w h;refine aC 5 ?_;refine aD J (As 0 J (av.lit _).eq) (aQ J h J (i.trans (cD some S)) (aD J (arZ J J) (fG J (cO (ju ?_)))))
 cases gD with
 |none=>exact⟨false,qu 0,0,[],_,by rw[l];rfl,(by unfold ke;rw[aj I,aj I,aj I];rfl),(by intro e;cases e),(by rw[j];exact h)⟩
 |some t=>exact⟨true,t,0,[],_,by rw[l];rfl,(by unfold ke;rw[aj I,aj I,aj I];rfl),λ_=>hold,(by rw[j];exact h)⟩
end Go.Z
