/- Part 3 of the proof. -/
import Derived.KernelRfl
import Derived.Test.YtmgkiicjpmihfaaGreatDoorQB
set_option linter.all false
set_option maxRecDepth 20000
set_option maxHeartbeats 400000000
namespace Go.Z
open Go Go.Proofs
end Go.Z
namespace Go.Z
variable {i n q:Nat}
def num:List UInt8->Nat
 | []=>0
 |x::l=>x.toNat+256*num l
theorem Wk: ∀(l:List UInt8),num l<2^(8*l.length)
 | []=>by simp[num]
 |x::l=>by have h:=Wk l;have hx:=x.toNat_lt;simp only[num,ek,KT,eC,ks];omega
theorem adY: ∀(l:List UInt8) (k:Nat),(l.getD k 0).toNat=num l/256^k % 256
 | [],k=>by simp[num]
 |x::l,0=>by have hx:=x.toNat_lt;simp[num]
 |x::l,k+1=>by have hx:=x.toNat_lt;have ih:=adY l k;simp only[y',ih,num,jT];have:(x.toNat+256*num l)/ (256^k*256)=num l/256^k:=(by rw[iu (256^k) 256,<-sk];congr 1;omega);rw[this]
theorem Wl(k:Nat):(256:Nat)^k=2^(8*k):=by rw[KU]
theorem adZ(l:List UInt8)(p:Nat):(l.getD (p/8) 0).toNat/2^(p % 8) % 2=num l/2^p % 2:=by
 rw[adY,Wl];have hp:p=8*(p/8)+p % 8:=I;have h8:p % 8<8:=dH _ I;(conv=>rhs;rw[hp,ks,<-sk]);generalize num l/2^(8*(p/8))=m;have h2:(256:Nat)=2^(p % 8)*2^(8-p % 8):=(by rw[<-ks,show p % 8+(8-p % 8)=8 by omega]);rw[h2,OQ];have h3:2^(8-p % 8)=2*2^(7-p % 8):=(by rw[<-EZ];congr 1;omega);rw[h3];exact Nat.mod_mul_right_mod _ _ _
theorem ad5(a:Nat):a&&&1=a % 2:=Nat.and_one_is_mod a
theorem ad6(m i:Nat):m % 2^(i+1)=m % 2^i+m/2^i % 2*2^i:=by
 rw[jT,OR,iu (2^i)]
theorem oJ{v b:Nat}(hv:v<2^i):v|||b*2^i=v+b*2^i:=by
 rw[OS,<-Nat.shiftLeft_eq,<-Nat.shiftLeft_add_eq_or_of_lt hv,Ay]
def dt(N p n:Nat):Nat:=N/2^p % 2^n
theorem ad7(N p:Nat):dt N p 0=0:=by simp[dt,Nat.mod_one]
theorem Ff(N p n:Nat):dt N p n<2^n:=dH _ (ep n)
theorem ad8(N p i:Nat):dt N p (i+1)=dt N p i+N/2^(p+i) % 2*2^i:=by
 unfold dt;rw[ad6,sk,<-ks]
theorem apI(N p i:Nat):dt N p (i+1)=2*dt N (p+1) i+N/2^p % 2:=by
 unfold dt;have e:N/2^(p+1)=N/2^p/2:=(by rw[jT,sk]);rw[e];generalize N/2^p=m;rw[jT,iu (2^i) 2,OR];omega
def dS(N:Nat)(left:Int):Nat->Nat
 |0=>0
 |n+1=>2*dS N left n+(if 0<=left-n-1 then N/2^(left-n-1).toNat % 2 else 0)
theorem u6(N:Nat)(left:Int): ∀n,dS N left n<2^n
 |0=>by simp[dS]
 |n+1=>by have:=u6 N left n;simp only[dS,jT];split<;>omega
theorem Da(N:Nat): ∀(n l:Nat),n<=l->dS N (l:Int) n=dt N (l-n) n
 |0,l,_=>by simp[dS,ad7]
 |n+1,l,h=>by have e:((l:Int) -n-1).toNat=l- (n+1):=I;rw[dS,Da N n l I,ai I,e,apI];congr 3;omega
def aa(D:List UInt8)(q n:Nat):List UInt8:=(D.drop q).take n
theorem dx{D:List UInt8}(h:q+n<=D.length):(aa D q n).length=n:=by simp[aa];omega
theorem kN{D:List UInt8}(h:i<n):(aa D q n).getD i 0=D.getD (q+i) 0:=by
 simp only[aa,bS,pT,oE,ai h]
end Go.Z
namespace Go.Z
open Go Go.Proofs
variable {F:List aD}{bb cap db n q:Nat}{ad:Option Addr}{r:dQ}{T:TT}{w:World}
def fM(N len at_:Nat)(bad:Bool)(n:Nat):Nat×Nat×Bool:=if at_+n<=8*len then(dt N at_ n,at_+n,bad)else(0,at_,true)
theorem apJ{D:List UInt8}{len:Nat}{at_:Nat}{bad:Bool}(h:H r w ((af bb [.slice ad len cap,.int .i64 (at_:Int),.bool bad] 167)::(af db (D.map u8) T)::F))(a8:0<len->ad=some ⟨db,q,none⟩)(hq:q+len<=D.length)(jg:at_<=8*len)(hn:n<=32)(hlen:len<=281474976710656):Calls PP 73 #[aW bb,.int .i64 (n:Int)] w λe w'=> ∃v at' Db,fM (num (aa D q len)) len at_ bad n=(v,at',Db)/\e= .returned (.int .i64 (v:Int))/\H r w' ((af bb [.slice ad len cap,.int .i64 (at':Int),.bool Db] 167)::(af db (D.map u8) T)::F):=by
 refine gS Tryz.func73 Tryz.ntmps73 [4] ?_;refine V 15 ?_;refine bQ (σ:=Nat) [(4,7),(9,46)] (λi ρ w=>Kn ρ [(9,R i),(5,R (dt (num (aa D q len)) at_ i))]/\H r w ((af bb [.slice ad len cap,.int .i64 (at_:Int),.bool bad] 167)::(af db (D.map u8) T)::F)/\i<=n/\at_+i<=8*len) (λi=>n-i) 0 ⟨Kn.mk ⟨J,by rw[ad7];rfl,trivial⟩,h,bP _,I⟩ ?_;rintro i ρ w ⟨⟨zi,rfl⟩,h,hi,PG⟩;have xX:=Ff (num (aa D q len)) at_ i;have Wm:2^i<=2^32:=dp I I;have hkm:dt (num (aa D q len)) at_ i<=4294967296:=I;refine V 5 ?_;refine an J ?_ ?_<;>intro sF
 refine V 22 ?_;refine ah (mT (b:=8) (h2:=ao.lit _) J J I k_) ?_;refine V 7 ?_;refine an J ?_ ?_<;>intro wq
 refine V 5 ?_;refine b7 ?_;intro w h;refine V 6 ?_;exact⟨0,at_,true,(by rw[fM,ag I]),J,h⟩
 have LC:=a8 I;have sG:(D.getD (q+(at_+i)/8) 0).toNat/2^((at_+i) % 8)&&&1=num (aa D q len)/2^(at_+i) % 2:=(by rw[ad5,<-kN (I:(at_+i)/8<len)];exact adZ _ _);have PH:num (aa D q len)/2^(at_+i) % 2<=1:=I;have rE:num (aa D q len)/2^(at_+i) % 2*2^i<=4294967296:=aI (sr PH Wm) aj;have apK:dt (num (aa D q len)) at_ i||| ((D.getD (q+(at_+i)/8) 0).toNat/2^((at_+i) % 8)&&&1)*2^i=dt (num (aa D q len)) at_ (i+1):=(by rw[sG,oJ xX,ad8]);rw[<-sG]at rE PH;refine V 8 ?_;refine ah (mT (b:=8) (h2:=ao.lit _) J J I k_) (ah (cI J J (by first|rfl|assumption|exact sx J I|exact eg J I|exact eg (by assumption) I) I) ?_);refine aO h J (gl I) (cM (ah (AK (b:=8) (h2:=ao.lit _) J J I) (ah (pX J J (dz _ aj)) ?_)));refine ah (xH (b:=1) (h2:=⟨J⟩) J J (aI (j6 _ _) (dz _ aj)) aj) ?_;refine ah (eB J (aI PH aj)) ?_;refine cM (ah (dN J J dw (aI rE aj)) ?_);refine ah (eI J J (aI hkm aj) (aI rE aj)) ?_;refine V 6 ?_;refine⟨aM,?_⟩;refine⟨i+1,I,Kn.mk ⟨J,?_,trivial⟩,h,I,I⟩;refine int_eq (b8 Int.ofNat ?_);exact apK
 refine V 11 ?_;refine b7 ?_;intro w h;refine V 7 ?_;obtain rfl:i=n:=I;exact⟨_,at_+i,bad,(by rw[fM,ai I]),J,h⟩
theorem ad9{p:Prop}(h:p:=by refine⟨i+1,I,Kn.mk ⟨J,int_eq (b8 Int.ofNat ?_),trivial⟩,h,I⟩;rw[pg];omega):p:=h
theorem apL{D:List UInt8}{len:Nat}{left:Int}(h:H r w ((af bb [.slice ad len cap,.int .i64 left] 155)::(af db (D.map u8) T)::F))(a8:0<len->ad=some ⟨db,q,none⟩)(hq:q+len<=D.length)(hl:left<=8*len)(kY: -1000000000000<=left)(hn:n<=32)(hlen:len<=281474976710656):Calls PP 65 #[aW bb,.int .i64 (n:Int)] w λe w'=>e= .returned (R (dS (num (aa D q len)) left n))/\H r w' ((af bb [.slice ad len cap,.int .i64 (left-n)] 155)::(af db (D.map u8) T)::F):=by
 refine gS Tryz.func65 Tryz.ntmps65 [4] ?_;refine V 15 ?_;refine bQ (σ:=Nat) [(5,5),(7,44)] (λi ρ w=>Kn ρ [(7,R i),(5,R (dS (num (aa D q len)) left i))]/\H r w ((af bb [.slice ad len cap,.int .i64 (left-i)] 155)::(af db (D.map u8) T)::F)/\i<=n) (λi=>n-i) 0 ⟨aq,by simpa using h,bP _⟩ ?_;rintro i ρ w ⟨⟨zi,rfl⟩,h,hi⟩;have xX:=u6 (num (aa D q len)) left i;have Wm:2^i<=2^32:=dp I I;have hkm:dS (num (aa D q len)) left i<=4294967296:=I;refine V 5 ?_;refine an J ?_ ?_<;>intro xY
 refine V 9 ?_;refine ah (oH J J I I) ?_;refine V 2 ?_;refine b7 ?_;intro w h;refine V 13 ?_;refine ah (zf J J) (aC (an J ?_ ?_))<;>intro Dc
 obtain⟨p,hp⟩: ∃p:Nat,left- (i:Int) -1=(p:Int):=⟨(left- (i:Int) -1).toNat,I⟩;rw[hp]at h;have LC:=a8 I;have sG:(D.getD (q+p/8) 0).toNat/2^(p % 8)&&&1=num (aa D q len)/2^p % 2:=(by rw[ad5,<-kN (I:p/8<len)];exact adZ _ _);have pg:dS (num (aa D q len)) left (i+1)=2*dS (num (aa D q len)) left i+((D.getD (q+p/8) 0).toNat/2^(p % 8)&&&1):=(by rw[dS,hp,ai I,sG];rfl);have PH:(D.getD (q+p/8) 0).toNat/2^(p % 8)&&&1<=1:=Vn;refine bL h [0,4,8,12,20,24,28,48,52,56,17,33,36,40,45,61,64,68,72,76,80,84] ?_;intro w h;refine av 12 ?_;refine aw J (mT (b:=8) (h2:=ao.lit _) J J I k_) (aw J (cI J J (by first|rfl|assumption|exact sx J I|exact eg J I|exact eg (by assumption) I) I) ?_);refine aK J h J (gl I) ?_;refine av 1 ?_;refine aw J (AK (b:=8) (h2:=ao.lit _) J J I) ?_;refine av 1 ?_;refine aw J (xH (b:=1) (h2:=ao.lit _) J J k_ k_) ?_;refine av 4 ?_;refine V 4 ?_;refine⟨aM,?_⟩;have e1:left- (i:Int) -1=left- ((i+1:Nat):Int):=I;(rw[<-hp,e1]at h);exact ad9
 have pg:dS (num (aa D q len)) left (i+1)=2*dS (num (aa D q len)) left i+0:=(by rw[dS,ag I]);refine V 5 ?_;refine⟨aM,?_⟩;have e1:left- (i:Int) -1=left- ((i+1:Nat):Int):=I;rw[e1]at h;exact ad9
 refine V 7 ?_;obtain rfl:i=n:=I;exact⟨J,h⟩
theorem apM{v:Value}{at_:Nat}{bad:Bool}(h:H r w ((af bb [v,.int .i64 (at_:Int),.bool bad] 167)::F))(jg:at_<=2251799813685248):Calls PP 75 #[aW bb] w λe w'=>e= .returned (R ((at_+7)/8))/\H r w' ((af bb [v,.int .i64 (at_:Int),.bool bad] 167)::F):=by
 refine gD Tryz.func75 Tryz.ntmps75 [2] ?_;refine V 11 ?_;refine ah (mT (b:=8) (h2:=ao.lit _) J J I k_) ?_;refine V 3 ?_;exact⟨J,h⟩
end Go.Z
namespace Go.Z
variable {n q:Nat}{α:Type}
theorem Fg: ∀(a b:List UInt8),num (a++b)=num a+256^a.length*num b
 | [],b=>by simp[num]
 |x::a,b=>by simp only[List.cons_append,num,Fg a b,ek,jT];rw[KT,<-tg,iu 256 (256^a.length)];omega
theorem oK(l:List α)(d:α)(i:Nat)(h:i<l.length):l.take (i+1)=l.take i++[l.getD i d]:=by
 rw[List.take_succ_eq_append_getElem h];simp[h]
theorem sH(l:List UInt8)(i:Nat)(h:i<l.length):num (l.take (i+1))=num (l.take i)+(l.getD i 0).toNat*2^(8*i):=by
 rw[oK l 0 i h,Fg];simp[num,Wl,mx (AB h),iu]
theorem Dd(l:List UInt8)(i:Nat):num (l.take i)<2^(8*i):=by
 have h:=Wk (l.take i);refine ry h (dp I ?_);simp;omega
theorem Wn(l:List UInt8)(i:Nat):num (l.take i)<=num l:=by
 (conv=>rhs;rw[<-xD i l,Fg]);omega
theorem Wo(l:List UInt8)(i:Nat)(h:i<l.length):num (l.take i)||| (l.getD i 0).toNat*2^(8*i)=num (l.take (i+1)):=by
 rw[oJ (Dd l i),sH l i h]
def c_:Nat:=18446744073709551616
theorem fg:0<c_:=by unfold c_;omega
theorem zn:c_=2^64:=by unfold c_;decide
def P1:Nat:=11400714785074694791
def P2:Nat:=14029467366897019727
def P3:Nat:=1609587929392839161
def P4:Nat:=9650029242287828579
def P5:Nat:=2870177450012600261
theorem tI:P1=11400714785074694791:=rfl
theorem zp:P2=14029467366897019727:=rfl
theorem PI:P3=1609587929392839161:=rfl
theorem PJ:P4=9650029242287828579:=rfl
theorem Iv:P5=2870177450012600261:=rfl
theorem iC:c_=18446744073709551616:=rfl
attribute [irreducible] P1 P2 P3 P4 P5 c_
def rotl(x k:Nat):Nat:=x*2^(k&&&63) % c_|||x/2^(64- (k&&&63))
def ie(a lane:Nat):Nat:=rotl ((a+lane*P2 % c_) % c_) 31*P1 % c_
theorem gV(a lane:Nat):ie a lane<c_:=by unfold ie;exact dH _ fg
def wu(h a:Nat):Nat:=((h^^^ie 0 a)*P1 % c_+P4) % c_
theorem apN(h a:Nat):wu h a<c_:=by unfold wu;exact dH _ fg
attribute [irreducible] rotl ie wu
abbrev V4:=List Nat
def v0:V4:=[(P1+P2) % c_,P2,0,(0+c_-P1) % c_]
def lane(E:List UInt8)(i:Nat):Nat:=num (aa E (8*i) 8)
def pZ(v:V4)(E:List UInt8)(i:Nat):V4:=(List.range 4).map λj=>if j<i then ie (v.getD j 0) (lane E j)else v.getD j 0
def Fh(v:V4)(E:List UInt8):V4:=pZ v E 4
theorem apO(v:V4)(E:List UInt8)(h:v.length=4):pZ v E 0=v:=by
 match v,h with
 | [a,b,c,d],_=>simp[pZ,List.range,List.range.loop]
theorem xZ(v:V4)(E:List UInt8)(i:Nat):(pZ v E i).length=4:=by simp[pZ]
theorem Wp(v:V4)(E:List UInt8)(i j:Nat)(hj:j<4):(pZ v E i).getD j 0=if j<i then ie (v.getD j 0) (lane E j)else v.getD j 0:=by
 simp[pZ,bS,hj]
theorem apP(v:V4)(E:List UInt8)(i:Nat)(hi:i<4):(pZ v E i).set i (ie (v.getD i 0) (lane E i))=pZ v E (i+1):=by
 apply oF;intro j;rw[uK];by_cases e:i=j
 subst e;rw[ai J,xZ,ai hi];simp[pZ,hi]
 rw[ag e];by_cases hj:j<4
 simp only[pZ,kK,AD hj,uN];congr 1;by_cases W:j<i
 rw[ai W,ai I]
 rw[ag W,ag I]
 rw[gP (by rw[xZ];omega),gP (by rw[xZ];omega)]
theorem PL(f:α->Nat->α)(n:Nat)(h:α):(List.range (n+1)).foldl f h=f ((List.range n).foldl f h) n:=by
 rw[pU,OT,KV,OU]
def jV(n:Nat)(E:List UInt8)(v:V4):V4:=(List.range n).foldl (λv i=>Fh v (E.drop (32*i))) v
theorem Iw(n:Nat)(E:List UInt8)(v:V4):jV (n+1) E v=Fh (jV n E v) (E.drop (32*n)):=PL _ _ _
def x_(v:V4):Nat:=(((rotl (v.getD 0 0) 1+rotl (v.getD 1 0) 7) % c_+rotl (v.getD 2 0) 12) % c_+rotl (v.getD 3 0) 18) % c_
def oM(v:V4)(i:Nat):Nat:=(List.range i).foldl (λh j=>wu h (v.getD j 0)) (x_ v)
def PM(v:V4):Nat:=oM v 4
theorem Ix(v:V4)(i:Nat):oM v (i+1)=wu (oM v i) (v.getD i 0):=PL _ _ _
theorem ad_(v:V4):x_ v<c_:=by unfold x_;exact dH _ fg
attribute [irreducible] x_
theorem LD(v:V4)(i:Nat):oM v i<c_:=by
 cases i with
 |zero=>exact ad_ v
 |succ i=>exact(Ix v i).symm▸apN _ _
theorem aea(n:Nat)(E:List UInt8)(v:V4)(h:v.length=4):(jV n E v).length=4:=by
 cases n with
 |zero=>exact h
 |succ n=>rw[Iw];exact xZ _ _ _
def LF(v:V4):Prop:= ∀j,v.getD j 0<c_
theorem aeb(v:V4)(E:List UInt8)(i:Nat)(h:LF v):LF (pZ v E i):=λj=>by
 by_cases hj:j<4
 rw[Wp _ _ _ _ hj];split
 exact gV _ _
 exact h j
 have:(pZ v E i).getD j 0=0:=(by rw[bS,gP (by rw[xZ];omega)];rfl);rw[this];exact fg
theorem Fi(n:Nat)(E:List UInt8)(v:V4)(h:LF v):LF (jV n E v):=by
 induction n with
 |zero=>exact h
 |succ n ih=>rw[Iw];exact aeb _ _ _ ih
theorem Fj:LF v0:=λj=>by
 match j with
 |0=>exact dH _ fg
 |1=>show P2<c_;rw[zp,iC];decide
 |2=>exact fg
 |3=>exact dH _ fg
 |_+4=>exact fg
theorem sI{D:List UInt8}{k:Nat}:(aa D q n).drop k=aa D (q+k) (n-k):=by
 simp[aa,HS,j7]
theorem iL{D:List UInt8}{a b:Nat}(h:a+b<=n):aa (aa D q n) a b=aa D (q+a) b:=by
 simp only[aa,HS,j7,KW];rw[mx I]
theorem ph{D:List UInt8}{q n:Nat}:num (aa D q n)<2^(8*n):=
 ry (Wk _) (dp I (by simp[aa];omega))
def De(h x:Nat):Nat:=(rotl (h^^^ie 0 x) 27*P1 % c_+P4) % c_
def ya(h x:Nat):Nat:=(rotl (h^^^(x*P1 % c_)) 23*P2 % c_+P3) % c_
def AY(h x:Nat):Nat:=rotl (h^^^(x*P5 % c_)) 11*P1 % c_
theorem apQ(h x:Nat):De h x<c_:=by unfold De;exact dH _ fg
theorem aec(h x:Nat):ya h x<c_:=by unfold ya;exact dH _ fg
theorem aed(h x:Nat):AY h x<c_:=by unfold AY;exact dH _ fg
attribute [irreducible] De ya AY
def wx(n:Nat)(E:List UInt8)(h:Nat):Nat:=(List.range n).foldl (λh i=>De h (num (aa E (8*i) 8))) h
theorem Wq(n:Nat)(E:List UInt8)(h:Nat):wx (n+1) E h=De (wx n E h) (num (aa E (8*n) 8)):=PL _ _ _
def yb(E:List UInt8)(h:Nat):Nat:=E.foldl (λh x=>AY h x.toNat) h
theorem PN(E:List UInt8)(x:UInt8)(h:Nat):yb (E++[x]) h=AY (yb E h) x.toNat:=by
 unfold yb;rw[OT,KV,OU]
def PO(h:Nat):Nat:=(h^^^h/2^33)*P2 % c_
def PQ(h:Nat):Nat:=(h^^^h/2^29)*P3 % c_
attribute [irreducible] PO PQ
def Wu(h:Nat):Nat:=PQ (PO h)^^^PQ (PO h)/2^32
def Ww(E:List UInt8)(h:Nat):Nat:=
 let W:=wx (E.length/8) E h
 let E1:=E.drop (8*(E.length/8))
 let h2:=if 4<=E1.length then ya W (num (aa E1 0 4))else W
 let E2:=if 4<=E1.length then E1.drop 4 else E1
 Wu (yb E2 h2)
def lD(D:List UInt8):Nat:=
 Ww (D.drop (32*(D.length/32))) (((if 32<=D.length then PM (jV (D.length/32) D v0)else P5)+D.length) % c_)
theorem aee(n:Nat)(E:List UInt8)(h:Nat)(hh:h<c_):wx n E h<c_:=by
 cases n with
 |zero=>exact hh
 |succ n=>exact(Wq n E h).symm▸apQ _ _
end Go.Z
namespace Go.Z
open Go Go.Proofs
variable {w:World}
theorem aef{D:List UInt8}{sp:List Value}{i:Nat}(h:i<D.length):(D.map u8++sp)[i]? =some (u8 (D.getD i 0)):=by
 rw[ir (by simpa using h)];exact gl h
theorem rF{x k:Nat}(hx:x<c_)(hk:k<=63):Calls PP 32 #[.int .u64 (x:Int),.int .i64 (k:Int)] w λe w'=>e= .returned (cy (rotl x k))/\w'=w:=by
 have aGa:k&&&63<=63:=Vn;rw[iC]at hx;refine gS Tryz.func32 Tryz.ntmps32 [4] ?_;refine V 15 ?_;refine ah (CK J J (by first|decide| (simp only[IntKind.bits];omega)) J) ?_;refine V 4 ?_;refine ah (eI J J az (aI (j6 _ _) az)) ?_;refine V 3 ?_;refine⟨(Il (a:=x*2^(k&&&63) % (aG .u64+1)|||x/2^(64- (k&&&63))) ?_),J⟩;unfold rotl;rw[iC];rfl
theorem Wx{a l:Nat}(ha:a<c_)(hl:l<c_):Calls PP 30 #[.int .u64 (a:Int),.int .u64 (l:Int)] w λe w'=>e= .returned (cy (ie a l))/\w'=w:=by
 rw[iC]at ha hl;refine gS Tryz.func30 Tryz.ntmps30 [4] ?_;refine V 8 ?_;refine ah (oG (b:=14029467366897019727) (h2:=ao.lit _) J J J) (ah (oY J J J) (b_ (v1:=R 31) J J J (aA (rF (k:=31) (by rw[iC];exact dH _ aj) aj) ?_)));rintro e w1 ⟨rfl,rfl⟩;refine ah (oG (b:=11400714785074694791) (h2:=ao.lit _) J J J) ?_;refine V 3 ?_;refine⟨(Il (a:=rotl ((a+l*14029467366897019727 % (aG .u64+1)) % (aG .u64+1)) 31*11400714785074694791 % (aG .u64+1)) ?_),J⟩;unfold ie;rw[tI,zp,iC];rfl
variable {n q:Nat}
theorem aeg{D:List UInt8}(h:n=8):num (aa D q n)<=18446744073709551615:=by
 subst h;have:=ph (D:=D) (q:=q) (n:=8);omega
theorem apR{D:List UInt8}(h:n=8):num (aa D q n)<c_:=by
 have:=aeg (D:=D) (q:=q) h;have hM:=iC;omega
theorem aeh(X:Nat):((X^^^X/2^33)*14029467366897019727 % (aG .u64+1)^^^(X^^^X/2^33)*14029467366897019727 % (aG .u64+1)/2^29)*1609587929392839161 % (aG .u64+1)^^^((X^^^X/2^33)*14029467366897019727 % (aG .u64+1)^^^(X^^^X/2^33)*14029467366897019727 % (aG .u64+1)/2^29)*1609587929392839161 % (aG .u64+1)/2^32=Wu X:=by
 unfold Wu PQ PO;rw[zp,PI,iC];rfl
theorem aS{x:Nat}(h:x<c_):x<=aG .u64:=by
 have hM:=iC;simp only[aG];omega
variable {F:List aD}{l:List Value}{cap db:Nat}{ad:Option Addr}{p:Prop}{r:dQ}{T:TT}
theorem aei(h:p:=by have LC:=a8 I;have LG:=Wo (aa D q len) i I;rw[kN I]at LG;have fh:num ((aa D q len).take (i+1))<=num (aa D q len):=Wn _ _;have rG:(D.getD (q+i) 0).toNat*2^(8*i)<=num (aa D q len):=(by rw[<-LG]at fh;exact aI Nat.right_le_or fh);refine V 6 ?_;refine ah (cI J J (by first|rfl|assumption|exact sx J I|exact eg J I|exact eg (by assumption) I) I) ?_;refine aO h J (hl _ I I) ?_;refine V 9 ?_;refine ah (dN J J dw az) ?_;refine ah (eI J J az az) ?_;refine V 6 ?_;refine⟨aH 16,?_⟩;refine⟨i+1,I,Kn.mk ⟨J,?_,trivial⟩,h,I,hw⟩;exact int_eq (b8 Int.ofNat LG)):p:=h
theorem aej(h:p:=by refine V 7 ?_;obtain rfl:i=len:=I;rw[jf I];exact⟨J,hw.trans nr⟩):p:=h
theorem aek{D:List UInt8}{len:Nat}(h:H r w ((af db l T)::F))(hl: ∀i,q<=i->i<q+len->l[i]? =some (u8 (D.getD i 0)))(a8:0<len->ad=some ⟨db,q,none⟩)(hq:q+len<=D.length)(hlen:len<=8)(hN:num (aa D q len)<=9223372036854775807):Calls PP 22 #[.slice ad len cap] w λe w'=>e= .returned (R (num (aa D q len)))/\w'=w:=by
 obtain⟨w0,nr⟩: ∃w0,w0=w:=⟨_,J⟩;have dK:=dx hq;refine gD Tryz.func22 Tryz.ntmps22 [2] ?_;refine V 16 ?_;refine bQ (σ:=Nat) [(3,5),(8,20)] (λi ρ w=>Kn ρ [(8,R i),(3,R (num ((aa D q len).take i)))]/\H r w ((af db l T)::F)/\i<=len/\w=w0) (λi=>len-i) 0 ⟨Kn.mk ⟨J,by rw[pV];rfl,trivial⟩,h,bP _,nr.symm⟩ ?_;rintro i ρ w ⟨⟨zi,rfl⟩,h,hi,hw⟩;have eL:num ((aa D q len).take i)<=num (aa D q len):=Wn _ _;refine V 5 ?_;refine an J ?_ ?_<;>intro fG
 exact aei
 exact aej
theorem Wy{D:List UInt8}{len:Nat}(h:H r w ((af db l T)::F))(hl: ∀i,q<=i->i<q+len->l[i]? =some (u8 (D.getD i 0)))(a8:0<len->ad=some ⟨db,q,none⟩)(hq:q+len<=D.length)(hlen:len<=8)(hN:num (aa D q len)<=18446744073709551615):Calls PP 31 #[.slice ad len cap] w λe w'=>e= .returned (cy (num (aa D q len)))/\w'=w:=by
 obtain⟨w0,nr⟩: ∃w0,w0=w:=⟨_,J⟩;have dK:=dx hq;refine gD Tryz.func31 Tryz.ntmps31 [2] ?_;refine V 16 ?_;refine bQ (σ:=Nat) [(3,5),(8,20)] (λi ρ w=>Kn ρ [(8,R i),(3,cy (num ((aa D q len).take i)))]/\H r w ((af db l T)::F)/\i<=len/\w=w0) (λi=>len-i) 0 ⟨Kn.mk ⟨J,by rw[pV];rfl,trivial⟩,h,bP _,nr.symm⟩ ?_;rintro i ρ w ⟨⟨zi,rfl⟩,h,hi,hw⟩;have eL:num ((aa D q len).take i)<=num (aa D q len):=Wn _ _;refine V 5 ?_;refine an J ?_ ?_<;>intro fG
 exact aei
 exact aej
variable {sp:List Value}
theorem Wz{D:List UInt8}{len:Nat}(h:H r w ((af db l T)::F))(hl: ∀i,q<=i->i<q+len->l[i]? =some (u8 (D.getD i 0)))(a8:0<len->ad=some ⟨db,q,none⟩)(hq:q+len<=D.length)(jt:len<=cap)(hlen:len<=140737488355328):Calls PP 21 #[.slice ad len cap] w λe w'=>e= .returned (cy (lD (aa D q len)))/\H r w' ((af db l T)::F):=by
 have dK:=dx hq;have hM:=iC;refine gD Tryz.func21 Tryz.ntmps21 [2] ?_;refine V 8 ?_;refine ah (eB J (by first|assumption|exact aS eo|exact aS ju|exact aS (gV _ _)|exact aS (dH _ fg)|exact aS fO|exact dz _ aj| (simp only[aG];omega))) ?_;refine V 6 ?_;refine cD [(0,0),(4,7),(9,9),(15,73)] (λρ w=> ∃k iM W,k=len/32/\Kn ρ [(0,.slice iM (len-32*k) (cap-32*k)),(4,cy W)]/\W=(if 32<=len then PM (jV k (aa D q len) v0)else P5)/\(0<len-32*k->iM=some ⟨db,q+32*k,none⟩)/\H r w ((af db l T)::F)) ?_ ?_
 refine V 6 ?_;refine an J ?_ ?_<;>intro mz
 . refine V 7 ?_;refine ah (anp (b:=11400714785074694791) (h2:=ao.lit _) J J (by first|assumption|exact aS eo|exact aS ju|exact aS (gV _ _)|exact aS (dH _ fg)|exact aS fO|exact dz _ aj| (simp only[aG];omega)) J) ?_;refine ah (adg (v0:=cy 11400714785074694791) (v1:=cy 14029467366897019727) (v2:=cy 0) (ao7 _ _ _ _) J J J J) (eh h J ?_);intro WA w h;refine b7 ?_;intro w h;refine V 5 ?_;refine ah (oY (b:=14029467366897019727) (h2:=ao.lit _) J J J) ?_;refine V 1 ?_;refine b7 ?_;intro w h;refine V 3 ?_;have u7:List.map cy (jV 0 (aa D q len) v0)=[cy ((11400714785074694791+14029467366897019727) % (aG .u64+1)),cy 14029467366897019727,cy 0,cy ((0+(aG .u64+1) -11400714785074694791) % (aG .u64+1))]:=(by show List.map cy v0=_;unfold v0;rw[tI,zp,iC];rfl);rw[<-u7]at h;refine bQ (σ:=Nat×Option Addr) [(0,0),(7,7),(25,47)] (λ⟨k,iM⟩ ρ w=>Kn ρ [(0,.slice iM (len-32*k) (cap-32*k))]/\H r w ((af WA (List.map cy (jV k (aa D q len) v0)) 76)::(af db l T)::F)/\32*k<=len/\(0<len-32*k->iM=some ⟨db,q+32*k,none⟩)) (λ⟨k,iM⟩=>len-32*k) (0,ad) ⟨aq,h,bP _,a8⟩ ?_;clear h u7;rintro⟨k,iM⟩ ρ w ⟨⟨lW,rfl⟩,h,aGb,AZ⟩;refine V 7 ?_;refine an J ?_ ?_<;>intro rH
   have wy:=aea k (aa D q len) v0 J;have apS:=λh0=>eg (l:=32) (cap:=cap-32*k) (AZ h0);refine V 8 ?_;refine bQ (σ:=Nat) [(7,7),(30,47)] (λi ρ w=>Kn ρ [(30,R i)]/\H r w ((af WA (List.map cy (pZ (jV k (aa D q len) v0) ((aa D q len).drop (32*k)) i)) 76)::(af db l T)::F)/\i<=4) (λi=>4-i) 0 ⟨aq,by rw[apO _ _ wy];exact h,I⟩ ?_;rintro i ρ w ⟨⟨PS,rfl⟩,h,hi⟩;refine V 5 ?_;refine an J ?_ ?_<;>intro sJ
   have dd:=apP (jV k (aa D q len) v0) ((aa D q len).drop (32*k)) i I;rw[<-show(pZ (jV k (aa D q len) v0) ((aa D q len).drop (32*k)) i).getD i 0=(jV k (aa D q len) v0).getD i 0 from by rw[Wp _ _ _ _ I,ag I]]at dd;rw[show lane ((aa D q len).drop (32*k)) i=num (aa D (q+32*k+8*i) 8)from by unfold lane;rw[sI,iL I]]at dd;have e8:8*i+8-8*i=8:=I;refine V 8 ?_;refine bL h [0,4,8,16,20,24,28,32,36,40,13,46,50,52,59] ?_;intro w h;refine av 5 ?_;refine aw J (AJ (a:=8) (W:=ao.lit _) J J (by first|assumption|exact aS eo|exact aS ju|exact aS (gV _ _)|exact aS (dH _ fg)|exact aS fO|exact dz _ aj| (simp only[aG];omega))) ?_;refine kA J (aw J (AJ (a:=8) (W:=ao.lit _) J J (by first|assumption|exact aS eo|exact aS ju|exact aS (gV _ _)|exact aS (dH _ fg)|exact aS fO|exact dz _ aj| (simp only[aG];omega))) ?_);refine aw J (d_ (b:=8) (h2:=ao.lit _) J J (by first|assumption|exact aS eo|exact aS ju|exact aS (gV _ _)|exact aS (dH _ fg)|exact aS fO|exact dz _ aj| (simp only[aG];omega))) ?_;refine aw J (uX J J J I I) (aK J h J (Fa (by first| (rw[wy];omega)| (rw[xZ];omega))) ?_);refine AO J J J ((Wy (h.mv 1) (λi9 W h2=>hl i9 I I) (λ_=>eg (AZ I) I) I I (aeg I)).mono ?_);rintro e w1 ⟨rfl,rfl⟩;refine⟨_,J,eJ.refl _,?_⟩;refine AP J J J J ((Wx (aeb _ _ _ (Fi k _ _ Fj) i) (apR I)).mono ?_);rintro e w1 ⟨rfl,rfl⟩;refine⟨_,J,eJ.refl _,?_⟩;refine av 1 ?_;refine v_ (v:= .int _ _) J h J (Fa (D:=pZ (jV k (aa D q len) v0) ((aa D q len).drop (32*k)) i) (by rw[xZ];omega)) J J J ?_;intro w h;dsimp only[List.set]at h;refine cm (eS (ah (d_ (b:=1) (h2:=ao.lit _) J J (by first|assumption|exact aS eo|exact aS ju|exact aS (gV _ _)|exact aS (dH _ fg)|exact aS fO|exact dz _ aj| (simp only[aG];omega))) ?_));refine cM (aC (⟨aH 20,?_⟩));rw[e8,<-jM,dd]at h;exact⟨i+1,I,aq,h,I⟩
   refine V 3 ?_;refine ah (iY (a:=32) (W:=ao.lit _) J J I I) (dI (aC (⟨aH 9,?_⟩)));obtain rfl:i=4:=I;rw[show pZ (jV k (aa D q len) v0) (List.drop (32*k) (aa D q len)) 4=jV (k+1) (aa D q len) v0 from(Iw _ _ _).symm]at h;refine⟨(k+1,cut iM (cap-32*k) 32 1),cw,Kn.mk ⟨?_,trivial⟩,h,I,?_⟩
   exact iJ J I I
   intro h0;rw[apS I I];exact b8 (λz=>some (⟨db,z,none⟩:Addr)) I
   have wy:=aea k (aa D q len) v0 J;have ael:k=len/32:=I;refine iy (a9 (bL h [0,12,28,44,5,17,33,49,10,22,24,38,40,54,56,60] ?_));intro w h;refine av 4 ?_;refine aK J h J (Fa (by first| (rw[wy];omega)| (rw[xZ];omega))) ?_;refine aK J h J (Fa (by first| (rw[wy];omega)| (rw[xZ];omega))) ?_;refine aK J h J (Fa (by first| (rw[wy];omega)| (rw[xZ];omega))) ?_;refine aK J h J (Fa (by first| (rw[wy];omega)| (rw[xZ];omega))) ?_;refine AP (v1:=R 1) J J J J ((rF (k:=1) (Fi k _ _ Fj 0) aj).mono ?_);rintro e w1 ⟨rfl,rfl⟩;refine⟨_,J,eJ.refl _,?_⟩;refine AP (v1:=R 7) J J J J ((rF (k:=7) (Fi k _ _ Fj 1) aj).mono ?_);rintro e w1 ⟨rfl,rfl⟩;refine⟨_,J,eJ.refl _,?_⟩;refine aw J (oY J J J) (AP (v1:=R 12) J J J J ((rF (k:=12) (Fi k _ _ Fj 2) aj).mono ?_));rintro e w1 ⟨rfl,rfl⟩;refine⟨_,J,eJ.refl _,?_⟩;refine aw J (oY J J J) (AP (v1:=R 18) J J J J ((rF (k:=18) (Fi k _ _ Fj 3) aj).mono ?_));rintro e w1 ⟨rfl,rfl⟩;refine⟨_,J,eJ.refl _,?_⟩;refine aw J (oY J J J) (eY J (cm (a9 (eS (ah (iK (List.map cy (jV k (aa D q len) v0)) h J (Rd.self _) (by rw[bX,wy])) ?_)))));refine V 3 ?_;have fq:x_ (jV k (aa D q len) v0)=x_ (jV k (aa D q len) v0):=rfl;(conv at fq=>lhs;unfold x_);rw[iC]at fq;refine bQ (σ:=Nat) [(4,4),(9,9),(64,73)] (λi ρ w=>Kn ρ [(64,R i),(4,cy (oM (jV k (aa D q len) v0) i))]/\H r w ((af WA (List.map cy (jV k (aa D q len) v0)) 76)::(af db l T)::F)/\i<=4) (λi=>4-i) 0 ⟨Kn.mk ⟨J,int_eq (b8 Int.ofNat fq),trivial⟩,h,I⟩ ?_;clear h fq;rintro i ρ w ⟨⟨PS,rfl⟩,h,hi⟩;have ju:=LD (jV k (aa D q len) v0) i;refine V 5 ?_;refine an J ?_ ?_<;>intro Df
   . refine V 5 ?_;refine ah (adj J J I (Fa (by rw[wy];omega))) ?_;refine V 5 ?_;refine b_ (v0:=cy 0) J J J (aA (Wx (a:=0) fg (Fi k _ _ Fj i)) ?_);rintro e w1 ⟨rfl,rfl⟩;refine ah (tj J J (by first|assumption|exact aS eo|exact aS ju|exact aS (gV _ _)|exact aS (dH _ fg)|exact aS fO|exact dz _ aj| (simp only[aG];omega)) (by first|assumption|exact aS eo|exact aS ju|exact aS (gV _ _)|exact aS (dH _ fg)|exact aS fO|exact dz _ aj| (simp only[aG];omega))) ?_;refine ah (oG (b:=11400714785074694791) (h2:=ao.lit _) J J J) (ah (oY (b:=9650029242287828579) (h2:=ao.lit _) J J J) ?_);refine V 3 ?_;refine ah (d_ (b:=1) (h2:=ao.lit _) J J (by first|assumption|exact aS eo|exact aS ju|exact aS (gV _ _)|exact aS (dH _ fg)|exact aS fO|exact dz _ aj| (simp only[aG];omega))) ?_;refine cM (aC (⟨aH 12,?_⟩));refine⟨i+1,I,Kn.mk ⟨J,int_eq (b8 Int.ofNat ?_),trivial⟩,h,I⟩;rw[Ix];(conv=>rhs;unfold wu);rw[tI,PJ,iC];rfl
   obtain rfl:i=4:=I;have yc:oM (jV k (aa D q len) v0) 4=PM (jV k (aa D q len) v0):=rfl;refine iy ?_;replace h:=h.tail;(try dsimp only[dB]at h);refine⟨aH 38,?_⟩
   first
     |exact Exists.intro _ ⟨_,_,ael,aq,(by rw[ai mz];first|rfl|exact yc),AZ,h⟩
     |exact⟨0,ad,2870177450012600261,I,aq,(by rw[ag mz,Iv]),a8,h⟩
 refine aQ (⟨aH 3,?_⟩)
 first
   |exact Exists.intro _ ⟨_,_,ael,aq,(by rw[ai mz];first|rfl|exact yc),AZ,h⟩
   |exact⟨0,ad,2870177450012600261,I,aq,(by rw[ag mz,Iv]),a8,h⟩
 rintro ρ w ⟨k,nU,W,hk,⟨zi,rfl⟩,Dg,A0,h⟩
 have aGc:W<c_:=by
  rw[Dg];split
  exact LD _ _
  rw[Iv,iC];decide
 refine V 4 ?_;refine ah (oY J J J) ?_;refine V 4 ?_;have A4:(aa D (q+32*k) (len-32*k)).length=len-32*k:=dx I;have oN:(W+len) % (aG .u64+1)=(W+len) % c_:=(by rw[iC];rfl);refine bQ (σ:=Nat×Option Addr) [(0,0),(4,4),(77,90)] (λ⟨j,A5⟩ ρ w=>Kn ρ [(0,.slice A5 (len-32*k-8*j) (cap-32*k-8*j)),(4,cy (wx j (aa D (q+32*k) (len-32*k)) ((W+len) % c_)))]/\H r w ((af db l T)::F)/\8*j<=len-32*k/\(0<len-32*k-8*j->A5=some ⟨db,q+32*k+8*j,none⟩)) (λ⟨j,A5⟩=>len-32*k-8*j) (0,nU) ⟨Kn.mk ⟨J,int_eq (b8 Int.ofNat oN),trivial⟩,h,bP _,A0⟩ ?_;clear h oN;rintro⟨j,A5⟩ ρ w ⟨⟨lW,rfl⟩,h,hj,tJ⟩;have eo:=aee j (aa D (q+32*k) (len-32*k)) ((W+len) % c_) (dH _ fg);refine V 7 ?_;refine an J ?_ ?_<;>intro PT
 refine V 6 ?_;refine ah (lX (c:=8) (W:=ao.lit _) J J I) (dJ J J (aA (Wy h (λi9 W h2=>hl i9 I I) (λ_=>tJ I) I I (by have:=ph (D:=D) (q:=q+32*k+8*j) (n:=8);omega)) ?_));rintro e w1 ⟨rfl,rfl⟩;refine b_ (v0:=cy 0) J J J (aA (Wx (a:=0) fg (by have:=ph (D:=D) (q:=q+32*k+8*j) (n:=8);rw[iC];omega)) ?_);rintro e w1 ⟨rfl,rfl⟩;refine ah (tj J J (by first|assumption|exact aS eo|exact aS ju|exact aS (gV _ _)|exact aS (dH _ fg)|exact aS fO|exact dz _ aj| (simp only[aG];omega)) (by first|assumption|exact aS eo|exact aS ju|exact aS (gV _ _)|exact aS (dH _ fg)|exact aS fO|exact dz _ aj| (simp only[aG];omega))) ?_;refine b_ (v1:=R 27) J J J (aA (rF (k:=27) (by rw[zn];exact KR (by rw[<-zn];exact eo) (by rw[<-zn];exact gV _ _)) aj) ?_);rintro e w1 ⟨rfl,rfl⟩;refine ah (oG (b:=11400714785074694791) (h2:=ao.lit _) J J J) (ah (oY (b:=9650029242287828579) (h2:=ao.lit _) J J J) ?_);refine V 4 ?_;refine ah (iY (a:=8) (W:=ao.lit _) J J I I) (dI (aC (⟨aH 16,?_⟩)));refine⟨(j+1,_),cw,Kn.mk ⟨iJ J I I,int_eq (b8 Int.ofNat ?_),trivial⟩,h,I,?_⟩
 . rw[Wq,iL I];(conv=>rhs;unfold De);rw[tI,PJ,iC];rfl
 intro h0;rw[eg (tJ I) I];exact b8 (λz=>some (⟨db,z,none⟩:Addr)) I
 refine iy (cD [(0,0),(4,4),(91,104)] (λρ w=> ∃m l3 Dh h3,l3=len-32*k-8*j-m/\m=(if 4<=len-32*k-8*j then 4 else 0)/\Kn ρ [(0,.slice Dh l3 (cap-32*k-8*j-m)),(4,cy h3)]/\h3=(if 4<=len-32*k-8*j then ya (wx j (aa D (q+32*k) (len-32*k)) ((W+len) % c_)) (num (aa D (q+32*k+8*j) 4))else wx j (aa D (q+32*k) (len-32*k)) ((W+len) % c_))/\(0<l3->Dh=some ⟨db,q+32*k+8*j+m,none⟩)/\H r w ((af db l T)::F)) ?_ ?_)
 . refine V 6 ?_;refine an J ?_ ?_<;>intro qU
   . refine V 4 ?_;refine ah (lX (c:=4) (W:=ao.lit _) J J I) (dJ J J (aA (Wy h (λi9 W h2=>hl i9 I I) (λ_=>tJ I) I I (by have:=ph (D:=D) (q:=q+32*k+8*j) (n:=4);omega)) ?_));rintro e w1 ⟨rfl,rfl⟩;refine ah (oG (b:=11400714785074694791) (h2:=ao.lit _) J J J) (ah (tj J J (by first|assumption|exact aS eo|exact aS ju|exact aS (gV _ _)|exact aS (dH _ fg)|exact aS fO|exact dz _ aj| (simp only[aG];omega)) (by first|assumption|exact aS eo|exact aS ju|exact aS (gV _ _)|exact aS (dH _ fg)|exact aS fO|exact dz _ aj| (simp only[aG];omega))) ?_);refine b_ (v1:=R 23) J J J (aA (rF (k:=23) (by rw[zn];exact KR (by rw[<-zn];exact eo) (dH _ aj)) aj) ?_);rintro e w1 ⟨rfl,rfl⟩;refine ah (oG (b:=14029467366897019727) (h2:=ao.lit _) J J J) (ah (oY (b:=1609587929392839161) (h2:=ao.lit _) J J J) ?_);refine V 4 ?_;refine ah (iY (a:=4) (W:=ao.lit _) J J I I) (dI (aC (⟨aH 16,?_⟩)))
     first
       |exact Exists.intro 4 (Exists.intro _ (Exists.intro _ (Exists.intro _ (And.intro J (And.intro (by rw[ai qU]) (And.intro aq (And.intro (by
           rw[ai qU]
           conv=>rhs;unfold ya
           rw[tI,zp,PI,iC];rfl) ⟨(λh0=>eg (tJ I) I),h⟩)))))))
       |exact⟨0,_,_,_,J,(by rw[ag qU]),aq,(by rw[ag qU]),(λh0=>tJ I),h⟩
   refine aQ (⟨aH 3,?_⟩)
   first
     |exact Exists.intro 4 (Exists.intro _ (Exists.intro _ (Exists.intro _ (And.intro J (And.intro (by rw[ai qU]) (And.intro aq (And.intro (by
         rw[ai qU]
         conv=>rhs;unfold ya
         rw[tI,zp,PI,iC];rfl) ⟨(λh0=>eg (tJ I) I),h⟩)))))))
     |exact⟨0,_,_,_,J,(by rw[ag qU]),aq,(by rw[ag qU]),(λh0=>tJ I),h⟩
 rintro ρ w ⟨m,l3,Dh,h3,kZ,hm,⟨ρ3,rfl⟩,yd,PU,h⟩
 have qV:h3<c_:=by
  rw[yd];split
  exact aec _ _
  exact eo
 have Iy:(aa D (q+32*k+8*j+m) l3).length=l3:=dx (by split at hm<;>omega);have hD3:q+32*k+8*j+m+l3<=D.length:=(by split at hm<;>omega);have hD4:32*k+8*j+m+l3=len:=(by split at hm<;>omega);refine V 8 ?_;refine bQ (σ:=Nat) [(4,4),(11,11),(107,118)] (λi ρ w=>Kn ρ [(107,R i),(4,cy (yb ((aa D (q+32*k+8*j+m) l3).take i) h3))]/\H r w ((af db l T)::F)/\i<=l3) (λi=>l3-i) 0 ⟨Kn.mk ⟨J,by rw[pV];rfl,trivial⟩,h,bP _⟩ ?_;rintro i ρ w ⟨⟨PS,rfl⟩,h,hi⟩
 have fO:yb ((aa D (q+32*k+8*j+m) l3).take i) h3<c_:=by
  cases i with
  |zero=>rw[pV];exact qV
  |succ i=>exact(b8 (yb · h3) (oK _ 0 i (by rw[Iy];omega))).trans (PN _ _ _)▸aed _ _
 refine V 5 ?_;refine an J ?_ ?_<;>intro Di
 . have aGd:=PU I;refine V 5 ?_;refine ah (cI J J (by first|rfl|assumption|exact sx J I|exact eg J I|exact eg (by assumption) I) I) ?_;refine aO h J (hl _ I I) ?_;refine V 5 ?_;refine ah (eB J (by first|assumption|exact aS eo|exact aS ju|exact aS (gV _ _)|exact aS (dH _ fg)|exact aS fO|exact dz _ aj| (simp only[aG];omega))) ?_;refine ah (oG (b:=2870177450012600261) (h2:=ao.lit _) J J J) (ah (tj J J (by first|assumption|exact aS eo|exact aS ju|exact aS (gV _ _)|exact aS (dH _ fg)|exact aS fO|exact dz _ aj| (simp only[aG];omega)) (by first|assumption|exact aS eo|exact aS ju|exact aS (gV _ _)|exact aS (dH _ fg)|exact aS fO|exact dz _ aj| (simp only[aG];omega))) ?_);refine b_ (v1:=R 11) J J J (aA (rF (k:=11) (by rw[zn];exact KR (by rw[<-zn];exact fO) (dH _ aj)) aj) ?_);rintro e w1 ⟨rfl,rfl⟩;refine ah (oG (b:=11400714785074694791) (h2:=ao.lit _) J J J) ?_;refine V 3 ?_;refine ah (d_ (b:=1) (h2:=ao.lit _) J J (by first|assumption|exact aS eo|exact aS ju|exact aS (gV _ _)|exact aS (dH _ fg)|exact aS fO|exact dz _ aj| (simp only[aG];omega))) ?_;refine cM (aC (⟨aH 14,?_⟩));refine⟨i+1,I,Kn.mk ⟨J,int_eq (b8 Int.ofNat ?_),trivial⟩,h,I⟩;rw[oK _ 0 i (by rw[Iy];omega),PN,kN I];(conv=>rhs;unfold AY);rw[tI,Iv,iC];rfl
 refine V 5 ?_;refine ah (pX (b:=33) (h2:=ao.lit _) J J (by first|assumption|exact aS eo|exact aS ju|exact aS (gV _ _)|exact aS (dH _ fg)|exact aS fO|exact dz _ aj| (simp only[aG];omega))) ?_;refine ah (tj J J (by first|assumption|exact aS eo|exact aS ju|exact aS (gV _ _)|exact aS (dH _ fg)|exact aS fO|exact dz _ aj| (simp only[aG];omega)) (by first|assumption|exact aS eo|exact aS ju|exact aS (gV _ _)|exact aS (dH _ fg)|exact aS fO|exact dz _ aj| (simp only[aG];omega))) ?_;refine ah (oG (b:=14029467366897019727) (h2:=ao.lit _) J J J) ?_;refine V 6 ?_;refine ah (pX (b:=29) (h2:=ao.lit _) J J (by first|assumption|exact aS eo|exact aS ju|exact aS (gV _ _)|exact aS (dH _ fg)|exact aS fO|exact dz _ aj| (simp only[aG];omega))) ?_;refine ah (tj J J (by first|assumption|exact aS eo|exact aS ju|exact aS (gV _ _)|exact aS (dH _ fg)|exact aS fO|exact dz _ aj| (simp only[aG];omega)) (by first|assumption|exact aS eo|exact aS ju|exact aS (gV _ _)|exact aS (dH _ fg)|exact aS fO|exact dz _ aj| (simp only[aG];omega))) ?_;refine ah (oG (b:=1609587929392839161) (h2:=ao.lit _) J J J) ?_;refine V 6 ?_;refine ah (pX (b:=32) (h2:=ao.lit _) J J (by first|assumption|exact aS eo|exact aS ju|exact aS (gV _ _)|exact aS (dH _ fg)|exact aS fO|exact dz _ aj| (simp only[aG];omega))) ?_;refine ah (tj J J (by first|assumption|exact aS eo|exact aS ju|exact aS (gV _ _)|exact aS (dH _ fg)|exact aS fO|exact dz _ aj| (simp only[aG];omega)) (by first|assumption|exact aS eo|exact aS ju|exact aS (gV _ _)|exact aS (dH _ fg)|exact aS fO|exact dz _ aj| (simp only[aG];omega))) ?_;refine V 3 ?_;obtain rfl:i=l3:=I;rw[jf I]at fO ⊢;refine⟨Il ?_,h⟩;refine(aeh _).trans ?_;have WB:(len-32*k)/8=j:=I;unfold lD Ww;dsimp only;rw[dK,sI,dx I,<-hk,<-Dg,WB,sI,dx I];by_cases h4:4<=len-32*k-8*j
 rw[ai h4]at hm yd ⊢;rw[ai h4,sI,iL I,yd,kZ,hm];rfl
 rw[ag h4]at hm yd ⊢;rw[ag h4,yd,kZ,hm,kU,KX]
theorem apT{D:List UInt8}{len:Nat}(h:H r w ((af db (D.map u8++sp) T)::F))(a8:0<len->ad=some ⟨db,q,none⟩)(hq:q+len<=D.length)(hlen:len<=8)(hN:num (aa D q len)<=9223372036854775807):Calls PP 22 #[.slice ad len cap] w λe w'=>e= .returned (R (num (aa D q len)))/\w'=w:=
 aek h (λi _ h2=>aef I) a8 hq hlen hN
theorem apU{D:List UInt8}{len:Nat}(h:H r w ((af db (D.map u8++sp) T)::F))(a8:0<len->ad=some ⟨db,q,none⟩)(hq:q+len<=D.length)(jt:len<=cap)(hlen:len<=140737488355328):Calls PP 21 #[.slice ad len cap] w λe w'=>e= .returned (cy (lD (aa D q len)))/\H r w' ((af db (D.map u8++sp) T)::F):=
 Wz h (λi _ h2=>aef I) a8 hq jt hlen
variable {c kind:Nat}
def cj(kind:Nat):Nat×Nat:=if kind=0 then(35,9)else if kind=1 then(31,8)else(52,9)
def Dj:List Nat:=[1,1,1,1,2,2,3,3,4,6,7,8,9,10,11,12,13,14,15,16]
def Dk:List Nat:=[1,1,1,1,2,2,3,3,4,4,5,7,8,9,10,11,12,13,14,15,16]
def Iz(l:List Nat)(n:Nat):Nat:=(List.range n).foldl (λs k=>s+2^l.getD k 0) 0
theorem aem(l:List Nat)(n:Nat):Iz l (n+1)=Iz l n+2^l.getD n 0:=PL _ _ _
def codeF(kind c:Nat):Nat×Nat:=
 if kind=1 then(2^c,c)else if kind=0/\c<16 then(c,0)else if kind=2/\c<32 then(c+3,0)
 else if kind=2 then(35+Iz Dk (c-32),Dk.getD (c-32) 0)else(16+Iz Dj (c-16),Dj.getD (c-16) 0)
theorem WC(k:Nat):Dj.getD k 0<=16:=by
 by_cases h:k<20
 exact(by decide: ∀k:Fin 20,Dj.getD k 0<=16) ⟨k,h⟩
 rw[bS,gP (by simp[Dj];omega)];simp
theorem WE(k:Nat):Dk.getD k 0<=16:=by
 by_cases h:k<21
 exact(by decide: ∀k:Fin 21,Dk.getD k 0<=16) ⟨k,h⟩
 rw[bS,gP (by simp[Dk];omega)];simp
theorem apV(l:List Nat)(hl: ∀k,l.getD k 0<=16)(n:Nat):Iz l n<=n*65536:=by
 induction n with
 |zero=>exact aR 0
 | succ n ih=>
   rw[aem]
   have:=dp (I:0<2) (hl n)
   omega
def qW(v:Nat)(none:Bool)(a b c:Nat):Nat×Nat×Nat:=
 if v>3 then(v-3,a,b)
 else
   let k:=if none=true then v-1+1 else v-1
   if k=1 then(b,a,c)else if k=2 then(c,a,b)else if k=3 then(a-1,a,b)else(a,b,c)
theorem PV(hk:kind<=2):Calls PP 53 #[.int .i64 (kind:Int)] w λe w'=>e= .returned (.tuple #[R (cj kind).1,R (cj kind).2])/\w'=w:=by
 refine gD Tryz.func53 Tryz.ntmps53 [2,3] ?_;refine V 16 ?_;refine an J ?_ ?_<;>intro hc5
 refine V 6 ?_;refine⟨?_,J⟩;(rw[cj,ai I];rfl)
 refine V 5 ?_;refine an J ?_ ?_<;>intro WG
 refine V 6 ?_;refine⟨?_,J⟩;(rw[cj,ag I,ai I];rfl)
 refine V 7 ?_;refine⟨?_,J⟩;(rw[cj,ag I,ag I];rfl)
theorem aen(h:H r w F)(hk:kind<=2)(mX:kind=1->c<=31)(lY:kind=0->c<=35)(pj:kind=2->c<=52):Calls PP 54 #[.int .i64 (kind:Int),.int .i64 (c:Int)] w λe w'=>e= .returned (.tuple #[R (codeF kind c).1,R (codeF kind c).2])/\H r w' F:=by
 refine gS Tryz.func54 Tryz.ntmps54 [4,5] ?_;refine V 6 ?_;refine jB [(4,5),(10,32)] (λρ w=>(kind≠1/\(kind=0->16<=c)/\(kind=2->32<=c))/\H r w F) ?_ ?_
 refine V 6 ?_;refine an J ?_ ?_<;>intro sF
 refine V 3 ?_;refine ah (dN (a:=1) (W:=ao.lit _) J J dw (aI (xE 1 (dp I (mX sF))) aj)) ?_;refine V 5 ?_;refine⟨?_,h⟩;rw[codeF,ai sF];show Ending.returned (.tuple #[R (1*2^c),R c])= .returned (.tuple #[R (2^c),R c]);rw[rz]
 refine V 5 ?_;refine d' (t:=19) J (λapW=>?_) (λapW=>?_)
 refine V 5 ?_;refine an J ?_ ?_<;>intro WH
 refine V 7 ?_;exact⟨(by rw[codeF,ag sF,ai I];rfl),h⟩
 refine V 5 ?_;refine d' (t:=27) J (λye=>?_) (λye=>?_)
 refine V 5 ?_;refine an J ?_ ?_<;>intro IA
 refine V 8 ?_;exact⟨(by rw[codeF,ag sF,ag I,ai I];rfl),h⟩
 exact aQ ⟨aM,I,h⟩
 refine V 5 ?_;exact fV J (aQ ⟨aM,I,h⟩)
 refine V 5 ?_;refine fV J ?_;refine V 5 ?_;refine d' (t:=27) J (λye=>?_) (λye=>?_)
 refine V 5 ?_;refine an J ?_ ?_<;>intro IA
 refine V 8 ?_;exact⟨(by rw[codeF,ag sF,ag I,ai I];rfl),h⟩
 exact aQ ⟨aM,I,h⟩
 refine V 5 ?_;exact fV J (aQ ⟨aM,I,h⟩)
 rintro ρ w ⟨hno,h⟩;refine a9 (eS (tq (v:=λb=>cf b 20 20) (λw=>AU (u:=λb=>cf b 20 20) (λw=>apv (1) (1) (1) (1) (2) (2) (3) (3) (4) (6) (7) (8) (9) (10) (11) (12) (13) (14) (15) (16) w) J) h J ?_));intro btb w h;refine V 7 ?_;refine cD [(6,8),(34,36)] (λρ w=> ∃bb l0 b0 f0,(l0=if kind=2 then Dk else Dj)/\b0=(if kind=2 then 35 else 16)/\f0=(if kind=2 then 32 else 16)/\l0.length=(if kind=2 then 21 else 20)/\Kn ρ [(6,cf bb l0.length l0.length),(7,R b0),(8,R f0)]/\H r w ((af bb (l0.map R) 3)::F)) ?_ ?_
 refine V 5 ?_;refine an J ?_ ?_<;>intro iP
 refine a9 (eS (tq (v:=λb=>cf b 21 21) (λw=>AU (u:=λb=>cf b 21 21) (λw=>apw (1) (1) (1) (1) (2) (2) (3) (3) (4) (4) (5) (7) (8) (9) (10) (11) (12) (13) (14) (15) (16) w) J) h J ?_));intro btb w h;refine V 6 ?_;replace h:=h.zz [1] 1;refine⟨aM,?_⟩
 first
   | have cK:kind=2:=iP
     exact⟨_,Dk,35,32,(ai iP).symm,(ai iP).symm,(ai iP).symm,(by rw[ai iP];rfl),aq,h⟩
   | have cK: ¬kind=2:=iP
     exact⟨_,Dj,16,16,(ag iP).symm,(ag iP).symm,(ag iP).symm,(by rw[ag iP];rfl),aq,h⟩
 refine aQ (⟨aM,?_⟩)
 first
   | have cK:kind=2:=iP
     exact⟨_,Dk,35,32,(ai iP).symm,(ai iP).symm,(ai iP).symm,(by rw[ai iP];rfl),aq,h⟩
   | have cK: ¬kind=2:=iP
     exact⟨_,Dj,16,16,(ag iP).symm,(ag iP).symm,(ag iP).symm,(by rw[ag iP];rfl),aq,h⟩
 rintro ρ w ⟨bb,l0,b0,f0,aeo,dO,WI,apX,⟨zi,rfl⟩,h⟩
 have kY: ∀k,l0.getD k 0<=16:=by
  intro k;rw[aeo];split
  exact WE k
  exact WC k
 have yf: ∀k,1*2^l0.getD k 0<=65536:=λk=>aI (xE 1 (dp I (kY k))) aj
 have p6:f0<=c/\c-f0<l0.length/\b0<=35/\l0.length<=21:=by
  rw[WI,apX,dO];by_cases e2:kind=2
  rw[ai e2,ai e2,ai e2];have:=pj e2;omega
  rw[ag e2,ag e2,ag e2];have:=lY I;omega
 refine V 7 ?_;refine bQ (σ:=Nat) [(7,7),(9,9),(38,51)] (λc1 ρ w=>Kn ρ [(9,R c1),(7,R (b0+Iz l0 (c1-f0)))]/\H r w ((af bb (l0.map R) 3)::F)/\f0<=c1/\c1<=c) (λc1=>c-c1) f0 ⟨Kn.mk ⟨J,by rw[AE];rfl,trivial⟩,h,aR _,p6.1⟩ ?_;rintro c1 ρ w ⟨⟨lW,rfl⟩,h,hf,jN⟩;refine V 7 ?_;refine an J ?_ ?_<;>intro LH
 refine V 9 ?_;refine ah (js J J (by first|rfl|assumption|exact sx J I|exact eg J I|exact eg (by assumption) I) I) ?_;refine aO h J (jC I) (ah (dN (a:=1) (W:=ao.lit _) J J (by have:=kY (c1-f0);simp only[IntKind.bits];omega) (by have:=yf (c1-f0);simp only[aG];omega)) ?_);refine ah (d_ J J (by have:=yf (c1-f0);have:=apV l0 kY (c1-f0);simp only[aG];omega)) ?_;refine V 7 ?_;refine⟨aM,?_⟩;refine⟨c1+1,I,Kn.mk ⟨J,int_eq (b8 Int.ofNat ?_),trivial⟩,h,I,I⟩;rw[show c1+1-f0=c1-f0+1 from by omega,aem];omega
 refine iy (a9 (bL h [0,4,8,12,16,20,28,25,32] ?_));intro w h;refine av 5 ?_;refine aw J (js J J (by first|rfl|assumption|exact sx J I|exact eg J I|exact eg (by assumption) I) I) ?_;refine eY J (aK J h J (jC I) (eY J (cm (iG ?_))));refine⟨?_,h.tail⟩;obtain rfl:c1=c:=I;rw[codeF,ag I,ag I,ag I];subst aeo dO WI;by_cases e2:kind=2
 simp only[ai e2];rfl
 simp only[ag e2];rfl
theorem IB(h:p:=by refine ah (wg (Lp _ _ _) J J J) ?_;refine V 2 ?_;refine b7 ?_;intro w h;refine V 11 ?_;replace h:=h.tail;(try dsimp only[dB]at h);(exact Exists.intro _ ⟨_,_,(by unfold qW;dsimp only;(repeat' split)<;>first|rfl| (exfalso;omega)| (exfalso;simp_all;done)| (exfalso;simp_all;omega)),J,h⟩)):p:=h
theorem WJ(h:p:=by (exact Exists.intro _ ⟨_,_,(by unfold qW;dsimp only;(repeat' split)<;>first|rfl| (exfalso;omega)| (exfalso;simp_all;done)| (exfalso;simp_all;omega)),J,h⟩)):p:=h
theorem aep{st:Nat}{x0 x1 x2 x3 x4 x5 x6:Value}{v a b:Nat}{none:Bool}(h:H r w ((af st [x0,x1,x2,x3,x4,x5,x6,R a,R b,R c] 101)::F))(hv:1<=v)(k4:v<=1099511627776)(ha:1<=a)(A6:a<=1099511627776):Calls PP 38 #[.pointer (some ⟨st,0,Option.none⟩),.int .i64 (v:Int),.bool none] w λe w'=> ∃a' b' c',qW v none a b c=(a',b',c')/\e= .returned (R a')/\H r w' ((af st [x0,x1,x2,x3,x4,x5,x6,R a',R b',R c'] 101)::F):=by
 refine mW Tryz.func38 Tryz.ntmps38 [6] ?_;refine V 10 ?_;refine an J ?_ ?_<;>intro sF
 refine a9 (bL h [0,4,8,12,16,20,24,32,36,40,44,29,49,52,56,60,67] ?_);intro w h;refine av 13 ?_;refine aw J (wg (Lp _ _ _) J J J) ?_;refine av 2 ?_;refine Lo J h J J J J (by first|decide|simp|omega) J ?_;intro w h;(try dsimp only[cT,List.set]at h);refine cm ?_;refine V 7 ?_;exact WJ
 refine V 12 ?_;refine eA J ?_ ?_<;>intro sJ
 refine V 10 ?_;refine ah (iK [_,_,_] h J ⟨J,J,J,trivial⟩ J) (eh h J ?_);intro bz8 w h;refine b7 ?_;intro w h;refine V 12 ?_;refine an J ?_ ?_<;>intro nV
 refine V 8 ?_;exact IB
 refine V 5 ?_;refine an J ?_ ?_<;>intro aeq
 refine V 8 ?_;exact IB
 refine V 5 ?_;refine an J ?_ ?_<;>intro Fk
 refine V 9 ?_;exact IB
 refine V 11 ?_;replace h:=h.tail;(try dsimp only[dB]at h);exact WJ
 refine V 6 ?_;refine ah (iK [_,_,_] h J ⟨J,J,J,trivial⟩ J) (eh h J ?_);intro bz8 w h;refine b7 ?_;intro w h;refine V 12 ?_;refine an J ?_ ?_<;>intro nV
 refine V 8 ?_;exact IB
 refine V 5 ?_;refine an J ?_ ?_<;>intro aeq
 refine V 8 ?_;exact IB
 refine V 5 ?_;refine an J ?_ ?_<;>intro Fk
 refine V 9 ?_;exact IB
 refine V 11 ?_;replace h:=h.tail;(try dsimp only[dB]at h);exact WJ
section
variable {i:Nat}
theorem Fl{e:aD}(h:e∈F): ∃F0,F.Perm (e::F0):=by
 obtain⟨s,t,rfl⟩:=List.append_of_mem h;exact⟨s++t,si⟩
theorem cX{b:Nat}(h:(af b l T)∈F): ∃i,Has F b l T i:=by
 obtain⟨i,hi,e⟩:=CD h;exact⟨i,⟨by rw[gv hi,e]⟩⟩
theorem WK{α:Type}(f:α->List Value)(s:Nat)(hf: ∀x,(f x).length=s): ∀l:List α,(l.flatMap f).length=l.length*s
 | []=>by simp
 |x::l=>by rw[E0,aF,hf,WK f s hf l,ek,vU];omega
theorem LJ{α:Type}(f:α->List Value)(s:Nat)(hf: ∀x,(f x).length=s)(d:α): ∀(l:List α) (i j:Nat),i<l.length->j<s->(l.flatMap f)[i*s+j]? =(f (l.getD i d))[j]?
 |x::l,0,j,_,hj=>by rw[E0,ir (by rw[hf];omega)];simp
 |x::l,i+1,j,hi,hj=>by rw[E0,nN (by rw[hf,vU];omega),hf];have:(i+1)*s+j-s=i*s+j:=(by rw[vU];omega);rw[this,LJ f s hf d l i j (by simpa using hi) hj];simp
theorem WL{α:Type}(f:α->List Value)(s:Nat)(hf: ∀x,(f x).length=s)(d:α)(l:List α)(i:Nat)(hi:i<l.length):Rd (l.flatMap f) (i*s) (f (l.getD i d)):=
 Rd.of λj hj=>LJ f s hf d l i j hi (by rw[<-hf (l.getD i d)];exact hj)
theorem aer(a b:List Value): ∀(vs:List Value) (q:Nat),a.length<=q->cT (a++b) q vs=a++cT b (q-a.length) vs:=by
 intro vs
 induction vs generalizing b with
 |nil=>intro q _;rfl
 | cons v vs ih=>
   intro q hq
   show cT ((a++b).set q v) (q+1) vs=a++cT (b.set (q-a.length) v) (q-a.length+1) vs
   rw[HT _ _ hq,ih _ _ I]
   congr 2;omega
theorem aes: ∀(vs xs b:List Value),vs.length=xs.length-> ∀p:List Value,cT (p++(xs++b)) p.length vs=p++(vs++b)
 | [],[],b,_,p=>rfl
 |v::vs,x::xs,b,h,p=>by show cT ((p++(x::xs++b)).set p.length v) (p.length+1) vs=_;have:(p++(x::xs++b)).set p.length v=(p++[v])++(xs++b):=(by simp);rw[this];have e:=aes vs xs b (by simpa using h) (p++[v]);rw[aF]at e;simpa using e
theorem PW{α:Type}(f:α->List Value)(s:Nat)(hf: ∀x,(f x).length=s)(y:α): ∀(l:List α) (i:Nat),i<l.length->cT (l.flatMap f) (i*s) (f y)=(l.set i y).flatMap f
 |x::l,0,_=>by have:=aes (f y) (f x) (l.flatMap f) (by rw[hf,hf]) [];simpa using this
 |x::l,i+1,hi=>by rw[E0,aer _ _ _ _ (by rw[hf,vU];omega),hf];have:(i+1)*s-s=i*s:=(by rw[vU];omega);rw[this,PW f s hf y l i (by simpa using hi)];simp
structure de where
 sym:Nat
 bits:Nat
 base:Nat
instance :Inhabited de:=⟨⟨0,0,0⟩⟩
def u9(c:de):List Value:=[R c.sym,R c.bits,R c.base]
def fQ(cs:List de):List Value:=cs.flatMap u9
theorem PX(c:de):(u9 c).length=3:=rfl
theorem PY{cs:List de}(hi:i<cs.length):Rd (fQ cs) (i*3) (u9 (cs.getD i default)):=WL u9 3 PX default cs i hi
theorem PZ{cs:List de}{j:Nat}(hi:i<cs.length)(hj:j<3):(fQ cs)[i*3+j]? =(u9 (cs.getD i default))[j]? :=LJ u9 3 PX default cs i j hi hj
variable {r:dQ}{w:World}{F:List aD}{db bb q:Nat}{ad:Option Addr}{D:List UInt8}{len cap:Nat}{T:TT}
theorem sK(h:H r w F)(hm:(af db (D.map u8) T)∈F)(a8:0<len->ad=some ⟨db,q,none⟩)(hq:q+len<=D.length)(hlen:len<=8)(hN:num (aa D q len)<=9223372036854775807):Calls PP 22 #[.slice ad len cap] w λe w'=>e= .returned (R (num (aa D q len)))/\w'=w:=by
 obtain⟨F0,hp⟩:=Fl hm;exact apT (sp:=[]) (F:=F0) (T:=T) (by rw[dP];exact h.perm hp) a8 hq hlen hN
theorem P0{at_:Nat}{bad:Bool}(h:H r w ((af bb [.slice ad len cap,.int .i64 (at_:Int),.bool bad] 167)::F))(hm:(af db (D.map u8) T)∈F)(a8:0<len->ad=some ⟨db,q,none⟩)(hq:q+len<=D.length)(jg:at_<=8*len)(hn:n<=32)(hlen:len<=281474976710656):Calls PP 73 #[aW bb,.int .i64 (n:Int)] w λe w'=> ∃v at' Db,fM (num (aa D q len)) len at_ bad n=(v,at',Db)/\e= .returned (.int .i64 (v:Int))/\H r w' ((af bb [.slice ad len cap,.int .i64 (at':Int),.bool Db] 167)::F):=by
 obtain⟨F0,hp⟩:=Fl hm;refine(apJ (h.perm (hp.cons _)) a8 hq jg hn hlen).mono ?_;rintro e w' ⟨v,a,b,W,h2,h3⟩;exact⟨v,a,b,W,h2,h3.perm (hp.cons _).symm⟩
theorem Fm{left:Int}(h:H r w ((af bb [.slice ad len cap,.int .i64 left] 155)::F))(hm:(af db (D.map u8) T)∈F)(a8:0<len->ad=some ⟨db,q,none⟩)(hq:q+len<=D.length)(hl:left<=8*len)(kY: -1000000000000<=left)(hn:n<=32)(hlen:len<=281474976710656):Calls PP 65 #[aW bb,.int .i64 (n:Int)] w λe w'=>e= .returned (R (dS (num (aa D q len)) left n))/\H r w' ((af bb [.slice ad len cap,.int .i64 (left-n)] 155)::F):=by
 obtain⟨F0,hp⟩:=Fl hm;refine(apL (h.perm (hp.cons _)) a8 hq hl kY hn hlen).mono ?_;rintro e w' ⟨W,h2⟩;exact⟨W,h2.perm (hp.cons _).symm⟩
theorem apY(h:H r w F)(hm:(af db (D.map u8++sp) T)∈F)(a8:0<len->ad=some ⟨db,q,none⟩)(hq:q+len<=D.length)(jt:len<=cap)(hlen:len<=140737488355328):Calls PP 21 #[.slice ad len cap] w λe w'=>e= .returned (cy (lD (aa D q len)))/\H r w' F:=by
 obtain⟨F0,hp⟩:=Fl hm;refine(apU (h.perm hp) a8 hq jt hlen).mono ?_;rintro e w' ⟨W,h2⟩;exact⟨W,h2.perm hp.symm⟩
end
end Go.Z
namespace Go.Z
variable {shares:List Int}{k log:Nat}
def pos(size k:Nat):Nat:=k*(size/2+size/8+3) % size
theorem LK(size k:Nat):pos size (k+1)=(pos size k+size/2+size/8+3) % size:=by
 unfold pos;generalize hs:size/2+size/8+3=s;have e:k*s % size+size/2+size/8+3=k*s % size+s:=I;rw[e,Nat.mod_add_mod,vU]
theorem LL(size:Nat):pos size 0=0:=by simp[pos]
theorem WM(size:Nat):pos size size=0:=by simp[pos]
theorem u_{size k:Nat}(h:0<size):pos size k<size:=dH _ h
theorem apZ(h:5<=log/\log<=9):log=5\/log=6\/log=7\/log=8\/log=9:=I
def P6:Nat->Nat
 |5=>7
 |6=>3
 |7=>91
 |8=>11
 |_=>363
theorem aet(h:5<=log/\log<=9):(2^log/2+2^log/8+3)*P6 log % 2^log=1:=by
 rcases apZ h with rfl|rfl|rfl|rfl|rfl<;>decide
theorem aeu(h:5<=log/\log<=9)(hk:k<2^log):pos (2^log) k*P6 log % 2^log=k:=by
 unfold pos;rw[Nat.mod_mul_mod,tg,Nat.mul_mod,aet h,eC,Nat.mod_mod,mw hk]
theorem P7{k':Nat}(h:5<=log/\log<=9)(hk:k<2^log)(rA:k'<2^log)(e:pos (2^log) k=pos (2^log) k'):k=k':=by
 have W:=aeu h hk;rw[e,aeu h rA]at W;exact W.symm
theorem WN{x:Nat}(h:5<=log/\log<=9)(hx:x<2^log): ∃k,k<2^log/\pos (2^log) k=x:=by
 refine⟨x*P6 log % 2^log,dH _ (ep _),?_⟩;unfold pos;rw[Nat.mod_mul_mod,tg,iu (P6 log),Nat.mul_mod,aet h,eC,Nat.mod_mod,mw hx]
def iQ(size high:Nat):Nat->Nat
 |0=>0
 |k+1=>iQ size high k+(if pos size k<high then 1 else 0)
theorem LM{size high:Nat}: ∀{k k':Nat},k<=k'->iQ size high k<=iQ size high k'
 | k, 0, h => by have:k=0:=I; subst this;exact aR _
 | k,k'+1,h=>by
   rcases dh k' k with h'|h'
   . have:k=k'+1:=I
     subst this;exact aR _
   . exact aI (LM h') (by simp[iQ])
theorem aev(size high:Nat): ∀k,iQ size high k=(List.range k).countP (λi=>decide (pos size i<high))
 |0=>rfl
 |k+1=>by rw[pU,OV,<-aev size high k];simp[iQ,OW]
theorem aew: ∀(n m:Nat),m<=n->(List.range n).countP (λi=>decide (i<m))=m
 | 0, m, h => by have:m=0:=I; subst this;rfl
 | n+1,m,h=>by
   rw[pU,OV]
   rcases dh n m with h'|h'
   . have e:m=n+1:=I
     subst e
     have:(List.range n).countP (λi=>decide (i<n+1))=(List.range n).length:=List.countP_eq_length.2 (λa ha=>by have:=oX.1 ha;simp;omega)
     rw[this];simp[OW]
   . rw[aew n m h'];simp[OW];omega
theorem aex(h:5<=log/\log<=9):((List.range (2^log)).map (pos (2^log))).Perm (List.range (2^log)):=by
 refine(List.perm_ext_iff_of_nodup ?_ Vp).2 λa=>?_
 rw[List.nodup_iff_pairwise_ne,List.pairwise_map];refine List.Pairwise.imp_of_mem ?_ (List.nodup_iff_pairwise_ne.1 Vp);intro a b ha hb bY e;exact bY (P7 h (oX.1 ha) (oX.1 hb) e)
 rw[jd,oX];constructor
 rintro⟨k,_,rfl⟩;exact u_ (ep _)
 intro ha;obtain⟨k,hk,e⟩:=WN h ha;exact⟨k,oX.2 hk,e⟩
theorem LN{high:Nat}(h:5<=log/\log<=9)(hh:high<=2^log):iQ (2^log) high (2^log)=high:=by
 rw[aev];have:=(aex h).countP_eq (λi=>decide (i<high));rw[aew _ _ hh,OX]at this;exact this
def neg(shares:List Int):Nat->Nat
 |0=>0
 |i+1=>neg shares i+(if shares.getD i 0= -1 then 1 else 0)
def eU(shares:List Int):Nat->List Nat
 |0=> []
 |i+1=>eU shares i++List.replicate (shares.getD i 0).toNat i
theorem WO(shares:List Int){i j:Nat}(h:i<=j): ∃l,eU shares j=eU shares i++l:=by
 induction j with
 | zero => have:i=0:=I; subst this;exact⟨[],by simp⟩
 | succ j ih=>
   rcases dh j i with h'|h'
   . have:i=j+1:=I
     subst this;exact⟨[],by simp⟩
   . obtain⟨l,hl⟩:=ih h'
     exact⟨l++List.replicate (shares.getD j 0).toNat j,by rw[eU,hl,cF]⟩
theorem aey{i j t:Nat}(h:i<j)(ht:t<(shares.getD i 0).toNat):(eU shares j)[(eU shares i).length+t]? =some i:=by
 obtain⟨l,hl⟩:=WO shares (show i+1<=j from h);rw[hl,eU,cF,nN I,ir (by rw[dR];omega)];rw[uM,ai I]
theorem aez{shares:List Int}: ∀{i s:Nat},s∈eU shares i->s<i/\0<shares.getD s 0
 | i+1,s,h=>by
  rw[eU,nL]at h;rcases h with h|h
  have:=aez h;exact⟨I,this.2⟩
  rw[OY]at h;obtain⟨W,rfl⟩:=h;exact⟨I,I⟩
theorem zq{shares:List Int}: ∀{i j:Nat},i<=j->neg shares i<=neg shares j
 | i, 0, h => by have:i=0:=I; subst this;exact aR _
 | i,j+1,h=>by
   rcases dh j i with h'|h'
   . have:i=j+1:=I
     subst this;exact aR _
   . exact aI (zq h') (by simp[neg])
structure gW(shares:List Int)(log:Nat):Prop where
 lZ:5<=log/\log<=9
 len:shares.length<=256
 lo: ∀i,-1<=shares.getD i 0
 hi: ∀i,shares.getD i 0<=2^log
 sum:(eU shares shares.length).length+neg shares shares.length=2^log
def top(size log:Nat)(shares:List Int)(cs:List de):Nat->List de
 |0=>cs
 |i+1=>if shares.getD i 0= -1 then(top size log shares cs i).set (size-neg shares (i+1)) ⟨i,log,0⟩else top size log shares cs i
theorem yg(size log:Nat)(shares:List Int)(cs:List de)(i:Nat):(top size log shares cs i).length=cs.length:=by
 induction i with
 |zero=>rfl
 |succ i ih=>rw[top];split<;>simp[ih]
theorem WQ{size log:Nat}{shares:List Int}{cs:List de}: ∀{i x:Nat},x<size-neg shares i->(top size log shares cs i).getD x default=cs.getD x default
 |0,x,_=>rfl
 | i+1,x,h=>by
  have h0:= @zq shares i (i+1) I;rw[top];split
  rw[bS,Az I,<-bS,WQ I]
  exact WQ I
def kD(size high:Nat)(ex:List Nat)(cs:List de):Nat->List de
 |0=>cs
 |k+1=>if pos size k<high then(kD size high ex cs k).set (pos size k) {(kD size high ex cs k).getD (pos size k) default with sym:=ex.getD (iQ size high k) 0}else kD size high ex cs k
theorem LO(size high:Nat)(ex:List Nat)(cs:List de)(k:Nat):(kD size high ex cs k).length=cs.length:=by
 induction k with
 |zero=>rfl
 |succ k ih=>rw[kD];split<;>simp[ih]
theorem WR{size high:Nat}{ex:List Nat}{cs:List de}: ∀{k k':Nat},k<=k'->iQ size high k=iQ size high k'->kD size high ex cs k'=kD size high ex cs k
 | k, 0, h, _ => by have:k=0:=I; subst this;rfl
 | k,k'+1,h,e=>by
   rcases dh k' k with h'|h'
   . have:k=k'+1:=I
     subst this;rfl
   . have W:= @LM size high _ _ h'
     rw[iQ]at e
     have h2: ¬pos size k'<high:=by
       intro hp;rw[ai hp]at e;omega
     rw[ag h2]at e
     rw[kD,ag h2,WR h' I]
theorem LP{size high:Nat}{ex:List Nat}{cs:List de}: ∀{k x:Nat},high<=x->(kD size high ex cs k).getD x default=cs.getD x default
 |0,x,_=>rfl
 | k+1,x,h=>by
  rw[kD];split
  rw[bS,Az I,<-bS,LP h]
  exact LP h
theorem eE{α:Type}(l:List α)(i j:Nat)(v d:α):(l.set i v).getD j d=if i=j/\i<l.length then v else l.getD j d:=by
 simp only[bS,uK];by_cases h:i=j
 subst h;by_cases h2:i<l.length
 simp[h2]
 simp[h2]
 simp[h]
theorem aeA{log high:Nat}{ex:List Nat}{cs:List de}(h:5<=log/\log<=9)(hc:cs.length=2^log)(hh:high<=2^log): ∀{k x:Nat},x<high->(∃k',k'<k/\pos (2^log) k'=x)->k<=2^log->
   ∃j,j<iQ (2^log) high k/\(kD (2^log) high ex cs k).getD x default={cs.getD x default with sym:=ex.getD j 0}
 |0,x,_,⟨k',W,_⟩,_=>by omega
 | k+1,x,hx,⟨k',W,e⟩,hk=>by
   rw[kD,iQ]
   by_cases dA:k'=k
   . subst dA
     rw[ai I,ai I,e,eE,ai ⟨J,by rw[LO];omega⟩]
     refine⟨iQ (2^log) high k',I,?_⟩
     have hb:(kD (2^log) high ex cs k').getD x default=cs.getD x default:=by
       have: ∀m,m<=k'->(kD (2^log) high ex cs m).getD x default=cs.getD x default:=by
         intro m
         induction m with
         |zero=>intro _;rfl
         | succ m ih=>
           intro hm
           rw[kD];split
           . rw[eE,ag,ih I]
             rintro⟨e2,_⟩
             have:=P7 h (k:=m) (k':=k') I I (by rw[e2,e])
             omega
           . exact ih I
       exact this k' (aR _)
     rw[hb]
   . obtain⟨j,hj,e3⟩:=aeA h hc hh (k:=k) (ex:=ex) (cs:=cs) hx ⟨k',I,e⟩ I
     by_cases hp:pos (2^log) k<high
     . rw[ai hp,ai hp,eE,ag]
       . exact⟨j,I,e3⟩
       . rintro⟨e2,_⟩
         exact dA (P7 h I I (by rw[e,e2]))
     . rw[ag hp,ag hp];exact⟨j,I,e3⟩
def gK(log n:Nat):Nat:=log-n.log2
def fin(log:Nat)(shares:List Int)(cs:List de):Nat->List Int×List de
 |0=>(shares,cs)
 | i+1=>
   let x:=fin log shares cs i
   let c:=x.2.getD i default
   let n:=x.1.getD c.sym 0
   (x.1.set c.sym (n+1),x.2.set i ⟨c.sym,gK log n.toNat,n.toNat*2^gK log n.toNat-2^log⟩)
def high(shares:List Int)(log:Nat):Nat:=2^log-neg shares shares.length
def spread(shares:List Int)(log:Nat):List de:=
 kD (2^log) (high shares log) (eU shares shares.length) (top (2^log) log shares (List.replicate (2^log) default) shares.length) (2^log)
def cY(shares:List Int)(log:Nat):List de:=(fin log shares (spread shares log) (high shares log)).2
theorem zr(log:Nat)(shares:List Int)(cs:List de): ∀i,(fin log shares cs i).1.length=shares.length/\(fin log shares cs i).2.length=cs.length
 |0=>⟨J,J⟩
 |i+1=>by simp[fin,zr log shares cs i]
theorem zt{log:Nat}{shares:List Int}{cs:List de}: ∀{i x:Nat},i<=x->(fin log shares cs i).2.getD x default=cs.getD x default
 |0,x,_=>rfl
 |i+1,x,h=>by rw[fin];simp only;rw[eE,ag I,zt I]
theorem WS{log:Nat}{shares:List Int}{cs:List de}(s:Nat): ∀(i:Nat),shares.getD s 0<=(fin log shares cs i).1.getD s 0/\(fin log shares cs i).1.getD s 0<=shares.getD s 0+i
 |0=>by simp[fin]
 | i+1=>by
  have ih:=WS (log:=log) (shares:=shares) (cs:=cs) s i;rw[fin];simp only;rw[eE];split
  rename_i e;rw[e.1];omega
  omega
theorem gW.IC(h:gW shares log):0<shares.length:=by
 rcases nO shares.length with e|e
 have:=h.sum;rw[e]at this;have W:=ep log;simp only[eU,neg,fE]at this;omega
 exact e
theorem LQ(shares:List Int)(log:Nat):(spread shares log).length=2^log:=by rw[spread,LO,yg];simp
theorem zu(shares:List Int)(log:Nat):(cY shares log).length=2^log:=by rw[cY,(zr _ _ _ _).2,LQ]
theorem gW.P8(h:gW shares log):high shares log=(eU shares shares.length).length:=by
 have:=h.sum;unfold high;omega
theorem gW.wz(_:gW shares log):high shares log<=2^log:=vV _ _
theorem ID(h:gW shares log){x:Nat}(hx:x<high shares log): ∃s,(spread shares log).getD x default=⟨s,0,0⟩/\s<shares.length/\1<=shares.getD s 0:=by
 obtain⟨k,hk,e⟩:=WN h.lZ (show x<2^log from ry hx h.wz);obtain⟨j,hj,e2⟩:=aeA (ex:=eU shares shares.length) (cs:=top (2^log) log shares (List.replicate (2^log) default) shares.length) h.lZ (by rw[yg];simp) h.wz hx ⟨k,hk,e⟩ (aR _);rw[LN h.lZ h.wz,h.P8]at hj;have hm:=za hj;have:=aez hm;refine⟨_,?_,this.1,this.2⟩;rw[spread,e2,WQ (by unfold high at hx;exact hx)];have:(List.replicate (2^log) (default:de)).getD x default=default:=(by rw[bS,uM];split<;>rfl);rw[this];simp[hj];exact⟨J,J⟩
end Go.Z
namespace Go.Z
open Go Go.Proofs
variable {F:List aD}{cap db n q x:Nat}{ad:Option Addr}{r:dQ}{T:TT}{w:World}
def zw(E:List UInt8):Nat:=(E.getD (E.length-1) 0).toNat
def iV(E:List UInt8):Option Nat:=if E.length=0\/zw E=0 then none else some (8*(E.length-1)+(zw E).log2)
theorem aeB:x/2^n=0↔x<2^n:=by
 rw[Nat.div_eq_zero_iff];have:=ep n;omega
theorem WT(W:x<2^(n+1))(h2: ¬x<2^n):x.log2=n:=by
 have h0:x≠0:=(by have:=ep n;omega);exact(Vq h0).2 ⟨I,W⟩
theorem aeC{D:List UInt8}{len:Nat}{sp:List Value}(h:H r w F)(hm:(af db (D.map u8++sp) T)∈F)(a8:0<len->ad=some ⟨db,q,none⟩)(hq:q+len<=D.length)(jt:len<=cap)(hlen:len<=140737488355328):Calls PP 15 #[.slice ad len cap] w λe w'=>e= .returned (aZ (lD (aa D q len) % 4294967296))/\H r w' F:=by
 obtain⟨vd,ve⟩:=cX hm;refine gD Tryz.func15 Tryz.ntmps15 [2] ?_;refine V 7 ?_;refine dJ J J (aA (apY h hm a8 hq jt hlen) ?_);rintro e w1 ⟨rfl,h⟩;refine ah (CL J J) ?_;refine V 3 ?_;exact⟨J,h⟩
theorem aeD{sym:Nat}(h:H r w F):Calls PP 56 #[.int .i64 (sym:Int)] w λe w'=> ∃cb,e= .returned (.agg #[cf cb 1 1,R 0])/\H r w' ((af cb (fQ [⟨sym,0,0⟩]) 126)::F):=by
 refine CW (P:=PP) Tryz.func56 7 Tryz.ntmps56 2 124 [] J J (args:=[_]) J (a9 (eS (eh h J ?_)));intro bt w h;refine V 4 ?_;refine ah (Fe (apc _) J) (kX J (apC _ _ _) h ?_);intro bc w h;refine ah (zm (v1:=R 0) (adq _ _ _ _) J J) (b7 ?_);intro w h;refine aC (iG (⟨_,qQ [_,_] h J ⟨J,J,trivial⟩ J,?_⟩));exact⟨bc,J,(h.mv 1).tail⟩
theorem ap0{D:List UInt8}{len:Nat}(h:H r w F)(hm:(af db (D.map u8) T)∈F)(a8:0<len->ad=some ⟨db,q,none⟩)(hq:q+len<=D.length)(hlen:len<=140737488355328):Calls PP 64 #[.slice ad len cap] w λe w'=>(iV (aa D q len)=none->e= .returned (.tuple #[.pointer none,.bool false])/\H r w' F)/\(∀left,iV (aa D q len)=some left-> ∃bb,e= .returned (.tuple #[aW bb,.bool true])/\H r w' ((af bb [.slice ad len cap,R left] 155)::F)):=by
 obtain⟨vd,ve⟩:=cX hm;have dK:=dx hq;have oO:0<len->zw (aa D q len)=(D.getD (q+(len-1)) 0).toNat:=(by intro h0;rw[zw,dK,kN I]);refine gD Tryz.func64 Tryz.ntmps64 [2,3] ?_;refine V 12 ?_;refine d' (t:=8) J (λhg8=>?_) (λhg8=>?_)
 refine V 9 ?_;refine iI J ?_;refine V 6 ?_
 first
   | (refine And.intro (λ_=>And.intro J h) (λleft hl=>?_)
      rw[iV,ai (by first| (left;omega)| (right;rw[oO I];assumption)| (right;rw[oO I];omega))]at hl
      cases hl)
   | (have hb:iV (aa D q len)=some (8*(len-1)+n):=by
        rw[iV,ag (by rw[oO I,dK];omega),oO I,dK,WT gX fW]
      refine⟨(λhn=>?_),(λleft hl=>?_)⟩
      . rw[hb]at hn;cases hn
      . rw[hb]at hl;cases hl
        exact Exists.intro _ ⟨J,h⟩)
 refine V 4 ?_;refine dn J J J (cI J J (a8 I) I) J (dn J J J (run_load h J (gl I)) J ?_);refine V 3 ?_;refine an J ?_ ?_<;>intro WH
 refine V 6 ?_
 first
   | (refine And.intro (λ_=>And.intro J h) (λleft hl=>?_)
      rw[iV,ai (by first| (left;omega)| (right;rw[oO I];assumption)| (right;rw[oO I];omega))]at hl
      cases hl)
   | (have hb:iV (aa D q len)=some (8*(len-1)+n):=by
        rw[iV,ag (by rw[oO I,dK];omega),oO I,dK,WT gX fW]
      refine⟨(λhn=>?_),(λleft hl=>?_)⟩
      . rw[hb]at hn;cases hn
      . rw[hb]at hl;cases hl
        exact Exists.intro _ ⟨J,h⟩)
 refine V 7 ?_;have kY:0<len/\(D.getD (q+(len-1)) 0).toNat≠0:=I;refine bQ (σ:=Nat) [(4,4),(17,27)] (λn ρ w=>Kn ρ [(4,R n)]/\H r w F/\n<=7/\(D.getD (q+(len-1)) 0).toNat<2^(n+1)) (λn=>n) 7 ⟨aq,h,aR _,Vr (toNat_le _) aj⟩ ?_;rintro n ρ w ⟨⟨zi,rfl⟩,h,hn,gX⟩;refine V 7 ?_;refine ah (cI J J (a8 I) I) (aO h J (gl I) ?_);refine V 4 ?_;refine an J ?_ ?_<;>intro wq
 have fW:=aeB.1 wq;have ke:n≠0:=(by intro e;subst e;omega);refine V 7 ?_;exact⟨aM,n-1,I,aq,h,I,(by rw[show n-1+1=n from by omega];exact fW)⟩
 have fW:=λe=>wq (aeB.2 e);refine V 10 ?_;refine ah (zm (apf _ _ _ _) J J) (sB h J J J ?_);intro bb w h;refine V 4 ?_
 first
   | (refine And.intro (λ_=>And.intro J h) (λleft hl=>?_)
      rw[iV,ai (by first| (left;omega)| (right;rw[oO I];assumption)| (right;rw[oO I];omega))]at hl
      cases hl)
   | (have hb:iV (aa D q len)=some (8*(len-1)+n):=by
        rw[iV,ag (by rw[oO I,dK];omega),oO I,dK,WT gX fW]
      refine⟨(λhn=>?_),(λleft hl=>?_)⟩
      . rw[hb]at hn;cases hn
      . rw[hb]at hl;cases hl
        exact Exists.intro _ ⟨J,h⟩)
theorem aeE{D:List UInt8}{len:Nat}{bb cb cl:Nat}{lg:Value}{cs:List de}{left:Int}{i:Nat}(h:H r w ((af bb [.slice ad len cap,.int .i64 left] 155)::F))(hm:(af db (D.map u8) T)∈F)(a8:0<len->ad=some ⟨db,q,none⟩)(hq:q+len<=D.length)(hc:(af cb (fQ cs) 126)∈F)(hl:left<=8*len)(kY: -1000000000000<=left)(hlen:len<=281474976710656)(hi:i<cs.length)(jv:cl=cs.length)(hb:(cs.getD i default).bits<=32)(zx:(cs.getD i default).base<=1099511627776):Calls PP 66 #[.agg #[cf cb cl cl,lg],aW bb,.int .i64 (i:Int)] w λe w'=>e= .returned (R ((cs.getD i default).base+dS (num (aa D q len)) left (cs.getD i default).bits))/\H r w' ((af bb [.slice ad len cap,.int .i64 (left- (cs.getD i default).bits)] 155)::F):=by
 obtain⟨vd,ve⟩:=cX hm;obtain⟨icb,zy⟩:=cX hc;subst jv;have qX:=u6 (num (aa D q len)) left (cs.getD i default).bits;have Wm:=dp (I:0<2) hb;have aGe:2^32=4294967296:=aj;refine mW Tryz.func66 Tryz.ntmps66 [6] ?_;refine a9 (eS (sB h J J J ?_));intro bt w h;refine V 7 ?_;refine ah (ky J J (by first|rfl|assumption|exact sx J I|exact eg J I|exact eg (by assumption) I) I) ?_;refine ah (iK (u9 (cs.getD i default)) h J (PY hi) J) (eh h J ?_);intro bc w h;refine b7 ?_;intro w h;refine aC (a9 (wk h (cL [0,8,12,17] (.fork (cL [5,23,24,28] .nil) (cL [23,5,24,28] .nil))) ?_));intro w h;refine av 4 ?_;refine gg ?_ ?_
 refine av 1 ?_;replace h:=h.zz [2] 0;refine kL J J J J (aA (Fm h (ar (ar hm)) a8 hq hl kY hb hlen) ?_);rintro e w1 ⟨rfl,h⟩;refine av 3 ?_;refine iG ?_;replace h:=h.zz [2,2] 2;exact⟨J,h⟩
 replace h:=h.zz [2] 0;refine kL J J J J (aA (Fm h (ar (ar hm)) a8 hq hl kY hb hlen) ?_);rintro e w1 ⟨rfl,h⟩;refine av 4 ?_;refine iG ?_;replace h:=h.zz [2,2] 2;exact⟨J,h⟩
variable {b:Bool}{N a f symbols:Nat}
def jW(N len at_:Nat)(bad:Bool)(ak:Nat):Nat×Nat×Bool:=
 let g:=ak.log2
 let few:=2^(g+1) -1-ak
 let x:=fM N len at_ bad g
 if x.1<few then x
 else
   let y:=fM N len x.2.1 x.2.2 1
   let v:=if y.1=1 then x.1+2^g else x.1
   (if v>=2^g then v-few else v,y.2)
theorem Dl{len at_ v:Nat}{bad:Bool}(h:fM N len at_ bad n=(v,a,b))(jg:at_<=8*len):a<=8*len/\at_<=a/\(b=false->bad=false/\a=at_+n):=by
 unfold fM at h;split at h
 cases h;exact⟨I,I,λe=>⟨e,J⟩⟩
 cases h;exact⟨jg,aR _,λe=>by cases e⟩
theorem LR{len at_ v:Nat}{bad:Bool}(h:fM N len at_ bad n=(v,a,b)):v<2^n:=by
 unfold fM at h;split at h
 cases h;exact Ff _ _ _
 cases h;exact ep _
theorem ap1{D:List UInt8}{len:Nat}{bb at_ ak:Nat}{bad:Bool}(h:H r w ((af bb [.slice ad len cap,.int .i64 (at_:Int),.bool bad] 167)::F))(hm:(af db (D.map u8) T)∈F)(a8:0<len->ad=some ⟨db,q,none⟩)(hq:q+len<=D.length)(jg:at_<=8*len)(hlen:len<=281474976710656)(jE:1<=ak)(kE:ak<=1048576):Calls PP 74 #[aW bb,.int .i64 (ak:Int)] w λe w'=> ∃v at' Db,jW (num (aa D q len)) len at_ bad ak=(v,at',Db)/\e= .returned (R v)/\H r w' ((af bb [.slice ad len cap,.int .i64 (at':Int),.bool Db] 167)::F)/\at'<=8*len/\at_<=at'/\v<=ak:=by
 obtain⟨g,hg⟩: ∃g,g=ak.log2:=⟨_,J⟩;have fy:2^g<=ak:=(by rw[hg];exact HU I);have jw:ak<2^(g+1):=(by rw[hg];exact zb)
 have Fo:g<=20:=by
  rcases dh 20 g with h'|h'
  have:=dp (I:0<2) h';have e:2^(20+1)=2097152:=aj;omega
  exact h'
 have yc:2^(g+1)=2*2^g:=(by rw[jT];omega);have hg5:2^(g+1-1)=2^g:=rfl;refine gS Tryz.func74 Tryz.ntmps74 [4] ?_;refine V 10 ?_;refine bQ (σ:=Nat) [(5,5),(8,13)] (λn ρ w=>Kn ρ [(5,R n)]/\H r w ((af bb [.slice ad len cap,.int .i64 (at_:Int),.bool bad] 167)::F)/\n<=g+1) (λn=>g+1-n) 0 ⟨aq,h,I⟩ ?_;rintro n ρ w ⟨⟨zi,rfl⟩,h,hn⟩;refine V 8 ?_;refine an J ?_ ?_<;>intro Dm
 have fW:n<=g:=by
  rcases dh g n with h'|h'
  have e:=CB (ry jw (dp (I:0<2) h'));rw[e]at Dm;omega
  exact h'
 refine V 7 ?_;exact⟨aM,n+1,I,aq,h,I⟩
 have fW:n=g+1:=by
  rcases dh n (g+1)with h'|h'
  have e:=dp (I:0<2) (I:n<=g);have:=OZ (aI e fy) (ep n);omega
  omega
 subst fW;refine V 4 ?_;refine ah (dN (a:=1) (W:=ao.lit _) J J (by first|decide| (simp only[IntKind.bits];omega)) k_) ?_;refine V 10 ?_;refine b_ J J J (aA (P0 (at_:=at_) (bad:=bad) (n:=g+1-1) h hm a8 hq I I hlen) ?_);rintro e w1 ⟨v1,a1,b1,jF,rfl,h⟩;have aeF:=Dl jF I;have zA:=LR jF;refine V 9 ?_;refine an J ?_ ?_<;>intro wq
 refine V 6 ?_;refine⟨_,_,_,?_,J,h,I,I,I⟩;unfold jW;dsimp only;have A7:fM (num (aa D q len)) len at_ bad g=(v1,a1,b1):=jF;rw[<-hg,A7];dsimp only
 first
   | (exfalso;omega)
   |rw[ai I]
   | (rw[ag I,lF]
      dsimp only
      first
        | (rw[ai mY,ai I]
           refine b8 (λz=>(z,a2,b2)) ?_;omega)
        | (rw[ai mY,ag I]
           refine b8 (λz=>(z,a2,b2)) ?_;omega)
        | (rw[ag mY,ai I]
           refine b8 (λz=>(z,a2,b2)) ?_;omega)
        | (rw[ag mY,ag I]))
 refine V 5 ?_;refine b_ (v1:=R 1) J J J (aA (P0 (at_:=a1) (bad:=b1) (n:=1) h hm a8 hq I I hlen) ?_);rintro e w1 ⟨v2,a2,b2,lF,rfl,h⟩;have aGf:=Dl lF I;have aGg:=LR lF;refine V 2 ?_;refine an J ?_ ?_<;>intro mY
 refine V 4 ?_;refine ah (dN (a:=1) (W:=ao.lit _) J J (by first|decide| (simp only[IntKind.bits];omega)) k_) ?_;refine V 9 ?_;refine ah (dN (a:=1) (W:=ao.lit _) J J (by first|decide| (simp only[IntKind.bits];omega)) k_) ?_;refine V 2 ?_;refine an J ?_ ?_<;>intro nV
 refine V 12 ?_;refine⟨_,_,_,?_,J,h,I,I,I⟩;unfold jW;dsimp only;have A7:fM (num (aa D q len)) len at_ bad g=(v1,a1,b1):=jF;rw[<-hg,A7];dsimp only
 first
   | (exfalso;omega)
   |rw[ai I]
   | (rw[ag I,lF]
      dsimp only
      first
        | (rw[ai mY,ai I]
           refine b8 (λz=>(z,a2,b2)) ?_;omega)
        | (rw[ai mY,ag I]
           refine b8 (λz=>(z,a2,b2)) ?_;omega)
        | (rw[ag mY,ai I]
           refine b8 (λz=>(z,a2,b2)) ?_;omega)
        | (rw[ag mY,ag I]))
 refine V 7 ?_;refine⟨_,_,_,?_,J,h,I,I,I⟩;unfold jW;dsimp only;have A7:fM (num (aa D q len)) len at_ bad g=(v1,a1,b1):=jF;rw[<-hg,A7];dsimp only
 first
   | (exfalso;omega)
   |rw[ai I]
   | (rw[ag I,lF]
      dsimp only
      first
        | (rw[ai mY,ai I]
           refine b8 (λz=>(z,a2,b2)) ?_;omega)
        | (rw[ai mY,ag I]
           refine b8 (λz=>(z,a2,b2)) ?_;omega)
        | (rw[ag mY,ai I]
           refine b8 (λz=>(z,a2,b2)) ?_;omega)
        | (rw[ag mY,ag I]))
 refine V 7 ?_;refine ah (dN (a:=1) (W:=ao.lit _) J J (by first|decide| (simp only[IntKind.bits];omega)) k_) ?_;refine V 2 ?_;refine an J ?_ ?_<;>intro nV
 refine V 12 ?_;refine⟨_,_,_,?_,J,h,I,I,I⟩;unfold jW;dsimp only;have A7:fM (num (aa D q len)) len at_ bad g=(v1,a1,b1):=jF;rw[<-hg,A7];dsimp only
 first
   | (exfalso;omega)
   |rw[ai I]
   | (rw[ag I,lF]
      dsimp only
      first
        | (rw[ai mY,ai I]
           refine b8 (λz=>(z,a2,b2)) ?_;omega)
        | (rw[ai mY,ag I]
           refine b8 (λz=>(z,a2,b2)) ?_;omega)
        | (rw[ag mY,ai I]
           refine b8 (λz=>(z,a2,b2)) ?_;omega)
        | (rw[ag mY,ag I]))
 refine V 7 ?_;refine⟨_,_,_,?_,J,h,I,I,I⟩;unfold jW;dsimp only;have A7:fM (num (aa D q len)) len at_ bad g=(v1,a1,b1):=jF;rw[<-hg,A7];dsimp only
 first
   | (exfalso;omega)
   |rw[ai I]
   | (rw[ag I,lF]
      dsimp only
      first
        | (rw[ai mY,ai I]
           refine b8 (λz=>(z,a2,b2)) ?_;omega)
        | (rw[ai mY,ag I]
           refine b8 (λz=>(z,a2,b2)) ?_;omega)
        | (rw[ag mY,ai I]
           refine b8 (λz=>(z,a2,b2)) ?_;omega)
        | (rw[ag mY,ag I]))
def ns(N len symbols:Nat):Nat->List Int->Nat->Option (List Int×Nat)
 |0,_,_=>none
 | f+1,out,a=>
   let x:=fM N len a false 2
   let zB:=out++List.replicate x.1 0
   if x.2.2=true\/symbols<zB.length then none
   else if x.1<3 then some (zB,x.2.1)else ns N len symbols f zB x.2.1
def gh(N len symbols:Nat):Nat->Nat->List Int->Nat->Option (List Int×Nat)
 |0,_,_,_=>none
 | f+1,left,out,a=>
   if left=0 then some (out,a)
   else
     let x:=jW N len a false (left+1)
     if x.2.2=true\/symbols<=out.length then none
     else
       let zB:=out++[(x.1:Int) -1]
       let Fp:=if x.1=0 then left-1 else left- (x.1-1)
       if x.1=1 then
         (ns N len symbols (symbols+1) zB x.2.1).bind λy=>gh N len symbols f Fp y.1 y.2
       else gh N len symbols f Fp zB x.2.1
def ft(N len lG symbols:Nat):Option (List Int×Nat×Nat):=
 let x:=fM N len 0 false 4
 if x.2.2=true\/lG<x.1+5 then none
 else
   match gh N len symbols (symbols+1) (2^(x.1+5)) [] x.2.1 with
   |none=>none
   |some y=>some (y.1,x.1+5,(y.2+7)/8)
def bG(ob:Option Nat)(nn c:Nat)(xs sp:List Value)(size:Nat):Prop:=xs.length=nn*size/\(xs++sp).length=c*size/\nn<=c/\(ob=none->c=0)
theorem wB{len left:Nat}{out:List Int}(hl:left≠0){v a1:Nat}{b1:Bool}(hv:jW N len a false (left+1)=(v,a1,b1)):gh N len symbols (f+1) left out a=if b1=true\/symbols<=out.length then none else if v=1 then(ns N len symbols (symbols+1) (out++[(v:Int) -1]) a1).bind λy=>gh N len symbols f (if v=0 then left-1 else left- (v-1)) y.1 y.2 else gh N len symbols f (if v=0 then left-1 else left- (v-1)) (out++[(v:Int) -1]) a1:=by
 (conv=>lhs;unfold gh);rw[ag hl,hv]
theorem sL{len:Nat}{out:List Int}{v a1:Nat}{b1:Bool}(hv:fM N len a false 2=(v,a1,b1)):ns N len symbols (f+1) out a=if b1=true\/symbols<(out++List.replicate v 0).length then none else if v<3 then some (out++List.replicate v 0,a1)else ns N len symbols f (out++List.replicate v 0) a1:=by
 (conv=>lhs;unfold ns);rw[hv]
theorem bG.nil{size:Nat}:bG none 0 0 [] [] size:=⟨by simp,by simp,aR _,λ_=>rfl⟩
theorem aeG(l:List Int)(p:Int):List.map i64 l++[i64 p]=List.map i64 (l++[p]):=by simp
theorem ap2{left v:Nat}(hl:1<=left)(hv:v<=left+1):(left:Int) -max ((v:Int) -1) (-((v:Int) -1))=((if v=0 then left-1 else left- (v-1):Nat):Int):=by
 by_cases e:v=0
 subst e;rw[ai J];simp;omega
 rw[ag e,Int.max_eq_left I];omega
theorem ap3(left v:Nat):(if v=0 then left-1 else left- (v-1))<=left:=by split<;>omega
theorem ap4{left v:Nat}(hl:1<=left)(hv:v<=left+1): ∃x:Nat,(if v=0 then left-1 else left- (v-1))=x/\(left:Int) -max ((v:Int) -1) (-((v:Int) -1))=(x:Int)/\x<=left:=
 ⟨_,J,ap2 hl hv,ap3 _ _⟩
theorem ap5(l:List Int)(i:Nat):l++List.replicate i 0++[(0:Int)]=l++List.replicate (i+1) 0:=by
 rw[cF,CE]
theorem ap6{D:List UInt8}{len:Nat}{lG:Nat}(h:H r w F)(hm:(af db (D.map u8) T)∈F)(a8:0<len->ad=some ⟨db,q,none⟩)(hq:q+len<=D.length)(hlen:len<=281474976710656)(lH:lG<=9)(kF:symbols<=256):Calls PP 63 #[.slice ad len cap,.int .i64 (lG:Int),.int .i64 (symbols:Int)] w λe w'=>(ft (num (aa D q len)) len lG symbols=none->e= .returned (.tuple #[.slice none 0 0,R 0,R 0,.bool false])/\H r w' F)/\(∀out log size,ft (num (aa D q len)) len lG symbols=some (out,log,size)-> ∃ob c sp,e= .returned (.tuple #[.slice (aB ob) out.length c,R log,R size,.bool true])/\bG ob out.length c (List.map i64 out) sp 1/\H r w' ((ob,C (List.map i64 out++sp) 3)::F)):=by
 refine mW Tryz.func63 Tryz.ntmps63 [6,7,8,9] ?_;refine V 10 ?_;refine ah (Fe (aph _ _ _) J) (sB h J J J ?_);intro bb w h;refine V 5 ?_;refine b_ (v1:=R 4) J J J (aA (P0 (at_:=0) (bad:=false) (n:=4) h hm a8 hq I I hlen) ?_);rintro e w1 ⟨v1,a1,b1,jF,rfl,h⟩;have aeF:=Dl jF I;have zA:=LR jF;refine V 11 ?_;refine we (t:=27) J (λye=>?_) (λye=>?_)
 refine V 5 ?_;refine iI J ?_;refine V 8 ?_;refine And.intro (λ_=>And.intro J (by first|exact h|exact h.tail|exact h.tail.tail)) (λo l s hp=>?_);rw[show ft (num (aa D q len)) len lG symbols=none from by unfold ft;dsimp only;rw[jF,ai (Or.inl ye)]]at hp;cases hp
 refine V 5 ?_;refine an J ?_ ?_<;>intro sJ
 refine V 8 ?_;refine And.intro (λ_=>And.intro J (by first|exact h|exact h.tail|exact h.tail.tail)) (λo l s hp=>?_);rw[show ft (num (aa D q len)) len lG symbols=none from by unfold ft;dsimp only;rw[jF,ai (Or.inr sJ)]]at hp;cases hp
 subst ye;have LS:2^(v1+5)<=2^9:=dp I I;have e9:2^9=512:=aj;refine V 8 ?_;refine ah (dN (a:=1) (W:=ao.lit _) J J dw az) ?_;refine V 4 ?_;obtain⟨Z9,mA⟩: ∃Z9,gh (num (aa D q len)) len symbols (symbols+1) (2^(v1+5)) [] a1=Z9:=⟨_,J⟩;have Fq:ft (num (aa D q len)) len lG symbols=Z9.map (λy=>(y.1,v1+5,(y.2+7)/8)):=(by unfold ft;dsimp only;rw[jF,ag (by simp;omega)];dsimp only;rw[mA];cases Z9<;>rfl);replace h:=(h.ghost (C (List.map i64 []++[]) 3)).mv 1;dsimp only[dB]at h;refine bQ (σ:=Nat×Nat×List Int×Nat×Option Nat×Nat×List Value) [(6,9),(12,16),(34,86)] (λ⟨f,left,out,a,ob,c,sp⟩ ρ w=>Kn ρ [(13,R left),(12,.slice (aB ob) out.length c)]/\H r w ((af bb [.slice ad len cap,R a,.bool false] 167)::(ob,C (List.map i64 (out)++sp) 3)::F)/\bG ob out.length c (List.map i64 out) sp 1/\left<=512/\out.length<=symbols/\a<=8*len/\symbols+1-out.length<=f/\gh (num (aa D q len)) len symbols f left out a=Z9) (λ⟨f,left,out,a,ob,c,sp⟩=>symbols+1-out.length) (symbols+1,2^(v1+5),[],a1,none,0,[]) ⟨Kn.mk ⟨int_eq (b8 Int.ofNat (rz _)),J,trivial⟩,h,bG.nil,I,bP _,aeF.1,by simp,mA⟩ ?_;rintro⟨f,left,out,a,ob,c,sp⟩ ρ w ⟨⟨zi,rfl⟩,h,fu,jh,zC,ha,hf,hR⟩;refine V 6 ?_;refine an J ?_ ?_<;>intro iP
 obtain⟨f1,rfl⟩: ∃f1,f=f1+1:=⟨f-1,I⟩;refine V 7 ?_;refine b_ J J J (aA (ap1 (at_:=a) (bad:=false) (ak:=left+1) h (ar hm) a8 hq I hlen I I) ?_);rintro e w1 ⟨v2,a2,b2,k4,rfl,h,A6,ha3,hvm⟩;refine V 10 ?_;refine we (t:=44) J (λFt=>?_) (λFt=>?_)
 refine V 6 ?_;refine iI J ?_;refine V 8 ?_;refine And.intro (λ_=>And.intro J (by first|exact h|exact h.tail|exact h.tail.tail)) (λo l s hp=>?_);rw[show ft (num (aa D q len)) len lG symbols=none from by rw[Fq,<-hR,wB I k4,ai (Or.inl Ft)];rfl]at hp;cases hp
 refine V 6 ?_;refine an J ?_ ?_<;>intro A8
 refine V 8 ?_;refine And.intro (λ_=>And.intro J (by first|exact h|exact h.tail|exact h.tail.tail)) (λo l s hp=>?_);rw[show ft (num (aa D q len)) len lG symbols=none from by rw[Fq,<-hR,wB I k4,ai (Or.inr A8)];rfl]at hp;cases hp
 refine V 4 ?_;refine ah (oH J J I I) ?_;refine V 6 ?_;refine kX J (lB _) h ?_;intro bz w h;refine kW (List.map i64 (out)) sp [i64 ((v2:Int) -1)] h 2 J J J fu (Src.slice (j:=0) (q2:=0) J ⟨J,trivial⟩ J) (by intro x hx;simp at hx;subst hx;rfl) I aj J ?_;intro w dy c9 dL h df fG eG;dsimp only[List.set]at h;rw[aeG]at h df;replace h:=h.tail;(try dsimp only[dB]at h);refine V 7 ?_;refine ah (VX J I I) (ah (V8 J J) (ah (oH J J I I) ?_));refine V 6 ?_;refine ah (qL J J) (aC (an J ?_ ?_))<;>intro Fk
 exfalso;omega
 clear Fk;subst Ft;have dE:1<=left:=I;refine(ap4 dE hvm).elim λFp WV=>?_;have ap7:=WV.1;have ap8:=WV.2.1;have aGh:=WV.2.2;have fH:=wB (N:=num (aa D q len)) (len:=len) (symbols:=symbols) (f:=f1) (out:=out) (a:=a) (Nat.ne_of_gt dE) k4;rw[ag (by simp;omega),ap7,hR]at fH;refine aQ (jB [(6,9),(12,12),(16,16),(64,86)] (λρ w=> ∃dM a3 cr c2 cG,Kn ρ [(12,.slice (aB cr) dM.length c2)]/\H r w ((af bb [.slice ad len cap,R a3,.bool false] 167)::(cr,C (List.map i64 (dM)++cG) 3)::F)/\bG cr dM.length c2 (List.map i64 dM) cG 1/\out.length+1<=dM.length/\dM.length<=symbols/\a3<=8*len/\gh (num (aa D q len)) len symbols f1 Fp dM a3=Z9) ?_ ?_)
 refine bQ (σ:=Nat×List Int×Nat×Option Nat×Nat×List Value) [(6,9),(12,12),(16,16),(64,86)] (λ⟨g,dM,a3,cr,c2,cG⟩ ρ w=>Kn ρ [(12,.slice (aB cr) dM.length c2)]/\H r w ((af bb [.slice ad len cap,R a3,.bool false] 167)::(cr,C (List.map i64 (dM)++cG) 3)::F)/\bG cr dM.length c2 (List.map i64 dM) cG 1/\out.length+1<=dM.length/\(dM.length<=symbols)/\a3<=8*len/\symbols+1-dM.length<=g/\(if v2=1 then(ns (num (aa D q len)) len symbols g dM a3).bind (λy=>gh (num (aa D q len)) len symbols f1 Fp y.1 y.2)else gh (num (aa D q len)) len symbols f1 Fp dM a3)=Z9) (λ⟨g,dM,a3,cr,c2,cG⟩=>symbols+1-dM.length) (symbols+1,out++[(v2:Int) -1],a2,dy,c9,dL) ⟨Kn.mk ⟨iJ J (by simp) J,trivial⟩,h,⟨by simp,df,by simpa using fG,eG⟩,by simp,by simp;omega,A6,I,fH.symm⟩ ?_;rintro⟨g,dM,a3,cr,c2,cG⟩ ρ w ⟨⟨lW,rfl⟩,h,sM,IE,IF,P9,hg,fI⟩;refine V 4 ?_;refine ah (Lb J J) (aC (an J ?_ ?_))<;>intro Df
 have P_:v2=1:=I;refine aY (show ∃g1,g=g1+1 from⟨g-1,I⟩) (λg1 fy=>?_);refine V 5 ?_;refine b_ (v1:=R 2) J J J (aA (P0 (at_:=a3) (bad:=false) (n:=2) h (ar hm) a8 hq I I hlen) ?_);rintro e w1 ⟨v4,a4,b4,vf,rfl,h⟩;have aGi:=Dl vf I;have aGj:=LR vf;refine V 9 ?_;refine bQ (σ:=Nat×Option Nat×Nat×List Value) [(12,12),(69,74)] (λ⟨i,mB,c3,pk⟩ ρ w=>Kn ρ [(69,R i),(12,.slice (aB mB) (dM.length+i) c3)]/\H r w ((af bb [.slice ad len cap,R a4,.bool b4] 167)::(mB,C (List.map i64 (dM++List.replicate i 0)++pk) 3)::F)/\bG mB (dM.length+i) c3 (List.map i64 (dM++List.replicate i 0)) pk 1/\i<=v4) (λ⟨i,mB,c3,pk⟩=>v4-i) (0,cr,c2,cG) ⟨aq,by rw[show dM++List.replicate 0 (0:Int)=dM from by simp];exact h,by rw[show dM++List.replicate 0 (0:Int)=dM from by simp];exact sM,bP _⟩ ?_;rintro⟨i,mB,c3,pk⟩ ρ w ⟨⟨PS,rfl⟩,h,Fu,hi⟩;refine V 5 ?_;refine an J ?_ ?_<;>intro Fv
 refine V 5 ?_;refine kX J (lB _) h ?_;intro bz w h;refine kW (List.map i64 (dM++List.replicate i 0)) pk [i64 (0)] h 2 J J J Fu (Src.slice (j:=0) (q2:=0) J ⟨J,trivial⟩ J) (by intro x hx;simp at hx;subst hx;rfl) I aj J ?_;intro w dy c9 dL h df fG eG;dsimp only[List.set]at h;rw[aeG]at h df;replace h:=h.tail;(try dsimp only[dB]at h);refine V 6 ?_;refine⟨aM,?_⟩;rw[ap5]at h df;exact⟨(i+1,dy,c9,dL),cw,aq,h,⟨by simp,df,I,eG⟩,I⟩
 refine V 9 ?_;refine we (t:=79) J (λDn=>?_) (λDn=>?_)
 refine V 6 ?_;refine iI J ?_;refine V 8 ?_;refine And.intro (λ_=>And.intro J (by first|exact h|exact h.tail|exact h.tail.tail)) (λo l s hp=>?_);rw[show ft (num (aa D q len)) len lG symbols=none from by rw[Fq,<-fI,ai I,fy,sL vf,ai (Or.inl Dn)];rfl]at hp;cases hp
 refine V 6 ?_;refine an J ?_ ?_<;>intro WW
 refine V 8 ?_;refine And.intro (λ_=>And.intro J (by first|exact h|exact h.tail|exact h.tail.tail)) (λo l s hp=>?_);rw[show ft (num (aa D q len)) len lG symbols=none from by rw[Fq,<-fI,ai I,fy,sL vf,ai (Or.inr (by simp;omega))];rfl]at hp;cases hp
 refine V 6 ?_;refine an J ?_ ?_<;>intro IG
 refine iy (⟨aM,?_⟩)
 first
   | (have gX: ¬v2=1:=I
      rw[ag gX]at fI
      exact Exists.intro dM ⟨a3,cr,c2,cG,aq,h,sM,IE,IF,P9,fI⟩)
   | (have Dp:i=v4:=I
      rw[Dp]at h Fu
      rw[Dn]at h
      rw[ai P_,fy,sL vf,ag (by simp[Dn];omega),ai IG]at fI
      exact Exists.intro (dM++List.replicate v4 0) ⟨a4,mB,c3,pk,Kn.mk ⟨iJ J (by simp;omega) J,trivial⟩,h,(by rw[aF,dR];exact Fu),(by simp;omega),(by simp;omega),I,fI⟩)
 refine aQ (⟨aM,?_⟩);have Dp:i=v4:=I;rw[Dp]at h Fu;rw[Dn]at h;refine⟨(g1,dM++List.replicate v4 0,a4,mB,c3,pk),(by simp;omega),Kn.mk ⟨iJ J (by simp;omega) J,trivial⟩,h,(by rw[aF,dR];exact Fu),(by simp;omega),(by simp;omega),I,(by simp;omega),?_⟩;rw[ai P_,fy,sL vf,ag (by simp[Dn];omega),ag IG]at fI;rw[ai P_];exact fI
 refine iy (⟨aM,?_⟩)
 first
   | (have gX: ¬v2=1:=I
      rw[ag gX]at fI
      exact Exists.intro dM ⟨a3,cr,c2,cG,aq,h,sM,IE,IF,P9,fI⟩)
   | (have Dp:i=v4:=I
      rw[Dp]at h Fu
      rw[Dn]at h
      rw[ai P_,fy,sL vf,ag (by simp[Dn];omega),ai IG]at fI
      exact Exists.intro (dM++List.replicate v4 0) ⟨a4,mB,c3,pk,Kn.mk ⟨iJ J (by simp;omega) J,trivial⟩,h,(by rw[aF,dR];exact Fu),(by simp;omega),(by simp;omega),I,fI⟩)
 rintro ρ w ⟨dM,a3,cr,c2,cG,⟨PS,rfl⟩,h,sM,IE,IF,P9,fI⟩;refine⟨aM,?_⟩;refine⟨(f1,Fp,dM,a3,cr,c2,cG),cw,Kn.mk ⟨b8 (Value.int .i64) ap8,J,trivial⟩,h,sM,I,IF,P9,I,fI⟩
 refine V 6 ?_;refine dJ J J (aA (apM h I) ?_);rintro e w1 ⟨rfl,h⟩;refine V 6 ?_;have kY:left=0:=I;have P':Z9=some (out,a):=(by rw[<-hR,kY];refine aY (show ∃f1,f=f1+1 from⟨f-1,I⟩) (λf1 p6=>?_);rw[p6];unfold gh;rw[ai J]);rw[P']at Fq;refine⟨(λhn=>?_),(λo l s hp=>?_)⟩
 rw[Fq]at hn;cases hn
 rw[Fq]at hp;simp only[uN,ON,pS]at hp;refine⟨ob,c,sp,?_⟩;rw[<-hp.1,<-hp.2.1,<-hp.2.2];exact⟨J,fu,h.tail⟩
variable {cs:List de}{sp:List Value}{b c i log:Nat}
theorem Qa{D:List Int}(h:i<D.length):(D.map i64++sp)[i]? =some (i64 (D.getD i 0)):=by
 rw[ir (by simpa using h)];exact xO h
theorem aeH{D:List Int}(h:i<D.length)(hn:D.getD i 0=(n:Int)):(D.map i64++sp)[i]? =some (R n):=by
 rw[Qa h,hn]
theorem ap9{D:List Int}(v:Int)(h:i<D.length):(D.map i64++sp).set i (i64 v)=(D.set i v).map i64++sp:=by
 rw[KY _ _ (by simpa using h),jM]
theorem LU{D:List Nat}(h:i<D.length):(D.map R++sp)[i]? =some (R (D.getD i 0)):=by
 rw[ir (by simpa using h)];exact jC h
theorem LV{D:List UInt8}(h:i<D.length):(D.map u8++sp)[i]? =some (u8 (D.getD i 0)):=by
 rw[ir (by simpa using h)];exact gl h
theorem Rd.left(a b:List Value):Rd (a++b) 0 a:=Rd.of λj hj=>by rw[im,ir hj]
theorem ap_(cs:List de):(fQ cs).length=cs.length*3:=WK u9 3 PX cs
theorem Dq(hi:i<cs.length)(h:cs.getD i default=⟨a,b,c⟩):(fQ cs)[i*3+0]? =some (R a):=by rw[PZ hi I,h];rfl
theorem IH(hi:i<cs.length)(h:cs.getD i default=⟨a,b,c⟩):(fQ cs)[i*3+1]? =some (R b):=by rw[PZ hi I,h];rfl
theorem WY(hi:i<cs.length)(h:cs.getD i default=⟨a,b,c⟩):(fQ cs)[i*3+2]? =some (R c):=by rw[PZ hi I,h];rfl
theorem vg{l:List Value}{v:Value}(h:l[q]? =some v):l.set q v=l:=by
 apply oF;intro j;rw[uK];split
 rename_i e;subst e;rw[h,ai (sf.1 h).1]
 rfl
theorem set_set(l:List Value)(q:Nat)(u v:Value):(l.set q u).set q v=l.set q v:=by
 rw[KZ]
theorem Qb(a b c:Nat)(hi:i<cs.length):cT (fQ cs) (i*3) [R a,R b,R c]=fQ (cs.set i ⟨a,b,c⟩):=PW u9 3 PX ⟨a,b,c⟩ cs i hi
theorem ap'(v:Nat)(hi:i<cs.length)(h:cs.getD i default=⟨a,b,c⟩):(fQ cs).set (i*3+0) (R v)=fQ (cs.set i ⟨v,b,c⟩):=by
 rw[<-Qb v b c hi];show _=(((fQ cs).set (i*3) (R v)).set (i*3+1) (R b)).set (i*3+1+1) (R c);rw[vg (q:=i*3+1) (v:=R b),vg (q:=i*3+1+1) (v:=R c)]
 rfl
 rw[Az I];exact WY hi h
 rw[Az I];exact IH hi h
theorem aqa(v:Nat)(hi:i<cs.length)(h:cs.getD i default=⟨a,b,c⟩):(fQ cs).set (i*3+1) (R v)=fQ (cs.set i ⟨a,v,c⟩):=by
 rw[<-Qb a v c hi];show _=(((fQ cs).set (i*3) (R a)).set (i*3+1) (R v)).set (i*3+1+1) (R c);rw[vg (q:=i*3) (v:=R a) (Dq hi h),vg (q:=i*3+1+1) (v:=R c)];rw[Az I];exact WY hi h
theorem aqb(v:Nat)(hi:i<cs.length)(h:cs.getD i default=⟨a,b,c⟩):(fQ cs).set (i*3+2) (R v)=fQ (cs.set i ⟨a,b,v⟩):=by
 rw[<-Qb a b v hi];show _=(((fQ cs).set (i*3) (R a)).set (i*3+1) (R b)).set (i*3+1+1) (R v);rw[vg (q:=i*3) (v:=R a) (Dq hi h),vg (q:=i*3+1) (v:=R b) (IH hi h)]
theorem List.aqc{α:Type}{l:List α}{d v:α}(h:i<l.length)(e:l.getD i d=v):l.set i v=l:=by
 subst e;apply oF;intro j;rw[uK];split
 rename_i e;subst e;simp[h]
 rfl
theorem aqd(n:Nat):dj [R 0,R 0,R 0] n=fQ (List.replicate n default):=by
 induction n with
 |zero=>rfl
 | succ n ih=>
   have W:fQ (List.replicate (n+1) default)=fQ (List.replicate n default)++u9 default:=by
     rw[CE];simp[fQ]
   rw[W,<-ih]
   unfold dj
   have h3:([R 0,R 0,R 0]:List Value).length=3:=rfl
   rw[h3,vU,List.range_add,f_,HV]
   congr 1
   have:List.range 3=[0,1,2]:=rfl
   rw[this]
   simp only[EW,E4,Function.comp]
   have e0:(n*3+0) % 3=0:=I
   have e1:(n*3+1) % 3=1:=I
   have e2:(n*3+2) % 3=2:=I
   rw[e0,e1,e2];rfl
theorem gn{P:Program}{ρ:Env}{T T' ty:TypeId}{x y:Operand}{k k':IntKind}{v:Int}(hx:Env.ev ρ x= .int k ((1:Nat):Int))(hy:Env.ev ρ y= .int k' v) [h2:ao v b](Ib:b<=k.bits)(hb:2^b<=aG k):run P ρ (.binOp .shl T x y T') ty w= .ok (.value (.int k ((2^b:Nat):Int))) w:=by
 have:=dN (P:=P) (ρ:=ρ) (T:=T) (T':=T') (ty:=ty) (w:=w) (x:=x) (y:=y) (a:=1) hx hy Ib I;rw[this,rz]
theorem gy(h:a=b):R a=R b:=by rw[h]
theorem vh(h:n<=9):2^n<=512:=aI (dp I h) aj
theorem WZ(h:5<=n):32<=2^n:=aI aj (dp (I:0<2) h)
theorem aqe(hn:1<=n)(h:n*2^b<2^log):b+1<=gK log n:=by
 have W:=HU (I:n≠0);have h2:2^(n.log2+b)<2^log:=(by rw[ks];exact Vr (sj _ W) h);have h3:=(K0 (I:1<2)).1 h2;unfold gK;omega
theorem aqf(h: ¬n*2^b<2^log)(hb:b<=gK log n):b=gK log n:=by
 have W:= @zb n;unfold gK at*;rcases dh b (log-n.log2)with h2|h2
 . exfalso;apply h
   calc n*2^b<2^(n.log2+1)*2^b:=Nat.mul_lt_mul_of_pos_right W (ep b)
     _=2^(n.log2+1+b):=(ks ..).symm
     _<=2^log:=dp I I
 omega
end Go.Z
namespace Go.Z
variable {N log:Nat}
def wt:List Int->Nat
 | []=>0
 |p::l=>(if p= -1 then 1 else p.toNat)+wt l
theorem Dr: ∀(a b:List Int),wt (a++b)=wt a+wt b
 | [],b=>by simp[wt]
 |p::a,b=>by simp only[List.cons_append,wt,Dr a b];omega
theorem aeI(n:Nat):wt (List.replicate n 0)=0:=by
 induction n with
 |zero=>rfl
 |succ n ih=>rw[HW,wt,ih];decide
theorem aeJ(l:List Int): ∀i,i<=l.length->(eU l i).length+neg l i=wt (l.take i)
 |0,_=>by simp[eU,neg,wt]
 | i+1,h=>by
  have ih:=aeJ l i I;rw[oK l 0 i I,Dr,<-ih];simp only[eU,neg,wt,aF,dR];split
  rename_i e;rw[e];simp;omega
  omega
theorem aeK{len a ak v a1:Nat}{b b1:Bool}(hm:1<=ak)(h:jW N len a b ak=(v,a1,b1)):v<=ak:=by
 obtain⟨g,hg⟩: ∃g,g=ak.log2:=⟨_,J⟩;have fy:2^g<=ak:=(by rw[hg];exact HU I);have jw:ak<2^(g+1):=(by rw[hg];exact zb);have yc:2^(g+1)=2*2^g:=(by rw[jT];omega);unfold jW at h;dsimp only at h;rw[<-hg]at h;rcases hx:fM N len a b g with⟨x,ax,bx⟩;have fO:=LR hx;rw[hx]at h;dsimp only at h;split at h
 cases h;omega
 have e:=b8 Prod.fst h;dsimp only at e;rw[<-e];split<;>split<;>omega
theorem W4{N len symbols:Nat}: ∀{f:Nat} {out cO:List Int} {a a':Nat},ns N len symbols f out a=some (cO,a')-> ∃n,cO=out++List.replicate n 0/\cO.length<=symbols
 | f+1,out,cO,a,a',h=>by
  rcases hv:fM N len a false 2 with⟨v,a1,b1⟩;rw[sL hv]at h;split at h
  cases h
  rename_i hn;split at h
  cases h;exact⟨v,J,I⟩
  obtain⟨n,e1,e2⟩:=W4 h;exact⟨v+n,by rw[e1,cF,HX],e2⟩
theorem W5{N len symbols:Nat}: ∀{f left:Nat} {out cO:List Int} {a a':Nat},gh N len symbols f left out a=some (cO,a')->(∀p∈out,-1<=p)->out.length<=symbols->wt cO=wt out+left/\(∀p∈cO,-1<=p)/\cO.length<=symbols
 | f+1,left,out,cO,a,a',h,hp,hl=>by
  by_cases h0:left=0
  unfold gh at h;rw[ai h0]at h;cases h;subst h0;exact⟨J,hp,hl⟩
  rcases hv:jW N len a false (left+1)with⟨v,a1,b1⟩;rw[wB h0 hv]at h;have hle:=aeK I hv;split at h
  cases h
  rename_i hn
  have LW: ∀p∈out++[(v:Int) -1],-1<=p:=by
   intro p hm;rcases nL.1 hm with hm|hm
   exact hp p hm
   simp at hm;subst hm;omega
  have hw:wt (out++[(v:Int) -1])+(if v=0 then left-1 else left- (v-1))=wt out+left:=(by rw[Dr];simp only[wt];split<;>split<;>omega);split at h
  cases hz:ns N len symbols (symbols+1) (out++[(v:Int) -1]) a1 with
  |none=>rw[hz]at h;cases h
  | some y=>
    rw[hz]at h
    obtain⟨n,e1,e2⟩:=W4 (cO:=y.1) (a':=y.2) hz
    have:=W5 (show gh N len symbols f _ y.1 y.2=some (cO,a')from h) (by
      intro p hm;rw[e1]at hm
      rcases nL.1 hm with hm|hm
      . exact LW p hm
      . rw[OY]at hm;omega) e2
    rw[e1,Dr,aeI]at this
    exact⟨I,this.2⟩
  have:=W5 h LW (by simp;omega);exact⟨I,this.2⟩
theorem aeL: ∀{l:List Int} {i:Nat},l.getD i 0<=wt l
 | [],i=>by simp[wt]
 |p::l,0=>by simp only[AF,wt];split<;>omega
 |p::l,i+1=>by simp only[y',wt];have:= @aeL l i;split<;>omega
theorem gW.of{shares:List Int}(hl:5<=log/\log<=9)(hn:shares.length<=256)(hp: ∀p∈shares,-1<=p)(hw:wt shares=2^log):gW shares log:=by
 have hg: ∀i,-1<=shares.getD i 0:=by
  intro i;rcases dh i shares.length with h|h
  have:shares.getD i 0=shares[i]:=(by simp[h]);rw[this];exact hp _ (za h)
  have:shares.getD i 0=0:=(by simp[h]);omega
 refine⟨hl,hn,hg,λi=>?_,?_⟩
 have:= @aeL shares i;rw[hw]at this;simpa using this
 rw[aeJ shares _ (aR _),K1,hw]
theorem Dt{len lG symbols:Nat}{out:List Int}{size:Nat}(h:ft N len lG symbols=some (out,log,size))(hm:lG<=9)(hs:symbols<=256):gW out log/\log<=lG/\out.length<=symbols:=by
 unfold ft at h;dsimp only at h;rcases hx:fM N len 0 false 4 with⟨v,a,b⟩;rw[hx]at h;dsimp only at h;split at h
 cases h
 rename_i hn
 cases hp:gh N len symbols (symbols+1) (2^(v+5)) [] a with
 |none=>rw[hp]at h;cases h
 | some y=>
   rw[hp]at h;cases h
   have:=W5 (cO:=y.1) (a':=y.2) hp (by simp) (bP _)
   exact⟨gW.of I I this.2.1 (by rw[this.1];simp[wt]),I,this.2.2⟩
def vi(kind:Nat):List Int:=
 if kind=0 then [4,3,2,2,2,2,2,2,2,2,2,2,2,1,1,1,2,2,2,2,2,2,2,2,2,3,2,1,1,1,1,1,-1,-1,-1,-1]
 else if kind=1 then [1,1,1,1,1,1,2,2,2,1,1,1,1,1,1,1,1,1,1,1,1,1,1,1,-1,-1,-1,-1,-1]
 else [1,4,3,2,2,2,2,2,2,1,1,1,1,1,1,1,1,1,1,1,1,1,1,1,1,1,1,1,1,1,1,1,1,1,1,1,1,1,1,1,1,1,1,1,1,1,-1,-1,-1,-1,-1,-1,-1]
def Du(kind:Nat):Nat:=if kind=1 then 5 else 6
theorem II(kind:Nat):gW (vi kind) (Du kind):=by
 unfold vi Du;by_cases h0:kind=0
 rw[ai h0,ag I];exact gW.of I aj aj aj
 by_cases W:kind=1
 rw[ag h0,ai W,ai W];exact gW.of I aj aj aj
 rw[ag h0,ag W,ag W];exact gW.of I aj aj aj
structure Tb where
 cells:List de
 log:Nat
def ji(kind:Nat):Tb:=⟨cY (vi kind) (Du kind),Du kind⟩
def po(s:Nat):Tb:=⟨[⟨s,0,0⟩],0⟩
def byte(E:List UInt8)(i:Nat):Nat:=(E.getD i 0).toNat
def kf(gY:Option Tb)(kind mode:Nat)(E:List UInt8):Option (Tb×Nat):=
 if mode=0 then some (ji kind,0)
 else if mode=1 then(if E.length=0\/(cj kind).1<byte E 0 then none else some (po (byte E 0),1))
 else if mode=2 then(ft (num E) E.length (cj kind).2 ((cj kind).1+1)).map λx=>(⟨cY x.1 x.2.1,x.2.1⟩,x.2.2)
 else gY.map λt=>(t,0)
structure Tr where
 syms:List Nat
 bits:List Nat
 ak:Nat
def fi(N:Nat)(t:Tr)(left:Nat):Nat->Int×List UInt8
 |0=>(left,[])
 | i+1=>
   let x:=fi N t left i
   let k:=dS N x.1 t.ak
   (x.1-t.bits.getD k 0,x.2++[UInt8.ofNat (t.syms.getD k 0)])
theorem A9(N:Nat)(t:Tr)(left:Nat): ∀i,(fi N t left i).2.length=i
 |0=>rfl
 |i+1=>by simp[fi,A9 N t left i]
def gz(E:List UInt8)(t:Tr)(many:Nat):Nat×List UInt8:=
 if E.length=0 then(0,[])
 else match iV E with
   |none=>(2,[])
   |some left=>if(fi (num E) t left many).1≠0 then(0,[])else(1,(fi (num E) t left many).2)
def fP(E:List UInt8)(t:Tr)(many:Nat):Nat->Nat×List UInt8×Nat
 |0=>(1,[],6)
 | i+1=>
   let x:=fP E t many i
   if x.1≠1 then x
   else
     let n:=if i=3 then many-3*((many+3)/4)else(many+3)/4
     let size:=if i=3 then E.length-x.2.2 else num (aa E (2*i) 2)
     if E.length-x.2.2<size then(2,[],0)
     else if n=0 then(0,[],0)
     else
       let y:=gz (aa E x.2.2 size) t n
       if y.1≠1 then(y.1,[],0)else(1,x.2.1++y.2,x.2.2+size)
def gZ(E:List UInt8)(t:Tr)(many:Nat)(four:Bool):Nat×List UInt8:=
 if four=false then gz E t many
 else if many<6 then(0,[])
 else if E.length<6 then(2,[])
 else((fP E t many 4).1,(fP E t many 4).2.1)
theorem LY{E:List UInt8}{t:Tr}{many i:Nat}(h:(fP E t many i).1≠1): ∀{j},i<=j->fP E t many j=fP E t many i
 | 0, hj => by have:i=0:=I; subst this;rfl
 | j+1,hj=>by
   rcases dh j i with h'|h'
   . have:i=j+1:=I
     subst this;rfl
   . have ih:=LY h h'
     rw[fP];dsimp only;rw[ih,ai h]
theorem W6(E:List UInt8)(t:Tr)(many:Nat):((gz E t many).1=0/\(gz E t many).2=[])\/((gz E t many).1=2/\(gz E t many).2=[])\/((gz E t many).1=1/\(gz E t many).2.length=many):=by
 unfold gz;split
 exact .inl ⟨J,J⟩
 split
 exact .inr (.inl ⟨J,J⟩)
 split
 exact .inl ⟨J,J⟩
 exact .inr (.inr ⟨J,A9 _ _ _ _⟩)
end Go.Z
namespace Go.Z
open Go Go.Proofs
theorem Fw{r:dQ}{w:World}{F:List aD}{sb:Nat}{T:TT}{shares:List Int}{sp:List Value}{c log:Nat}(h:H r w F)(hm:(af sb (shares.map i64++sp) T)∈F)(hs:gW shares log)(hc:shares.length<=c):Calls PP 59 #[cf sb shares.length c,R log] w λe w'=> ∃cb,e= .returned (.agg #[cf cb (2^log) (2^log),R log])/\H r w' ((af cb (fQ (cY shares log)) 126)::F):=by
 obtain⟨ix,W7⟩:=cX hm;have h32:=WZ hs.lZ.1;have LZ:=vh hs.lZ.2;have IJ:=hs.lZ;have hlen:=hs.len;have kY:=hs.IC;have W8:=λi (hi:i<=shares.length)=> @zq shares i shares.length hi;have vj:=hs.sum;have zD:=hs.P8;have Qc:=hs.wz;have ig:=LN hs.lZ hs.wz;refine CW (P:=PP) Tryz.func59 128 Tryz.ntmps59 4 124 [] J J (args:=[_,_]) J (a9 (eS (eh h J ?_)));intro br w h;refine V 4 ?_;refine ah (gn (b:=log) J J dw az) ?_;refine V 5 ?_;refine tu h J J J I I I J ?_;intro bc w h;rw[aqd]at h;refine cM (ah (zm (adq _ _ _ _) J J) (eh h J ?_));intro bt w h;refine b7 ?_;intro w h;refine V 14 ?_;refine bQ (σ:=Nat) [(7,9),(26,42)] (λi ρ w=>Kn ρ [(26,R i),(7,R (2^log-neg shares i))]/\H r w ((af bt [cf bc (2^log) (2^log),R log] 124)::(af bc (fQ (top (2^log) log shares (List.replicate (2^log) default) i)) 126)::(af br [.slice none 0 0,R 0] 124)::F)/\(i<=shares.length)) (λi=>shares.length-i) (0) ⟨aq,h,bP _⟩ ?_;rintro i ρ w ⟨⟨mC,rfl⟩,h,hi⟩;refine V 5 ?_;refine an J ?_ ?_<;>intro rH
 have nt:neg shares (i+1)=neg shares i+(if shares.getD i 0= -1 then 1 else 0):=rfl;have gX:=W8 (i+1) rH;refine V 6 ?_;refine ah (js J J (by first|rfl|assumption|exact sx J I|exact eg J I|exact eg (by assumption) I) I) ?_;refine aO h J (Qa I) ?_;refine V 6 ?_;refine ah (Lb J J) (aC (an J ?_ ?_))<;>intro tK
 rw[ai tK]at nt;refine V 12 ?_;refine ah (zm (apd _ _) J J) (ah (ky J J (by first|rfl|assumption|exact sx J I|exact eg J I|exact eg (by assumption) I) I) ?_);refine qP h J J J J (by rw[ap_,yg];simp;omega) J ?_;intro w h;dsimp only[List.set]at h
 rw[show cT (fQ (top (2^log) log shares (List.replicate (2^log) default) i)) ((2^log-neg shares i-1)*3) [R i,R log,R 0]=fQ (top (2^log) log shares (List.replicate (2^log) default) (i+1))from by
   have e:=nt
   have e2:top (2^log) log shares (List.replicate (2^log) default) (i+1)=(top (2^log) log shares (List.replicate (2^log) default) i).set (2^log-neg shares i-1) ⟨i,log,0⟩:=by
     rw[top,ai tK,e,show 2^log- (neg shares i+1)=2^log-neg shares i-1 from by omega]
   rw[e2]
   exact Qb i log 0 (by rw[yg];simp;omega)]at h
 refine V 5 ?_;refine⟨aM,?_⟩
 first
   |exact⟨i+1,I,Kn.mk ⟨J,gy (by rw[nt];omega),trivial⟩,h,I⟩
   | (have e2:top (2^log) log shares (List.replicate (2^log) default) (i+1)=top (2^log) log shares (List.replicate (2^log) default) i:=by
        rw[top,ag tK]
      refine⟨i+1,I,Kn.mk ⟨J,gy (by rw[nt];rfl),trivial⟩,?_,I⟩
      rw[e2];exact h)
 rw[ag tK]at nt;refine V 5 ?_;refine⟨aM,?_⟩
 first
   |exact⟨i+1,I,Kn.mk ⟨J,gy (by rw[nt];omega),trivial⟩,h,I⟩
   | (have e2:top (2^log) log shares (List.replicate (2^log) default) (i+1)=top (2^log) log shares (List.replicate (2^log) default) i:=by
        rw[top,ag tK]
      refine⟨i+1,I,Kn.mk ⟨J,gy (by rw[nt];rfl),trivial⟩,?_,I⟩
      rw[e2];exact h)
 obtain rfl:i=shares.length:=I;refine V 13 ?_;refine bQ (σ:=Nat×Nat) [(10,12),(45,73)] (λ⟨i,k⟩ ρ w=>Kn ρ [(45,R i),(10,R (pos (2^log) k))]/\H r w ((af bt [cf bc (2^log) (2^log),R log] 124)::(af bc (fQ (kD (2^log) (high shares log) (eU shares shares.length) (top (2^log) log shares (List.replicate (2^log) default) shares.length) k)) 126)::(af br [.slice none 0 0,R 0] 124)::F)/\(i<=shares.length)/\(iQ (2^log) (high shares log) k=(eU shares i).length)/\(k<=(2^log))/\(0<(high shares log)->pos (2^log) k<(high shares log))) (λ⟨i,k⟩=>shares.length-i) (0,0) ⟨(Kn.mk ⟨J,gy (LL _).symm,trivial⟩),h,bP _,J,bP _,(by intro h0;rw[LL];exact h0)⟩ ?_;rintro⟨i,k⟩ ρ w ⟨⟨k5,rfl⟩,h,hi,rI,hk,nW⟩;refine V 5 ?_;refine an J ?_ ?_<;>intro IK
 have nX:i<shares.length:=IK;refine V 6 ?_;refine ah (js J J (by first|rfl|assumption|exact sx J I|exact eg J I|exact eg (by assumption) I) I) ?_;refine aO h J (Qa I) ?_;refine V 9 ?_;refine bQ (σ:=Nat×Nat) [(10,10),(51,72)] (λ⟨t,k⟩ ρ w=>Kn ρ [(51,R t),(10,R (pos (2^log) k))]/\H r w ((af bt [cf bc (2^log) (2^log),R log] 124)::(af bc (fQ (kD (2^log) (high shares log) (eU shares shares.length) (top (2^log) log shares (List.replicate (2^log) default) shares.length) k)) 126)::(af br [.slice none 0 0,R 0] 124)::F)/\(iQ (2^log) (high shares log) k=(eU shares i).length+t)/\(t<=(shares.getD i 0).toNat)/\(k<=(2^log))/\(0<(high shares log)->pos (2^log) k<(high shares log))) (λ⟨t,k⟩=>(shares.getD i 0).toNat-t) (0,k) ⟨aq,h,rI,bP _,hk,nW⟩ ?_;rintro⟨t,k⟩ ρ w ⟨⟨mD,rfl⟩,h,rI,ht,hk,nW⟩;refine a9 (eS (ah (qL J J) (aC (a9 (an J ?_ ?_)))))<;>intro aqg
 have pt:=WO shares (show i+1<=shares.length from nX);have aqh:(eU shares i).length+(shares.getD i 0).toNat<=(eU shares shares.length).length:=(by obtain⟨l,hl⟩:=pt;rw[hl,eU];simp);have L0:0<high shares log:=I;have nW:=nW L0
 have L1:k<(2^log):=by
  rcases dh k (2^log)with h'|h'
  exact h'
  have:= @LM (2^log) (high shares log) _ _ h';omega
 have eF:iQ (2^log) (high shares log) (k+1)=(eU shares i).length+t+1:=(by rw[iQ,ai nW,rI]);have yh:pos (2^log) k<(kD (2^log) (high shares log) (eU shares shares.length) (top (2^log) log shares (List.replicate (2^log) default) shares.length) k).length:=(by rw[LO,yg];simp;exact u_ I);refine V 9 ?_;refine ah (ky J J J (u_ I)) (pe J (cV (R i) (Dq yh J) ?_));intro w h
 rw[show(fQ (kD (2^log) (high shares log) (eU shares shares.length) (top (2^log) log shares (List.replicate (2^log) default) shares.length) k)).set (pos (2^log) k*3+0) (R i)=fQ (kD (2^log) (high shares log) (eU shares shares.length) (top (2^log) log shares (List.replicate (2^log) default) shares.length) (k+1))from by
   rw[ap' i yh J,kD,ai nW,rI,bS (l:=eU shares shares.length),aey nX I];rfl]at h
 refine aC (ze (bQ (σ:=Nat) [(10,10),(59,71)] (λq ρ w=>Kn ρ [(10,R (pos (2^log) q))]/\H r w ((af bt [cf bc (2^log) (2^log),R log] 124)::(af bc (fQ (kD (2^log) (high shares log) (eU shares shares.length) (top (2^log) log shares (List.replicate (2^log) default) shares.length) (q+1))) 126)::(af br [.slice none 0 0,R 0] 124)::F)/\(q<(2^log))/\(iQ (2^log) (high shares log) (q+1)=(eU shares i).length+t+1)) (λq=>(2^log) -q) (k) ⟨aq,h,L1,eF⟩ ?_));rintro q ρ w ⟨⟨qY,rfl⟩,h,hq,W9⟩;have hpq:= @u_ (2^log) q I;refine V 5 ?_;refine ah (mT (b:=2) (h2:=ao.lit _) J J I k_) ?_;refine V 2 ?_;refine ah (mT (b:=8) (h2:=ao.lit _) J J I k_) ?_;refine V 3 ?_;refine ah (AK J J I) ?_;refine V 8 ?_;refine an J ?_ ?_<;>intro Fx
 refine V 5 ?_;exact⟨aM,(t+1,q+1),cw,Kn.mk ⟨J,gy (LK _ _).symm,trivial⟩,h,I,I,I,(λ_=>by rw[LK];exact Fx)⟩
 refine aQ (⟨aM,?_⟩);have Fy: ¬pos (2^log) (q+1)<high shares log:=(by rw[LK];exact Fx)
 have ij:q+1<2^log:=by
  rcases dh (q+1) (2^log)with h'|h'
  exact h'
  exfalso;apply Fy;rw[show q+1=2^log from by omega,WM];exact L0
 exact⟨q+1,I,Kn.mk ⟨gy (LK _ _).symm,trivial⟩,(by rw[kD,ag Fy];exact h),ij,(by rw[iQ,ag Fy];exact W9)⟩
 refine V 5 ?_;refine⟨aM,?_⟩;have A_:t=(shares.getD i 0).toNat:=I;exact⟨(i+1,k),cw,aq,h,I,(by rw[eU,aF,dR,rI,A_]),hk,nW⟩
 obtain rfl:i=shares.length:=I;have L1:iQ (2^log) (high shares log) k=iQ (2^log) (high shares log) (2^log):=(by rw[ig,rI,zD]);rw[<-WR hk L1]at h;refine V 4 ?_;replace h:=h.ghost (C ([]++[]) 3);refine kW (ob:=none) [] [] (shares.map i64) h 0 J J J bG.nil (Src.slice (q2:=0) (Has.at_ (b:=sb)) (Rd.left _ _) (by simp)) (by intro x hx;obtain⟨y,_,rfl⟩:=jd.1 hx;rfl) I aj J ?_;intro w dy c9 dL h df fG eG;dsimp only[List.set]at h
 obtain⟨nb,rfl⟩: ∃nb,dy=some nb:=by
  cases dy with
  |none=>have:=eG J;omega
  |some nb=>exact⟨nb,J⟩
 rw[List.nil_append]at h;replace h:=h.zz [2,2] 0;refine V 9 ?_;refine bQ (σ:=Nat) [(14,16),(77,126)] (λi ρ w=>Kn ρ [(77,R i)]/\H r w ((af bt [cf bc (2^log) (2^log),R log] 124)::(af bc (fQ (fin log shares (spread shares log) i).2) 126)::(af nb (List.map i64 ((fin log shares (spread shares log) i).1)++dL) 3)::(af br [.slice none 0 0,R 0] 124)::F)/\(i<=(high shares log))) (λi=>(high shares log) -i) (0) ⟨aq,h,bP _⟩ ?_;rintro i ρ w ⟨⟨sO,rfl⟩,h,hi⟩;refine V 5 ?_;refine an J ?_ ?_<;>intro Qd
 refine(ID hs Qd).elim λs eZ=>?_;obtain⟨fH,i_,Dv⟩:=eZ;have cP:i<(fin log shares (spread shares log) i).2.length:=(by rw[(zr _ _ _ _).2,LQ];omega);have p7:(fin log shares (spread shares log) i).2.getD i default=⟨s,0,0⟩:=(by rw[zt (aR _),fH]);have a8:s<(fin log shares (spread shares log) i).1.length:=(by rw[(zr _ _ _ _).1];exact i_);have px:= @WS log shares (spread shares log) s i;have aGk:=hs.hi s;refine(Int.eq_ofNat_of_zero_le (I:0<=(fin log shares (spread shares log) i).1.getD s 0)).elim λn hn=>?_;have gX:1<=n:=I;have h2l:((2:Int)^log)=((2^log:Nat):Int):=(by simp);have fW:n<=1024:=I;have aqi:(fin log shares (spread shares log) (i+1)).1=(fin log shares (spread shares log) i).1.set s ((n:Int)+1):=(by rw[fin];simp only;rw[p7];simp only;rw[hn]);have aqj:(fin log shares (spread shares log) (i+1)).2=(fin log shares (spread shares log) i).2.set i ⟨s,gK log n,n*2^gK log n-2^log⟩:=(by rw[fin];simp only;rw[p7];simp only;rw[hn];rfl);refine V 13 ?_;refine ah (ky J J (by first|rfl|assumption|exact sx J I|exact eg J I|exact eg (by assumption) I) I) ?_;refine V 8 ?_;refine aO h J (Dq cP p7) ?_;refine V 1 ?_;refine aO h J (aeH a8 hn) ?_;refine V 8 ?_;refine aO h J (Dq cP p7) ?_;refine V 1 ?_;refine aO h J (aeH a8 hn) ?_;refine V 2 ?_;refine cV (R (n+1)) (Qa a8) ?_;intro w h
 rw[show(List.map i64 (fin log shares (spread shares log) i).1++dL).set s (R (n+1))=List.map i64 (fin log shares (spread shares log) (i+1)).1++dL from by
   rw[ap9 _ a8,aqi];rfl]at h
 refine V 3 ?_;refine bQ (σ:=Nat) [(100,114)] (λb ρ w=>Kn ρ []/\H r w ((af bt [cf bc (2^log) (2^log),R log] 124)::(af bc (fQ ((fin log shares (spread shares log) i).2.set i ⟨s,b,0⟩)) 126)::(af nb (List.map i64 ((fin log shares (spread shares log) (i+1)).1)++dL) 3)::(af br [.slice none 0 0,R 0] 124)::F)/\(b<=gK log n)) (λb=>gK log n-b) (0) ⟨aq,(by rw[List.aqc cP p7];exact h),bP _⟩ ?_;rintro b ρ w ⟨⟨vk,rfl⟩,h,hb⟩;have Ba:i<((fin log shares (spread shares log) i).2.set i (⟨s,b,0⟩:de)).length:=(by rw[dD];exact cP);have Fz:((fin log shares (spread shares log) i).2.set i (⟨s,b,0⟩:de)).getD i default=⟨s,b,0⟩:=(by rw[eE,ai ⟨J,cP⟩]);have vl:gK log n<=9:=(by unfold gK;omega);have Dw:=vh (aI hb vl);have L3:=sr fW Dw;refine V 7 ?_;refine aO h J (IH Ba Fz) (ah (dN J J dw az) ?_);refine V 3 ?_;refine an J ?_ ?_<;>intro vm
 refine V 6 ?_;refine aO h J (IH Ba Fz) ?_;refine V 3 ?_;refine cV (R (b+1)) (IH Ba Fz) ?_;intro w h;rw[aqa (b+1) Ba Fz,KZ]at h;refine aC (⟨aM,?_⟩);have jG:=aqe gX vm;exact⟨b+1,I,aq,h,jG⟩
 refine V 7 ?_;refine aO h J (IH Ba Fz) (ah (dN J J dw az) ?_);refine V 4 ?_;refine cV (R (n*2^b-2^log)) (WY Ba Fz) ?_;intro w h;rw[aqb (n*2^b-2^log) Ba Fz,KZ]at h;refine V 5 ?_;refine⟨aM,?_⟩;have fh:b=gK log n:=aqf vm hb;rw[show(fin log shares (spread shares log) i).2.set i ⟨s,b,n*2^b-2^log⟩=(fin log shares (spread shares log) (i+1)).2 from by rw[aqj,fh]]at h;exact⟨i+1,I,aq,h,I⟩
 obtain rfl:i=(high shares log):=I;refine V 3 ?_;refine ah (iK [_,_] h J ⟨J,J,trivial⟩ J) (b7 ?_);intro w h;refine aC (iG (⟨_,qQ [_,_] h J ⟨J,J,trivial⟩ J,?_⟩));exact⟨bc,J,((h.mv 3).tail.mv 2).tail.tail⟩
end Go.Z
