/- Part 14 of the proof. -/
import Derived.Test.YtmgkiicjpmihfaaGreatDoorQM
set_option linter.all false
set_option maxRecDepth 20000
set_option maxHeartbeats 400000000
open List renaming length -> W, getD -> aa, map -> ar, replicate -> aT, set -> bJ, range -> cL
open UInt8 renaming ofNat -> bS
open Or renaming inl -> a_, inr -> bG
open Go.Z.Env renaming ev -> aL, put -> fU
namespace Go.Z
open Go Go.Proofs Tryz
variable {F:List aK}{T:List UInt8}{cb f lg mb n sg tc tn bO:Nat}{ta:Option Addr}{p:Prop}
def XW(cb mb:Nat)(ta:Option Addr)(tn tc bO:Nat):Wr:=⟨cb,ta,tn,tc,0,bO,none,0,0,.pointer none,.pointer none,.pointer none,1,4,8,mb,0⟩
def an9:(bj (XW cb mb ta tn tc bO)).set 3 (af n)=bj (XW cb mb ta tn tc n):=rfl
def aGG(h:aY F (.slice ta tn tc) T)(hw:bO<=1099511627776):yL F (XW cb mb ta tn tc bO) T none (λ_=>none):=
 ⟨h,J,λk b=>⟨by rcases(I:k=0\/k=1\/k=2)with rfl|rfl|rfl<;>rfl,λt a=>by cases a⟩,cj _,hw,aW _,(by decide:1<=1099511627776),(by decide:4<=1099511627776),(by decide:8<=1099511627776)⟩
def aGH{B:Nat}:pM B (.map #[] 0):=⟨#[],0,J,λe he=>by cases he⟩
def aGI(hs:sg<=1)(a:f<=3):[sg,2,4,8].getD f 0=2↔f=1:=by
 rcases(I:f=0\/f=1\/f=2\/f=3)with rfl|rfl|rfl|rfl
 show sg=2↔0=1;omega
 exact⟨λ_=>rfl,λ_=>rfl⟩
 show 4=2↔2=1;omega
 show 8=2↔3=1;omega
def aGJ(hs:sg<=1):[sg,2,4,8].getD f 0<=8:=GO f ⟨I,by decide,by decide,by decide⟩
def aGK{A d:List UInt8}{e c g a b:Nat}(h:A++bQ e c=d)(h1:e=if c=2 then a else b)(h2:g=c):d=A++bQ (if g=2 then a else b) g:=by
 subst h2;subst h1;exact h.symm
def adC(h:lg<=10):2^(10+lg)<=1048576:=aM (show 2^(10+lg)<=2^20 from dF an I) an
def an'{lg:Nat}:1024<=2^(10+lg):=show 2^10<=2^(10+lg)from dF an I
def aGL(h:2^(10+lg)<n)(a:n<=1048576):lg<10:=by
 rcases dq lg 10 with e|e
 exact e
 have:2^20<=2^(10+lg):=dF an I;have h2:(2:Nat)^20=1048576:=an;omega
def Wm(h:p:=by refine dI J J J (wk J) J ?_;refine g_ 2 ?_;exact⟨aS,false,az,h,(λe=>by cases e),(λ_=>I)⟩):p:=h
def adD(h:p:=by refine g_ 3 ?_;refine dI J J J (tJ J) J ?_;refine g_ 2 ?_;exact⟨aS,decide (255<tn),az,h,(λ_=>I),(λe=>by have e9:=WC e;omega)⟩):p:=h
def aoa(h:p:=by refine gH J J J J (gH J J J J ?_);refine g_ 2 ?_;refine gH J J J J (gH J J J J (gH J J J J ?_));refine g_ 3 ?_;exact⟨aS,true,az,h,(λ_=>I),(λe=>by cases e)⟩):p:=h
def adE(h:p:=by refine g_ 2 ?_;refine dI J J J (wk J) J ?_;refine g_ 4 ?_;exact Wm):p:=h
theorem aGM{r:fT}{w:World}{p:Option Addr}{nn nc:Nat}{N:List Int}(h:H r w F)(hT:aY F (.slice ta tn tc) T)(hN:og F (.slice p nn nc) N)(Lj:W T<=1048576):Calls PP 6 #[.slice ta tn tc,.slice p nn nc] w λe w'=> ∃ob B S c,e= .returned (.slice (aI ob) (W B) c)/\BB ob B S c/\0<W B/\W B<=1099511627776/\adA T B/\H r w' (EB ob B S::F):=by
 have JU:=hT.len.1;have Py:=hT.len.2;refine iI func6 ntmps6 [4] ?_;refine g_ 7 ?_;refine ak (Gj (aqD _ _ _) J) (tL h J J J ?_);intro bC w h;refine g_ 5 ?_;refine cJ (v1:=af 2) J J J (aH (lR (n:=2) (at_:=0) h (hN.sub aP) I I) ?_);rintro e s ⟨sg,iC,rfl,jb,aco,h⟩;refine dg (cJ (v1:=af 2) J J J (aH (lR (n:=2) (at_:=iC) h (hN.sub aP) I I) ?_));rintro e s ⟨sm,L,rfl,sX,Ab,h⟩;refine dg (cJ (v1:=af 4) J J J (aH (lR (n:=4) (at_:=L) h (hN.sub aP) I I) ?_));rintro e s ⟨id,jG,rfl,O_,uf,h⟩;refine dg (cJ (v1:=af 4) J J J (aH (lR (n:=4) (at_:=jG) h (hN.sub aP) I I) ?_));rintro e s ⟨f0,D,rfl,X8,vP,h⟩;refine g_ 8 ?_;refine Jt J J J J (uL _ _ _ _) h ?_;intro bs w h;refine g_ 4 ?_;refine cw (σ:=Nat) [(9,9),(32,66)] (λf ρ w=>Kn ρ [(9,af f)]/\H r w ((ah bs [af sg,af 2,af 4,af 8] 3)::(ah bC [.slice p nn nc,af D] 38)::F)/\(f<=3)) (λf=>3-f) (f0) ⟨az,h,I⟩ ?_;rintro f ρ w ⟨⟨LN,rfl⟩,h,hf⟩;have gv:=aGI (sg:=sg) (f:=f) I hf;have Wn:=ud (a:=sg) (b:=2) (c:=4) (d:=8) (f:=f) I;refine cM ([sg,2,4,8].getD f 0) λM Wo=>?_;rw[Wo]at gv Wn;refine bY (cW [(32,63)] (λρ w=> ∃bv:Bool,Kn ρ [(63,.bool bv)]/\H r w ((ah bs [af sg,af 2,af 4,af 8] 3)::(ah bC [.slice p nn nc,af D] 38)::F)/\(bv=true->f<=1)/\(bv=false->((f=1->256<=W T/\W T<=65791)/\(f=0->sg=1->W T<=255)))) ?_ ?_)
 refine g_ 4 ?_;refine eM (t:=34) J (λaGN=>?_) (λaGN=>?_)
 refine g_ 2 ?_;refine dI J J J (j8 J J J I) J (dI J J J (run_load h J Wn) J ?_);refine g_ 3 ?_;refine eM (t:=41) J (λWj=>?_) (λWj=>?_)
 refine g_ 4 ?_;refine eM (t:=45) J (λaGO=>?_) (λaGO=>?_)
 refine g_ 3 ?_;refine dI J J J (tJ J) J ?_;refine g_ 5 ?_;exact aoa
 refine g_ 3 ?_;refine dI J J J (wk J) J ?_;refine g_ 2 ?_;refine eM (t:=51) J (λaGP=>?_) (λaGP=>?_)
 refine g_ 3 ?_;exact aoa
 refine g_ 3 ?_;refine eM (t:=54) J (λIB=>?_) (λIB=>?_)
 refine g_ 2 ?_;refine dI J J J (tJ J) J ?_;refine g_ 1 ?_;refine eM (t:=58) J (λPU=>?_) (λPU=>?_)
 exact adD
 refine g_ 3 ?_;exact Wm
 exact adE
 refine g_ 4 ?_;refine gH J J J J (gH J J J J (gH J J J J ?_));refine g_ 6 ?_;refine eM (t:=54) J (λIB=>?_) (λIB=>?_)
 refine g_ 2 ?_;refine dI J J J (tJ J) J ?_;refine g_ 1 ?_;refine eM (t:=58) J (λPU=>?_) (λPU=>?_)
 exact adD
 refine g_ 3 ?_;exact Wm
 exact adE
 refine g_ 11 ?_;refine gH J J J J (gH J J J J (gH J J J J ?_));refine g_ 6 ?_;refine eM (t:=54) J (λIB=>?_) (λIB=>?_)
 refine g_ 2 ?_;refine dI J J J (tJ J) J ?_;refine g_ 1 ?_;refine eM (t:=58) J (λPU=>?_) (λPU=>?_)
 exact adD
 refine g_ 3 ?_;exact Wm
 exact adE
 rintro ρ w ⟨bv,⟨LO,rfl⟩,h,r9,Az⟩;refine eY J ?_ ?_<;>intro Gr
 have qW:=r9 Gr;refine g_ 5 ?_;refine ak (BR (b:=4) (h2:=av.lit _) J J an) ?_;exact ee (aJ ⟨aO 5,(f+1) % 4,cQ,az,h,I⟩)
 have du:=Az Gr;have aL8:M<=8:=(by rw[<-Wo];exact aGJ I);refine g_ 3 ?_;refine cJ (v0:=cR 4247762216) (v1:=af 4) J J J (aH (rE (x:=4247762216) (k:=4) h I I) ?_);rintro e s ⟨oW,lS,mT,rfl,P,h⟩;refine dg (ak (eB (b:=6) (h2:=av.lit _) J J an aG) ?_);refine dg (ak (eB (b:=5) (h2:=av.lit _) J J an aG) ?_);refine ak (cG (fq J J aG aG) (Wf 6 I I)) (dg ?_);replace h:=h.zz [1,1,2] 0;refine cJ (v1:=af 2) J J J (aH (lR (n:=2) (at_:=D) h (hN.sub aP) I I) ?_);rintro e s ⟨v,kF,rfl,hv,IC,h⟩;refine ak (eB (b:=4) (h2:=av.lit _) J J an aG) ?_;refine ak (cG (fq J J aG aG) (Wf 5 I I)) (dg (ak (eB (b:=2) (h2:=av.lit _) J J an aG) ?_));refine ak (cG (fq J J aG aG) (Wf 4 I I)) (dg (ak (cG (fq J J aG aG) (Wf 2 I I)) ?_));refine g_ 1 ?_;refine mf J (ly _) h ?_;intro bz w h;have hz:C [Value.int .u8 (((f*2^6+sg*2^5+v*2^4+sm*2^2+id):Nat):Int)] 5=C [u8 (bS (f*2^6+sg*2^5+v*2^4+sm*2^2+id))] 5:=(by rw[yC,iV (show(f*2^6+sg*2^5+v*2^4+sm*2^2+id)<aN .u8+1 by simp only[aN];omega)]);rw[hz]at h;replace h:=h.zz [3,2,2,3] 0;refine mC (X:=bQ 4247762216 4) (Y:=[bS (f*2^6+sg*2^5+v*2^4+sm*2^2+id)]) (F:=[(ah bz [u8 (bS (f*2^6+sg*2^5+v*2^4+sm*2^2+id))] 5)]) h 0 (gS J (cY _ _).symm) J J P ID xI (by rw[cY];simp only[dL,eW];omega) J ?_;intro w o1 c1 S1 h A6;dsimp only[bJ]at h;have dV:W (bQ 4247762216 4++[bS (f*2^6+sg*2^5+v*2^4+sm*2^2+id)])=5:=(by rw[aF,cY];rfl);replace h:=h.zz [1] 1;refine g_ 8 ?_;refine ak (xH (v0:=af 1) (v1:=af 4) (v2:=af 8) (MG _ _ _) J J J) (uJ (v:=λb=> .map (some b)) (λw=>aCP) h J ?_);intro g w h;refine ak (QU (aqE _ _ _ _ _ _ _ _ _) J J J J J) (tL h J J J ?_);intro y w h;replace h:H r w ((ah y (bj (XW bC g ta tn tc (tn))) 49)::(some g,(Obj.map #[] 0))::EB o1 (bQ 4247762216 4++[bS (f*2^6+sg*2^5+v*2^4+sm*2^2+id)]) S1::(ah bC [.slice p nn nc,af kF] 38)::(ah bs [af sg,af 2,af 4,af 8] 3)::F):=h;refine ee (aJ (cW [(11,11),(13,14),(93,147)] (λρ w=> ∃at8 bO:Nat,∃wd:List UInt8,∃o3:Option Nat,∃S3:List UInt8,∃c3:Nat,Kn ρ [(11,.slice (aI o3) (W ((bQ 4247762216 4++[bS (f*2^6+sg*2^5+v*2^4+sm*2^2+id)])++wd)) c3)]/\H r w (EB o3 ((bQ 4247762216 4++[bS (f*2^6+sg*2^5+v*2^4+sm*2^2+id)])++wd) S3::(ah y (bj (XW bC g ta tn tc (bO))) 49)::(ah bC [.slice p nn nc,af at8] 38)::(some g,(Obj.map #[] 0))::(ah bs [af sg,af 2,af 4,af 8] 3)::F)/\(at8<=100)/\(Wh sg (W T) bO wd)/\(BB o3 ((bQ 4247762216 4++[bS (f*2^6+sg*2^5+v*2^4+sm*2^2+id)])++wd) S3 c3)) ?_ ?_))
 refine bY (fD ?_);replace h:=h.zz [4,2,4,3,4] 0;refine g_ 3 ?_;refine au J ?_ ?_<;>intro J0
 . refine g_ 3 ?_;replace h:=h.zz [4,4,3,3,4] 0;refine cJ (v1:=af 4) J J J (aH (lR (n:=4) (at_:=kF) h (hN.sub aP) I I) ?_);rintro e s ⟨lg0,mV,rfl,SY,PC,h⟩;refine g_ 4 ?_;replace h:=h.zz [2,2] 0;refine cw (σ:=Nat) [(13,13),(97,104)] (λlg ρ w=>Kn ρ [(13,af lg)]/\H r w (EB o1 ((bQ 4247762216 4++[bS (f*2^6+sg*2^5+v*2^4+sm*2^2+id)])) S1::(ah y (bj (XW bC g ta tn tc (tn))) 49)::(ah bC [.slice p nn nc,af mV] 38)::(some g,(Obj.map #[] 0))::(ah bs [af sg,af 2,af 4,af 8] 3)::F)/\(lg<=10)) (λlg=>10-lg) (lg0) ⟨az,h,I⟩ ?_;rintro lg ρ w ⟨⟨LP,rfl⟩,h,oK⟩;refine g_ 5 ?_;refine ak (gY J J dQ (aM (adC oK) an)) ?_;refine g_ 4 ?_;refine au J ?_ ?_<;>intro CE
   have aL9:=aGL CE I;refine g_ 7 ?_;exact⟨aO 9,lg+1,cQ,az,h,I⟩
   refine g_ 6 ?_;refine ak (gY J J dQ (aM (adC oK) an)) ?_;refine g_ 2 ?_;refine iX (af (2^(10+lg))) ?_;intro w h;rw[an9]at h;refine g_ 4 ?_;replace h:=h.zz [4,4,3,3,4] 0;refine cJ (v1:=af 8) J J J (aH (lR (n:=8) (at_:=mV) h (hN.sub aP) I I) ?_);rintro e s ⟨Q,R,rfl,aL_,adx,h⟩;have EU:=adC oK;have hpt:= @an' lg;refine cM (2^(10+lg)) λl U=>?_;rw[U]at EU hpt h;refine ee (aJ (cW [(14,14),(113,125)] (λρ w=> ∃q:Nat,Kn ρ [(14,af q)]/\H r w (EB o1 ((bQ 4247762216 4++[bS (f*2^6+sg*2^5+v*2^4+sm*2^2+id)])) S1::(ah y (bj (XW bC g ta tn tc (l))) 49)::(ah bC [.slice p nn nc,af R] 38)::(some g,(Obj.map #[] 0))::(ah bs [af sg,af 2,af 4,af 8] 3)::F)/\(q<=7)/\(l+l/8*q<=8388608)) ?_ ?_))
   refine bY (cm h [0,4,8,16,20,24,36,13,29,32,40,44,48] ?_);intro w h;refine aC 7 ?_;refine aQ J h J (show(bj (XW bC g ta tn tc l))[0+3]? =some (af l)from J) (aQ J h J (show(bj (XW bC g ta tn tc l))[0+3]? =some (af l)from J) (aD J (nS (b:=8) (h2:=av.lit _) J J an aG) ?_));refine aD J (BQ J J (aM (tG (k6 l 8) (I:Q<=7)) aG)) (aD J (eR J J (by have:=tG (k6 l 8) (I:Q<=7);simp only[aN];omega)) ?_);refine aC 2 ?_;refine au J ?_ ?_<;>intro Zh
   refine g_ 3 ?_;replace h:=h.zz [4,4,2,4,4] 0;exact⟨aO 14,0,az,h,I,(by rw[Qv];omega)⟩
   refine a8 ?_;replace h:=h.zz [4,4,2,4,4] 0;exact⟨aO 13,Q,az,h,I,I⟩
   rintro ρ w ⟨q,⟨LQ,rfl⟩,h,aGQ,xV⟩;refine bY (cm h [0,4,8,16,20,24,36,13,29,32,40,44,48,52,59] ?_);intro w h;refine aC 7 ?_;refine aQ J h J (show(bj (XW bC g ta tn tc l))[0+3]? =some (af l)from J) (aQ J h J (show(bj (XW bC g ta tn tc l))[0+3]? =some (af l)from J) (aD J (nS (b:=8) (h2:=av.lit _) J J an aG) ?_));refine aD J (BQ J J (aM (tG (k6 l 8) (I:q<=7)) aG)) ?_;refine aC 3 ?_;refine iX (af (l+l/8*q)) ?_;intro w h;rw[an9]at h;refine cO ?_;refine g_ 3 ?_;refine ak (eB (b:=3) (h2:=av.lit _) J J an aG) ?_;refine dg (ak (cG (fq J J aG aG) (show lg*2^3|||q=lg*8+q from We I)) ?_);refine g_ 1 ?_;refine mf J (ly _) h ?_;intro bz w h;have hz:C [Value.int .u8 (((lg*8+q):Nat):Int)] 5=C [u8 (bS (lg*8+q))] 5:=(by rw[yC,iV (show(lg*8+q)<aN .u8+1 by simp only[aN];omega)]);rw[hz]at h;replace h:=h.zz [5,5,5,5,4,5] 0;refine mC (X:=(bQ 4247762216 4++[bS (f*2^6+sg*2^5+v*2^4+sm*2^2+id)])) (Y:=[bS (lg*8+q)]) (F:=[(ah bz [u8 (bS (lg*8+q))] 5)]) h 0 J J J A6 ID xI (by rw[dV];simp only[dL,eW];omega) J ?_;intro w o2 c2 S2 h th;dsimp only[bJ]at h;replace h:=h.zz [1] 1;exact ee (aJ ⟨aO 47,R,l+l/8*q,[bS (lg*8+q)],o2,S2,c2,az,h,I,bG ⟨J0,lg,q,oK,aGQ,by rw[U];omega,by rw[U],I,J⟩,th⟩)
 have h0:=h;clear h;have h:H r w (EB o1 ((bQ 4247762216 4++[bS (f*2^6+sg*2^5+v*2^4+sm*2^2+id)])++[]) S1::(ah y (bj (XW bC g ta tn tc (tn))) 49)::(ah bC [.slice p nn nc,af kF] 38)::(some g,(Obj.map #[] 0))::(ah bs [af sg,af 2,af 4,af 8] 3)::F):=(by rw[dN];exact h0);exact a8 ⟨aO 2,kF,tn,[],o1,S1,c1,Kn.mk ⟨(gS J (by rw[dN])),trivial⟩,h,I,a_ ⟨I,J,JU⟩,(by rw[dN];exact A6)⟩
 rintro ρ w ⟨at8,bO,wd,o3,S3,c3,⟨PG,rfl⟩,h,ady,LC,yv⟩
 have kB:W wd<=1/\bO<=8388608/\(0<tn->0<bO):=by
  rcases LC with⟨_,e1,e2⟩| ⟨_,lg,mo,_,_,_,e2,e3,e1⟩
  rw[e1];exact⟨cj _,I,I⟩
  rw[e1];refine⟨aW _,e3,λ_=>?_⟩;have:= @an' lg;omega
 have mi:W ((bQ 4247762216 4++[bS (f*2^6+sg*2^5+v*2^4+sm*2^2+id)])++wd)<=6:=(by rw[aF,dV];omega);refine g_ 3 ?_;refine Jt J J J J (uL _ _ _ _) h ?_;intro bz w h;have aL':[0,1,2,4].getD id 0<=4:=GO id ⟨by decide,by decide,by decide,by decide⟩;refine g_ 2 ?_;refine aX h J (ud (a:=0) (b:=1) (c:=2) (d:=4) I) (aGr (X:=(bQ 4247762216 4++[bS (f*2^6+sg*2^5+v*2^4+sm*2^2+id)])++wd) (m:=[0,1,2,4].getD id 0) h 1 J J J yv I J ?_);intro w o4 c4 S4 h hB4;dsimp only[bJ]at h;replace h:=h.tail;refine g_ 9 ?_;refine cW [(15,15),(157,163)] (λρ w=> ∃E:Nat,Kn ρ [(15,cR E)]/\H r w (EB o4 ((bQ 4247762216 4++[bS (f*2^6+sg*2^5+v*2^4+sm*2^2+id)])++wd++aT ([0,1,2,4].getD id 0) 0) S4::(ah y (bj (XW bC g ta tn tc (bO))) 49)::(ah bC [.slice p nn nc,af at8] 38)::(some g,(Obj.map #[] 0))::(ah bs [af sg,af 2,af 4,af 8] 3)::F)/\(E=(if M=2 then W T-256 else W T))/\(E<=1048576)) ?_ ?_
 refine g_ 5 ?_;refine aX h J Wn ?_;refine g_ 2 ?_;refine au J ?_ ?_<;>intro aob
 refine g_ 5 ?_;exact⟨aO 8,tn-256,az,h,(by rw[ao aob];omega),I⟩
 exact a8 ⟨aO 5,tn,az,h,(by rw[aj aob];omega),I⟩
 rintro ρ w ⟨E,⟨ac4,rfl⟩,h,E7,aMa⟩;refine g_ 7 ?_;refine aX h J Wn (cJ J J J (aH (rE (x:=E) (k:=M) h I I) ?_));rintro e s ⟨oW,lS,mT,rfl,P,h⟩;have hl4:W ((bQ 4247762216 4++[bS (f*2^6+sg*2^5+v*2^4+sm*2^2+id)])++wd++aT ([0,1,2,4].getD id 0) 0)<=10:=(by rw[aF,dS];omega);have hl5:W ((bQ 4247762216 4++[bS (f*2^6+sg*2^5+v*2^4+sm*2^2+id)])++wd++aT ([0,1,2,4].getD id 0) 0++bQ E M)<=18:=(by rw[aF,cY];omega);refine mC (X:=(bQ 4247762216 4++[bS (f*2^6+sg*2^5+v*2^4+sm*2^2+id)])++wd++aT ([0,1,2,4].getD id 0) 0) (Y:=bQ E M) (F:=[EB oW (bQ E M) lS]) h 1 J (gS J (cY _ _).symm) J hB4 (P.sl) xI (by rw[cY];omega) J ?_;intro w o5 c5 S5 h Be;dsimp only[bJ]at h;replace h:=h.tail;have hl6:5<=W ((bQ 4247762216 4++[bS (f*2^6+sg*2^5+v*2^4+sm*2^2+id)])++wd++aT ([0,1,2,4].getD id 0) 0++bQ E M):=(by rw[aF,aF,aF,dV];omega);refine cM ((bQ 4247762216 4++[bS (f*2^6+sg*2^5+v*2^4+sm*2^2+id)])++wd++aT ([0,1,2,4].getD id 0) 0++bQ E M) λj V=>?_;rw[V]at h Be hl5 hl6;have hHE:=aGK V E7 Wo;refine g_ 3 ?_;refine kp [(11,11),(16,18),(172,227)] (λρ w=> ∃vG:Option Nat,∃DF IP:List UInt8,∃PT IN:Nat,∃PV:Obj,∃nr:Wr,∃DI:List aK,Kn ρ [(11,.slice (aI vG) (W (j++DF)) PT)]/\H r w (EB vG (j++DF) IP::(ah y (bj nr) 49)::(ah bC [.slice p nn nc,af IN] 38)::(some g,PV)::(DI++((ah bs [af sg,af 2,af 4,af 8] 3)::F)))/\(Wg T bO DF)/\(BB vG (j++DF) IP PT)/\(W DF<=137500000100)) ?_ ?_
 . refine cw (σ:=Wr×Nat×Obj×List aK×Option Nat×List UInt8×List UInt8×Nat×Option (List Nat)×(Nat->Option Tb)) [(11,11),(16,18),(172,227)] (λ⟨x,L,kj,G,ob,i,SB,cb,lo,tO⟩ ρ w=>Kn ρ [(11,.slice (aI ob) (W (j++i)) cb)]/\H r w (EB ob (j++i) SB::(ah y (bj x) 49)::(ah bC [.slice p nn nc,af L] 38)::(some g,kj)::(G++((ah bs [af sg,af 2,af 4,af 8] 3)::F)))/\((x.cb=bC/\x.mb=g/\x.ta=ta/\x.tn=tn/\x.tc=tc/\x.bO=bO))/\(xt T bO x.at_ lo tO x.a x.b x.c i)/\(x.at_<=tn)/\(yL (G++((ah bs [af sg,af 2,af 4,af 8] 3)::F)) x T lo tO)/\(pM 2147483647 kj)/\(L<=100+3000*x.at_)/\(BB ob (j++i) SB cb)/\(W i<=131100*x.at_)) (λ⟨x,L,kj,G,ob,i,SB,cb,lo,tO⟩=>tn-x.at_) (XW bC g ta tn tc bO,at8,.map #[] 0,[],o5,[],S5,c5,none,λ_=>none) ⟨(Kn.mk ⟨(gS J (by rw[dN,V])),trivial⟩),(by rw[dN];exact h),iG,xt.nil,(cj _),(aGG (hT.sub (Sub.cons _ _)) I),aGH,(aM ady (lV _ _)),(by rw[dN];exact Be),(cj _)⟩ ?_;rintro⟨x,L,kj,G,ob,i,SB,cb,lo,tO⟩ ρ w ⟨⟨aF6,rfl⟩,h,u,hBS,hxa,K,uA,Ab,LH,kK⟩;refine cM (min (min (tn-x.at_) 131072) x.bO) λO xX=>?_;have fe:O<=tn-x.at_/\O<=131072/\O<=bO/\(x.at_<tn->0<O):=(by have:=u.2.2.2.2.2;omega);refine Al (bY (cm h [0,4,8,12,16,28,32,36,21,24,41,44,48] ?_));intro w h;refine aC 8 ?_;refine aQ J h J (show(bj x)[0+2]? =some (af x.at_)from J) (aD J (jm J J hxa aG) (aQ J h J (show(bj x)[0+3]? =some (af x.bO)from J) (aD J (cG (aGs (b:=131072) (h2:=av.lit _) J J J) xX) (fG J (cO (cW [(16,17),(184,196)] (λρ w=> ∃D sz:Nat,Kn ρ [(16,af sz)]/\H r w (EB ob (j++i) SB::(ah y (bj x) 49)::(ah bC [.slice p nn nc,af D] 38)::(some g,kj)::(G++((ah bs [af sg,af 2,af 4,af 8] 3)::F)))/\(D<=L+2)/\(sz<=O/\(0<O->0<sz))) ?_ ?_))))))
   . refine g_ 3 ?_;replace h:=h.zz [3,2,2,3] 0;refine cJ (v1:=af 3) J J J (aH (lR (n:=3) (at_:=L) h (hN.sub aP) I I) ?_);rintro e s ⟨kv,jG,rfl,hkv,uf,h⟩;refine g_ 7 ?_;refine au J ?_ ?_<;>intro avj
     . refine g_ 3 ?_;refine B_ J J J (lX _ _ _) h ?_;intro bz w h;refine g_ 2 ?_;refine aX h J (m7 (a:=1) (b:=40) (c:=4000) I) ?_;have h40:[1,40,4000].getD kv 0<=4000:=(by rcases(I:kv=0\/kv=1\/kv=2)with rfl|rfl|rfl<;>decide);replace h:=h.zz [4,4,4,4] 0;refine cJ J J J (aH (lR (n:=[1,40,4000].getD kv 0) (at_:=jG) h (hN.sub aP) I I) ?_);rintro e s ⟨ov,aGR,rfl,nd,aMb,h⟩;refine g_ 1 ?_;refine ak (Ao J J) (ee (aJ ?_));replace h:=h.zz [3,1,3,3,4] 1;exact⟨aO 15,aGR,min O (1+ov),az,h,I,I⟩
     refine a8 ?_;replace h:=h.zz [3,1,3,3] 0;exact⟨aO 5,jG,O,az,h,I,I⟩
   rintro ρ w ⟨D,sz,⟨aF7,rfl⟩,h,vP,aMc⟩;refine cW [(18,18),(197,210)] (λρ w=> ∃mV:Nat,∃Wp:Bool,Kn ρ [(18,.bool Wp)]/\H r w (EB ob (j++i) SB::(ah y (bj x) 49)::(ah bC [.slice p nn nc,af mV] 38)::(some g,kj)::(G++((ah bs [af sg,af 2,af 4,af 8] 3)::F)))/\(mV<=D+1)/\(Wp=true->x.at_+sz=tn)) ?_ ?_
   refine g_ 4 ?_;refine aX h J (show(bj x)[0+2]? =some (af x.at_)from J) ?_;refine g_ 6 ?_;refine eM (t:=206) J (λaoc=>?_) (λaoc=>?_)
   . refine g_ 1 ?_;replace h:=h.zz [3,2,2,3] 0;refine xm (v1:=af 4) J J J J J J (aH (lR (n:=4) (at_:=D) h (hN.sub aP) I I) ?_);rintro e s ⟨ow,aGS,rfl,how,aMd,h⟩;refine g_ 4 ?_;replace h:=h.zz [3,1,3,3] 0;exact⟨aS,aGS,decide (0<ow),az,h,I,(λ_=>aoc)⟩
   refine g_ 6 ?_;exact⟨aS,D,false,az,h,I,(λe=>by cases e)⟩
   rintro ρ w ⟨mV,Wp,⟨aGb,rfl⟩,h,PC,aGT⟩;refine g_ 6 ?_;replace h:=h.zz [3,3,3] 0;refine eS J J J J ?_;rw[<-u.1,<-u.2.1]at h;refine(aGB (X:=T) (size:=sz) (last:=Wp) (lo:=lo) (tO:=tO) h (hN.sub aP) I uA ⟨by rw[u.2.2.1,u.2.2.2.1,u.2.2.2.2.1];exact hT.sub aP,K.ln.sub (Sub.cons _ _),λk hk=>⟨(K.tb k hk).1.sub (Sub.cons _ _),(K.tb k hk).2⟩,K.seen,K.bO,K.a1,K.a,K.b,K.c⟩ I I I).mono ?_;rintro e s ⟨R,mo7,Gn,o8,A,S8,c8,o,lo7,tO7,rfl,PS,adx,aGU,tj,aGV,PW,aMe,h⟩;refine⟨_,J,?_⟩;rw[u.1,u.2.1]at h;have yc:(o.cb=bC/\o.mb=g/\o.ta=ta/\o.tn=tn/\o.tc=tc/\o.bO=bO):=⟨tj.1.trans u.1,tj.2.1.trans u.2.1,tj.2.2.1.trans u.2.2.1,tj.2.2.2.1.trans u.2.2.2.1,tj.2.2.2.2.1.trans u.2.2.2.2.1,tj.2.2.2.2.2.1.trans u.2.2.2.2.2⟩;have aod:=tj.2.2.2.2.2.2;have aoe:=aGV.IK (by rw[yc.2.2.1,yc.2.2.2.1,yc.2.2.2.2.1];exact hT.sub aP);rw[<-bV Gn G ((ah bs [af sg,af 2,af 4,af 8] 3)::F)]at aoe;replace h:=h.aGt;rw[<-bV Gn G ((ah bs [af sg,af 2,af 4,af 8] 3)::F)]at h;rw[u.2.2.2.2.2]at PW;have aMf:W i<=137500000000:=I;refine mC (X:=j++i) (Y:=A) (F:=[EB o8 A S8]) h 1 J J J LH (PS.sl) xI (by rw[aF];omega) J ?_;intro w o9 c9 S9 h qf;dsimp only[bJ]at h;replace h:=h.tail;rw[bV j i A]at h qf;have ela:W (j++i++A)=W (j++(i++A)):=(by rw[bV]);have aMg:W (i++A)<=131100*(x.at_+1):=(by rw[aF];omega);refine g_ 7 ?_;refine eY J ?_ ?_<;>intro GW
   have ak6:=aGT GW;rw[GW]at PW;exact jl ⟨aO 24,o9,i++A,S9,c9,R,mo7,o,Gn++G,Kn.mk ⟨(gS J ela),trivial⟩,h,bG ⟨_,_,_,_,_,_,_,_,_,_,_,_,_,_,hBS,I,I,I,PW,J⟩,qf,I⟩
   rw[GW]at PW;have aof:xt T bO o.at_ lo7 tO7 o.a o.b o.c (i++A):=(by rw[aod];exact xt.step hBS I I I PW);have aMh:131100*(x.at_+1)<=137500000000:=I;refine g_ 6 ?_;refine aX h J (show(bj o)[0+2]? =some (af o.at_)from J) ?_;refine g_ 4 ?_;refine au J ?_ ?_<;>intro aMi
   . refine g_ 3 ?_;refine cJ (v0:=cR 1) (v1:=af 3) J J J (aH (rE (x:=1) (k:=3) h I I) ?_);rintro e s ⟨oW,lS,mT,rfl,P,h⟩;refine mC (X:=j++(i++A)) (Y:=bQ 1 3) (F:=[EB oW (bQ 1 3) lS]) h 1 (gS J ela) (gS J (cY _ _).symm) J qf (P.sl) xI (by rw[aF,cY];omega) J ?_;intro w o11 c11 S11 h Wd;dsimp only[bJ]at h;replace h:=h.tail;rw[bV j]at h Wd;have elb:W (j++(i++A)++bQ 1 3)=W (j++((i++A)++bQ 1 3)):=(by rw[bV]);refine g_ 3 ?_;exact⟨aO 35,o11,(i++A)++bQ 1 3,S11,c11,R,mo7,o,Gn++G,Kn.mk ⟨(gS J elb),trivial⟩,h,a_ ⟨_,_,_,_,_,_,((I:o.at_=W T)▸aof),J⟩,Wd,(by rw[aF,cY];omega)⟩
   have aGW:R<=100+3000*o.at_:=I;have aGX:W (i++A)<=131100*o.at_:=(by rw[aod];omega);exact a8 ⟨aO 30,(o,R,mo7,Gn++G,o9,i++A,S9,c9,lo7,tO7),cQ,Kn.mk ⟨(gS J ela),trivial⟩,h,yc,aof,I,aoe,aGU,aGW,qf,aGX⟩
 rintro ρ w ⟨vG,DF,IP,PT,IN,PV,nr,DI,⟨aMj,rfl⟩,h,hBF,Wc,hDF⟩;refine cW [(11,11),(228,235)] (λρ w=> ∃sb:List UInt8,∃gV:Option Nat,∃Wq:List UInt8,∃Wu:Nat,Kn ρ [(11,.slice (aI gV) (W (j++DF++sb)) Wu)]/\H r w (EB gV (j++DF++sb) Wq::(ah y (bj nr) 49)::(ah bC [.slice p nn nc,af IN] 38)::(some g,PV)::(DI++((ah bs [af sg,af 2,af 4,af 8] 3)::F)))/\((sm=1/\sb=bQ (lF T % 4294967296) 4)\/(sm=0/\sb=[]))/\(BB gV (j++DF++sb) Wq Wu)) ?_ ?_
 refine g_ 5 ?_;refine au J ?_ ?_<;>intro aGY
 . refine g_ 3 ?_;refine d' J J (aH (aFe (X:=T) h (hT.sub aP) (aA (fQ (a:=(ah y (bj nr) 49)))) I) ?_);rintro e s ⟨rfl,h⟩;have hxm:=dY (lF T) (show 0<4294967296 by decide);refine g_ 1 ?_;refine cJ (v1:=af 4) J J J (aH (rE (x:=lF T % 4294967296) (k:=4) h I I) ?_);rintro e s ⟨oW,lS,mT,rfl,P,h⟩;refine mC (X:=j++DF) (Y:=bQ (lF T % 4294967296) 4) (F:=[EB oW (bQ (lF T % 4294967296) 4) lS]) h 1 J (gS J (cY _ _).symm) J Wc (P.sl) xI (by rw[aF,cY];omega) J ?_;intro w o12 c12 S12 h aGZ;dsimp only[bJ]at h;replace h:=h.tail;exact ee (aJ ⟨aO 9,bQ (lF T % 4294967296) 4,o12,S12,c12,az,h,a_ ⟨aGY,J⟩,aGZ⟩)
 have h0:=h;clear h;have h:H r w (EB vG (j++DF++[]) IP::(ah y (bj nr) 49)::(ah bC [.slice p nn nc,af IN] 38)::(some g,PV)::(DI++((ah bs [af sg,af 2,af 4,af 8] 3)::F))):=(by rw[dN];exact h0);exact a8 ⟨aO 2,[],vG,IP,PT,Kn.mk ⟨(gS J (by rw[dN])),trivial⟩,h,bG ⟨I,J⟩,(by rw[dN];exact Wc)⟩
 rintro ρ w ⟨sb,gV,Wq,Wu,⟨aMk,rfl⟩,h,Dt,aG0⟩;refine g_ 6 ?_
 have bF:W sb<=4:=by
  rcases Dt with⟨_,e⟩| ⟨_,e⟩
  rw[e,cY];exact aW _
  rw[e];exact cj _
 refine⟨gV,_,Wq,Wu,J,aG0,by rw[aF,aF];omega,by rw[aF,aF];omega,⟨f,sg,v,sm,id,bO,wd,DF,sb,hf,I,I,I,I,LC,du,hBF,Dt,?_⟩,(H.aGu (Z:=[(ah y (bj nr) 49),(ah bC [.slice p nn nc,af IN] 38),(some g,PV)]++(DI++[(ah bs [af sg,af 2,af 4,af 8] 3)])) (by simpa using h))⟩;exact cD (λz=>z++DF++sb) hHE
variable {a r:List Bool}{N:Nat}
def aG1(v n:Nat):cT v (n+1)=decide (v/2^n % 2=1)::cT v n:=by
 unfold cT;rw[List.range_succ_eq_map,DM,F3];refine cD (decide (v/2^n % 2=1):: ·) (I_ λi hi=>?_);show decide (v/2^(n+1-1- (i+1)) % 2=1)=_;rw[show n+1-1- (i+1)=n-1-i by omega]
def aG2(b:Bool)(l:List Bool):jd (b::l)=b.toNat*2^W l+jd l:=by
 rw[show b::l=[b]++l from J,Pc];cases b<;>simp[jd]
def aog(n:Nat):(decide (n % 2=1)).toNat=n % 2:=by
 rcases Nat.mod_two_eq_zero_or_one n with h|h<;>simp[h]
def aoh(v:Nat): ∀n,jd (cT v n)=v % 2^n
 |0=>by simp[cT,jd,IX]
 |n+1=>by rw[aG1,aG2,aoh v n,vN,aog,QY,uC]
def aoi(v n:Nat):eD v (n+1)=eD v n++[decide (v/2^n % 2=1)]:=by
 simp[eD,pR]
def aoj(v:Nat): ∀n,ng (eD v n)=v % 2^n
 |0=>by simp[eD,ng,IX]
 |n+1=>by rw[aoi,Pe,aoj v n,oT,QY];show _+2^n*((decide _).toNat+2*0)=_;rw[aog,Qv,kN,im]
def aok(l:List Bool):num (kX l)=2^W l+jd l:=by
 unfold kX;rw[Aa,Ju,iV];have h1:=Pd l;have h2:2^(W l+1)<=2^(8*(W l/8+1)):=dF an I;rw[jI]at h2;omega
def adG(l:List Bool):jg (kX l)=some (W l):=by
 have a:W (kX l)-1=W l/8:=(by rw[Dm];omega);have hb:uX (kX l)=2^(W l % 8)+jd l/2^(8*(W l/8)):=(by unfold uX;rw[XL,a,aok,Ju];have e:2^W l=2^(8*(W l/8))*2^(W l % 8):=(by rw[<-h_,DT]);have h1:=Pd l;have b:jd l/2^(8*(W l/8))<2^(W l % 8):=(by rw[e]at h1;exact Nat.div_lt_of_lt_mul h1);rw[e,Nat.mul_add_div (eA _)];have f:2^(W l % 8)<=2^7:=dF an I;exact iV I);have h1:=Pd l;have e:2^W l=2^(8*(W l/8))*2^(W l % 8):=(by rw[<-h_,DT]);have b:jd l/2^(8*(W l/8))<2^(W l % 8):=(by rw[e]at h1;exact Nat.div_lt_of_lt_mul h1);have hp:=eA (W l % 8);clear e h1;generalize jd l/2^(8*(W l/8))=Q at*;have c:uX (kX l)≠0:=(by rw[hb];exact Nat.ne_of_gt (qN hp (lV _ _)));have d:(uX (kX l)).log2=W l % 8:=(I0 c).2 ⟨by rw[hb];exact lV _ _,by rw[hb,jI,Nat.mul_two];exact Nat.add_lt_add_left b _⟩;unfold jg;rw[aj (λe=>e.elim (by rw[Dm];exact Nat.succ_ne_zero _) c),d,a];congr 1;omega
def Bk(N:Nat)(left:Int)(r:List Bool):Prop:=left=(W r:Int)/\ ∃p,N=2^W (p++r)+jd (p++r)
def Bk.init(l:List Bool):Bk (num (kX l)) (W l:Int) l:=⟨J,[],aok l⟩
def Bk.skip{left:Int}(h:Bk N left (a++r)){n:Nat}(b:W a=n):Bk N (left-n) r:=by
 obtain⟨h1,p,h2⟩:=h;refine⟨by rw[h1,aF];omega,p++a,by rw[h2];simp only[bV]⟩
def Bk.val{left:Int}(h:Bk N left (a++r)){n:Nat}(b:W a=n):dE N left n=jd a:=by
 obtain⟨h1,p,h2⟩:=h;rw[h1,Ca N n _ (by rw[aF];omega)];unfold dJ;have c:=Pd a;have d:=Pd r;have e:W (a++r)-n=W r:=(by rw[aF];omega);have e2:W (p++(a++r))=W r+(n+W p):=(by simp only[aF];omega);have f:N=2^W r*(2^n*(2^W p+jd p)+jd a)+jd r:=(by rw[h2,Pc,Pc,e2,h_,h_,aF,b,uC n (W r),h_,yO,yO,yO];rw[im (jd a),Nat.mul_left_comm (jd p),im (jd p)];simp only[fL]);rw[e,f,Nat.mul_add_div (eA _),yN d,kN,Nat.mul_add_mod,iV (by rw[<-b];exact c)]
def Bk.read{left:Int}{v:Nat}(h:Bk N left (cT v n++r))(a:v<2^n):dE N left n=v/\Bk N (left-n) r:=
 ⟨by rw[h.val (vN v n),aoh,iV a],h.skip (vN v n)⟩
def Bk.Ww{left:Int}(h:Bk N left r):0<=left:=by rw[h.1];omega
def aol(N:Nat)(left:Int)(n:Nat): ∀k,dE N left (n+k)/2^k=dE N left n
 |0=>by simp
 |k+1=>by rw[<-aol N left n k,<-fL,dE,xu,<-rM];congr 1;split<;>omega
def Lo(N len at_:Nat)(r:List Bool):Prop:=at_+W r<=8*len/\ ∃M,N/2^at_=ng r+2^W r*M
def Lo.init(l:List Bool)(D:List UInt8):Lo (num (rD l++D)) (W (rD l++D)) 0 l:=by
 have a:W l<=8*((W l+7)/8):=I;refine⟨by rw[aF,Iu];omega,2^(8*((W l+7)/8) -W l)*num D,?_⟩;have h1:=acs l;have h2:2^W l<=2^(8*((W l+7)/8)):=dF an a;rw[F8,Nat.div_one,Cb,Iu];unfold rD;rw[Aa,Ju,iV I,<-sK,<-h_,show W l+(8*((W l+7)/8) -W l)=8*((W l+7)/8) by omega]
def Lo.read{len at_ v:Nat}{bad:Bool}(h:Lo N len at_ (eD v n++r))(a:v<2^n):gh N len at_ bad n=(v,at_+n,bad)/\Lo N len (at_+n) r:=by
 obtain⟨h1,M,h2⟩:=h;rw[aF,oT]at h1;rw[Pe,aoj,iV a,oT,aF,oT,h_]at h2;have e:N/2^at_=2^n*(ng r+2^W r*M)+v:=(by rw[h2,yO,sK];omega);refine⟨?_,I,M,?_⟩
 unfold gh;rw[ao I];unfold dJ;rw[e,Nat.mul_add_mod,iV a]
 rw[h_,<-rM,e,Nat.mul_add_div (eA _),yN a,kN]
def aom(v n:Nat):eD v (n+1)=eD (v % 2^n) n++eD (v/2^n) 1:=by
 have h:eD (v % 2^n) n=eD v n:=(by unfold eD;refine I_ λi hi=>?_;have hi:=oY.1 hi;have e:v % 2^n/2^i % 2=v/2^i % 2:=(by rw[show 2^n=2^i*2^(n-i) by rw[<-h_];congr 1;omega,Md,show n-i=(n-i-1)+1 by omega,xu,Nat.mod_mul_right_mod]);rw[e]);rw[aoi,h];simp[eD]
def Lo.value{len at_ v left:Nat}{bad:Bool}(h:Lo N len at_ (lT left v++r))(l:v<=left+1):ky N len at_ bad (left+1)=(v,at_+W (lT left v),bad)/\Lo N len (at_+W (lT left v)) r:=by
 unfold lT at h ⊢;unfold ky;unfold yD at h ⊢;have i:left+1≠0:=I;have h1:=F2 i;have h2:= @yQ (left+1);generalize left+1=m at*;generalize m.log2=g at*;rw[jI]at h2;simp only[yS]at h ⊢;have j:2^(g+1) -1-m=2*2^g-1-m:=(by rw[jI,im]);generalize f:2^g=P at*;rw[j]at h ⊢;split at h
 rename_i a;obtain⟨b,e2⟩:=h.read (bad:=bad) I;rw[ao a,b,oT];exact⟨ao a,e2⟩
 rename_i a;rw[aj a];split at h
 rename_i c;rw[ao c];rw[aom,bV,f,iV c,yN c]at h;obtain⟨b,e2⟩:=h.read (bad:=bad) I;obtain⟨d,e⟩:=e2.read (bad:=bad) an;rw[oT];refine⟨?_,e⟩;rw[b];simp only;rw[aj a,d];simp only;rw[aj (show ¬(0:Nat)=1 by decide),aj I];rfl
 rename_i c;rw[aj c];have hd:(v+(2*P-1-m))/P=1:=(by rw[Nat.div_eq_iff I];omega);have k:(v+(2*P-1-m)) % P=v+(2*P-1-m) -P:=(by rw[Nat.mod_eq_sub_mod I,iV I]);rw[aom,bV,f,k,hd]at h;obtain⟨b,e2⟩:=h.read (bad:=bad) I;obtain⟨d,e⟩:=e2.read (bad:=bad) an;rw[oT];refine⟨?_,e⟩;rw[b];simp only;rw[aj I,d];simp only;simp only[FU];rw[ao I];refine Prod.ext ?_ J;show _-_=_;omega
variable {l:List Int}
def aon{N len symbols:Nat}{r:List Bool}: ∀(g f z a:Nat) (out:List Int),Lo N len a (oU g z++r)->z<g->z<f->W out+z<=symbols->nt N len symbols f out a=some (out++aT z 0,a+W (oU g z))/\Lo N len (a+W (oU g z)) r
 |0,_,_,_,_,_,h,_,_=>absurd h (ma _)
 |_+1,0,_,_,_,_,_,h,_=>absurd h (ma _)
 | g+1,f+1,z,a,out,h,i,j,hs=>by
  unfold oU at h ⊢;rw[nt];by_cases c:3<=z
  rw[ao c]at h ⊢;rw[bV]at h;obtain⟨b,e2⟩:=h.read (bad:=false) an;obtain⟨d,e⟩:=aon (symbols:=symbols) g f (z-3) (a+2) (out++aT 3 0) e2 I I (by rw[aF,dS];omega);simp only[b];rw[aj (by rw[aF,dS];simp;omega),aj an,d,aF,oT,<-fL];refine⟨?_,e⟩;rw[bV,F5,show 3+(z-3)=z by omega]
  rw[aj c]at h ⊢;obtain⟨b,e2⟩:=h.read (bad:=false) I;simp only[b];rw[aj (by rw[aF,dS];simp;omega),ao I,oT];exact⟨J,e2⟩
def adH: ∀l:List Int,l=aT (j6 l) 0++l.drop (j6 l)
 | []=>rfl
 | p::l=>by
  unfold j6;split
  rename_i h;rw[DQ,List.drop_succ_cons,List.cons_append,<-adH l,h]
  rfl
def aG3(b:l≠ [])(h:aa l (W l-1) 0≠0):j6 l<W l:=by
 have h1:=al4 l;have h2:0<W l:=List.length_pos_iff.2 b;rcases dq (j6 l) (W l) with a|a
 exact a
 exfalso;apply h;have e:l=aT (W l) 0:=(by have:=adH l;rw[show j6 l=W l by omega,List.drop_length,dN]at this;exact this);rw[e,bX,rK];split<;>rfl
def aoo(p:Int)(l:List Int):wt (p::l)=fK p+wt l:=rfl
def aG4:fK 0=0:=rfl
def aG5(h:aa l (W l-1) 0≠0)(a: ∀i,-1<=aa l i 0):0<wt l:=by
 have key: ∀(l:List Int) (i:Nat),-1<=aa l i 0->aa l i 0≠0->0<wt l:=by
  intro l
  induction l with
  |nil=>intro i _ h;simp at h
  | cons p l b=>
    intro i h1 h2
    rw[aoo]
    cases i with
    | zero=>
      rw[pS]at h1 h2
      have:0<fK p:=by unfold fK;split<;>omega
      omega
    | succ i=>
      rw[qh]at h1 h2
      have:=b i h1 h2
      omega
 exact key l _ (a _) h
def adI{N len symbols:Nat}{r:List Bool}: ∀(f left a:Nat) (l out:List Int),Lo N len a (kh left l++r)->wt l=left->(∀i,-1<=aa l i 0)->(l=[]\/aa l (W l-1) 0≠0)->W l<f->W out+W l<=symbols->gz N len symbols f left out a=some (out++l,a+W (kh left l))/\Lo N len (a+W (kh left l)) r
 |0,_,_,_,_,_,_,_,_,h,_=>absurd h (ma _)
 |f+1,left,a,[],out,h,hw,_,_,_,_=>by have e:left=0:=hw.symm;subst e;rw[gz,ao J,dN];exact⟨J,h⟩
 | f+1,left,a,p::l,out,h,hw,j,w,x,hs=>by
  have hp:=j 0;rw[pS]at hp;have b: ∀i,-1<=aa l i 0:=λi=>(by have:=j (i+1);rwa [qh]at this);have c:aa (p::l) (W (p::l)-1) 0≠0:=w.resolve_left (λe=>by cases e);have k:=aG5 c j;rw[hw]at k
  have d:l=[]\/aa l (W l-1) 0≠0:=by
   cases l with
   |nil=>exact a_ J
   |cons q l=>exact bG c
  rw[aoo]at hw;simp only[dL]at x hs;rw[gz,aj I];by_cases s:p=0
  subst s;rw[aG4,il]at hw;have t:l≠ []:=λe=>(by subst e;rw[<-hw]at k;exact absurd k an);have u:=d.resolve_left t;rw[al7]at h ⊢;rw[bV,bV]at h;obtain⟨m,e2⟩:=h.value (bad:=false) I;have y:=aG3 t u;obtain⟨z,A⟩:=aon (symbols:=symbols) (W l) (symbols+1) (j6 l) _ (out++[0]) e2 y I (by rw[aF];simp only[dL,eW];omega);have et:=adH l;have B:wt (l.drop (j6 l))=left:=(by rw[et,Cm,Yl,il]at hw;exact hw)
  obtain⟨n,g⟩:=adI (symbols:=symbols) f left _ (l.drop (j6 l)) (out++[0]++aT (j6 l) 0) A B
    (λi=>by rw[bX,nQ,<-bX];exact b _)
    (bG (by rw[bX,nQ,cr,<-bX,show j6 l+(W l-j6 l-1)=W l-1 by omega];exact u))
    (by rw[cr];omega) (by simp only[aF,cr,dS,dL,eW];omega)
  simp only[m];rw[aj (by simp;omega),ao trivial,aj an];have o:((1:Nat):Int) -1=0:=an;rw[o,z];simp only[rO,vX,F1];rw[n];simp only[aF]at g ⊢;rw[show a+(W (lT left 1)+(W (oU (W l) (j6 l))+W (kh left (l.drop (j6 l)))))=a+W (lT left 1)+W (oU (W l) (j6 l))+W (kh left (l.drop (j6 l))) by omega];refine⟨?_,g⟩;congr 2;rw[bV,bV,<-et];rfl
  rw[al6 s]at h ⊢;rw[bV]at h;have v:fK p=if p= -1 then 1 else p.toNat:=rfl;obtain⟨m,e2⟩:=h.value (bad:=false) (by rw[v]at hw;split at hw<;>omega);obtain⟨n,g⟩:=adI (symbols:=symbols) f (left-fK p) _ l (out++[p]) e2 I b d I (by rw[aF];simp only[dL,eW];omega);simp only[m];rw[aj (by simp;omega),aj I];have o:(((p+1).toNat:Nat):Int) -1=p:=I;have C:(if(p+1).toNat=0 then left-1 else left- ((p+1).toNat-1))=left-fK p:=(by rw[v];split<;>split<;>omega);rw[o,C,n,aF,<-fL,bV];exact⟨J,g⟩
def aos{P:List Int}{log lJ symbols:Nat}{D:List UInt8}(g:5<=log)(a:log<=20)(hm:log<=lJ)(hs:W P<=symbols)(hw:wt P=2^log)(b: ∀i,-1<=aa P i 0)(c:aa P (W P-1) 0≠0):fO (num (rD (eD (log-5) 4++kh (2^log) P)++D)) (W (rD (eD (log-5) 4++kh (2^log) P)++D)) lJ symbols=some (P,log,W (rD (eD (log-5) 4++kh (2^log) P))):=by
 have h:=Lo.init (eD (log-5) 4++kh (2^log) P) D;have d:=Iu (eD (log-5) 4++kh (2^log) P);obtain⟨e,e2⟩:=h.read (bad:=false) (I:log-5<2^4);obtain⟨f,_⟩:=adI (symbols:=symbols) (symbols+1) (2^log) _ P [] (by rw[dN];exact e2) hw b (bG c) I (by simpa using hs);unfold fO;simp only[e];rw[aj (by simp;omega),show log-5+5=log by omega,f];simp only[List.nil_append];rw[d,aF,oT,il]
variable {P:List Int}{B:List UInt8}
def rI{A B C:List UInt8}{q n:Nat}(a:W A=q)(b:W B=n):ag (A++(B++C)) q n=B:=by
 subst a;subst b;unfold ag;rw[List.drop_left,List.take_left]
def L3{D:List UInt8}(h:n<256):byte (bS n::D) 0=n:=by
 unfold byte;rw[pS,Ak];exact iV h
def aG6{o o':Option Tb}{kind mode:Nat}{S:List Nat}{t:Tb}{D:List UInt8}(h:Dv o kind mode S t B)(b: ∀t,o=some t->o'=some t):ke o' kind mode (B++D)=some (t,W B):=by
 have hm:= @ahR kind;rcases h with⟨rfl,rfl,rfl⟩| ⟨rfl,c,h1,rfl,rfl⟩| ⟨rfl,P,log,h1,h2,a,rfl,rfl⟩| ⟨rfl,h1,rfl⟩
 rfl
 unfold ke;rw[aj an,ao J,show [bS c]++D=bS c::D from J,L3 I,aj (by simp;omega)];rfl
 unfold ke;rw[aj an,aj an,ao J,aos I I h2 a.len a.sum a.lo a.last];rfl
 unfold ke;rw[aj an,aj an,aj an,b t h1];rfl
def L4(cs:List dx)(St:List Nat):Nat->Nat->List Bool
 |_,0=> []
 |i,m+1=>cT (aa St (i+2) 0- (aa cs (aa St i 0) default).base) (aa cs (aa St i 0) default).bits++L4 cs St (i+1) m
def aG7(cs:List dx)(St:List Nat)(k:Nat):ou cs St k=L4 cs St 0 k:=by
 have key: ∀m i,(List.range' i m).flatMap (λi=>cT (aa St (i+2) 0- (aa cs (aa St i 0) default).base) (aa cs (aa St i 0) default).bits)=L4 cs St i m:=by
  intro m
  induction m with
  |zero=>intro i;rfl
  |succ m a=>intro i;rw[List.range'_succ,BK,a (i+1),L4]
 unfold ou;rw[List.range_eq_range',key]
def aot{N n:Nat}{cs:List dx}{St Ws:List Nat}(e:W Ws=n)(b:n<=255)(a: ∀i,i<n->(aa cs (aa St i 0) default).sym=aa Ws i 0)(c: ∀i,i+2<n->(aa cs (aa St i 0) default).base<=aa St (i+2) 0/\aa St (i+2) 0<(aa cs (aa St i 0) default).base+2^(aa cs (aa St i 0) default).bits)(d:1<=(aa cs (aa St (n-2) 0) default).bits): ∀(m i f:Nat) (left:Int),i+m+2=n->m<f->Bk N left (L4 cs St i m)->sd N cs f (aa St i 0) (aa St (i+1) 0) left (Ws.take i)=some Ws
 |_,_,0,_,_,h,_=>absurd h (ma _)
 |0,i,f+1,left,hi,_,hb=>by have k:left=0:=hb.1;have g:n-2=i:=I;rw[g]at d;rw[Nm];rw[ao I,fR,ao I,a i I,a (i+1) I,<-lY Ws 0 i I,<-lY Ws 0 (i+1) I,je I]
 |m+1,i,f+1,left,hi,l,hb=>by obtain⟨h1,h2⟩:=c i I;rw[L4]at hb;obtain⟨j,e2⟩:=hb.read I;have o:=e2.Ww;rw[Nm];rw[aj I,fR,aj I,j,a i I,<-lY Ws 0 i I,Nat.add_sub_cancel' h1];exact aot e b a c d m (i+1) f _ I I e2
def aG8{log s:Nat}(h:iy P log)(a:s<W P)(hs:aa P s 0≠0)(f:fK (aa P s 0)<2^log): ∃j,j<2^log/\(aa (dn P log) j default).sym=s/\1<=(aa (dn P log) j default).bits:=by
 have m:=h.lo s;by_cases k:aa P s 0= -1
 obtain⟨h1,h2⟩:=amJ h a k;exact⟨_,h1,by rw[h2],by rw[h2];show 1<=log;have:=h.mJ;omega⟩
 obtain⟨p,hp⟩: ∃p:Nat,aa P s 0=(p:Int):=⟨(aa P s 0).toNat,I⟩;have l:0<p:=I;obtain⟨x,g,b,d⟩:=acI (n:=0) (shares:=P) (log:=log) (s:=s) (c:=0) (i:=Go.Z.high P log) (by rw[amE h a,hp,Qz];exact l);have e:=amH h g b a;rw[d,hp,show(((p:Nat):Int)+((0:Nat):Int)).toNat=p by omega]at e;rw[hp,amg]at f;have h2:=(qR (I:p≠0)).2 f;exact⟨x,qN g h.wB,by rw[e],by rw[e];show 1<=log-p.log2;omega⟩
def aG9{Ws:List Nat}{St:List Nat}(h:LB Ws lg P St)(b:W Ws<=255):wF (jP lg P St)=some Ws:=by
 have oK:=h.oK;have m:=h.l3;have hlen:=h.sg.len;have c:iy P lg:=h.sg.ok I an;have n:=h.len;unfold wF;unfold jP;rw[aos I I oK.2 I h.sg.sum h.sg.lo h.sg.last];simp only;rw[l9 (by rw[aF];omega),List.drop_left,adG];simp only;have hb:=Bk.init (cT (aa St 0 0) lg++cT (aa St 1 0) lg++ou (dn P lg) St (W St-2));generalize num (kX (cT (aa St 0 0) lg++cT (aa St 1 0) lg++ou (dn P lg) St (W St-2)))=N at*;generalize ((W (cT (aa St 0 0) lg++cT (aa St 1 0) lg++ou (dn P lg) St (W St-2)):Nat):Int)=left at*;rw[bV]at hb;obtain⟨d,e2⟩:=hb.read (h.st 0 I).1;obtain⟨e,a⟩:=e2.read (h.st 1 I).1;have o:=a.Ww;rw[aj I,d,e];rw[aG7]at a;refine aot J b (λi hi=>(h.st i hi).2) h.nx ?_ _ 0 257 _ I I a;have hm:aa Ws (W Ws-2) 0∈Ws:=Vv I;have hs:=h.sg.sym _ hm
 have f:aa Ws (W Ws-2) 0<W P:=by
  rcases dq (aa Ws (W Ws-2) 0) (W P) with z|z
  exact z
  exact absurd (by rw[bX,gB z];rfl) hs
 obtain⟨j,g,k,l⟩:=aG8 c f hs (h.sg.lt _);exact aM l (h.en (W Ws-2) I I j g k)
def aG_(l:List Nat):(cL (W l)).map (λj=>aa l j 0)=l:=by
 apply nR;intro i;by_cases h:i<W l
 simp[h]
 rw[gB (by simp;omega),gB I]
def aG'{l:List Nat}{D:List UInt8}(h:LF l B)(b:vQ l):gL (B++D)=(g9 (cH l)).map λt=>(t,W B):=by
 have d:=Vz l;have hle:=b.len;rcases h with⟨lg,P,St,rfl,h2,c⟩| ⟨rfl,h2,c⟩
 unfold gL;rw[List.cons_append];simp only[L3 (I:W (jP lg P St)<256)];have a:(if 128<=W (jP lg P St) then(W (jP lg P St)-127+1)/2 else(jP lg P St).length)=W (jP lg P St):=aj I;rw[aj (by simp),a,aj (by simp;omega),aj I];have e:= @rI [bS (W (jP lg P St))] (jP lg P St) D 1 (W (jP lg P St)) J J;rw[show bS (W (jP lg P St))::(jP lg P St++D)=[bS (W (jP lg P St))]++(jP lg P St++D)from J,e,aG9 c I];simp only[rO,dL,uC]
 unfold gL;rw[List.cons_append];simp only[L3 (I:127+W (cH l)<256)];have a:(if 128<=127+W (cH l) then(127+W (cH l)-127+1)/2 else 127+W (cH l))=(W (cH l)+1)/2:=(by rw[ao I];omega);rw[aj (by simp),a,aj (by simp[Pu];omega),ao I,show 127+W (cH l)-127=W (cH l) by omega]
 have e:((cL (W (cH l))).map λi=>byte (bS (127+W (cH l))::(qb (cH l) ((W (cH l)+1)/2)++D)) (1+i/2)/2^(4-i % 2*4) % 16)=cH l:=by
  (conv=>rhs;rw[<-aG_ (cH l)]);refine I_ λi hi=>?_;have hi:=oY.1 hi;have a1:=acN b.le (2*(i/2));have a2:=acN b.le (2*(i/2)+1);have a:byte (bS (127+W (cH l))::(qb (cH l) ((W (cH l)+1)/2)++D)) (1+i/2)=aa (cH l) (2*(i/2)) 0*16+aa (cH l) (2*(i/2)+1) 0:=(by unfold byte;rw[uC 1,qh,bX,gP (by rw[Pu];omega)];unfold qb;rw[kP,Ah I];show(bS _).toNat=_;rw[Ak];exact iV I);rw[a];rcases Nat.mod_two_eq_zero_or_one i with z|z
  rw[z,show 2^(4-0*4)=16 from J];rw[show 2*(i/2)=i by omega]at a1 a2 ⊢;omega
  rw[z,show 2^(4-1*4)=1 from J,Nat.div_one];rw[show 2*(i/2)+1=i by omega]at a2 ⊢;omega
 rw[e];simp only[dL,Pu,uC]
variable {Cd l:List Nat}
def nO(l:List Nat):Tr:=mr (l.map (jQ (dy l))) (dy l)
def aou: ∀a b:List Nat,kr (a++b)=kr a+kr b
 | [],b=>by simp[kr]
 |n::a,b=>by rw[List.cons_append,kr,kr,aou a b,fL]
def IT(l:List Nat)(m i:Nat):aa (l.map (jQ m)) i 0=jQ m (aa l i 0):=by
 simp only[bX,kP];cases l[i]? <;>rfl
def aHa{m:Nat}(a:n<=m)(hm:m<=11):2^(11-m)*w2 (jQ m n)=pO n:=by
 unfold w2 jQ pO;by_cases h:n=0
 rw[ao h,ao h];rfl
 rw[aj h,aj h,ao I,<-h_];congr 1;omega
def aov{l:List Nat}{m:Nat}(a: ∀s,aa l s 0<=m)(hm:m<=11): ∀i,i<=W l->2^(11-m)*eO (l.map (jQ m)) i=kr (l.take i)
 |0,_=>by simp[eO,kr]
 |i+1,hi=>by rw[eO,yO,aov a hm i I,IT,aHa (a i) hm,lY l 0 i I,aou];rfl
def aHb(h:vQ l):1<=dy l:=aM h.last BC
def adJ(h:vQ l):eO (l.map (jQ (dy l))) (W l)=2^dy l:=by
 have hm:=Ly h.le;have h1:=aov (λs=> @BC l s) hm (W l) (aW _);rw[BL,h.acC]at h1;refine Nat.eq_of_mul_eq_mul_left (eA (11-dy l)) ?_;rw[h1,<-h_,show 11-dy l+dy l=11 by omega]
def aHc(h:vQ l):g9 (cH l)=some (nO l):=by
 have hm:=Ly h.le;have f:=aHb h;have h2:=h.Lw;have p:= @BC l (W l-1);have g:=h.last;have i:W (cH l)=W l-1:=Vz l;have a:l.map (jQ (dy l))=cH l++[jQ (dy l) (aa l (W l-1) 0)]:=(by have e:=lY l 0 (W l-1) I;rw[je I]at e;have e2:=cD (ar (jQ (dy l))) e;rw[gJ]at e2;exact e2)
 have c: ∀j,aa (cH l) j 0<=dy l:=λj=>by
  have e:aa (cH l) j 0<=aa (l.map (jQ (dy l))) j 0:=by
   rcases dq j (W (cH l)) with z|z
   rw[a,bX,bX,gP z];exact aW _
   rw[bX,gB z];exact cj _
  rw[IT]at e;have e2:jQ (dy l) (aa l j 0)<=dy l:=(by unfold jQ;split<;>omega);omega
 have k:=adJ h;have hw:jQ (dy l) (aa l (W l-1) 0)=dy l+1-aa l (W l-1) 0:=(by unfold jQ;rw[aj I]);generalize m:jQ (dy l) (aa l (W l-1) 0)=wl at*;have q:eO (cH l) (W (cH l))+2^(wl-1)=2^dy l:=(by have d:eO (l.map (jQ (dy l))) (W l-1+1)=2^dy l:=(by rw[Nat.sub_add_cancel I];exact k);rw[eO,IT,m,a,YF I]at d;rw[i,<-d];unfold w2;rw[ao I]);have r:2^(wl-1)<=2^(dy l-1):=dF an I;have s:2^dy l=2*2^(dy l-1):=(by rw[<-xu];congr 1;omega);have t:=eA (wl-1);have b:eO (cH l) (W (cH l))≠0:=I;have n:mq (eO (cH l) (W (cH l)))=dy l:=(by unfold mq;have:(eO (cH l) (W (cH l))).log2=dy l-1:=(I0 b).2 ⟨I,by rw[Nat.sub_add_cancel f];omega⟩;omega)
 have o:qY (2^dy l-eO (cH l) (W (cH l)))=wl:=by
  rw[show 2^dy l-eO (cH l) (W (cH l))=2^(wl-1) by omega];unfold qY;by_cases z:wl=1
  subst z;rfl
  have d:2^(wl-1)=2*2^(wl-2):=(by rw[<-xu];congr 1;omega);have e2:=eA (wl-2);rw[aj I];have:(2^(wl-1) -1).log2=wl-2:=(I0 I).2 ⟨I,by rw[xu];omega⟩;omega
 unfold g9;rw[aj (by rw[any_false (λj _=>aM (c j) hm)];decide)];simp only;rw[aj b,n,o,aj I];unfold nO;rw[a]
def Wx{l:List Nat}{m k:Nat}(a:k<m): ∀i,W (ff (l.map (jQ m)) m (k+1) i)=ll l (m-k) i*2^k
 |0=>by simp[ff,ll]
 | i+1=>by
  rw[ff,ll,aF,Wx a i,IT,qQ];congr 1;by_cases h:aa l i 0=m-k
  rw[ao (by unfold jQ;rw[aj I];omega),ao h,dS];simp
  rw[aj (by unfold jQ;split<;>omega),aj h];simp
def Wy{l:List Nat}{m:Nat}: ∀k,k<=m->W (df (l.map (jQ m)) m k)=lvl l m k
 |0,_=>rfl
 |k+1,h=>by rw[df,lvl,aF,Wy k I,cB,Wx I]
def aox{l:List Nat}{m k s t:Nat}(a:k<m)(hs:aa l s 0=m-k)(b:t<2^k): ∀i,s<i->(ff (l.map (jQ m)) m (k+1) i)[ll l (m-k) s*2^k+t]? =some (s,m-k)
 |0,h=>absurd h (ma _)
 | i+1,h=>by
  rw[ff];by_cases e:s=i
  subst e;rw[l_ (by rw[Wx a];omega),Wx a,IT,hs,ao (by unfold jQ;rw[aj I];omega),tH,rK,ao (by simpa using b)];congr 2;omega
  have c:=aox a hs b i I;rw[gP (qP.1 c).1];exact c
def aoy{al:List Nat}{m j:Nat}{v:Nat×Nat}{k:Nat}(h:(df al m k)[j]? =some v): ∀d,(df al m (k+d))[j]? =some v
 |0=>h
 |d+1=>by have a:=aoy h d;rw[<-fL,df,gP (qP.1 a).1];exact a
def aoz{s t:Nat}(a:s<W l)(hs:0<aa l s 0)(b:t<2^(dy l-aa l s 0)):(df (l.map (jQ (dy l))) (dy l) (dy l))[FJ l (dy l) s+t]? =some (s,aa l s 0):=by
 have hle:= @BC l s;generalize c:dy l-aa l s 0=k at*;have e:aa l s 0=dy l-k:=I;have h1:(df (l.map (jQ (dy l))) (dy l) (k+1))[FJ l (dy l) s+t]? =some (s,aa l s 0):=(by unfold FJ;rw[c,df,l_ (by rw[Wy k I];omega),Wy k I,cB];rw[show lvl l (dy l) k+ll l (aa l s 0) s*2^k+t-lvl l (dy l) k=ll l (dy l-k) s*2^k+t by rw[e];omega];rw[aox I e b _ a,e]);have h2:=aoy h1 (dy l- (k+1));rw[show k+1+(dy l- (k+1))=dy l by omega]at h2;exact h2
def aoA(l:List Nat)(m k:Nat): ∀d,∃X,lvl l m (k+d)=lvl l m k+2^k*X
 |0=>⟨0,by simp⟩
 |d+1=>by obtain⟨X,a⟩:=aoA l m k d;refine⟨X+ll l (m- (k+d)) (W l)*2^d,?_⟩;rw[<-fL,lvl,a,yO,<-fL,h_,Nat.mul_left_comm]
def aHd(h:vQ l){k:Nat}(a:k<=dy l):2^k∣lvl l (dy l) k:=by
 obtain⟨X,b⟩:=aoA l (dy l) k (dy l-k)
 rw[Nat.add_sub_cancel' a,<-Wy _ (aW _),Nh,cB,RA (λj _=>by
   rw[IT];have:= @BC l j;unfold jQ;split<;>omega),adJ h]at b
 have h1:2^k∣lvl l (dy l) k+2^k*X:=(by rw[<-b];exact I8 2 a);exact(Nat.dvd_add_left (Nat.dvd_mul_right _ _)).1 h1
def aHe(h:vQ l)(hC:FK l Cd){s:Nat}(b:s<W l)(hs:0<aa l s 0):aa Cd s 0<2^aa l s 0/\ ∀(N:Nat) (left:Int),dE N left (aa l s 0)=aa Cd s 0->aa (nO l).bits (dE N left (dy l)) 0=aa l s 0/\aa (nO l).syms (dE N left (dy l)) 0=s:=by
 have hle:= @BC l s;have c:=hC.code s b hs;have hd:2^(dy l-aa l s 0)∣FJ l (dy l) s:=(by unfold FJ;exact Nat.dvd_add (aHd h (vZ _ _)) (Nat.dvd_mul_left _ _));obtain⟨q,d⟩:=hd;have hp:=eA (dy l-aa l s 0);rw[d,Nat.mul_div_cancel_left _ hp]at c;have hlen:W (df (l.map (jQ (dy l))) (dy l) (dy l))=2^dy l:=(by rw[Nh,cB,RA (λj _=>by rw[IT];have:= @BC l j;unfold jQ;split<;>omega),adJ h]);refine⟨?_,λN left f=>?_⟩
 have h1:=aoz b hs (t:=0) hp;have h2:=(qP.1 h1).1;rw[hlen,kN,d]at h2;rw[c];refine Nat.lt_of_mul_lt_mul_left (a:=2^(dy l-aa l s 0)) ?_;rw[<-h_,Nat.sub_add_cancel hle];exact h2
 have h1:=aol N left (aa l s 0) (dy l-aa l s 0);rw[Nat.add_sub_cancel' hle,f,c]at h1;have h2:=DT (dE N left (dy l)) (2^(dy l-aa l s 0));rw[h1,<-d]at h2;have e:=aoz b hs (t:=dE N left (dy l) % 2^(dy l-aa l s 0)) (dY _ hp);rw[h2]at e;unfold nO mr;simp only[bX,kP,e];exact⟨J,J⟩
def PX(l:List Nat)(T:List UInt8):Prop:= ∀i,i<W T->0<aa l (aa T i 0).toNat 0
def PY(l Cd:List Nat)(y:UInt8):List Bool:=cT (aa Cd y.toNat 0) (aa l y.toNat 0)
def aoB{l Cd:List Nat}(h:vQ l)(hC:FK l Cd){T:List UInt8}(a:PX l T){N L:Nat}(hb:Bk N (L:Int) (T.flatMap (PY l Cd))): ∀i,i<=W T->(fy N (nO l) L i).2=T.take i/\Bk N (fy N (nO l) L i).1 ((T.drop i).flatMap (PY l Cd))
 |0,_=>⟨J,hb⟩
 | i+1,hi=>by
  obtain⟨b,e2⟩:=aoB h hC a hb i I;have hs:=a i I
  have c:(aa T i 0).toNat<W l:=by
   rcases dq (aa T i 0).toNat (W l) with z|z
   exact z
   rw[bX (l:=l),gB z]at hs;exact absurd hs (vT _)
  have d:T.drop i=aa T i 0::T.drop (i+1):=(by rw[List.drop_eq_getElem_cons (I:i<W T)];simp[show i<W T by omega]);obtain⟨c1,c2⟩:=aHe h hC c hs;rw[d,BK]at e2;obtain⟨e,f⟩:=e2.read c1;obtain⟨g,j⟩:=c2 _ _ e;rw[fy];simp only;rw[show(nO l).aq=dy l from J,g,j,b,lY T 0 i I];exact⟨by rw[UInt8.ofNat_toNat],f⟩
def aoC(h:vQ l)(hC:FK l Cd){T:List UInt8}(a:PX l T):gE (gU l Cd T) (nO l) (W T)=(1,T):=by
 unfold gE gU;rw[aj (by rw[Dm];omega),adG];obtain⟨b,e2⟩:=aoB h hC a (Bk.init (T.flatMap (PY l Cd))) (W T) (aW _);rw[List.drop_length]at e2;have c:=e2.1;show(if(fy (num (kX (T.flatMap (PY l Cd)))) (nO l) (W (T.flatMap (PY l Cd))) (W T)).1≠0 then _ else _)=_;rw[c,aj (λe=>e J)];exact cD (Prod.mk 1) (b.trans (BL ..))
variable {X:List UInt8}{k:Nat}{lo:Option (List Nat)}
def Wz{E:List UInt8}{t:Tr}{many i pos size:Nat}{out T':List UInt8}(h:f_ E t many i=(1,out,pos))(a:(if i=3 then W E-pos else num (ag E (2*i) 2))=size)(b:(if i=3 then many-3*((many+3)/4)else(many+3)/4)=n)(hle:pos+size<=W E)(c:n≠0)(hd:gE (ag E pos size) t n=(1,T')):f_ E t many (i+1)=(1,out++T',pos+size):=by
 rw[f_];simp only[h,a,b,hd];rw[aj an,aj I,aj c,aj an]
def adK(h:n<=65535):num (bQ n 2)=n:=by rw[Aa];exact iV I
def adL(T:List UInt8)(i:Nat):eG T i=ag T (i*((W T+3)/4)) (min ((i+1)*((W T+3)/4)) (W T)-i*((W T+3)/4)):=rfl
def aHf(h:vQ l)(hC:FK l Cd){T:List UInt8}(q:PX l T)(C:6<=W T)(h1:1<=W T-3*((W T+3)/4))(hs: ∀i,i<4->W (gU l Cd (eG T i))<=65535):gZ (mU l Cd T 3++rF l Cd T 4) (nO l) (W T) true=(1,T):=by
 obtain⟨e,he⟩: ∃e,e=(W T+3)/4:=⟨_,J⟩;have hp: ∀i,i<=2->eG T i=ag T (i*e) e/\W (eG T i)=e:=λi hi=>(by have hm:(i+1)*e<=3*e:=rL _ I;have d:(i+1)*e=i*e+e:=vY _ _;rw[adL,<-he,l9 I,show(i+1)*e-i*e=e by omega];exact⟨J,dK I⟩);have f:eG T 3=T.drop (3*e)/\W (eG T 3)=W T-3*e:=(by rw[adL,<-he,DL I];have:ag T (3*e) (W T-3*e)=T.drop (3*e):=(by unfold ag;rw[je (by rw[cr];omega)]);rw[this,cr];exact⟨J,J⟩);have g: ∀i,i<=3->PX l (eG T i):=λi hi j c=>(by have hlen:W (eG T i)<=W T-i*e/\aa (eG T i) j 0=aa T (i*e+j) 0:=(by rw[adL,<-he]at c ⊢;have r:j<min ((i+1)*e) (W T)-i*e:=(by unfold ag at c;rw[fR]at c;omega);refine⟨by unfold ag;rw[fR,cr];omega,lD r⟩);rw[hlen.2];exact q _ I);have hd: ∀i,i<=3->gE (gU l Cd (eG T i)) (nO l) (W (eG T i))=(1,eG T i):=λi hi=>aoC h hC (g i hi);have s:eG T 0++eG T 1++eG T 2++eG T 3=T:=(by rw[(hp 0 an).1,(hp 1 an).1,(hp 2 an).1,f.1];unfold ag;rw[Nat.zero_mul,xA,rN,bV,bV];have d1:T.drop (2*e)=(T.drop e).drop e:=(by rw[kG];congr 1;omega);have d2:T.drop (3*e)=(T.drop (2*e)).drop e:=(by rw[kG];congr 1;omega);rw[d2,uD,d1,uD,uD]);have k:mU l Cd T 3++rF l Cd T 4=bQ (W (gU l Cd (eG T 0))) 2++(bQ (W (gU l Cd (eG T 1))) 2++(bQ (W (gU l Cd (eG T 2))) 2++(gU l Cd (eG T 0)++(gU l Cd (eG T 1)++(gU l Cd (eG T 2)++gU l Cd (eG T 3)))))):=(by unfold mU rF;simp[pR,I9]);rw[k];have u:=hs 0 an;have v:=hs 1 an;have d:=hs 2 an;have D:=hs 3 an;have m:=hd 0 an;have n:=hd 1 an;have o:=hd 2 an;have p:=hd 3 an;rw[(hp 0 an).2]at m;rw[(hp 1 an).2]at n;rw[(hp 2 an).2]at o;rw[f.2]at p;clear hs hd g k;generalize gU l Cd (eG T 0)=a at*;generalize gU l Cd (eG T 1)=S1 at*;generalize gU l Cd (eG T 2)=S2 at*;generalize gU l Cd (eG T 3)=S3 at*;obtain⟨E,b⟩: ∃E,E=bQ (W a) 2++(bQ (W S1) 2++(bQ (W S2) 2++(a++(S1++(S2++S3))))):=⟨_,J⟩;rw[<-b];have hlen:W E=6+W a+W S1+W S2+W S3:=(by rw[b];simp only[aF,cY];omega);have g0:ag E 0 2=bQ (W a) 2:=(by rw[b];exact rI (A:=[]) J (cY _ _));have g1:ag E 2 2=bQ (W S1) 2:=(by rw[b];exact rI (cY _ _) (cY _ _));have g2:ag E 4 2=bQ (W S2) 2:=(by rw[b,<-bV];exact rI (by simp[cY]) (cY _ _));have w:ag E 6 (W a)=a:=(by rw[b,<-bV,<-bV];exact rI (by simp[cY]) J);have x:ag E (6+W a) (W S1)=S1:=(by rw[b,<-bV,<-bV,<-bV];exact rI (by simp[cY];omega) J);have y:ag E (6+W a+W S1) (W S2)=S2:=(by rw[b,<-bV,<-bV,<-bV,<-bV];exact rI (by simp[cY];omega) J);have k3:ag E (6+W a+W S1+W S2) (W S3)=S3:=(by have:= @rI (bQ (W a) 2++(bQ (W S1) 2++(bQ (W S2) 2++(a++(S1++S2))))) S3 [] (6+W a+W S1+W S2) (W S3) (by simp[cY];omega) J;rw[dN]at this;rw[b];simpa [bV] using this);have a1:=Wz (t:=nO l) (many:=W T) (i:=0) (E:=E) (out:=[]) (pos:=6) J (by rw[aj an,g0,adK u]) (aj an) I I (by rw[w,<-he];exact m);have a2:=Wz a1 (by rw[aj an,g1,adK v]) (aj an) I I (by rw[x,<-he];exact n);have z:=Wz a2 (by rw[aj an,g2,adK d]) (aj an) I I (by rw[y,<-he];exact o);have B:=Wz z (size:=W S3) (by rw[ao an,hlen];omega) (ao an) I I (by rw[k3,<-he];exact p);unfold gZ;rw[aj an,aj I,aj I,B];show(1,[]++eG T 0++eG T 1++eG T 2++eG T 3)=_;rw[List.nil_append,s]
def aoD{V:Nat}(a:0<k):byte (bQ V k++X) 0=V % 256:=by
 have h:= @acg V k 0 a;unfold byte;rw[bX,gP (by rw[cY];exact a),<-bX,h,F8,Nat.div_one]
def adM{V:Nat}:ag (bQ V k++X) 0 k=bQ V k:=rI (A:=[]) J (cY V k)
def aoE{tr:Option Tr}{V b:Nat}{D:List UInt8}(d:0<k)(hb:V % 256 % 4=b)(j:b<=1)(e:[1,2,1,3].getD (V % 256/4 % 4) 0=k)(f:V % 256^k/2^ [3,4,3,4].getD (V % 256/4 % 4) 0=n)(a:W T=n)(g:(b=1/\0<n/\X=[aa T 0 0]/\ ∀i,i<n->aa T i 0=aa T 0 0)\/(b=0/\X=T)):(dZ tr ((bQ V k++X)++D)).1=0\/dZ tr ((bQ V k++X)++D)=(1,T,W (bQ V k++X),tr):=by
 rw[bV];unfold dZ;rw[aj (by simp only[aF,cY];omega),aoD d,hb,ao I,e,aj (by simp only[aF,cY];omega),adM,Aa];simp only;rw[f];by_cases c:131072<n
 rw[ao c];exact a_ J
 rw[aj c];refine bG ?_;rcases g with⟨hb,l,rfl,hs⟩| ⟨hb,rfl⟩
 subst hb;rw[ao J,aj (by simp only[aF,cY,dL];omega)];have h:aa (bQ V k++([aa T 0 0]++D)) k 0=aa T 0 0:=(by rw[bX,l_ (by rw[cY];exact aW _),cY,vX];rfl)
 have e2:aT n (aa T 0 0)=T:=by
  apply nR;intro i;rw[rK];by_cases hi:i<n
  rw[ao hi,<-hs i hi];simp[show i<W T by omega]
  rw[aj hi,gB I]
 rw[h,e2];simp[cY]
 subst hb;rw[aj an,aj (by simp only[aF,cY];omega),rI (cY V k) a,aF,cY,a]
def aoF(h:vQ l)(hC:FK l Cd){T a:List UInt8}(c:PX l T){four:Bool}{b form:Nat}(d:four=false->form=0/\W T<=1023/\a=gU l Cd T)(h1:four=true->1<=form/\form<=3/\6<=W T/\1<=W T-3*((W T+3)/4)/\(∀i,i<4->W (gU l Cd (eG T i))<=65535)/\a=mU l Cd T 3++rF l Cd T 4):(nB (W T) (decide (¬form=0)) b (some (nO l)) a).1=0\/nB (W T) (decide (¬form=0)) b (some (nO l)) a=(1,T,b,some (nO l)):=by
 have hs:gZ a (nO l) (W T) (decide (¬form=0))=(1,T):=by
  cases four with
  | false=>
    obtain⟨rfl,_,rfl⟩:=d J
    unfold gZ
    rw[ao an];exact aoC h hC c
  | true=>
    obtain⟨h2,_,e,f,g,rfl⟩:=h1 J
    rw[sL (I: ¬form=0)]
    exact aHf h hC c e f g
 unfold nB;simp only[hs];by_cases hm:131072<W T\/W T=0
 rw[ao hm];exact a_ J
 rw[aj hm];exact bG J
def aHg{tr:Option Tr}{D:List UInt8}(h:Pv lo l T B)(i: ∀l,lo=some l->tr=some (nO l)):(dZ tr (B++D)).1=0\/dZ tr (B++D)=(1,T,W B,some (nO l)):=by
 obtain⟨tree,a,Cd,fits,four,form,c1,c2,b,hC,g,d,h1,r,j,rfl⟩:=h
 have s:form<=3:=by
  cases four with
  |false=>have:=(d J).1;omega
  |true=>exact(h1 J).2.1
 obtain⟨hd,c⟩: ∃hd,hd=(if fits=true then 3 else 2):=⟨_,J⟩;rw[<-c];have k:2<=hd/\hd<=3:=(by rw[c];split<;>omega);obtain⟨V,m⟩: ∃V,V=W (tree++a)*2^(4+qM form)+(W T*16+form*4+hd):=⟨_,J⟩;rw[<-m]
 have key:V % 256 % 4=hd/\V % 256/4 % 4=form/\V % 256^uy form/16 % 2^qM form=W T/\V % 256^uy form/16/2^qM form=W (tree++a):=by
  rcases(I:form=0\/form=1\/form=2\/form=3)with rfl|rfl|rfl|rfl<;>
    simp only[Ac,qM,uy,pS,qh]at* <;>omega
 have e:0<uy form/\ [3,3,4,5].getD form 0=uy form/\ [10,10,14,18].getD form 0=qM form:=⟨by rcases(I:form=0\/form=1\/form=2\/form=3)with rfl|rfl|rfl|rfl<;>decide,rfl,rfl⟩;obtain⟨n,o,k3,p⟩:=key;have f:W (bQ V (uy form)++(tree++a))=uy form+W (tree++a):=(by rw[aF,cY]);rw[bV,f];unfold dZ;rw[aj (by simp only[aF,cY];omega),aoD e.1,n,aj I,o,e.2.1,e.2.2,aj (by simp only[aF,cY];omega),adM,Aa];simp only;rw[k3,p,aj (by simp only[aF,cY];omega),rI (cY V _) J]
 cases fits with
 | true=>
   obtain⟨q,rfl⟩:=c1 J
   rw[show hd=3 from c,aj an,i l q,List.nil_append]
   exact aoF b hC g d h1
 | false=>
   rw[show hd=2 from c,ao J,aG' (c2 J) b,aHc b]
   simp only[uE]
   by_cases hb:aa (nO l).bits 0 0<(nO l).aq
   . rw[ao hb];exact a_ J
   . rw[aj hb,List.drop_left]
     exact aoF b hC g d h1
theorem aoG{js:Option (List Nat)}{tr:Option Tr}{D:List UInt8}(h:acX lo js T B)(a: ∀l,lo=some l->tr=some (nO l)):(dZ tr (B++D)).1=0\/ ∃i,dZ tr (B++D)=(1,T,W B,i)/\ ∀l,js=some l->i=some (nO l):=by
 rcases h with⟨l',rfl,h⟩| ⟨rfl,f,n,c,h⟩
 exact(aHg h a).imp id λe=>⟨_,e,λl j=>by cases j;rfl⟩
 have key: ∀b,b<=1->0<qe f/\(W T*2^jr f+jH f*4+b) % 256 % 4=b/\ [1,2,1,3].getD ((W T*2^jr f+jH f*4+b) % 256/4 % 4) 0=qe f/\
     (W T*2^jr f+jH f*4+b) % 256^qe f/2^ [3,4,3,4].getD ((W T*2^jr f+jH f*4+b) % 256/4 % 4) 0=W T:=λb hb=>by
   have p1:(256:Nat)^1=256:=rfl
   have p2:(256:Nat)^2=65536:=rfl
   have k:(256:Nat)^3=16777216:=rfl
   rcases(I:f=0\/f=1\/f=2)with rfl|rfl|rfl
   . simp only[PE,jr,jH,qe,pS]at c ⊢
     rcases(I:(W T*2^3+0*4+b) % 256/4 % 4=0\/(W T*2^3+0*4+b) % 256/4 % 4=2)with e|e
     . rw[e];simp only[pS,p1,true_and];omega
     . rw[e];simp only[pS,qh,p1,true_and];omega
   . simp only[PE,jr,jH,qe,pS,qh]at c ⊢
     rw[show(W T*2^4+1*4+b) % 256/4 % 4=1 by omega];simp only[pS,qh,p2,true_and];omega
   . simp only[PE,jr,jH,qe,pS,qh]at c ⊢
     rw[show(W T*2^4+3*4+b) % 256/4 % 4=3 by omega];simp only[pS,qh,k,true_and];omega
 rcases h with⟨m,hs,rfl⟩|rfl
 obtain⟨a1,a2,d,g⟩:=key 1 an;exact(aoE a1 a2 an d g J (a_ ⟨J,m,J,hs⟩)).imp id λe=>⟨_,e,a⟩
 obtain⟨a1,a2,d,g⟩:=key 0 an;exact(aoE (V:=W T*2^jr f+jH f*4) a1 a2 an d g J (bG ⟨J,J⟩)).imp id λe=>⟨_,e,a⟩
variable {Q:List (Nat×Nat×Nat)}{A a a' a0 b b' b0 c c' c0 i i' kind aq tp Af:Nat}{bs cl ml st:Nat->List Nat}{ts rJ:Nat->Tb}
def L6{Q:Nat->Prop}(b:k<=2)(a:Q 0)(h1:Q 1)(h2:Q 2):Q k:=by
 rcases(I:k=0\/k=1\/k=2)with rfl|rfl|rfl
 exact a
 exact h1
 exact h2
def L7(ml bs:Nat->List Nat)(ts:Nat->Tb)(st:Nat->List Nat):Nat->Nat->List Bool
 |i,0=>jR ml bs i 3
 |i,m+1=>jR ml bs i 3++(sH ts st i 3++L7 ml bs ts st (i+1) m)
def aoH(ml bs:Nat->List Nat)(ts:Nat->Tb)(st:Nat->List Nat): ∀m i,hJ ml bs ts st (i+m)++jR ml bs (i+m) 3=hJ ml bs ts st i++L7 ml bs ts st i m
 |0,i=>rfl
 |m+1,i=>by rw[show i+(m+1)=i+1+m by omega,aoH ml bs ts st m (i+1),L7,hJ];simp only[bV]
def aHi(h: ∀k,k<=2->ts k=rJ k)(i:Nat):sH ts st i 3=sH rJ st i 3:=by
 show []++vS (ts 0) (st 0) i++vS (ts 2) (st 2) i++vS (ts 1) (st 1) i=[]++vS (rJ 0) (st 0) i++vS (rJ 2) (st 2) i++vS (rJ 1) (st 1) i;rw[h 0 an,h 1 an,h 2 an]
def aoI{ml bs:Nat->List Nat}{ts rJ:Nat->Tb}{st:Nat->List Nat}(h: ∀k,k<=2->ts k=rJ k): ∀i,hJ ml bs ts st i=hJ ml bs rJ st i
 |0=>by show []++cT (aa (st 0) 0 0) (ts 0).log++cT (aa (st 1) 0 0) (ts 1).log++cT (aa (st 2) 0 0) (ts 2).log=[]++cT (aa (st 0) 0 0) (rJ 0).log++cT (aa (st 1) 0 0) (rJ 1).log++cT (aa (st 2) 0 0) (rJ 2).log;rw[h 0 an,h 1 an,h 2 an]
 |i+1=>by rw[hJ,hJ,aoI h i,aHi h]
def aHj(b:kind<=2)(a:c<(cE kind).1):(codeF kind (c+1)).1=(codeF kind c).1+2^(codeF kind c).2:=by
 revert a;refine L6 (Q:=λkind=>c<(cE kind).1->(codeF kind (c+1)).1=(codeF kind c).1+2^(codeF kind c).2) b ?_ ?_ ?_
 intro a;exact(show ∀c,c<35->(codeF 0 (c+1)).1=(codeF 0 c).1+2^(codeF 0 c).2 by decide+kernel) c a
 intro _;show 2^(c+1)=2^c+2^c;rw[jI,Nat.mul_two]
 intro a;exact(show ∀c,c<52->(codeF 2 (c+1)).1=(codeF 2 c).1+2^(codeF 2 c).2 by decide+kernel) c a
def L8:Nat->Nat
 |0=>131072
 |1=>2147483648
 |_=>131075
def aHk(a:kind<=2)(h:LY kind n c)(f:n<L8 kind):(codeF kind c).1<=n/\n- (codeF kind c).1<2^(codeF kind c).2:=by
 obtain⟨h1,h2,b⟩:=h;refine⟨h2,?_⟩;rcases dq c (cE kind).1 with z|z
 have:=b z;rw[aHj a z]at this;omega
 have e:c=(cE kind).1:=I
 have d:L8 kind<=(codeF kind (cE kind).1).1+2^(codeF kind (cE kind).1).2:=
   L6 (Q:=λkind=>L8 kind<=(codeF kind (cE kind).1).1+2^(codeF kind (cE kind).1).2) a (by decide+kernel) (by decide+kernel) (by decide+kernel)
 rw[<-e]at d;have:=eA (codeF kind c).2;omega
def l8(st:Nat->List Nat)(i:Nat):List Nat:=[aa (st 0) i 0,aa (st 1) i 0,aa (st 2) i 0]
def aHl(st:Nat->List Nat)(i:Nat){k:Nat}(a:k<=2):aa (l8 st i) k 0=aa (st k) i 0:=
 L6 (Q:=λk=>aa (l8 st i) k 0=aa (st k) i 0) a J J J
def aHm{left:Int}(h:Bk N left (BF ts st 3++r))(hs: ∀k,k<=2->aa (st k) 0 0<2^(ts k).log):(lM N ts left 3).1=l8 st 0/\Bk N (lM N ts left 3).2 r:=by
 have a:Bk N left (cT (aa (st 0) 0 0) (ts 0).log++(cT (aa (st 1) 0 0) (ts 1).log++(cT (aa (st 2) 0 0) (ts 2).log++r))):=(by have e:BF ts st 3++r=cT (aa (st 0) 0 0) (ts 0).log++(cT (aa (st 1) 0 0) (ts 1).log++(cT (aa (st 2) 0 0) (ts 2).log++r)):=(by show []++cT (aa (st 0) 0 0) (ts 0).log++cT (aa (st 1) 0 0) (ts 1).log++cT (aa (st 2) 0 0) (ts 2).log++r=_;simp only[bV,List.nil_append]);rw[<-e];exact h);obtain⟨b,b1⟩:=a.read (hs 0 an);obtain⟨e2,b2⟩:=b1.read (hs 1 an);obtain⟨c,d⟩:=b2.read (hs 2 an);refine⟨?_,d⟩;show [dE N left (ts 0).log,dE N (left- (ts 0).log) (ts 1).log,dE N (left- (ts 0).log- (ts 1).log) (ts 2).log]=_;rw[b,e2,c];rfl
structure PZ(ts:Nat->Tb)(Q:List (Nat×Nat×Nat))(cl ml bs st:Nat->List Nat):Prop where
 cd: ∀k,k<=2->rH Q k (W Q) (cl k) (ml k) (bs k)
 st: ∀k,k<=2->BE (ts k) (cl k) (W Q) 0 (st k)
def aHn(h:PZ ts Q cl ml bs st){i k:Nat}(hi:i<W Q)(a:k<=2):iK ts (l8 st i) k=codeF k (aa (cl k) i 0):=by
 unfold iK cellAt;rw[aHl st i a,((h.st k a).2 i (cj _) hi).2.1]
def aHo(h:PZ ts Q cl ml bs st){i:Nat}(hi:i<W Q)(b: ∀k,k<=2->pP (aa Q i default) k<L8 k){left:Int}{r:List Bool}(hb:Bk N left (jR ml bs i 3++r)):(cV N ts (l8 st i) left 3).1=[pP (aa Q i default) 0,pP (aa Q i default) 1,pP (aa Q i default) 2]/\Bk N (cV N ts (l8 st i) left 3).2 r:=by
 have g: ∀k,k<=2->aa (bs k) i 0=(iK ts (l8 st i) k).2/\aa (ml k) i 0<2^(iK ts (l8 st i) k).2/\(iK ts (l8 st i) k).1+aa (ml k) i 0=pP (aa Q i default) k:=λk a=>(by obtain⟨c1,c2,c⟩:=(h.cd k a).2.2.2 i hi;obtain⟨q,d⟩:=aHk a c1 (b k a);rw[aHn h hi a,c2,c];exact⟨J,d,I⟩);have e:jR ml bs i 3++r=cT (aa (ml 1) i 0) (aa (bs 1) i 0)++(cT (aa (ml 2) i 0) (aa (bs 2) i 0)++(cT (aa (ml 0) i 0) (aa (bs 0) i 0)++r)):=(by show []++cT (aa (ml 1) i 0) (aa (bs 1) i 0)++cT (aa (ml 2) i 0) (aa (bs 2) i 0)++cT (aa (ml 0) i 0) (aa (bs 0) i 0)++r=_;simp only[bV,List.nil_append]);obtain⟨a0,f,j⟩:=g 0 an;obtain⟨a1,l,s1⟩:=g 1 an;obtain⟨a2,m,s2⟩:=g 2 an;rw[e,a0,a1,a2]at hb;obtain⟨n,b1⟩:=hb.read l;obtain⟨e2,b2⟩:=b1.read m;obtain⟨o,p⟩:=b2.read f;refine⟨?_,p⟩;show [(iK ts (l8 st i) 0).1+dE N (left- (iK ts (l8 st i) 1).2- (iK ts (l8 st i) 2).2) (iK ts (l8 st i) 0).2,(iK ts (l8 st i) 1).1+dE N left (iK ts (l8 st i) 1).2,(iK ts (l8 st i) 2).1+dE N (left- (iK ts (l8 st i) 1).2) (iK ts (l8 st i) 2).2]=_;rw[n,e2,o,j,s1,s2]
def aHp(h:PZ ts Q cl ml bs st){i:Nat}(hi:i+1<W Q){left:Int}{r:List Bool}(hb:Bk N left (sH ts st i 3++r)):(jE N ts (l8 st i) left 3).1=l8 st (i+1)/\Bk N (jE N ts (l8 st i) left 3).2 r:=by
 have g: ∀k,k<=2->((ts k).cells.getD (aa (st k) i 0) default).base<=aa (st k) (i+1) 0/\aa (st k) (i+1) 0- ((ts k).cells.getD (aa (st k) i 0) default).base<2^((ts k).cells.getD (aa (st k) i 0) default).bits:=λk a=>(by obtain⟨c1,c2⟩:=((h.st k a).2 i (cj _) I).2.2 hi;exact⟨c1,I⟩);have e:sH ts st i 3++r=vS (ts 0) (st 0) i++(vS (ts 2) (st 2) i++(vS (ts 1) (st 1) i++r)):=(by show []++vS (ts 0) (st 0) i++vS (ts 2) (st 2) i++vS (ts 1) (st 1) i++r=_;simp only[bV,List.nil_append]);obtain⟨a0,b⟩:=g 0 an;obtain⟨a1,c⟩:=g 1 an;obtain⟨a2,d⟩:=g 2 an;rw[e]at hb;obtain⟨f,b1⟩:=Bk.read hb b;obtain⟨e2,b2⟩:=Bk.read b1 d;obtain⟨j,l⟩:=Bk.read b2 c;refine⟨?_,l⟩
 show [((ts 0).cells.getD (aa (st 0) i 0) default).base+dE N left ((ts 0).cells.getD (aa (st 0) i 0) default).bits,
   ((ts 1).cells.getD (aa (st 1) i 0) default).base+dE N (left- ((ts 0).cells.getD (aa (st 0) i 0) default).bits- ((ts 2).cells.getD (aa (st 2) i 0) default).bits) ((ts 1).cells.getD (aa (st 1) i 0) default).bits,
   ((ts 2).cells.getD (aa (st 2) i 0) default).base+dE N (left- ((ts 0).cells.getD (aa (st 0) i 0) default).bits) ((ts 2).cells.getD (aa (st 2) i 0) default).bits]=_
 rw[f,e2,j,Nat.add_sub_cancel' a0,Nat.add_sub_cancel' a1,Nat.add_sub_cancel' a2];rfl
structure Stp(X:List UInt8)(bO:Nat)(TT:List UInt8)(i tp a b c r v n a1 b1 c1:Nat):Prop where
 lits:ag TT tp r=ag X i r
 tle:tp+r<=W TT
 xle:i+r+n<=W X
 off:mY v (decide (r=0)) a b c=(a1,b1,c1)
 v1:1<=v
 v2:v<=a1+3
 n60:n<=60000
 o1:1<=a1
 ai:a1<=i+r
 aw:a1<=bO
 same: ∀k,k<n->aa X (i+r+k) 0=aa X (i+r+k-a1) 0
inductive Ch(X:List UInt8)(bO:Nat)(TT:List UInt8):List (Nat×Nat×Nat)->Nat->Nat->Nat->Nat->Nat->Nat->Nat->Nat->Nat->Nat->Prop
 |nil {i tp a b c:Nat}:Ch X bO TT [] i tp a b c i tp a b c
 |cons {Q:List (Nat×Nat×Nat)} {i tp a b c r v n a1 b1 c1 i' Af a' b' c':Nat}:Stp X bO TT i tp a b c r v n a1 b1 c1->Ch X bO TT Q (i+r+n) (tp+r) a1 b1 c1 i' Af a' b' c'->Ch X bO TT ((r,v,n)::Q) i tp a b c i' Af a' b' c'
def Ch.snoc{TT:List UInt8}{r v a1 b1 c1:Nat}(h:Ch X bO TT Q i tp a b c i' Af a' b' c')(hs:Stp X bO TT i' Af a' b' c' r v n a1 b1 c1):Ch X bO TT (Q++[(r,v,n)]) i tp a b c (i'+r+n) (Af+r) a1 b1 c1:=by
 induction h with
 |nil=>exact .cons hs .nil
 |cons h1 _ d=>exact .cons h1 (d hs)
def aoJ{D:List UInt8}{q:Nat}(h:q+n<W D):ag D q (n+1)=ag D q n++[aa D (q+n) 0]:=by
 unfold ag;rw[lY _ 0 n (by rw[cr];omega),bX,nQ,<-bX]
def sI.ch{run:Nat}(h:sI X bO A a0 b0 c0 i T Q run a b c): ∀TT,(∃R,TT=T++R)->i<=W X-> ∃i0 d,i0+run=i/\d+run=W T/\ag TT d run=ag X i0 run/\Ch X bO TT Q A 0 a0 b0 c0 i0 d a b c:=by
 induction h with
 |nil=>exact λTT _ _=>⟨A,0,J,J,by simp[ag],.nil⟩
 | @lit i run a b c T Q h f=>
   rintro TT ⟨R,e⟩ hi
   obtain⟨i0,d,h1,h2,g,j⟩:=f TT ⟨aa X i 0::R,by rw[e];simp⟩ I
   refine⟨i0,d,I,by rw[aF];simp;omega,?_,j⟩
   rw[aoJ (by rw[e,h2];simp),aoJ I,g,h2,h1,e,bV]
   congr 2
   rw[bX,l_ (aW _),vX];rfl
 | @seq i run a b c v n o b' c' T Q h l m p u q r w hw s f=>
   rintro TT ⟨R,e⟩ hi
   obtain⟨i0,d,h1,h2,g,j⟩:=f TT ⟨R,e⟩ I
   have hs:Stp X bO TT i0 d a b c run v n o b' c':=⟨g,by rw[e,aF];omega,I,l,m,p,q,r,I,hw,λk t=>by rw[h1];exact s k t⟩
   refine⟨i+n,W T,J,J,by simp[ag],?_⟩
   have:=j.snoc hs
   rw[h1,h2]at this;exact this
def aoK{X:List UInt8}{p o n:Nat}(hp:p+n<=W X)(h1:1<=o)(h2:o<=p)(h: ∀k,k<n->aa X (p+k) 0=aa X (p+k-o) 0): ∀k,k<=n->kS (X.take p) o k=X.take (p+k)
 |0,_=>rfl
 |k+1,b=>by have a:W (X.take (p+k))=p+k:=(by rw[fR];omega);rw[kS,aoK hp h1 h2 h k I,a,<-fL,lY X 0 (p+k) I,h k I];congr 2;rw[bX,qg,ao I,<-bX]
def WA(i r:Nat):X.take i++ag X i r=X.take (i+r):=by
 unfold ag;exact(Qm).symm
def aHq{a:List (Nat×Nat×Nat)}{j:Nat}{q:Nat×Nat×Nat}(h:Q.drop j=q::a):aa Q j default=q/\Q.drop (j+1)=a/\j<W Q:=by
 have h1:j<W Q:=by
  rcases dq j (W Q) with z|z
  exact z
  rw[List.drop_eq_nil_of_le z]at h;cases h
 have h2:=List.drop_eq_getElem_cons h1;rw[h]at h2;injection h2 with b e2;exact⟨by rw[bX,gW h1,b];rfl,e2.symm,h1⟩
def Ch.le{TT:List UInt8}(h:Ch X bO TT Q i tp a b c i' Af a' b' c'):i<=i':=by
 induction h with
 |nil=>exact aW _
 |cons _ _ d=>omega
def aHr{f:List (Nat×Nat×Nat)}{TT:List UInt8}(h:PZ ts f cl ml bs st)(P:W TT<131072)(S:W X<=1048576){i' Af a' b' c':Nat}(hm:i'-A<=aq){Q:List (Nat×Nat×Nat)}{i tp a b c:Nat}(d:Ch X bO TT Q i tp a b c i' Af a' b' c'): ∀(j:Nat) (left:Int),A<=i->f.drop j=Q->0<W Q->Bk N left (L7 ml bs ts st j (W Q-1))-> ∃at_,mw N ts bO aq A TT (W Q) ⟨l8 st j,left,tp,X.take i,a,b,c⟩=(1,⟨at_,0,Af,X.take i',a',b',c'⟩):=by
 induction d with
 |nil=>exact λ_ _ _ _ x _=>absurd x (vT _)
 | @cons Q i tp a b c r v n a1 b1 c1 i' Af a' b' c' hs d y=>
   intro j left hA z _ hb
   obtain⟨t,q2,B⟩:=aHq z
   have hle:=d.le
   have C:=hs.xle
   have T:=hs.tle
   have D:=hs.ai
   have hlen:=cD W q2
   rw[cr]at hlen
   have U:=hs.v2
   have V:=hs.n60
   have E: ∀k,k<=2->pP (aa f j default) k<L8 k:=λk F=>by
     rw[t]
     refine L6 (Q:=λk=>pP (r,v,n) k<L8 k) F ?_ ?_ ?_
     . show r<131072;omega
     . show v<2147483648;omega
     . show n<131075;omega
   have g: ∃R,Bk N left (jR ml bs j 3++R)/\((W Q=0/\R=[])\/(0<W Q/\R=sH ts st j 3++L7 ml bs ts st (j+1) (W Q-1))):=by
     rw[show((r,v,n)::Q).length-1=W Q from J]at hb
     cases e:W Q with
     |zero=>rw[e]at hb;exact⟨[],by rw[dN];exact hb,a_ ⟨J,J⟩⟩
     |succ m=>rw[e,L7]at hb;exact⟨_,hb,bG ⟨F7 _,J⟩⟩
   obtain⟨R,l,G⟩:=g
   obtain⟨v1,v2⟩:=aHo h B E l
   rw[t]at v1
   have Y:=v2.Ww
   have u:X.take i++ag TT tp r=X.take (i+r):=by rw[hs.lits,WA]
   have H:W (X.take (i+r))=i+r:=by rw[fR];omega
   have o:kS (X.take (i+r)) a1 n=X.take (i+r+n):=aoK C hs.o1 D hs.same n (aW _)
   have p:gf N ts bO aq A TT ⟨l8 st j,left,tp,X.take i,a,b,c⟩=(1,⟨l8 st j,(cV N ts (l8 st j) left 3).2,tp+r,X.take (i+r+n),a1,b1,c1⟩):=by
     unfold gf
     simp only[v1]
     show(if _ then _ else if W TT-tp<r then _ else if(mY v (decide (r=0)) a b c).1=0\/W (X.take i++ag TT tp r)<(mY v (decide (r=0)) a b c).1 then _ else if bO<(mY v (decide (r=0)) a b c).1\/aq<W (X.take i++ag TT tp r)-A+n then _ else _)=_
     have Z:=hs.o1
     have K:=hs.aw
     rw[aj I,aj I,u,hs.off,H]
     simp only
     rw[aj I,aj I]
     show(1,(⟨l8 st j,(cV N ts (l8 st j) left 3).2,tp+r,kS (X.take i++ag TT tp r) (mY v (decide (r=0)) a b c).1 n,(mY v (decide (r=0)) a b c).1,(mY v (decide (r=0)) a b c).2.1,(mY v (decide (r=0)) a b c).2.2⟩:Sq))=_
     rw[u,hs.off,o]
   rw[show((r,v,n)::Q).length=W Q+1 from J,mw]
   simp only[p]
   rw[aj an]
   rcases G with⟨q,s⟩| ⟨q,s⟩
   . have e:Q=[]:=k7.1 q
     subst e
     subst s
     cases d
     rw[ao eW]
     have L:(cV N ts (l8 st j) left 3).2=0:=v2.1
     rw[L]
     exact⟨_,J⟩
   . rw[s]at v2
     obtain⟨M,w⟩:=aHp h I v2
     have O:=w.Ww
     rw[aj I,aj I,M]
     exact y hm (j+1) _ I q2 q w
def aHt{tO:Nat->Option Tb}{md:Nat->Nat}{Bs:Nat->List UInt8}{TT:List UInt8}{e run:Nat}(g: ∀k,k<=2->rH Q k (W Q) (cl k) (ml k) (bs k)/\Dv (tO k) k (md k) (cl k) (ts k) (Bs k)/\md k<=3/\BE (ts k) (cl k) (W Q) 0 (st k))(h: ∀k,k<=2->ts k=rJ k)(n: ∀k,k<=2->W (ts k).cells=2^(ts k).log)(l:0<W Q)(o:sI X bO A a0 b0 c0 e TT Q run a b c)(p:W X<=1048576)(he:e<=W X)(hA:A<=e)(q:W TT<131072)(hm:e-A<=aq):lP rJ bO aq (X.take A) a0 b0 c0 TT (W Q) (kX (hJ ml bs ts st (W Q-1)++jR ml bs (W Q-1) 3))=(1,X.take e,a,b,c):=by
 have i:PZ rJ Q cl ml bs st:=⟨λk d=>(g k d).1,λk d=>h k d▸(g k d).2.2.2⟩;obtain⟨i0,r,h1,h2,s,t⟩:=o.ch TT ⟨[],(dN _).symm⟩ he;have hb:=Bk.init (hJ ml bs ts st (W Q-1)++jR ml bs (W Q-1) 3);unfold lP;rw[aj (by rw[Dm];omega),adG];simp only;rw[aoI h]at hb ⊢;have f:=aoH ml bs rJ st (W Q-1) 0;rw[il]at f;generalize num (kX (hJ ml bs rJ st (W Q-1)++jR ml bs (W Q-1) 3))=N at*;generalize ((W (hJ ml bs rJ st (W Q-1)++jR ml bs (W Q-1) 3):Nat):Int)=left at*;rw[f]at hb
 obtain⟨u,v⟩:=aHm hb (λk d=>by
   have m:=((g k d).2.2.2.2 0 (aW _) l).1
   rw[n k d,h k d]at m;exact m)
 have j:W (X.take A)=A:=(by rw[fR];omega);obtain⟨at_,y⟩:=aHr (bO:=bO) (aq:=aq) i q p I t 0 _ (aW _) (by rfl) l v;rw[u,j,y];simp only;rw[aj an,aj an];have w:TT.drop r=ag X i0 run:=(by rw[<-s];unfold ag;rw[je (by rw[cr];omega)]);rw[w,WA,h1,aj (by rw[fR];omega)]
variable {s:Fs}{tO:Nat->Option Tb}
structure BH(X:List UInt8)(A:Nat)(lo:Option (List Nat))(tO:Nat->Option Tb)(a b c:Nat)(s:Fs):Prop where
 out:s.out=X.take A
 tree: ∀l,lo=some l->s.tree=some (nO l)
 len:W s.bI=3
 bI: ∀k,k<=2-> ∀t,tO k=some t->aa s.bI k none=some t
 tok: ∀k,k<=2-> ∀t,tO k=some t->W t.cells=2^t.log
 a:s.a=a
 b:s.b=b
 c:s.c=c
def aHu{o:Option Tb}{mode:Nat}{S:List Nat}{t:Tb}(h:Dv o kind mode S t B)(a: ∀t,o=some t->W t.cells=2^t.log):W t.cells=2^t.log:=by
 rcases h with⟨_,rfl,_⟩| ⟨_,c,_,rfl,_⟩| ⟨_,P,log,_,_,_,rfl,_⟩| ⟨_,h1,_⟩
 exact xQ _ _
 rfl
 exact xQ _ _
 exact a t h1
def aHv{md:Nat->Nat}(h: ∀k,k<=2->md k<=3){i:Nat}(hi:i<=2):tB md 3/2^(6-2*i) % 4=md i:=by
 have a:=h 0 an;have h1:=h 1 an;have h2:=h 2 an;refine L6 (Q:=λi=>tB md 3/2^(6-2*i) % 4=md i) hi ?_ ?_ ?_
 show(md 0*64+md 1*16+md 2*4)/64 % 4=md 0;omega
 show(md 0*64+md 1*16+md 2*4)/16 % 4=md 1;omega
 show(md 0*64+md 1*16+md 2*4)/4 % 4=md 2;omega
def aHw(Bs:Nat->List UInt8)(R:List UInt8){i:Nat}(hi:i<=2): ∃a,jt Bs 3++R=jt Bs i++(Bs i++a):=by
 refine L6 (Q:=λi=> ∃a,jt Bs 3++R=jt Bs i++(Bs i++a)) hi ⟨Bs 1++(Bs 2++R),?_⟩ ⟨Bs 2++R,?_⟩ ⟨R,?_⟩<;>simp[jt]
def aoL(l:List (Option Tb))(i j:Nat)(v:Option Tb):aa (l.set i v) j none=if i=j/\i<W l then v else aa l j none:=e_ l i j v none
def aoM{md:Nat->Nat}{Bs:Nat->List UInt8}{tO:Nat->Option Tb}{ts:Nat->Tb}{S:Nat->List Nat}{gD:List (Option Tb)}{R:List UInt8}(b: ∀k,k<=2->md k<=3)(c: ∀k,k<=2->Dv (tO k) k (md k) (S k) (ts k) (Bs k))(d:W gD=3)(f: ∀k,k<=2-> ∀t,tO k=some t->aa gD k none=some t): ∀i,i<=3->(fI (tB md 3) gD (jt Bs 3++R) i).1=0\/ ∃bI,fI (tB md 3) gD (jt Bs 3++R) i=(1,bI,W (jt Bs i))/\W bI=3/\(∀k,k<i->aa bI k none=some (ts k))/\(∀k,i<=k->aa bI k none=aa gD k none)
 |0,_=>bG ⟨gD,J,d,λk a=>absurd a (ma _),λ_ _=>rfl⟩
 | i+1,hi=>by
  rw[fI];rcases aoM b c d f (R:=R) i I with e| ⟨bI,l,e2,m,g⟩
  rw[ao (by rw[e];decide)];exact a_ e
  obtain⟨n,o⟩:=aHw Bs R (i:=i) I;simp only[l,aHv b (I:i<=2)];rw[aj an,o,List.drop_left,aG6 (c i I) (λt p=>by rw[g i (aW _)];exact f i I t p)];simp only;by_cases h:md i=2/\W (jt Bs i++(Bs i++n))- (W (jt Bs i)+W (Bs i))<2
  rw[ao h];exact a_ J
  rw[aj h];refine bG ⟨_,by rw[jt,aF],by rw[dW];exact e2,λk a=>?_,λk a=>?_⟩
  rw[aoL];by_cases j:i=k
  subst j;rw[ao ⟨J,I⟩]
  rw[aj (λz=>j z.1)];exact m k I
  rw[aoL,aj I];exact g k I
def aHx{TT g:List UInt8}{e run:Nat}{tr:Option Tr}(m:adj tO ts Q g)(hs:BH X A lo tO a0 b0 c0 s)(n:0<W Q)(o:sI X bO A a0 b0 c0 e TT Q run a b c)(p:W X<=1048576)(he:e<=W X)(hA:A<=e)(q:W TT<131072)(hm:e-A<=aq):(wV bO aq s tr TT (W Q) g).1=0\/ ∃bI,wV bO aq s tr TT (W Q) g=(1,⟨X.take e,tr,bI,a,b,c⟩)/\W bI=3/\(∀k,k<=2->aa bI k none=some (ts k))/\ ∀k,k<=2->W (ts k).cells=2^(ts k).log:=by
 obtain⟨md,Bs,cl,ml,bs,st,f,rfl⟩:=m;have i: ∀k,k<=2->md k<=3:=λk d=>(f k d).2.2.1;have u:=adf (md:=md) (kk:=3) an (λk d=>i k I);have j: ∀k,k<=2->W (ts k).cells=2^(ts k).log:=λk d=>aHu (f k d).2.1 (hs.tok k d);have h:tB md 3 % 4=0:=(by show(md 0*64+md 1*16+md 2*4) % 4=0;omega);unfold wV;rw[aj (by simp),List.cons_append,L3 I,h,aj an,List.drop_succ_cons,xA];rcases aoM i (λk d=>(f k d).2.1) hs.len hs.bI (R:=kX (hJ ml bs ts st (W Q-1)++jR ml bs (W Q-1) 3)) 3 (aW _)with z| ⟨bI,r,t,l,v⟩
 simp only;rw[ao (by rw[z];decide)];exact a_ z
 simp only[r]
 rw[aj an,List.drop_left,hs.out,hs.a,hs.b,hs.c,
   aHt (rJ:=p7 bI) f (λk d=>by unfold p7;rw[l k I];rfl) j n o p he hA q hm]
 exact bG ⟨bI,J,t,λk d=>l k I,j⟩
def aHy:ag T 0 (W T)=T:=by unfold ag;rw[xA,BL]
def aHz{hd R:List UInt8}(h:PL n hd)(b:n<=90000):W hd=eh (byte (hd++R) 0)/\kT (hd++R)=n/\0<W hd:=by
 rcases h with⟨h1,rfl⟩| ⟨h1,rfl⟩| ⟨h1,rfl⟩
 have e:byte (255::bQ (n-32512) 2++R) 0=255:=rfl;refine⟨by rw[e,dL,cY];rfl,?_,by simp⟩;unfold kT;rw[e,aj an,ao an];have e2:ag (255::bQ (n-32512) 2++R) 1 2=bQ (n-32512) 2:= @rI [255] (bQ (n-32512) 2) R 1 2 J (cY _ _);rw[e2,Aa,iV I];omega
 have e:byte ([bS n]++R) 0=n:=L3 I;have e2:eh n=1:=(by unfold eh;rw[aj I,aj I]);refine⟨by rw[e,e2];rfl,?_,by simp⟩;unfold kT;rw[e,e2,aj an,aj an]
 have e:byte ([bS (128+n/256),bS n]++R) 0=128+n/256:=L3 I;have e2:eh (128+n/256)=2:=(by unfold eh;rw[aj I,ao I]);have a:byte ([bS (128+n/256),bS n]++R) 1=n % 256:=(by show(bS n).toNat=_;rw[Ak]);refine⟨by rw[e,e2];rfl,?_,by simp⟩;unfold kT;rw[e,e2,ao J,a];omega
def aHA{e:Nat}{js:Option (List Nat)}{k5:Nat->Option Tb}(h:adq X bO A e lo js tO k5 a0 b0 c0 a b c B)(hs:BH X A lo tO a0 b0 c0 s)(o:W X<=1048576)(he:e<=W X)(hA:A<=e)(hb:e-A<=131072)(hm:e-A<=aq)(h1:1<=a0):(iL bO aq s B).1=0\/ ∃i,iL bO aq s B=(1,i)/\BH X e js k5 a b c i:=by
 obtain⟨T,Q,run,Bl,d,j,p⟩:=h;have H:=(d.bd (m:=a0+b0+c0+e+3) h1 I I I I).2.1;rcases p with⟨rfl,rfl,rfl⟩| ⟨r,ts,l,hd,rfl,u,hC,rfl⟩
 unfold iL;rcases aoG j hs.tree (D:=[0])with z| ⟨n,z,f⟩
 simp only;rw[ao (by rw[z];decide)];exact a_ z
 obtain⟨i0,K,g1,g2,v,g4⟩:=d.ch T ⟨[],(dN _).symm⟩ he;cases g4;have g5:T=ag X A run:=(by rw[<-v,show run=W T by omega,aHy]);simp only[z]
 rw[aj an,List.drop_left,aj an,aj (show ¬ [(0:UInt8)].length<eh (byte [0] 0) by decide),ao (show kT [0]=0 by decide),aj (by
   rintro((q|q)|q)
   . exact absurd q an
   . exact absurd q an
   . omega)]
 refine bG ⟨_,J,?_,f,hs.len,hs.bI,hs.tok,hs.a,hs.b,hs.c⟩;show s.out++T=_;rw[hs.out,g5,WA,g1]
 unfold iL;rw[bV];rcases aoG j hs.tree (D:=hd++l)with z| ⟨n,z,f⟩
 simp only;rw[ao (by rw[z];decide)];exact a_ z
 obtain⟨w,x,k3⟩:=aHz (R:=l) hC I;simp only[z];rw[aj an,List.drop_left,aj (by rw[aF];omega),<-w,aj (by rw[aF];omega),x,aj I,List.drop_left];rcases aHx (tr:=n) (aq:=aq) u hs r d o he hA I hm with y| ⟨bI,C,E,F,G⟩
 exact a_ y
 rw[C];exact bG ⟨_,J,J,f,E,λk g t e=>by cases e;exact F k g,λk g t e=>by cases e;exact G k g,J,J,J⟩
variable {E P R:List UInt8}{si en:Nat}{k5:Nat->Option Tb}{js:Option (List Nat)}
def adN{A C:List UInt8}{q:Nat}(a:W A=q)(b:0<W B):aa (A++(B++C)) q 0=aa B 0 0:=by
 subst a;rw[bX,l_ (aW _),vX,gP b,<-bX]
def aHB(a:W T=n)(h: ∀i,i<n->aa T i 0=aa T 0 0):aT n (aa T 0 0)=T:=by
 apply nR;intro i;rw[rK];by_cases hi:i<n
 rw[ao hi,<-h i hi];simp[show i<W T by omega]
 rw[aj hi,gB I]
def adP{room size at_:Nat}{body:List UInt8}(a:E=P++((bQ (size*8+2*kind+en) 3++body)++R))(b:W P=at_)(j:en<=1)(k:kind<=2)(l:size<=131072)(hw:size<=bO)(c:W body=if kind=1 then 1 else size):gp bO aq room E (f+1) at_ s=if(iM bO aq E s kind size (at_+3)).1≠1 then((iM bO aq E s kind size (at_+3)).1,s,0)else if room<W (iM bO aq E s kind size (at_+3)).2.out then(0,s,0)else if en=1 then(1,(iM bO aq E s kind size (at_+3)).2,at_+W (bQ (size*8+2*kind+en) 3++body))else gp bO aq room E f (at_+W (bQ (size*8+2*kind+en) 3++body)) (iM bO aq E s kind size (at_+3)).2:=by
 have hlen:W E=at_+(3+W body+W R):=(by rw[a];simp only[aF,cY,b]);have d:ag E at_ 3=bQ (size*8+2*kind+en) 3:=(by rw[a,bV];exact rI b (cY _ _));have e:num (ag E at_ 3)=size*8+2*kind+en:=(by rw[d,Aa];exact iV I);have g:W (bQ (size*8+2*kind+en) 3++body)=3+W body:=(by rw[aF,cY]);have h:(size*8+2*kind+en)/2 % 4=kind:=I;have e2:(size*8+2*kind+en)/8=size:=I;have i:(size*8+2*kind+en) % 2=en:=I;rw[g,gp,aj I,e];simp only[h,e2,i];rw[aj (by rw[hlen,<-c];omega),aj I,<-c];simp only[fL]
def aoN{room at_:Nat}(h:yM X bO A n en lo js tO k5 a0 b0 c0 a b c B)(hs:BH X A lo tO a0 b0 c0 s)(g:E=P++(B++R))(i:W P=at_)(l:en<=1)(t:W X<=1048576)(he:A+n<=W X)(hb:n<=131072)(hw:n<=bO)(hm:n<=aq)(h1:1<=a0):3<=W B/\((gp bO aq room E (f+1) at_ s).1=0\/ ∃d,BH X (A+n) js k5 a b c d/\gp bO aq room E (f+1) at_ s=if en=1 then(1,d,at_+W B)else gp bO aq room E f (at_+W B) d):=by
 have u:(X.drop A).take n=ag X A n:=rfl;have m:W (ag X A n)=n:=dK he
 have fin: ∀(x:Nat×Fs) (L:Nat),x.1=0\/(x.1=1/\BH X (A+n) js k5 a b c x.2)->gp bO aq room E (f+1) at_ s=(if x.1≠1 then(x.1,s,0)else if room<W x.2.out then(0,s,0)else if en=1 then(1,x.2,at_+L)else gp bO aq room E f (at_+L) x.2)->
     (gp bO aq room E (f+1) at_ s).1=0\/ ∃d,BH X (A+n) js k5 a b c d/\gp bO aq room E (f+1) at_ s=if en=1 then(1,d,at_+L)else gp bO aq room E f (at_+L) d:=λx L v e=>by
   rw[e]
   rcases v with z| ⟨z,o⟩
   . rw[ao (by rw[z];decide)];exact a_ z
   . rw[aj (by rw[z];decide)]
     by_cases q:room<W x.2.out
     . rw[ao q];exact a_ J
     . rw[aj q];exact bG ⟨_,o,J⟩
 have p: ∀V (Y:List UInt8),3<=W (bQ V 3++Y):=λV Y=>(by rw[aF,cY];exact lV _ _);rcases h with⟨rfl,rfl,rfl,rfl,rfl,h⟩| ⟨j,hC,D,rfl⟩
 have r: ∀k,k=ag X A n->BH X (A+n) js k5 a b c {s with out:=s.out++k}:=λk e=>⟨by show s.out++k=_;rw[e,hs.out,WA],hs.tree,hs.len,hs.bI,hs.tok,hs.a,hs.b,hs.c⟩;rw[u]at h;rcases h with rfl| ⟨F,w,rfl⟩
 refine⟨p _ _,fin _ _ (bG ⟨J,r _ ?_⟩) (adP (kind:=0) g i l an hb hw (by rw[aj an];exact m))⟩;rw[g,bV,<-bV];exact rI (by rw[aF,cY,i]) m
 refine⟨p _ _,fin _ _ (bG ⟨J,r _ ?_⟩) (adP (kind:=1) g i l an hb hw J)⟩;rw[g,bV,<-bV,adN (by rw[aF,cY,i]) (by simp)];exact aHB m w
 have y:ag E (at_+3) (W j)=j:=(by rw[g,bV,<-bV];exact rI (by rw[aF,cY,i]) J);refine⟨p _ _,fin _ _ ?_ (adP (kind:=2) g i l an I I (by rw[aj an]))⟩;have C:iM bO aq E s 2 (W j) (at_+3)=iL bO aq s j:=(by unfold iM;rw[aj an,aj an,y]);rw[C];rcases aHA (aq:=aq) hC hs t he (lV _ _) I I h1 with z| ⟨d,z,o⟩
 exact a_ z
 rw[z];exact bG ⟨J,o⟩
def aHC(X:List UInt8):BH X 0 none (λ_=>none) 1 4 8 ve:=⟨J,λ_ e=>(nomatch e),J,λ_ _ _ e=>(nomatch e),λ_ _ _ e=>(nomatch e),J,J,J⟩
def yM.a1(h:yM X bO A n en lo js tO k5 a0 b0 c0 a b c B)(h1:1<=a0):1<=a:=by
 rcases h with⟨_,_,rfl,_⟩| ⟨e,⟨T,Q,run,Bl,d,_⟩,_⟩
 exact h1
 exact(d.bd (m:=a0+b0+c0+(A+n)+3) h1 I I I I).2.2.2.1
def xt.a1{D:List UInt8}(h:xt X bO A lo tO a b c D):1<=a:=by
 induction h with
 |nil=>decide
 |step _ _ _ _ hb d=>exact hb.a1 d
def aHD{room:Nat}(l:W P=si)(m:W X<=1048576)(hm: ∀n,n<=131072->n<=bO->n<=aq){A:Nat}{lo:Option (List Nat)}{tO:Nat->Option Tb}{a b c:Nat}{D:List UInt8}(h:xt X bO A lo tO a b c D): ∀(f:Nat) (R:List UInt8),W D<f->E=P++(D++R)->(gp bO aq room E f si ve).1=0\/ ∃e d,f<=d+W D/\BH X A lo tO a b c e/\gp bO aq room E f si ve=gp bO aq room E d (si+W D) e:=by
 induction h with
 |nil=>exact λf R _ _=>bG ⟨ve,f,aW _,aHC X,J⟩
 | @step A n a b c a' b' c' lo js tO k5 D B h1 h2 i o p q=>
   intro f R r j
   rw[aF]at r ⊢
   rcases q f (B++R) I (by rw[j,bV])with z| ⟨e,d,w,s,t⟩
   . exact a_ z
   . obtain⟨g,u⟩: ∃g,d=g+1:=⟨d-1,I⟩
     subst u
     obtain⟨x,w2⟩:=aoN (P:=P++D) (R:=R) (E:=E) (room:=room) (aq:=aq) (f:=g) (at_:=si+W D) p s (by rw[j];simp only[bV]) (by rw[aF,l]) (cj _) m o h2 i (hm n h2 i) h1.a1
     rw[t]
     rcases w2 with z| ⟨s2,v,k⟩
     . exact a_ z
     . rw[aj an]at k
       exact bG ⟨s2,g,I,v,by rw[k,fL]⟩
def aHE{D:List UInt8}{room:Nat}(e:W P=si)(k:W X<=1048576)(hm: ∀n,n<=131072->n<=bO->n<=aq)(h:Wg X bO D)(i:E=P++(D++R)):(gp bO aq room E (W E+1) si ve).1=0\/ ∃j,gp bO aq room E (W E+1) si ve=(1,j,si+W D)/\j.out=X:=by
 have key: ∃A n lo js tO k5 a b c a' b' c' d B,xt X bO A lo tO a b c d/\n<=131072/\n<=bO/\A+n=W X/\yM X bO A n 1 lo js tO k5 a b c a' b' c' B/\D=d++B:=by
  rcases h with⟨lo,tO,a,b,c,d,h1,rfl⟩|h
  exact⟨W X,0,lo,lo,tO,tO,a,b,c,a,b,c,d,bQ 1 3,h1,cj _,cj _,J,a_ ⟨J,J,J,J,J,a_ (by rw[qi,dN])⟩,J⟩
  exact h
 obtain⟨A,n,lo,js,tO,k5,a,b,c,a',b',c',d,B,h1,h2,l,p,q,rfl⟩:=key;have hlen:W E=si+(W d+W B+W R):=(by rw[i];simp only[aF,e]);rcases aHD (E:=E) (room:=room) (aq:=aq) e k hm h1 (W E+1) (B++R) I (by rw[i,bV])with z| ⟨j,m,v,r,s⟩
 exact a_ z
 obtain⟨g,t⟩: ∃g,m=g+1:=⟨m-1,I⟩;subst t;obtain⟨_,w2⟩:=aoN (P:=P++d) (R:=R) (E:=E) (room:=room) (aq:=aq) (f:=g) (at_:=si+W d) q r (by rw[i];simp only[bV]) (by rw[aF,e]) (aW _) k I h2 l (hm n h2 l) h1.a1;rw[s];rcases w2 with z| ⟨s2,u,o⟩
 exact a_ z
 rw[ao J]at o;exact bG ⟨s2,by rw[o,aF,fL],by rw[u.out,p,BL]⟩
def aoO: ∀n,num (aT n 0)=0
 |0=>rfl
 |n+1=>by rw[DQ,num,aoO n];rfl
def aHF: ∀d,d<256->d&&&32=d/32 % 2*32/\d&&&8=d/8 % 2*8/\d&&&4=d/4 % 2*4:=by decide+kernel
theorem aHG{v sm id d:Nat}(a:f<=3)(b:sg<=1)(c:v<=1)(e:sm<=1)(g:id<=3)(hd:d=f*2^6+sg*2^5+v*2^4+sm*2^2+id):d&&&32=sg*32/\d&&&8=0/\d&&&4=sm*4/\d/64=f/\d % 4=id/\d<256:=by
 obtain⟨h1,h2,h⟩:=aHF d I;omega
def aHH(a:f<=3)(b:sg<=1)(c:n<=1048576)(h:(f=1->256<=n/\n<=65791)/\(f=0->sg=1->n<=255)){wide:Nat}(hw:wide=[sg,2,4,8].getD f 0):wide<=8/\(0<wide->(if wide=2 then n-256 else n) % 256^wide+(if wide=2 then 256 else 0)=n)/\(sg=1->0<wide)/\(if wide=2 then n-256 else n)/256^7 % 256=0:=by
 rcases(I:f=0\/f=1\/f=2\/f=3)with rfl|rfl|rfl|rfl
 rcases(I:sg=0\/sg=1)with rfl|rfl
 subst hw;exact⟨by decide,λe=>absurd e an,λe=>(nomatch e),by rw[aj an];omega⟩
 subst hw;have:=h.2 J J;exact⟨by decide,λ_=>by show n % 256+0=n;omega,λ_=>by decide,by rw[aj an];omega⟩
 subst hw;have:=h.1 J;exact⟨by show 2<=8;decide,λ_=>by show(n-256) % 65536+256=n;omega,λ_=>by show 0<2;decide,by show(n-256)/256^7 % 256=0;omega⟩
 subst hw;exact⟨by show 4<=8;decide,λ_=>by show n % 4294967296+0=n;omega,λ_=>by show 0<4;decide,by show n/256^7 % 256=0;omega⟩
 subst hw;exact⟨by show 8<=8;decide,λ_=>by show n % 18446744073709551616+0=n;omega,λ_=>by show 0<8;decide,by show n/256^7 % 256=0;omega⟩
variable {wd:List UInt8}{d id wide:Nat}
def aHI{A C:List UInt8}{q:Nat}(a:W A=q)(hi:i<W B):aa (A++(B++C)) (q+i) 0=aa B i 0:=by
 subst a;rw[bX,l_ (lV _ _),tH,gP hi,<-bX]
theorem aHJ{sm V:Nat}(b:E=bQ 4247762216 4++([bS d]++(wd++(aT k 0++(bQ V wide++R)))))(hd:d&&&32=sg*32/\d&&&8=0/\d&&&4=sm*4/\d/64=f/\d % 4=id/\d<256)(p:k=[0,1,2,4].getD id 0)(q:wide=[sg,2,4,8].getD f 0)(B:sg<=1)(C:sm<=1)(i:Wh sg n bO wd)(D:n<=1048576)(r:wide<=8)(j:0<wide->V % 256^wide+(if wide=2 then 256 else 0)=n)(s:sg=1->0<wide)(g:V/256^7 % 256=0): ∃size,(0<wide->size=n)/\byte E 4=d/\jF E=(1,size,bO,decide (0<wide),decide (sm=1),5+W wd+k+wide):=by
 obtain⟨d1,d2,d3,d4,d5,d6⟩:=hd;have l:byte E 4=d:=(by unfold byte;rw[b,adN (cY _ _) (by simp)];show(bS d).toNat=d;rw[Ak];exact iV d6);have a:dM d=decide (sg=1):=(by unfold dM;rw[d1];exact decide_eq_decide.2 ⟨λe=>by omega,λe=>by omega⟩);have t:(if dM d=true then 0 else 1)=W wd:=(by rw[a];rcases i with⟨rfl,rfl,_⟩| ⟨rfl,lg,c,_,_,_,_,_,rfl⟩<;>rfl);have h:eF d=wide:=(by unfold eF;rw[d4,a,q];rcases(I:sg=0\/sg=1)with rfl|rfl<;>rfl);have u:iz d=k:=(by unfold iz;rw[d5,p]);have hlen:5+k+wide+W wd<=W E:=(by rw[b];simp only[aF,cY,dS,dL,eW];omega);have v:num (ag E (5+W wd) k)=0:=(by have:ag E (5+W wd) k=aT k 0:=(by rw[b,<-bV,<-bV];exact rI (by simp only[aF,cY,dL,eW]) (dS ..));rw[this,aoO]);have w:num (ag E (5+W wd+k) wide)=V % 256^wide:=(by have:ag E (5+W wd+k) wide=bQ V wide:=(by rw[b,<-bV,<-bV,<-bV];exact rI (by simp only[aF,cY,dL,eW,dS]) (cY _ _));rw[this,Aa]);have x:wide=8->byte E (5+W wd+k+7)=0:=λe=>(by unfold byte;rw[b,<-bV,<-bV,<-bV,aHI (by simp only[aF,cY,dL,eW,dS]) (by rw[cY];omega),acg I];exact g)
 have m:(if dM d=true then V % 256^wide+(if wide=2 then 256 else 0)else p8 (byte E 5))=bO/\bO<=8388608:=by
  rw[a];rcases i with⟨rfl,rfl,rfl⟩| ⟨rfl,lg,c,F,w2,G,y,z,o⟩
  rw[ao an];exact⟨j (s J),I⟩
  rw[aj an];refine⟨?_,z⟩;have A:byte E 5=lg*8+c:=(by unfold byte;rw[b,<-bV,adN (by simp only[aF,cY,dL,eW]) (by rw[o];simp),o];show(bS (lg*8+c)).toNat=_;rw[Ak];exact iV I);unfold p8;rw[A,show(lg*8+c)/8=lg by omega,show(lg*8+c) % 8=c by omega,l9 I,y]
 refine⟨V % 256^wide+(if wide=2 then 256 else 0),j,l,?_⟩;unfold jF;simp only[l,t,h,u,v,w,m.1];rw[aj (by rw[d2];decide),aj I,aj an,aj (λe=>by rw[x e.1]at e;exact absurd e.2 an),aj (BN.2 m.2),d3];have:decide (¬sm*4=0)=decide (sm=1):=decide_eq_decide.2 ⟨λe=>by omega,λe=>by omega⟩;rw[this]
theorem aHL{c sb:List UInt8}{sm V room:Nat}(l:E=bQ 4247762216 4++([bS d]++(wd++(aT k 0++(bQ V wide++(c++sb))))))(hd:d&&&32=sg*32/\d&&&8=0/\d&&&4=sm*4/\d/64=f/\d % 4=id/\d<256)(o:k=[0,1,2,4].getD id 0)(p:wide=[sg,2,4,8].getD f 0)(r:sg<=1)(s:sm<=1)(t:Wh sg (W T) bO wd)(m:W T<=1048576)(g:wide<=8)(u:0<wide->V % 256^wide+(if wide=2 then 256 else 0)=W T)(v:sg=1->0<wide)(h:V/256^7 % 256=0)(w:Wg T bO c)(x:(sm=1/\sb=bQ (lF T % 4294967296) 4)\/(sm=0/\sb=[])):(p9 E room).1=0\/p9 E room=(1,T,W E):=by
 obtain⟨size,h1,h2,y⟩:=aHJ l hd o p r s t m g u v h;have i:W (bQ 4247762216 4++[bS d]++wd++aT k 0++bQ V wide)=5+W wd+k+wide:=(by simp only[aF,cY,dS,dL,eW]);have j:E=(bQ 4247762216 4++[bS d]++wd++aT k 0++bQ V wide)++(c++sb):=(by rw[l];simp only[bV]);have hlen:W E=5+W wd+k+wide+(W c+W sb):=(by rw[j,aF,i,aF]);unfold p9;simp only[y,h2];rw[aj an];rcases aHE (room:=room) (aq:=if ¬d&&&32=0 then 131072 else min 131072 bO) i m (λn a b=>by split<;>omega) w j with z| ⟨D,A,B⟩
 rw[ao (by rw[z];decide)];exact a_ z
 rw[A];simp only;rw[aj an,B,aj (λe=>e.2 (h1 (tE e.1)).symm)];rcases x with⟨rfl,rfl⟩| ⟨rfl,rfl⟩
 rw[ao an];have C:ag E (5+W wd+k+wide+W c) 4=bQ (lF T % 4294967296) 4:=(by have:= @rI (bQ 4247762216 4++[bS d]++wd++aT k 0++bQ V wide++c) (bQ (lF T % 4294967296) 4) [] (5+W wd+k+wide+W c) 4 (by rw[aF,i]) (cY _ _);rw[dN,bV _ c]at this;rw[j];exact this);rw[cY]at hlen
 rw[C,Aa,aj (by
   rintro(q|q)
   . omega
   . exact q (by rw[show(256:Nat)^4=4294967296 from J,Nat.mod_mod,Nat.mod_mod]))]
 exact bG (by rw[hlen,fL])
 rw[aj an,hlen];exact bG J
theorem aHM{D:List UInt8}(h:adA T D)(e:W T<=1048576):(mx D).1=0\/mx D=(1,T):=by
 obtain⟨f,sg,v,sm,id,bO,wd,g,sb,h1,h2,n,i,o,p,q,r,s,rfl⟩:=h;have hd:=aHG h1 h2 n i o J;obtain⟨s1,s2,j,a⟩:=aHH h1 h2 e q J;generalize f*2^6+sg*2^5+v*2^4+sm*2^2+id=d at*;obtain⟨wide,l⟩: ∃wide,wide=[sg,2,4,8].getD f 0:=⟨_,J⟩;rw[<-l]at s1 s2 j a ⊢;obtain⟨V,t⟩: ∃V,V=if wide=2 then W T-256 else W T:=⟨_,J⟩;rw[<-t]at s2 a ⊢;obtain⟨E,m⟩: ∃E,E=bQ 4247762216 4++[bS d]++wd++aT ([0,1,2,4].getD id 0) 0++bQ V wide++g++sb:=⟨_,J⟩;rw[<-m];have b:E=bQ 4247762216 4++([bS d]++(wd++(aT ([0,1,2,4].getD id 0) 0++(bQ V wide++(g++sb))))):=(by rw[m];simp only[bV]);have hlen:5<=W E:=(by rw[b];simp only[aF,cY,dL,eW];omega);have c:num (ag E 0 4)=4247762216:=(by rw[b,adM,Aa]);have u:ij E 4194304=p9 E 4194304:=(by unfold ij;rw[aj I,c];simp only;rw[aj an,aj (by simp;omega)]);obtain⟨k,w⟩: ∃k,W E=k+1:=⟨W E-1,I⟩;unfold mx;rw[aj I,w,qy,ao I,xA];simp only[eW,F1,u];rcases aHL (room:=4194304) b hd J l h2 i p e s1 s2 j a r s with z|z
 rw[ao (by rw[z];decide)];exact a_ z
 rw[z];simp only;rw[aj an,qy,aj I,List.nil_append];exact bG J
end Go.Z
