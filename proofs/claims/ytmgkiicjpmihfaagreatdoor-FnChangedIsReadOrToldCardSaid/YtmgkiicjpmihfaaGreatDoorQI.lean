/- Part 9 of the proof. -/
import Derived.KernelRfl
import Derived.Test.YtmgkiicjpmihfaaGreatDoorQH
set_option linter.all false
set_option maxRecDepth 20000
set_option maxHeartbeats 400000000
namespace Go.Z
open Go Go.Proofs
variable {aU:Addr}{E S U:List UInt8}{fm hd i many n yo:Nat}{p:Prop}{t:Tr}{w:World}
def LX(x:cQ)(a:Option Addr)(n c b:Nat)(fa:Option Addr)(fn fc:Nat):cQ:={x with hA:=a,hN:=n,hC:=c,hb:=b,fA:=fa,fN:=fn,fC:=fc}
section
variable {x:cQ}{a a' fa fa':Option Addr}{n c b fn fc n' c' b' fn' fc':Nat}
theorem axz:(au (LX x a n c b fa fn fc)).set 12 (.slice a' n' c')=au (LX x a' n' c' b fa fn fc):=rfl
theorem axA:(au (LX x a n c b fa fn fc)).set 13 (R b')=au (LX x a n c b' fa fn fc):=rfl
theorem aau:(au (LX x a n c b fa fn fc))[12]? =some (.slice a n c):=rfl
theorem aiX:(au (LX x a n c b fa fn fc))[13]? =some (R b):=rfl
theorem axB:FX (LX x a n c b fa fn fc) fa' fn' fc'=LX x a n c b fa' fn' fc':=rfl
theorem axC:LX x a n c b fa fn fc=FX (LX x a n c b fa fn fc) (LX x a n c b fa fn fc).fA (LX x a n c b fa fn fc).fN (LX x a n c b fa fn fc).fC:=rfl
end
def GU(hA:Option Addr)(hN hC:Nat)(hO:Option Nat)(m:List Nat):Prop:=hA=aB hO/\(hN=0\/(hN=2048/\hC=2048/\m.length=2048/\ ∃b,hO=some b))
def GV(hN hb:Nat)(m:List Nat):Option Tr->Prop
 |none=>hb=0
 |some t=>hN=2048/\hb=t.ak/\BP t/\ ∀i,i<2^t.ak->m.getD i 0=m8 t i
theorem SE{ρ:Env}{T' ty:TypeId}{x:Operand}(er:Value)(c:Prop) [Decidable c](hx:Env.ev ρ x=er)(W:c->er= .nilIface)(h2: ¬c->Er aU er){n:Value}(hn:n= .nilIface):run PP ρ (.binOp .neq 103 x (.const n) T') ty w= .ok (.value (.bool (decide (¬c)))) w:=by
 by_cases hc:c
 rw[wT (hx.trans (W hc)) hn];simp[hc]
 rcases h2 hc with⟨be,e⟩|e
 rw[I6 (hx.trans e) hn];simp[hc]
 rw[I6 (hx.trans e) hn];simp[hc]
theorem aav:gZ S t many false=gz S t many:=by unfold gZ;rw[ai J]
theorem aiY(h:i<n):byte (U.take n) i=byte U i:=by
 unfold byte;simp only[bS,pT];rw[ai h]
theorem aiZ{k:Nat}(h:gA U=some (t,k)):1<=k/\k<=U.length:=by
 refine⟨?_,(XJ h).2.1⟩;rcases nO U.length with h0|h0
 unfold gA at h;rw[ai h0]at h;cases h
 by_cases hb:128<=byte U 0
 rw[R9 I hb J]at h;split at h
 cases h
 obtain⟨t',_,e⟩:=O8.1 h;cases e;omega
 rw[R_ I I]at h;split at h
 cases h
 obtain⟨ws,_,h2⟩:=Option.bind_eq_some_iff.1 h;obtain⟨t',_,e⟩:=O8.1 h2;cases e;omega
theorem axD(hn:n<=U.length):gA (U.take n)=(gA U).bind λx=>if x.2<=n then some x else none:=by
 have hl:(U.take n).length=n:=(by rw[gk];omega);rcases nO n with h0|h0
 subst h0;have:gA (U.take 0)=none:=(by unfold gA;rw[ai hl]);rw[this]
 cases h:gA U with
 |none=>rfl
 | some x=>
   have:=aiZ (t:=x.1) (k:=x.2) h
   rw[ss,ag I]
 have dO:byte (U.take n) 0=byte U 0:=aiY h0;by_cases hb:128<=byte U 0
 rw[R9 I (by rw[dO];exact hb) (by rw[dO]),R9 I hb J,hl];obtain⟨c,hc⟩: ∃c,byte U 0-127=c:=⟨_,J⟩;rw[hc];by_cases W:n<1+(c+1)/2
 rw[ai W];split
 rfl
 cases gL ((List.range c).map (r5 U))with
 |none=>rfl
 |some t=>rw[uN,ss,ag I]
 rw[ag W,ag I];have e:(List.range c).map (r5 (U.take n))=(List.range c).map (r5 U):=(by refine VA λi hi=>?_;have:=oX.1 hi;unfold r5;rw[aiY I]);rw[e]
 cases gL ((List.range c).map (r5 U))with
 |none=>rfl
 |some t=>rw[uN,ss,ai I]
 rw[R_ I (by rw[dO];omega),R_ I I,hl,dO];obtain⟨c,hc⟩: ∃c,byte U 0=c:=⟨_,J⟩;rw[hc];by_cases W:n<1+c
 rw[ai W];split
 rfl
 cases wF (aa U 1 c)with
 |none=>rfl
 | some ws=>
   rw[ss]
   cases gL ws with
   |none=>rfl
   |some t=>rw[uN,ss,ag I]
 rw[ag W,ag I];have e:aa (U.take n) 1 c=aa U 1 c:=(by unfold aa;rw[HS,KW,mx I]);rw[e]
 cases wF (aa U 1 c)with
 |none=>rfl
 | some ws=>
   rw[ss]
   cases gL ws with
   |none=>rfl
   |some t=>rw[uN,ss,ai I]
theorem axE{p:Nat}(h:p+n<=E.length):gA (aa E p n)=(gA (E.drop p)).bind λx=>if x.2<=n then some x else none:=
 axD (by rw[bV];omega)
theorem ai0(h:4<=E.length):num (aa E 0 4)=(E.getD 0 0).toNat+(E.getD 1 0).toNat*2^8+(E.getD 2 0).toNat*2^16+(E.getD 3 0).toNat*2^24:=by
 have e3:=sH E 3 I;have e2:=sH E 2 I;have e1:=sH E 1 I;have e0:=sH E 0 I;show num (E.take 4)=_;rw[e3,e2,e1,e0];simp[num]
theorem axF(h:5<=E.length):num (aa E 0 5)=(E.getD 0 0).toNat+(E.getD 1 0).toNat*2^8+(E.getD 2 0).toNat*2^16+(E.getD 3 0).toNat*2^24+(E.getD 4 0).toNat*2^32:=by
 have e4:=sH E 4 I;have e3:=ai0 (E:=E) I;show num (E.take 5)=_;rw[e4];show num (aa E 0 4)+_=_;rw[e3]
theorem axG{size:Nat}{tr:Option Tr}(hf:byte E 0/4 % 4=fm)(h:[3,3,4,5].getD fm 0=hd)(hl:hd<=E.length)(h0:E.length≠0)(hm:num (aa E 0 hd)/16 % 2^ [10,10,14,18].getD fm 0=many)(hs:num (aa E 0 hd)/16/2^ [10,10,14,18].getD fm 0=size)(h2: ¬byte E 0 % 4<2):
   dT tr E=if E.length<hd+size then(2,[],0,none)else if byte E 0 % 4=2 then
       match gA (aa E hd size)with
       |none=>(2,[],0,none)
       |some x=>if x.1.bits.getD 0 0<x.1.ak then(0,[],0,none)else nY many (decide (¬fm=0)) (hd+size) (some x.1) ((aa E hd size).drop x.2)
     else nY many (decide (¬fm=0)) (hd+size) tr (aa E hd size):=by
 subst hf;subst h;subst hm;subst hs
 unfold dT
 rw[ag h0,ag h2]
 dsimp only
 rw[ag I]
 rfl
theorem aaw{tr:Option Tr}(hf:byte E 0/4 % 4=fm)(h:[3,3,4,5].getD fm 0=hd)(hl:E.length<hd)(h0:E.length≠0)(h2: ¬byte E 0 % 4<2):(dT tr E).1=2:=by
 subst hf;subst h;unfold dT;rw[ag h0,ag h2];dsimp only;rw[ai I]
theorem axH{four:Bool}(h:(nY many four yo (some t) S).1≠0):many<=131072/\many≠0/\(gZ S t many four).1≠0/\((gZ S t many four).1=1->nY many four yo (some t) S=(1,(gZ S t many four).2,yo,some t))/\((gZ S t many four).1≠1->(nY many four yo (some t) S).1≠1):=by
 unfold nY at*;dsimp only at*;by_cases hm:131072<many\/many=0
 rw[ai hm]at h;exact absurd J h
 rw[ag hm]at h ⊢;refine⟨I,I,?_,λe=>by rw[ai e],λe=>by rw[ag e];exact e⟩;intro e;rw[ag I]at h;exact h e
theorem ai1{four:Bool}{tr:Option Tr}(h:131072<many):(nY many four yo tr S).1≠1:=by
 unfold nY;split
 show(2:Nat)≠1;decide
 rw[ai (Or.inl h)];show(0:Nat)≠1;decide
theorem SF{l:List Value}{q b:Nat}(h:i<E.length->l[q+i]? =some (u8 (E.getD i 0)))(e:(E.getD i 0).toNat=b):i<E.length->l[q+i]? =some (U8 b):=λhi=>by rw[h hi,<-e]
theorem axI(n:Nat):dj [CQ 0] n=List.map dk (List.replicate n 0):=by rw[CT,vX]
theorem axJ{four:Bool}{tr:Option Tr}:(nY many four yo tr []).1≠1:=by
 unfold nY;split
 show(2:Nat)≠1;decide
 split
 show(0:Nat)≠1;decide
 rename_i t _
 have:(gZ [] t many four).1≠1:=by
  unfold gZ;split
  unfold gz;rw[ai fE];show(0:Nat)≠1;decide
  split
  show(0:Nat)≠1;decide
  rw[ai (by show 0<6;decide)];show(2:Nat)≠1;decide
 rw[ag this];exact this
theorem aax(h:p:=by rintro e w1 ⟨be,rfl,h⟩;refine V 5 ?_;exact⟨_,_,[],ob,bc,sp,_,x.hA,x.hN,x.hC,x.hb,x.fA,x.fN,x.fC,dZ,cs,hO,m,J,h,q_,GW,hk,(λe=>absurd e bY),(λ_=>Or.inl ⟨_,J⟩)⟩):p:=h
theorem aay(h:p:=by have bY:(dT tr E).1≠1:=I;refine V 4 ?_;refine b_ J J J (aA (tX h bF (hG.sub aJ)) ?_);exact aax):p:=h
theorem ai2(h:p:=by have rE:(dT tr E).1=2:=aaw (hd:=3) (fm:=fm) SG (by first|rw[show fm=0 by omega];rfl|rw[show fm=1 by omega];rfl|rw[show fm=2 by omega];rfl|rw[show fm=3 by omega];rfl) I I SH;exact aay):p:=h
theorem ai3(h:p:=by refine V 4 ?_;refine ee J J J J (aA (qk h bF (hG.sub aJ)) ?_);exact aax):p:=h
theorem axK{r:dQ}{L:List aD}{br dc bc:Nat}{x:cQ}{aE:Addr}{ad:Option Addr}{ob dZ hO:Option Nat}{sp:List Value}{tr:Option Tr}{cs:List de}{m:List Nat}(h:H r w ((af br (au (LX x x.hA x.hN x.hC x.hb x.fA x.fN x.fC)) 81)::(dZ,C (cU cs) 227)::(hO,C (List.map dk m) 174)::(ob,C (List.map u8 ([])++sp) 5)::L))(hG:Gl L aE aU)(hX:aP L (.slice ad E.length dc) E)(mZ:1<=E.length)(hE:E.length<=268435456)(hk:bG ob 0 bc [] sp 1)(q_:w5 x.fA x.fN x.fC dZ cs)(GW:GU x.hA x.hN x.hC hO m)(yL:GV x.hN x.hb m tr)(kE: ¬byte E 0 % 4<2)(hV:(dT tr E).1≠0):Calls PP 103 #[aW br,.slice ad E.length dc,R 1,U8 (byte E 0),.slice (aB ob) 0 bc] w λe w'=> ∃n er cO bH lR dm v' a n' c b fa fn fc nC jK r7 m',e= .returned (.tuple #[R n,v',er])/\H r w' ((af br (au (LX x a n' c b fa fn fc)) 81)::(nC,C (cU jK) 227)::(r7,C (List.map dk m') 174)::(bH,C (List.map u8 (cO)++dm) 5)::L)/\w5 fa fn fc nC jK/\GU a n' c r7 m'/\bG bH cO.length lR (cO.map u8) dm 1/\((dT tr E).1=1->er= .nilIface/\v'= .slice (aB bH) cO.length lR/\ ∃vu,dT tr E=(1,cO,n,vu)/\GV n' b m' vu)/\((dT tr E).1≠1->Er aU er):=by
 have jm: ∃db q l T,ad=some ⟨db,q,none⟩/\(af db l T)∈L/\Rd l q (E.map u8):=(by obtain⟨iM,n',c',e1,hl,hc,h3⟩:=id hX;cases e1;exact h3 I);have j1:E.length<=dc:=Gv hX;obtain⟨db,q,l,T,ij,oS,wU⟩:=jm;have j3:=λi (hi:i<E.length)=>jy wU (i:=i) hi;obtain⟨ib,nT⟩:=cX oS;have GB:byte E 0=(E.getD 0 0).toNat:=rfl;obtain⟨b0,dO⟩: ∃b0,byte E 0=b0:=⟨_,J⟩;obtain⟨b1,eL⟩: ∃b1,(E.getD 1 0).toNat=b1:=⟨_,J⟩;obtain⟨b2,fh⟩: ∃b1,(E.getD 2 0).toNat=b1:=⟨_,J⟩;obtain⟨b3,rG⟩: ∃b1,(E.getD 3 0).toNat=b1:=⟨_,J⟩;obtain⟨b4,tU⟩: ∃b1,(E.getD 4 0).toNat=b1:=⟨_,J⟩;have aIw:b0<=255:=(by rw[<-dO];exact toNat_le _);have aIx:b1<=255:=(by rw[<-eL];exact toNat_le _);have aIy:b2<=255:=(by rw[<-fh];exact toNat_le _);have aIz:b3<=255:=(by rw[<-rG];exact toNat_le _);have aIA:b4<=255:=(by rw[<-tU];exact toNat_le _);rw[dO]at kE ⊢;obtain⟨fm,SI⟩: ∃fm,b0/4 % 4=fm:=⟨_,J⟩;have SG:byte E 0/4 % 4=fm:=(by rw[dO];exact SI);have SH: ¬byte E 0 % 4<2:=(by rw[dO];exact kE);have JR:=SF (j3 1) eL;have JS:=SF (j3 2) fh;have ai4:=SF (j3 3) rG;have axL:=SF (j3 4) tU;obtain⟨p6,yB,MC,Jm⟩:=id q_;obtain⟨zQ,j_⟩:=id GW;refine qN (P:=PP) Tryz.func103 268 Tryz.ntmps103 [10,11,12] J J (args:=[_,_,_,_,_]) J ?_;refine V 23 ?_;refine ah (bZ (jO (n:=2) J J az aj) (show b0/2^2 % 2^2=fm from SI)) ?_;refine aC (jB [(2,2),(10,15),(25,166)] (λρ w=> ∃hd many size st:Nat,Kn ρ [(13,R many),(14,R size),(15,R st),(2,R hd)]/\H r w ((af br (au (LX x x.hA x.hN x.hC x.hb x.fA x.fN x.fC)) 81)::(dZ,C (cU cs) 227)::(hO,C (List.map dk m) 174)::(ob,C (List.map u8 ([])++sp) 5)::L)/\([3,3,4,5].getD fm 0=hd)/\(num (aa E 0 hd)/16 % 2^ [10,10,14,18].getD fm 0=many)/\(num (aa E 0 hd)/16/2^ [10,10,14,18].getD fm 0=size)/\(3<=hd/\hd<=E.length/\hd<=5)/\(many<=262143/\size<=262143)/\((fm=0/\st=1)\/(¬fm=0/\st=4))) ?_ ?_)
 refine V 6 ?_;refine an J ?_ ?_<;>intro wq
 refine aQ (an J ?_ ?_)<;>intro wq
 refine V 4 ?_;refine ah (bZ (d_ (b:=1) (h2:=ao.lit _) J J az) (show 1+1=2 from J)) ?_;refine V 4 ?_;refine an J ?_ ?_<;>intro tK
 exact ai2
 have vJ:num (aa E 0 3)=b0+b1*2^8+b2*2^16:=(by rw[RM I,<-dO,<-eL,<-fh];rfl);refine V 8 ?_;refine ah (cI J J ij I) (aO h J (JR I) ?_);refine V 1 ?_;refine ah (jO (n:=6) J J az aj) ?_;refine ah (dN (b:=4) (h2:=ao.lit _) J J aj az) ?_;refine ah (bZ (eI J J az az) (oJ I)) ?_;refine V 3 ?_;refine bL h [0,4,8,24,28,32,36,13,16,20,41,44,48,52,56] ?_;intro w h;refine av 2 ?_;refine aw J (cI J J ij I) ?_;refine av 2 ?_;refine aw J (bZ (d_ (b:=1) (h2:=ao.lit _) J J az) (show 1+1=2 from J)) (aw J (cI J J ij I) (aK J h J (JR I) ?_));refine av 2 ?_;refine aK J h J (JS I) ?_;refine av 1 ?_;refine aw J (dN (b:=2) (h2:=ao.lit _) J J aj az) ?_;refine aw J (bZ (eI J J az az) (oJ I)) (eY J (cm ?_));refine V 3 ?_;refine ah (bZ (d_ (b:=2) (h2:=ao.lit _) J J az) (show 1+2=3 from J)) ?_;refine V 6 ?_;refine ah (bZ (jO (n:=2) J J az aj) (show b0/2^2 % 2^2=fm from SI)) ?_;refine V 2 ?_;refine an J ?_ ?_<;>intro wJ
 refine V 3 ?_;exact⟨aH 42,3,b0/2^4+b1 % 2^6*2^4,b1/2^6+b2*2^2,1,aq,h,(by rw[show fm=0 by omega];rfl),(by rw[show fm=0 by omega];show num (aa E 0 _)/16 % 2^10=_;rw[vJ];omega),(by rw[show fm=0 by omega];show num (aa E 0 _)/16/2^10=_;rw[vJ];omega),⟨I,I,I⟩,⟨I,I⟩,Or.inl ⟨I,J⟩⟩
 refine V 3 ?_;refine⟨aH 42,?_⟩;exfalso;omega
 exfalso;omega
 refine V 4 ?_;refine an J ?_ ?_<;>intro wq
 refine V 4 ?_;refine ah (bZ (d_ (b:=1) (h2:=ao.lit _) J J az) (show 1+1=2 from J)) ?_;refine V 4 ?_;refine an J ?_ ?_<;>intro tK
 exact ai2
 have vJ:num (aa E 0 3)=b0+b1*2^8+b2*2^16:=(by rw[RM I,<-dO,<-eL,<-fh];rfl);refine V 8 ?_;refine ah (cI J J ij I) (aO h J (JR I) ?_);refine V 1 ?_;refine ah (jO (n:=6) J J az aj) ?_;refine ah (dN (b:=4) (h2:=ao.lit _) J J aj az) ?_;refine ah (bZ (eI J J az az) (oJ I)) ?_;refine V 3 ?_;refine bL h [0,4,8,24,28,32,36,13,16,20,41,44,48,52,56] ?_;intro w h;refine av 2 ?_;refine aw J (cI J J ij I) ?_;refine av 2 ?_;refine aw J (bZ (d_ (b:=1) (h2:=ao.lit _) J J az) (show 1+1=2 from J)) (aw J (cI J J ij I) (aK J h J (JR I) ?_));refine av 2 ?_;refine aK J h J (JS I) ?_;refine av 1 ?_;refine aw J (dN (b:=2) (h2:=ao.lit _) J J aj az) ?_;refine aw J (bZ (eI J J az az) (oJ I)) (eY J (cm ?_));refine V 3 ?_;refine ah (bZ (d_ (b:=2) (h2:=ao.lit _) J J az) (show 1+2=3 from J)) ?_;refine V 6 ?_;refine ah (bZ (jO (n:=2) J J az aj) (show b0/2^2 % 2^2=fm from SI)) ?_;refine V 2 ?_;refine an J ?_ ?_<;>intro wJ
 refine V 3 ?_;refine⟨aH 44,?_⟩;exfalso;omega
 refine V 3 ?_;exact⟨aH 44,3,b0/2^4+b1 % 2^6*2^4,b1/2^6+b2*2^2,4,aq,h,(by rw[show fm=1 by omega];rfl),(by rw[show fm=1 by omega];show num (aa E 0 _)/16 % 2^10=_;rw[vJ];omega),(by rw[show fm=1 by omega];show num (aa E 0 _)/16/2^10=_;rw[vJ];omega),⟨I,I,I⟩,⟨I,I⟩,Or.inr ⟨I,J⟩⟩
 refine V 5 ?_;refine an J ?_ ?_<;>intro IN
 refine V 4 ?_;refine ah (bZ (d_ (b:=2) (h2:=ao.lit _) J J az) (show 1+2=3 from J)) ?_;refine V 4 ?_;refine an J ?_ ?_<;>intro MR
 have rE:(dT tr E).1=2:=aaw (hd:=4) (fm:=fm) SG (by first|rw[show fm=0 by omega];rfl|rw[show fm=1 by omega];rfl|rw[show fm=2 by omega];rfl|rw[show fm=3 by omega];rfl) I I SH;exact aay
 have vJ:num (aa E 0 4)=b0+b1*2^8+b2*2^16+b3*2^24:=(by rw[ai0 I,<-dO,<-eL,<-fh,<-rG];rfl);refine aQ (a9 (bL h [0,4,8,12,16,20,40,44,48,52,25,28,32,36,57,60,64,68,72,76] ?_));intro w h;refine av 5 ?_;refine aw J (cI J J ij I) ?_;refine av 2 ?_;refine aw J (bZ (d_ (b:=1) (h2:=ao.lit _) J J az) (show 1+1=2 from J)) (aw J (cI J J ij I) (aK J h J (JR I) ?_));refine av 1 ?_;refine aw J (dN (b:=4) (h2:=ao.lit _) J J aj az) ?_;refine aw J (bZ (eI J J az az) (oJ I)) (aK J h J (JS I) ?_);refine av 1 ?_;refine aw J (jO (n:=2) J J az aj) ?_;refine aw J (dN (b:=12) (h2:=ao.lit _) J J aj az) ?_;refine aw J (bZ (eI J J az az) (oJ I)) (eY J (cm (a9 (bL h [0,4,8,12,28,32,36,40,17,20,24,45,48,52,56,60] ?_))));intro w h;refine av 2 ?_;refine aw J (bZ (d_ (b:=1) (h2:=ao.lit _) J J az) (show 1+1=2 from J)) (aw J (cI J J ij I) ?_);refine av 2 ?_;refine aw J (bZ (d_ (b:=2) (h2:=ao.lit _) J J az) (show 1+2=3 from J)) (aw J (cI J J ij I) (aK J h J (JS I) ?_));refine av 2 ?_;refine aK J h J (ai4 I) ?_;refine av 1 ?_;refine aw J (dN (b:=6) (h2:=ao.lit _) J J aj az) ?_;refine aw J (bZ (eI J J az az) (oJ I)) (eY J (cm ?_));refine V 3 ?_;refine ah (bZ (d_ (b:=3) (h2:=ao.lit _) J J az) (show 1+3=4 from J)) ?_;refine V 5 ?_;exact⟨aH 51,4,b0/2^4+b1*2^4+b2 % 2^2*2^12,b2/2^2+b3*2^6,4,aq,h,(by rw[show fm=2 by omega];rfl),(by rw[show fm=2 by omega];show num (aa E 0 _)/16 % 2^14=_;rw[vJ];omega),(by rw[show fm=2 by omega];show num (aa E 0 _)/16/2^14=_;rw[vJ];omega),⟨I,I,I⟩,⟨I,I⟩,Or.inr ⟨I,J⟩⟩
 refine V 5 ?_;refine an J ?_ ?_<;>intro ai5
 refine V 4 ?_;refine ah (bZ (d_ (b:=3) (h2:=ao.lit _) J J az) (show 1+3=4 from J)) ?_;refine V 4 ?_;refine an J ?_ ?_<;>intro aIB
 have rE:(dT tr E).1=2:=aaw (hd:=5) (fm:=fm) SG (by first|rw[show fm=0 by omega];rfl|rw[show fm=1 by omega];rfl|rw[show fm=2 by omega];rfl|rw[show fm=3 by omega];rfl) I I SH;exact aay
 have vJ:num (aa E 0 5)=b0+b1*2^8+b2*2^16+b3*2^24+b4*2^32:=(by rw[axF I,<-dO,<-eL,<-fh,<-rG,<-tU];rfl);refine aQ (a9 (bL h [0,4,8,12,16,20,40,44,48,52,25,28,32,36,57,60,64,68,72,76] ?_));intro w h;refine av 5 ?_;refine aw J (cI J J ij I) ?_;refine av 2 ?_;refine aw J (bZ (d_ (b:=1) (h2:=ao.lit _) J J az) (show 1+1=2 from J)) (aw J (cI J J ij I) (aK J h J (JR I) ?_));refine av 1 ?_;refine aw J (dN (b:=4) (h2:=ao.lit _) J J aj az) ?_;refine aw J (bZ (eI J J az az) (oJ I)) (aK J h J (JS I) ?_);refine av 1 ?_;refine aw J (jO (n:=6) J J az aj) ?_;refine aw J (dN (b:=12) (h2:=ao.lit _) J J aj az) ?_;refine aw J (bZ (eI J J az az) (oJ I)) (eY J (cm (a9 (bL h [0,4,8,12,28,32,36,40,60,64,68,72,17,20,24,45,48,52,56,77,80,84,88,92] ?_))));intro w h;refine av 2 ?_;refine aw J (bZ (d_ (b:=1) (h2:=ao.lit _) J J az) (show 1+1=2 from J)) (aw J (cI J J ij I) ?_);refine av 2 ?_;refine aw J (bZ (d_ (b:=2) (h2:=ao.lit _) J J az) (show 1+2=3 from J)) (aw J (cI J J ij I) ?_);refine av 2 ?_;refine aw J (bZ (d_ (b:=3) (h2:=ao.lit _) J J az) (show 1+3=4 from J)) (aw J (cI J J ij I) (aK J h J (JS I) ?_));refine av 2 ?_;refine aK J h J (ai4 I) ?_;refine av 1 ?_;refine aw J (dN (b:=2) (h2:=ao.lit _) J J aj az) ?_;refine aw J (bZ (eI J J az az) (oJ I)) (aK J h J (axL I) ?_);refine av 1 ?_;refine aw J (dN (b:=10) (h2:=ao.lit _) J J aj az) ?_;refine aw J (bZ (eI J J az az) (oJ I)) (eY J (cm ?_));refine V 3 ?_;refine ah (bZ (d_ (b:=4) (h2:=ao.lit _) J J az) (show 1+4=5 from J)) ?_;refine V 5 ?_;exact⟨aH 61,5,b0/2^4+b1*2^4+b2 % 2^6*2^12,b2/2^6+b3*2^2+b4*2^10,4,aq,h,(by rw[show fm=3 by omega];rfl),(by rw[show fm=3 by omega];show num (aa E 0 _)/16 % 2^18=_;rw[vJ];omega),(by rw[show fm=3 by omega];show num (aa E 0 _)/16/2^18=_;rw[vJ];omega),⟨I,I,I⟩,⟨I,I⟩,Or.inr ⟨I,J⟩⟩
 exfalso;omega
 rintro ρ w ⟨hd,many,size,st,⟨k5,rfl⟩,h,jZ,tS,ia,hhb,eT,dd⟩;have jh:=axG (tr:=tr) SG jZ hhb.2.1 I tS ia SH;rw[dO]at jh;clear jZ tS ia;refine V 6 ?_;refine an J ?_ ?_<;>intro XL
 have bY:(dT tr E).1≠1:=by
  rw[jh];split
  show(2:Nat)≠1;decide
  split
  split
  show(2:Nat)≠1;decide
  split
  show(0:Nat)≠1;decide
  exact ai1 I
  exact ai1 I
 exact ai3
 refine V 8 ?_;refine cD [(10,12),(175,185)] (λρ w=>Kn ρ []/\H r w ((af br (au (LX x x.hA x.hN x.hC x.hb x.fA x.fN x.fC)) 81)::(dZ,C (cU cs) 227)::(hO,C (List.map dk m) 174)::(ob,C (List.map u8 ([])++sp) 5)::L)/\(hd+size<=E.length)) ?_ ?_
 refine V 7 ?_;refine d' (t:=179) J (λaxM=>?_) (λaxM=>?_)
 refine V 4 ?_;refine iI J ?_;refine V 4 ?_;refine b_ J J J (aA (tX h bF (hG.sub aJ)) ?_);rintro e w1 ⟨be,rfl,h⟩;refine V 5 ?_;exact⟨_,_,[],ob,bc,sp,_,x.hA,x.hN,x.hC,x.hb,x.fA,x.fN,x.fC,dZ,cs,hO,m,J,h,q_,GW,hk,(λe=>absurd e (by rw[jh,ai I];show(2:Nat)≠1;decide)),(λ_=>Or.inl ⟨_,J⟩)⟩
 refine V 4 ?_;refine an J ?_ ?_<;>intro aIC
 have bY:(dT tr E).1≠1:=(by rw[jh,ai I];show(2:Nat)≠1;decide);refine V 4 ?_;refine b_ J J J (aA (tX h bF (hG.sub aJ)) ?_);exact aax
 exact aQ ⟨aM,aq,h,I⟩
 rintro ρ w ⟨⟨mD,rfl⟩,h,jD⟩;rw[ag I]at jh;refine V 5 ?_;refine cD [(2,2),(10,12),(17,20),(187,240)] (λρ w=> ∃eM:Nat,∃m3:List Nat,∃t3:Tr,∃Ai T2:Nat,∃fa:Option Addr,∃fn fc:Nat,∃jq:Option Nat,∃gB:List de,Kn ρ [(2,R Ai),(17,R T2)]/\H r w ((af br (au (LX x (some ⟨eM,0,none⟩) 2048 2048 t3.ak fa fn fc)) 81)::(jq,C (cU gB) 227)::((some eM),C (List.map dk m3) 174)::(ob,C (List.map u8 ([])++sp) 5)::L)/\(m3.length=2048)/\(BP t3)/\(∀i,i<2^t3.ak->m3.getD i 0=m8 t3 i)/\(w5 fa fn fc jq gB)/\(2<=Ai/\Ai+T2=hd+size)/\(dT tr E=nY many (decide (¬fm=0)) (hd+size) (some t3) (aa E Ai T2))) ?_ ?_
 refine V 3 ?_;refine ah (vv J J az) ?_;refine V 2 ?_;refine an J ?_ ?_<;>intro axN
 rw[ai I]at jh;refine cD [(190,199)] (λρ w=> ∃eM:Nat,∃m1:List Nat,Kn ρ []/\H r w ((af br (au (LX x (some ⟨eM,0,none⟩) 2048 2048 x.hb x.fA x.fN x.fC)) 81)::(dZ,C (cU cs) 227)::((some eM),C (List.map dk m1) 174)::(ob,C (List.map u8 ([])++sp) 5)::L)/\(m1.length=2048)) ?_ ?_
 refine V 5 ?_;refine aO h J aau ?_;refine V 3 ?_;refine an J ?_ ?_<;>intro axk
 refine eS (cM (tu (a:=2048) (W:=ao.lit _) (c:=2048) (h2:=ao.lit _) h J J J I I I J ?_));intro bt w h;rw[axI]at h;refine V 2 ?_;refine cV (cf bt 2048 2048) aau ?_;intro w h;rw[axz]at h;refine aC ?_;replace h:=h.zz [4,1,3,3,4] 1;exact⟨aH 11,bt,List.replicate 2048 0,aq,h,dR ..⟩
 have vK:=j_.resolve_left I;refine vK.2.2.2.elim λeM aaz=>?_;rw[zQ,vK.1,vK.2.1,aaz]at h;exact aQ ⟨aH 6,eM,m,aq,h,vK.2.2.1⟩
 rintro ρ w ⟨eM,m1,⟨qY,rfl⟩,h,jE⟩;refine V 8 ?_;refine aO h J aau ?_;replace h:=h.zz [2,2,2] 0;refine uV J J J J J ?_;rw[axC]at h;refine(aw5 (x:=(LX x (some ⟨eM,0,none⟩) 2048 2048 x.hb x.fA x.fN x.fC)) (p:=hd) h (hG.sub aJ) (hX.sub aJ) hE I q_ jE).mono ?_;rintro e w1 ⟨a1,n1,q9,fa,fn,fc,jq,gB,m2,rfl,h,uy,aaA,QO⟩;refine⟨_,J,?_⟩;rw[axB]at h;refine(Jk QO).elim λok cS=>?_;have fX:=Hid.mk cS.1;have fB:=Hid.mk cS.2;clear cS QO;have yi:=axE (E:=E) (p:=hd) (n:=size) jD;refine V 12 ?_;refine ah (SE (aU:=aU) q9 (ok=true) J (λe=>(fX.o e).1) (λe=>(fB.o (by simpa using e)).1) J) ?_;refine aC (an J ?_ ?_)<;>intro ai6
 have Nr:=fB.o (by simpa using ai6)
 have bY:(dT tr E).1≠1:=by
  rw[jh,yi]
  cases Nt:gA (E.drop hd)with
  |none=>show(2:Nat)≠1;decide
  | some y=>
    have h9:=Nr.2 y.1 y.2 Nt
    have og:=aiZ (t:=y.1) (k:=y.2) Nt
    rw[bV]at og
    rw[ss]
    by_cases hys:y.2<=size
    . rw[ai hys]
      dsimp only
      by_cases SJ:y.1.bits.getD 0 0<y.1.ak
      . rw[ai SJ];show(0:Nat)≠1;decide
      . rw[ag SJ]
        have Aj:(aa E hd size).drop y.2=[]:=List.drop_eq_nil_of_le (by rw[dx jD];omega)
        rw[Aj]
        exact axJ
    . rw[ag hys];show(2:Nat)≠1;decide
 refine V 8 ?_;exact⟨_,_,[],ob,bc,sp,_,some ⟨eM,0,none⟩,2048,2048,x.hb,fa,fn,fc,jq,gB,some eM,m2,J,h,uy,⟨J,Or.inr ⟨J,J,aaA,_,J⟩⟩,hk,(λe=>absurd e bY),(λ_=>Nr.1)⟩
 have JJ:=fX.o (by simpa using ai6);have Nr:=JJ.2;clear fX fB;refine Nr.elim λt2 ai7=>?_;refine ai7.elim λkk axO=>?_;clear Nr ai7 JJ;obtain⟨Nt,gX,DR,YP,nW,eF⟩:=axO;have lJ:=awU Nt;have dA:n1-hd=kk:=I;rw[Nt,ss]at yi;have aID:n1<=268435456:=I;have oQ:=lJ.ok.ak;refine V 7 ?_;refine cV (R a1) aiX ?_;intro w h;rw[axA]at h;refine V 7 ?_;refine ah (bZ (iz J J I az) dA) ?_;refine V 2 ?_;refine an J ?_ ?_<;>intro Qv
 have bY:(dT tr E).1≠1:=(by rw[jh,yi,ag (by show ¬kk<=size;omega)];show(2:Nat)≠1;decide);refine V 4 ?_;refine ee J J J J (aA (qk h bF (hG.sub aJ)) ?_);rintro e w1 ⟨be,rfl,h⟩;refine V 5 ?_;exact⟨_,_,[],ob,bc,sp,_,some ⟨eM,0,none⟩,2048,2048,a1,fa,fn,fc,jq,gB,some eM,m2,J,h,uy,⟨J,Or.inr ⟨J,J,aaA,_,J⟩⟩,hk,(λe=>absurd e bY),(λ_=>Or.inl ⟨_,J⟩)⟩
 rw[yi,ai (by show kk<=size;omega)]at jh;dsimp only at jh;have SJ: ¬t2.bits.getD 0 0<t2.ak:=λe=>(by rw[ai e]at jh;rw[jh]at hV;exact hV J);rw[ag SJ,aiu]at jh;rw[DR]at h;refine V 6 ?_;refine ah (bZ (iz J J I az) dA) ?_;refine V 7 ?_;exact⟨aH 39,eM,m2,t2,hd+kk,size-kk,fa,fn,fc,jq,gB,Kn.mk ⟨(gy gX),J,trivial⟩,h,aaA,lJ,YP,uy,⟨I,I⟩,jh⟩
 rw[ag I]at jh;refine V 5 ?_;refine aO h J aiX ?_;refine V 2 ?_;refine an J ?_ ?_<;>intro axP
 have bY:(dT tr E).1≠1:=by
  rw[jh]
  cases tr with
  |none=>show(2:Nat)≠1;decide
  |some t=>have W:=yL.2.1;have h2:=yL.2.2.1.ok.aqq;omega
 exact ai3
 refine aY (show ∃t,tr=some t by cases tr with|none=>(exact absurd yL axP)|some t=>exact⟨t,J⟩) (λt IW=>?_);rw[IW]at yL jh;have vK:=j_.resolve_left (by have:=yL.1;omega);refine vK.2.2.2.elim λeM aaz=>?_;rw[zQ,vK.1,vK.2.1,aaz,yL.2.1]at h;exact aQ ⟨aH 8,eM,m,t,hd,size,x.fA,x.fN,x.fC,dZ,cs,aq,h,vK.2.2.1,yL.2.2.1,yL.2.2.2,q_,⟨I,I⟩,IW▸jh⟩
 rintro ρ w ⟨eM,m3,t3,Ai,T2,fa,fn,fc,jq,gB,⟨sO,rfl⟩,h,SK,SL,aaB,ai8,aIE,JC⟩;rw[JC]at hV;have hfv:=axH hV;obtain⟨ai9,aIF,SM,eZ,hsN⟩:=hfv;have BV:=SL.ok.ak;have Ys:2^t3.ak<=2048:=aI (dp aj BV) aj;refine V 4 ?_;refine cD [(4,4),(21,21),(241,262)] (λρ w=> ∃z_ v5:Value,∃xf:List UInt8,∃m9:Option Nat,∃Nu:Nat,∃pL:List Value,Kn ρ [(4,v5),(21,z_)]/\H r w ((af br (au (LX x (some ⟨eM,0,none⟩) 2048 2048 t3.ak fa fn fc)) 81)::(jq,C (cU gB) 227)::((some eM),C (List.map dk m3) 174)::(m9,C (List.map u8 (xf)++pL) 5)::L)/\(bG m9 xf.length Nu (xf.map u8) pL 1)/\((gZ (aa E Ai T2) t3 many (decide (¬fm=0))).1=1->z_= .nilIface/\v5= .slice (aB m9) xf.length Nu/\gZ (aa E Ai T2) t3 many (decide (¬fm=0))=(1,xf))/\((gZ (aa E Ai T2) t3 many (decide (¬fm=0))).1≠1-> ∃be,z_= .iface 182 (aW be))) ?_ ?_
 refine V 5 ?_;refine an J ?_ ?_<;>intro aIG
 have GX:decide (¬fm=0)=false:=(by rw[H3];omega);refine V 7 ?_;replace h:=h.zz [3] 0;refine Wa J J J J J J J (aA (avW (t:=t3) h bF (hG.sub aJ) (hX.sub aJ) hE hk ⟨eM,m3,J,(ar (ar bF)),by rw[SK];exact aR 2048,Ys,aaB,J⟩ SL I I ai9 (by rw[<-aav,<-GX];exact SM)) ?_);rintro e w1 ⟨yC,aaC,yM,bc4,Ak,v4,rfl,h,rO,jF,lF⟩;refine V 6 ?_;replace h:=h.zz [3,3,3] 0;exact⟨aH 14,yC,v4,aaC,yM,bc4,Ak,aq,h,rO,(by rw[GX,aav];exact jF),(by rw[GX,aav];exact lF)⟩
 have GX:decide (¬fm=0)=true:=(by rw[xF];omega);refine V 7 ?_;replace h:=h.zz [3] 0;refine Wa J J J J J J J (aA (awb (t:=t3) h bF (hG.sub aJ) (hX.sub aJ) hE hk ⟨eM,m3,J,(ar (ar bF)),by rw[SK];exact aR 2048,Ys,aaB,J⟩ SL I I ai9 (by rw[<-GX];exact SM)) ?_);rintro e w1 ⟨yC,aaC,yM,bc4,Ak,v4,rfl,h,rO,jF,lF⟩;refine V 6 ?_;replace h:=h.zz [3,3,3] 0;exact⟨aH 14,yC,v4,aaC,yM,bc4,Ak,aq,h,rO,(by rw[GX];exact jF),(by rw[GX];exact lF)⟩
 rintro ρ w ⟨z_,v5,xf,m9,Nu,pL,⟨vk,rfl⟩,h,sS,ai_,ai'⟩;refine V 4 ?_;refine ah (jz z_ ((gZ (aa E Ai T2) t3 many (decide (¬fm=0))).1=1) J (λe=>(ai_ e).1) (λe=>ai' e) J) (aC (an J ?_ ?_))<;>intro JE
 have bY:(dT tr E).1≠1:=(by rw[JC];exact hsN JE);refine V 8 ?_;exact⟨_,_,xf,m9,Nu,pL,_,some ⟨eM,0,none⟩,2048,2048,t3.ak,fa,fn,fc,jq,gB,some eM,m3,J,h,ai8,⟨J,Or.inr ⟨J,J,SK,_,J⟩⟩,sS,(λe=>absurd e bY),(λ_=>Or.inl (ai' JE))⟩
 have aja:(gZ (aa E Ai T2) t3 many (decide (¬fm=0))).1=1:=nj.1 JE;have JP:=ai_ aja;have Ie:=eZ aja;rw[JP.2.2]at Ie;have lP:=JC.trans Ie;refine V 10 ?_;exact⟨hd+size,_,xf,m9,Nu,pL,_,some ⟨eM,0,none⟩,2048,2048,t3.ak,fa,fn,fc,jq,gB,some eM,m3,J,h,ai8,⟨J,Or.inr ⟨J,J,SK,_,J⟩⟩,sS,(λ_=>⟨J,JP.2.1,some t3,lP,J,J,SL,aaB⟩),(λe=>absurd (by rw[lP]) e)⟩
variable {s:Fs}{m w:Nat}
def BW(l:List (Option Tb)):Prop:=l.length=3/\ ∀k,k<3-> ∀t,l.getD k none=some t->q6 k t
theorem BW.set{l:List (Option Tb)}{t:Tb}(h:BW l)(hi:i<3)(ht:q6 i t):BW (l.set i (some t)):=by
 refine⟨by rw[dD];exact h.1,λk hk u hu=>?_⟩;rw[eE]at hu;by_cases e:i=k
 rw[ai ⟨e,by rw[h.1];exact hi⟩]at hu;cases hu;subst e;exact ht
 rw[ag I]at hu;exact h.2 k hk u hu
theorem ajb{m:Nat}{gY:List (Option Tb)}{E:List UInt8}(h0:BW gY): ∀i,i<=3-> ∀{tl:List (Option Tb)} {p:Nat},fv m gY E i=(1,tl,p)->BW tl/\ ∀k,k<i-> ∃t,tl.getD k none=some t
 |0,_,tl,p,h=>by cases h;exact⟨h0,λk hk=>by omega⟩
 | i+1,hi,tl,p,h=>by
  rcases hx:fv m gY E i with⟨v,tl0,p0⟩;rw[fv,hx]at h;dsimp only at h;by_cases hv:v≠1
  rw[ai hv]at h;exact absurd (b8 Prod.fst h) hv
  have gr:v=1:=nj.1 hv;subst gr;rw[ag hv]at h;have ih:=ajb h0 i I hx
  cases ht:kf (tl0.getD i none) i (m/2^(6-2*i) % 4) (E.drop p0)with
  |none=>rw[ht]at h;exact absurd (b8 Prod.fst h) (by show(2:Nat)≠1;decide)
  | some y=>
    rw[ht]at h
    dsimp only at h
    split at h
    . exact absurd (b8 Prod.fst h) (by show(0:Nat)≠1;decide)
    . cases h
      have cS:=afb (t:=y.1) (size:=y.2) I ht (λt e=>ih.1.2 i I t e)
      refine⟨ih.1.set I cS,λk hk=>?_⟩
      rw[eE]
      by_cases e:i=k
      . rw[ai ⟨e,by rw[ih.1.1];omega⟩];exact⟨_,J⟩
      . rw[ag I];exact ih.2 k I
theorem aaD(h:(dT s.tree E).1≠1):(i' w m s E).1=(dT s.tree E).1:=by
 unfold i';dsimp only;rw[ai h]
theorem axQ:lM E<=131072:=by
 have h0:byte E 0<=255:=toNat_le _;have W:byte E 1<=255:=toNat_le _;have h2:num (aa E 1 2)<2^16:=ph;unfold lM;split
 omega
 split<;>omega
theorem aaE{j:Nat}:byte (E.drop i) j=byte E (i+j):=by
 unfold byte;simp only[bS,oE]
theorem axR{n1:Nat}{text:List UInt8}{tr:Option Tr}(hl:dT s.tree E=(1,text,n1,tr))(hV:(i' w m s E).1≠0)(h0:BW s.a_):
   (jo s.a_ (E.drop n1)).1≠0/\((jo s.a_ (E.drop n1)).1≠1->(i' w m s E).1≠1)/\
   (∀sz m7,jo s.a_ (E.drop n1)=(1,0,sz,m7)->m7=s.a_/\(E.drop n1).length=1/\sz=1/\text.length<=m/\i' w m s E=(1,{s with out:=s.out++text,tree:=tr}))/\
   (∀many sz m7,many≠0->jo s.a_ (E.drop n1)=(1,many,sz,m7)->many<=131072/\BW m7/\(∀k,k<3-> ∃t,m7.getD k none=some t)/\ ∃y,y=k9 (qh m7) w m s.out s.a s.b s.c text many ((E.drop n1).drop sz)/\
     i' w m s E=(y.1,⟨y.2.1,tr,m7,y.2.2.1,y.2.2.2.1,y.2.2.2.2⟩)):=by
 obtain⟨E1,A4⟩: ∃E1,E.drop n1=E1:=⟨_,J⟩
 rw[A4]
 have hc:i' w m s E=if E1.length=0 then(2,s)else if E1.length<dU (byte E1 0)then(2,s)
     else if lM E1=0 then(if(1<dU (byte E1 0)\/0<(E1.drop (dU (byte E1 0))).length)\/m<text.length then(0,s)else(1,{s with out:=s.out++text,tree:=tr}))
     else zL w m s tr text (lM E1) (E1.drop (dU (byte E1 0))):=by
   unfold i'
   rw[hl]
   dsimp only
   rw[ag aj,A4]
 by_cases hz:E1.length=0
 . have hi:jo s.a_ E1=(2,0,0,s.a_):=by unfold jo;rw[ai hz]
   rw[ai hz]at hc
   rw[hi,hc]
   exact⟨by show(2:Nat)≠0;decide,λ_=>by show(2:Nat)≠1;decide,λsz m7 e=>absurd (b8 Prod.fst e) (by show(2:Nat)≠1;decide),λmany sz m7 _ e=>absurd (b8 Prod.fst e) (by show(2:Nat)≠1;decide)⟩
 rw[ag hz]at hc
 by_cases dO:byte E1 0=0
 . have hi:jo s.a_ E1=(1,0,1,s.a_):=by unfold jo;rw[ag hz,ai dO]
   have hh:dU (byte E1 0)=1:=by rw[dO];decide
   have hm:lM E1=0:=by unfold lM;rw[hh];simpa using dO
   rw[hh,ag I,ai hm]at hc
   by_cases hx:(1<1\/0<(E1.drop 1).length)\/m<text.length
   . rw[ai hx]at hc;rw[hc]at hV;exact absurd J hV
   . rw[ag hx]at hc
     rw[bV]at hx
     rw[hi]
     refine⟨by show(1:Nat)≠0;decide,λe=>absurd J e,λsz m7 e=>?_,λmany sz m7 bY e=>?_⟩
     . cases e;exact⟨J,I,J,I,hc⟩
     . cases e;exact absurd J bY
 by_cases hh:E1.length<dU (byte E1 0)
 . have hi:jo s.a_ E1=(2,0,0,s.a_):=by unfold jo;rw[ag hz,ag dO,ai hh]
   rw[ai hh]at hc
   rw[hi,hc]
   exact⟨by show(2:Nat)≠0;decide,λ_=>by show(2:Nat)≠1;decide,λsz m7 e=>absurd (b8 Prod.fst e) (by show(2:Nat)≠1;decide),λmany sz m7 _ e=>absurd (b8 Prod.fst e) (by show(2:Nat)≠1;decide)⟩
 rw[ag hh]at hc
 have hm:lM E1≠0:=by
   intro hm
   rw[ai hm]at hc
   have h2:1<dU (byte E1 0):=by
     rcases dh 1 (dU (byte E1 0))with h|h
     . exact h
     . exfalso
       have np:1<=dU (byte E1 0):=by
         unfold dU;split
         . omega
         . split<;>omega
       have:dU (byte E1 0)=1:=I
       unfold lM at hm
       rw[this]at hm
       exact dO (by simpa using hm)
   rw[ai (Or.inl (Or.inl h2))]at hc
   rw[hc]at hV;exact hV J
 rw[ag hm]at hc
 obtain⟨E2,FU⟩: ∃E2,E1.drop (dU (byte E1 0))=E2:=⟨_,J⟩
 rw[FU]at hc
 have hi:jo s.a_ E1=if E2.length=0 then(2,0,0,s.a_)else if byte E2 0 % 4≠0 then(0,0,0,s.a_)
     else((fv (byte E2 0) s.a_ (E2.drop 1) 3).1,lM E1,dU (byte E1 0)+1+(fv (byte E2 0) s.a_ (E2.drop 1) 3).2.2,(fv (byte E2 0) s.a_ (E2.drop 1) 3).2.1):=by
   unfold jo;rw[ag hz,ag dO,ag hh,FU]
 unfold zL at hc
 by_cases vG:E2.length=0
 . rw[ai vG]at hc hi
   rw[hi,hc]
   exact⟨by show(2:Nat)≠0;decide,λ_=>by show(2:Nat)≠1;decide,λsz m7 e=>absurd (b8 Prod.fst e) (by show(2:Nat)≠1;decide),λmany sz m7 _ e=>absurd (b8 Prod.fst e) (by show(2:Nat)≠1;decide)⟩
 rw[ag vG]at hc hi
 by_cases h4:byte E2 0 % 4≠0
 . rw[ai h4]at hc;rw[hc]at hV;exact absurd J hV
 rw[ag h4]at hc hi
 dsimp only at hc
 rcases hx:fv (byte E2 0) s.a_ (E2.drop 1) 3 with⟨v,tl,p⟩
 rw[hx]at hc hi
 dsimp only at hc hi
 rw[hi]
 by_cases hv:v≠1
 . rw[ai hv]at hc
   have u7:v≠0:=λe=>hV (by rw[hc];exact e)
   rw[hc]
   exact⟨u7,λ_=>hv,λsz m7 e=>absurd (b8 Prod.fst e) hv,λmany sz m7 _ e=>absurd (b8 Prod.fst e) hv⟩
 . rw[ag hv]at hc
   have gr:v=1:=nj.1 hv
   subst gr
   have lJ:=ajb h0 3 (aR _) hx
   refine⟨by show(1:Nat)≠0;decide,λe=>absurd J e,λsz m7 e=>absurd (b8 (λz=>z.2.1) e) hm,λmany sz m7 bY e=>?_⟩
   cases e
   refine⟨axQ,lJ.1,lJ.2,_,J,?_⟩
   rw[hc]
   have hd:E2.drop 1=E1.drop (dU (byte E1 0)+1):=by rw[<-FU,j7]
   rw[hd,j7]
theorem axS{a_:List (Option Tb)}(h:BW a_)(hs: ∀k,k<3-> ∃t,a_.getD k none=some t):zK (qh a_)/\ ∀k,k<3->a_.getD k none=some (qh a_ k):=by
 refine⟨λk hk=>?_,λk hk=>?_⟩
 obtain⟨t,ht⟩:=hs k hk;unfold qh;rw[ht];exact h.2 k hk t ht
 obtain⟨t,ht⟩:=hs k hk;unfold qh;rw[ht];rfl
variable {aE:Addr}{c c2:Prop}{x:cQ}{r:dQ}{w:World}
theorem El{a b d:Value}[Decidable c] [Decidable c2](h: ¬c):(if c then a else if c2 then b else d)=b\/(if c then a else if c2 then b else d)=d:=by
 rw[ag h];by_cases h2:c2
 rw[ai h2];exact .inl J
 rw[ag h2];exact .inr J
theorem Em{F:List aD}{rb:Nat}{zo:Int}{v:Value}(h:H r w F)(hR:(af rb (au x) 81)∈F)(hG:Gl F aE aU)(hv:v= .iface 199 (.pointer (some aE))\/v= .iface 199 (.pointer (some aU))):Calls PP 83 #[aW rb,.int .i64 zo,v] w λe w'=> ∃b,e= .returned (.iface 182 (aW b))/\H r w' F:=by
 rcases hv with rfl|rfl
 exact asl h hR hG
 exact asn h hR hG
theorem BY{ρ:Env}{T' ty:TypeId}{x:Operand}[Decidable c] [Decidable c2](hx:Env.ev ρ x=if c then .nilIface else if c2 then .iface 199 (.pointer (some aE))else .iface 199 (.pointer (some aU))){n:Value}(hn:n= .nilIface):run PP ρ (.binOp .neq 103 x (.const n) T') ty w= .ok (.value (.bool (decide (¬c)))) w:=by
 by_cases hc:c
 rw[ai hc]at hx;rw[wT hx hn];simp[hc]
 rw[ag hc]at hx;by_cases h2:c2
 rw[ai h2]at hx;rw[I6 hx hn];simp[hc]
 rw[ag h2]at hx;rw[I6 hx hn];simp[hc]
theorem ajc(h:p:=by refine V 7 ?_;replace h:=h.zz [3] 0;refine CP J J J J J J (aA (avR (tr:=tr) h bF (hG.sub aJ) (hX.sub aJ) mZ hE hk I hV) ?_);rintro e w1 ⟨n,er,cO,bH,lR,dm,v',rfl,h,cK,jF,lF⟩;refine V 8 ?_;replace h:=h.zz [3,3,3] 0;exact⟨n,er,cO,bH,lR,dm,v',x.hA,x.hN,x.hC,x.hb,x.fA,x.fN,x.fC,dZ,cs,hO,m,J,h,q_,GW,cK,(λe=>⟨(jF e).1,(jF e).2.1,tr,(jF e).2.2,yL⟩),(λe=>Or.inl (lF e))⟩):p:=h
theorem axT{L:List aD}{br dc bc:Nat}{ad:Option Addr}{ob dZ hO:Option Nat}{sp:List Value}{tr:Option Tr}{cs:List de}{m:List Nat}(h:H r w ((af br (au (LX x x.hA x.hN x.hC x.hb x.fA x.fN x.fC)) 81)::(dZ,C (cU cs) 227)::(hO,C (List.map dk m) 174)::(ob,C (List.map u8 ([])++sp) 5)::L))(hG:Gl L aE aU)(hX:aP L (.slice ad E.length dc) E)(hE:E.length<=268435456)(hk:bG ob 0 bc [] sp 1)(q_:w5 x.fA x.fN x.fC dZ cs)(GW:GU x.hA x.hN x.hC hO m)(yL:GV x.hN x.hb m tr)(hV:(dT tr E).1≠0):Calls PP 97 #[aW br,.slice ad E.length dc,R 0,.slice (aB ob) 0 bc] w λe w'=> ∃n er cO bH lR dm v' a n' c b fa fn fc nC jK r7 m',e= .returned (.tuple #[R n,v',er])/\H r w' ((af br (au (LX x a n' c b fa fn fc)) 81)::(nC,C (cU jK) 227)::(r7,C (List.map dk m') 174)::(bH,C (List.map u8 (cO)++dm) 5)::L)/\w5 fa fn fc nC jK/\GU a n' c r7 m'/\bG bH cO.length lR (cO.map u8) dm 1/\((dT tr E).1=1->er= .nilIface/\v'= .slice (aB bH) cO.length lR/\ ∃vu,dT tr E=(1,cO,n,vu)/\GV n' b m' vu)/\((dT tr E).1≠1->Er aU er):=by
 have jm:0<E.length-> ∃db q l T,ad=some ⟨db,q,none⟩/\(af db l T)∈L/\Rd l q (E.map u8):=(by obtain⟨iM,n',c',e1,hl,hc,h3⟩:=id hX;cases e1;exact λh=>h3 I);refine wj Tryz.func97 Tryz.ntmps97 [8,9,10] ?_;refine V 14 ?_;refine an J ?_ ?_<;>intro IM
 have bY:(dT tr E).1≠1:=(by unfold dT;rw[ai I];show(2:Nat)≠1;decide);refine V 4 ?_;refine b_ J J J (aA (tX (zo:=0) h bF (hG.sub aJ)) ?_);rintro e w1 ⟨be,rfl,h⟩;refine V 5 ?_;exact⟨_,_,[],ob,bc,sp,_,x.hA,x.hN,x.hC,x.hb,x.fA,x.fN,x.fC,dZ,cs,hO,m,J,h,q_,GW,hk,(λe=>absurd e bY),(λ_=>Or.inl ⟨_,J⟩)⟩
 have mZ:1<=E.length:=I;refine(jm I).elim λdb Aj=>?_;refine Aj.elim λq BI=>?_;refine BI.elim λl oV=>?_;refine oV.elim λT hd=>?_;clear Aj BI oV jm;have j3:=λi (hi:i<E.length)=>jy hd.2.2 (i:=i) hi;refine fx hd.2.1 λib nT=>?_;have aIH:byte E 0<=255:=toNat_le _;refine V 5 ?_;refine ah (cI (a:=0) (W:=ao.lit _) J J hd.1 I) (ah (vI (run_load h J (j3 0 I)) (show(E.getD 0 0).toNat=byte E 0 from J)) ?_);refine V 5 ?_;refine ah (bZ (d_ (a:=0) (W:=ao.lit _) (b:=1) (h2:=ao.lit _) J J az) (im 1)) ?_;refine V 5 ?_;refine ah (vv J J az) ?_;refine V 2 ?_;refine d' (t:=28) J (λSN=>?_) (λSN=>?_)
 refine V 5 ?_;refine iI J ?_;exact ajc
 refine V 1 ?_;refine dn J J J (vv J J az) J ?_;refine V 3 ?_;refine an J ?_ ?_<;>intro tK
 exact ajc
 refine V 7 ?_;refine CP J J J J J J (aA (axK (tr:=tr) h hG hX mZ hE hk q_ GW yL I hV) ?_);rintro e w1 ⟨n,er,cO,bH,lR,dm,v',xa,xn,xc,xb,fa,fn,fc,nC,jK,r7,m',rfl,h,uy,axU,cK,jF,lF⟩;refine V 8 ?_;exact⟨n,er,cO,bH,lR,dm,v',xa,xn,xc,xb,fa,fn,fc,nC,jK,r7,m',J,h,uy,axU,cK,jF,lF⟩
variable {pr:Int}{a_:List (Option Tb)}{b0 b1 b2:List Bl}{F L:List aD}{l:List Value}{b br c fc fn sb:Nat}{a fa:Option Addr}{kO o0 o1 o2:Option Nat}
theorem ajd{len cap pos:Nat}{ad:Option Addr}{y:List Value}{B B':TypeId}(h:H r w ((af sb [.slice ad len cap,R (pos),.int .i64 pr] 84)::(kO,C l B)::(af br y B')::F))(hX:aP F (.slice ad len cap) E)(kP:pos<=len)(hlen:len<=140737488355328)(hG:Gl F aE aU)(hq:n<=l.length)(uZ:n<=c)(hk:kO=none->c=0):Calls PP 78 #[.iface 58 (aW sb),.slice (aB kO) n c] w λe w'=> ∃lb,e= .returned (.tuple #[R (min (len-pos) n),(if n<=len-pos then .nilIface else if len-pos=0 then .iface 199 (.pointer (some aE))else .iface 199 (.pointer (some aU)))])/\H r w' ((af sb [.slice ad len cap,R (pos+min (len-pos) n),.int .i64 lb] 84)::(kO,C (cT l 0 (List.map u8 ((E.drop pos).take n))) B)::(af br y B')::F):=by
 cases kO with
 |some kb=>exact BE h (hX.sub (Sub.cons _ _)) kP hlen (hG.sub (Sub.cons _ _)) (λ_=>rfl) I uZ
 | none=>
   have lY:=hk J
   subst lY
   have ke:n=0:=I
   subst ke
   have e0: ∀l:List Value,cT l 0 (List.map u8 ((E.drop pos).take 0))=l:=λl=>by rw[pV];rfl
   rw[e0]
   refine(BE (h.mv 1).tail hX kP hlen hG (λh0=>absurd h0 (xC 0)) (bP _) (aR 0) (q:=0)).mono ?_
   rintro e w1 ⟨lb,he,W⟩
   rw[e0]at W
   exact⟨lb,he,(W.ghost _).mv 1⟩
theorem H.aje{A G B:List aD}(h:H r w (A++(G++(B++L)))):H r w (A++(B++(G++L))):=
 h.perm (VB A (by rw[<-cF,<-cF];exact List.Perm.append_right L List.perm_append_comm))
theorem ajf{m:Nat}{gY:List (Option Tb)}{E:List UInt8}: ∀i,(fv m gY E i).1<=2
 |0=>by show 1<=2;decide
 | i+1=>by
  have ih:= @ajf m gY E i;rw[fv];split
  exact ih
  split
  exact aR 2
  split
  exact bP 2
  show 1<=2;decide
theorem axV:(jo a_ E).1<=2:=by
 unfold jo;split
 exact aR 2
 split
 show 1<=2;decide
 split
 exact aR 2
 split
 exact aR 2
 split
 exact bP 2
 exact ajf 3
def C3(x:cQ)(kO:Option Nat)(kn kc:Nat)(ob:Option Nat)(bn bc:Nat)(lO:Option Nat)(ln lc:Nat):cQ:={x with cA:=aB kO,cN:=kn,cC:=kc,bA:=aB ob,bN:=bn,bC:=bc,lA:=aB lO,lN:=ln,lC:=lc}
section
variable {x:cQ}{kO yN ob bH lO yO:Option Nat}{kn kc bn bc ln lc n' c':Nat}
theorem axW(W:x.cA=aB kO)(h2:x.bA=aB ob)(h3:x.lA=aB lO):au x=au (C3 x kO x.cN x.cC ob x.bN x.bC lO x.lN x.lC):=by unfold C3;rw[<-W,<-h2,<-h3]
theorem ajg:(au (C3 x kO kn kc ob bn bc lO ln lc)).set 17 (.slice (aB yN) n' c')=au (C3 x yN n' c' ob bn bc lO ln lc):=rfl
theorem axX:(au (C3 x kO kn kc ob bn bc lO ln lc)).set 7 (.slice (aB bH) n' c')=au (C3 x kO kn kc bH n' c' lO ln lc):=rfl
theorem GY:(au (C3 x kO kn kc ob bn bc lO ln lc))[17]? =some (.slice (aB kO) kn kc):=rfl
theorem ajh:(au (C3 x kO kn kc ob bn bc lO ln lc))[7]? =some (.slice (aB ob) bn bc):=rfl
theorem axY:(au (C3 x kO kn kc ob bn bc lO ln lc))[18]? =some (.slice (aB lO) ln lc):=rfl
theorem axZ:au (C3 x kO kn kc ob bn bc lO ln lc)=au (LX (C3 x kO kn kc ob bn bc lO ln lc) x.hA x.hN x.hC x.hb x.fA x.fN x.fC):=rfl
theorem ax0:(au (LX (C3 x kO kn kc ob bn bc lO ln lc) a n c b fa fn fc)).set 18 (.slice (aB yO) n' c')=au (LX (C3 x kO kn kc ob bn bc yO n' c') a n c b fa fn fc):=rfl
theorem ax1:(au (LX (C3 x kO kn kc ob bn bc lO ln lc) a n c b fa fn fc))[18]? =some (.slice (aB lO) ln lc):=rfl
end
def core(x:cQ):=(x.sV,x.gG,x.sum,x.one,x.dF,x.rem,x.ny,x.off,x.wS,x.wA,x.wN,x.wC,x.wO,x.fR,x.xl,x.xv,x.xb,x.xc)
structure En(x:cQ)(ob kO lO dZ hO o0 o1 o2:Option Nat)(bv kv lv:List Value)(cs:List de)(m:List Nat)(b0 b1 b2:List Bl):Prop where
 b:x.bA=aB ob/\bv.length=x.bC/\(ob=none->x.bC=0)
 k:x.cA=aB kO/\kv.length=x.cC/\x.cN<=x.cC/\(kO=none->x.cC=0)
 l:x.lA=aB lO/\lv.length=x.lC/\(lO=none->x.lC=0)
 u:GU x.hA x.hN x.hC hO m
 s:Zc x dZ cs o0 o1 o2 b0 b1 b2
structure JT(F:List aD)(x:cQ)(m:List Nat)(o0 o1 o2:Option Nat)(b0 b1 b2:List Bl)(s:Fs):Prop where
 tr:GV x.hN x.hb m s.tree
 tb:Gp F x o0 o1 o2 b0 b1 b2 s.a_
 ok:BW s.a_
 a:x.r1=s.a/\x.r2=s.b/\x.r3=s.c
 bd:1<=s.a/\s.a<=4294967295/\s.b<=4294967295/\s.c<=4294967295
theorem rX.less{L':List aD}{v:Value}{lg k:Nat}{t:Option Tb}(h:rX L v lg k t)(hs: ∀b bs,(af b (aX bs) 214)∈L->(af b (aX bs) 214)∈L'):rX L' v lg k t:=by
 cases t with
 |none=>exact h
 |some t=>obtain⟨b,c,bs,W,h2,h3⟩:=h;exact⟨b,c,bs,W,hs _ _ h2,h3⟩
theorem aaF{F':List aD}(h:Gp F x o0 o1 o2 b0 b1 b2 a_)(hs: ∀b bs,(af b (aX bs) 214)∈F->(af b (aX bs) 214)∈F'):Gp F' x o0 o1 o2 b0 b1 b2 a_:=by
 have key: ∀e:aD,∀b bs,(af b (aX bs) 214)∈e::F->(af b (aX bs) 214)∈e::F':=λe b bs hm=>by
  rcases mR.1 hm with e1|hm
  rw[e1];exact e_ ..
  exact ar (hs _ _ hm)
 exact⟨h.1.less (key _),h.2.1.less (key _),h.2.2.less (key _)⟩
theorem no5{bs:List Bl}{k:Option Nat}{G:List aD}(h:(af b (aX bs) 214)∈G++(k,C l 5)::F):(af b (aX bs) 214)∈G++F:=by
 rcases nL.1 h with h|h
 exact ni _ h
 rcases mR.1 h with e|h
 injection e with e1 e2;injection e2 with e3 e4;exact absurd e4 aj
 exact fe _ h
theorem SO{o:Option Nat}(h:o=none->c=0)(h0:0<n)(hn:n<=c): ∃b,o=some b:=by
 cases o with
 |some b=>exact⟨b,J⟩
 |none=>have:=h J;omega
theorem ax2{kc:Nat}{X:List UInt8}(hm:(kO,C (cT l 0 (List.map u8 X)) 5)∈F)(hl:l.length=kc)(hn:X.length<=kc)(h0:kO=none->kc=0):aP F (.slice (aB kO) X.length kc) X:=
 ⟨_,_,_,J,J,hn,λhp=>by
   obtain⟨b,hb⟩:=SO h0 hp hn
   subst hb
   exact⟨b,0,_,_,J,hm,Rd.of λj hj=>by
     rw[bX]at hj
     rw[Pw,ai (by rw[bX];omega)];simp⟩⟩
theorem ax3{pos ic aL ak:Nat}{iA:Option Addr}{ob lO dZ hO:Option Nat}{bv kv lv:List Value}{cs:List de}{m:List Nat}{D wd:List UInt8}(h:H r w ((af br (au x) 81)::(af sb [.slice iA D.length ic,R (pos),.int .i64 pr] 84)::(ob,C (bv) 5)::(dZ,C (cU cs) 227)::(hO,C (List.map dk m) 174)::(o0,C (aX b0) 214)::(o1,C (aX b1) 214)::(o2,C (aX b2) 214)::(kO,C (kv) 5)::(lO,C (lv) 5)::L))(g8:Sub F L)(hG:Gl F aE aU)(hD:aP F (.slice iA D.length ic) D)(pM:x.sV= .iface 58 (aW sb))(kP:pos<=D.length)(jP:D.length<=140737488355328)(hn:n<=131072)(hW:aP L (.slice x.wA x.wN x.wC) wd)(sY:x.wO<=wd.length)(kh:wd.length<=8388608)(Zp: ∃p0,s.out=p0++eR wd x.wO/\(p0=[]\/aL<=wd.length))(fF:s.out.length<=4194304)(oQ:ak<=131072)(hI:En x ob kO lO dZ hO o0 o1 o2 bv kv lv cs m b0 b1 b2)(ax4:JT F x m o0 o1 o2 b0 b1 b2 s)(hV:pos+n<=D.length->(i' aL ak s (aa D pos n)).1≠0):Calls PP 89 #[aW br,R n] w λe w'=> ∃er,e= .returned er/\((pos+n<=D.length/\(i' aL ak s (aa D pos n)).1=1)->er= .nilIface/\ ∃x' lb bH JU nC jK r7 m' uf ug uh ui uj uk yN Eo yO Ep G,H r w' ((af br (au x') 81)::(af sb [.slice iA D.length ic,R (pos+n),.int .i64 lb] 84)::(bH,C (JU) 5)::(nC,C (cU jK) 227)::(r7,C (List.map dk m') 174)::(uf,C (aX ug) 214)::(uh,C (aX ui) 214)::(uj,C (aX uk) 214)::(yN,C (Eo) 5)::(yO,C (Ep) 5)::(G++L))/\En x' bH yN yO nC r7 uf uh uj JU Eo Ep jK m' ug ui uk/\core x'=core x/\ ∃s' out sp,i' aL ak s (aa D pos n)=(1,s')/\s'.out=s.out++out/\JU=out.map u8++sp/\x'.bN=out.length/\JT (G++F) x' m' uf uh uj ug ui uk s')/\(¬(pos+n<=D.length/\(i' aL ak s (aa D pos n)).1=1)->Er aU er/\ ∃Z,H r w' (Z++L)):=by
 obtain⟨Al,GZ,G6,Nv,JV⟩:=id hI;obtain⟨hrt,hrb,Nw,Gh,qi⟩:=id ax4;have qp:=hG.sub g8;rw[axW GZ.1 Al.1 G6.1]at h;obtain⟨JW,ax5⟩: ∃v,x.cN=v:=⟨_,J⟩;obtain⟨kc0,ax6⟩: ∃v,x.cC=v:=⟨_,J⟩;obtain⟨BZ,ax7⟩: ∃v,x.bC=v:=⟨_,J⟩;obtain⟨Nx,ax8⟩: ∃v,x.lC=v:=⟨_,J⟩;rw[ax5,ax6]at h GZ;rw[ax7]at h Al;rw[ax8]at h G6;obtain⟨_,eF,cK,lK⟩:=GZ;obtain⟨_,eL,fh⟩:=Al;obtain⟨_,dE,hJ⟩:=G6;have fq:(au x)[0]? =some (.iface 58 (aW sb)):=(by rw[<-pM];rfl);refine gS Tryz.func89 Tryz.ntmps89 [4] ?_;refine V 4 ?_;refine cD [(5,5),(14,45)] (λρ w=> ∃kH:Option Nat,∃nE:List Value,∃yP:Nat,Kn ρ []/\H r w ((af br (au (C3 x kH n yP ob x.bN BZ lO x.lN Nx)) 81)::(af sb [.slice iA D.length ic,R (pos),.int .i64 pr] 84)::(ob,C (bv) 5)::(dZ,C (cU cs) 227)::(hO,C (List.map dk m) 174)::(o0,C (aX b0) 214)::(o1,C (aX b1) 214)::(o2,C (aX b2) 214)::(kH,C (nE) 5)::(lO,C (lv) 5)::L)/\(nE.length=yP)/\(n<=yP)/\(kH=none->yP=0)) ?_ ?_
 refine V 5 ?_;refine aO h J GY ?_;refine V 4 ?_;refine an J ?_ ?_<;>intro F6
 refine V 5 ?_;refine aO h J GY (cM (ah (lX J J I) ?_));refine V 2 ?_;refine cV (.slice (aB kO) n kc0) GY ?_;intro w h;rw[ajg]at h;exact aC ⟨aH 17,kO,kv,kc0,aq,h,eF,I,lK⟩
 refine V 6 ?_;refine aO h J GY ?_;refine V 9 ?_;refine aO h J GY (cM (ahP (kv.take JW) (kv.drop JW) h 8 J J (by rw[xD];rfl) ⟨by rw[gk,eC];omega,by rw[xD,eC];exact eF,cK,lK⟩ (by intro v hv;simp at hv;subst hv;rfl) I aj J ?_));intro w dy c9 dL h df fG eG;dsimp only[List.set]at h;have B4:JW+(n-JW)=n:=I;rw[B4];rw[B4]at fG;refine V 2 ?_;refine cV (.slice (aB dy) n c9) GY ?_;intro w h;rw[ajg]at h;exact aC ⟨aH 25,dy,(kv.take JW++dj [gR 0] (n-JW)++dL),c9,aq,h,(by rw[eC]at df;exact df),I,eG⟩
 rintro ρ w ⟨kH,nE,yP,⟨k5,rfl⟩,h,GF,SP,SQ⟩;refine a9 (a9 (bL h [0,4,8,16,20,24,13,29,35,36,40,44,48,52] ?_));intro w h;refine av 6 ?_;refine aK J h J (show(au (C3 x kH n yP ob x.bN BZ lO x.lN Nx))[0]? =_ from fq) (aK J h J GY ?_);replace h:=h.zz [8,2] 0;refine kL J J J J (aA (ajd h ((hD.sub g8).sub aJ) kP jP (qp.sub aJ) I SP SQ) ?_);rintro e w1 ⟨vL,rfl,h⟩;refine av 6 ?_;refine V 3 ?_;refine ah (BY (aE:=aE) (aU:=aU) J J) (aC (an J ?_ ?_))<;>intro rL
 have G7: ¬(pos+n<=D.length/\(i' aL ak s (aa D pos n)).1=1):=λe=>rL (by have:=e.1;omega);refine V 4 ?_;refine ee (v1:=R 0) J J J J (aA (Em (zo:=0) h (ar (ar bF)) (qp.sub aJ) (El rL)) ?_);rintro e w1 ⟨be,rfl,h⟩;refine V 3 ?_;replace h:=h.zz [9,2,9,9,9,9,9,9,8,9] 0;exact⟨_,J,λe=>absurd e G7,λ_=>⟨Or.inl ⟨_,J⟩,[_,_,_,_,_,_,_,_,_,_],h⟩⟩
 have jD:pos+n<=D.length:=I;have hVV:=hV jD;have GO:pos+min (D.length-pos) n=pos+n:=I;have dK:(aa D pos n).length=n:=dx jD;have jX:(D.drop pos).take n=(aa D pos n):=rfl;rw[GO,jX]at h;have QN:(au (C3 x kH n yP ob x.bN BZ lO x.lN Nx))[17]? =some (.slice (aB kH) (aa D pos n).length yP):=(by rw[dK];rfl);have hXk:=λ(F':List aD) (hm:(kH,C (cT nE 0 (List.map u8 (aa D pos n))) 5)∈F')=>ax2 hm GF (by rw[dK];exact SP) SQ;have hEb:(aa D pos n).length<=268435456:=I;refine V 6 ?_;refine aO h J QN ?_;refine V 12 ?_;refine aO h J ajh (ah (lX (c:=0) (W:=ao.lit _) J J (bP _)) ?_);refine V 2 ?_;refine cV (.slice (aB ob) 0 BZ) ajh ?_;intro w h;rw[axX]at h;refine V 9 ?_;refine aO h J axY (ah (lX (c:=0) (W:=ao.lit _) J J (bP _)) ?_);replace h:=h.zz [9,6,6,5] 0;refine uV J J J J J ?_;rw[axZ]at h;have ax9:bG lO 0 Nx [] lv 1:=⟨J,by rw[eC];exact dE,bP _,hJ⟩;refine(axT (x:=(C3 x kH n yP ob 0 BZ lO x.lN Nx)) (tr:=s.tree) (E:=(aa D pos n)) h (qp.sub aJ) (hXk _ (ar bF)) hEb ax9 JV.1 Nv hrt (λe=>hVV (by rw[aaD I];exact e))).mono ?_;rintro e w1 ⟨n1,q9,text,pN,lT,JX,v1,xa,xn,xc,xb,fa,fn,fc,jq,gB,pJ,m1,rfl,h,ax_,aji,JY,ij,oS⟩;refine⟨_,J,?_⟩;refine V 12 ?_;refine ah (SE (aU:=aU) q9 ((dT s.tree (aa D pos n)).1=1) J (λe=>(ij e).1) (λe=>oS e) J) (aC (an J ?_ ?_))<;>intro zJ
 have uZ:(i' aL ak s (aa D pos n)).1≠1:=(by rw[aaD zJ];exact zJ);have G7: ¬(pos+n<=D.length/\(i' aL ak s (aa D pos n)).1=1):=λe=>uZ e.2;refine V 6 ?_;replace h:=h.zz [3,5,9,9,9,7,7,9,9,9] 0;exact⟨_,J,λe=>absurd e G7,λ_=>⟨oS zJ,[_,_,_,_,_,_,_,_,_,_],h⟩⟩
 have wU:=ij (nj.1 zJ);clear ij oS;refine wU.2.2.elim λnw ue=>?_;have ajj:=ue.1;have yq:=ue.2;have gr:=wU.2.1;clear wU ue;have Es:=ae6 ajj (λt e=>by rw[e]at hrt;exact hrt.2.2.1.ok);have Et:=axR (w:=aL) (m:=ak) ajj hVV Nw;have DQ:=Es.1;have gX:=Es.2.1;clear Es;rw[gr];refine V 7 ?_;refine cV (.slice (aB pN) text.length lT) ax1 ?_;intro w h;rw[ax0]at h;refine V 11 ?_;replace h:=h.zz [9,9,9,4,4] 0;refine ee J J J J ?_
 refine(auS (F:=(kH,C (cT nE 0 (List.map u8 (aa D pos n))) 5)::F) (x:=(LX (C3 x kH n yP ob 0 BZ pN text.length lT) xa xn xc xb fa fn fc)) (a_:=s.a_) h (λe he=>by
   rcases mR.1 he with e1|he
   . rw[e1];exact(ar (ar (ar bF)))
   . exact ar (ar (ar (ar (ar ((g8 _ he))))))) (hG.sub (Sub.cons _ _)) (hXk _ bF) hEb gX Nw.1 ⟨ax_,JV.2⟩ (aaF hrb (λb bs hm=>ar hm))).mono ?_
 rintro e w1 ⟨many,a2,vE,ok,x5,Gr,mI,p0,c0,p1,c1,p2,c2,G,rfl,h,om,tm,fX,fB⟩;refine⟨_,J,?_⟩;replace h:=H.aje (A:=[(af br (au x5) 81),(Gr,C (cU mI) 227),(p0,C (aX c0) 214),(p1,C (aX c1) 214),(p2,C (aX c2) 214)]) (B:=[(pJ,C (List.map dk m1) 174),(pN,C (List.map u8 text++JX) 5),(af sb [.slice iA D.length ic,R (pos+n),.int .i64 vL] 84),(kH,C (cT nE 0 (List.map u8 (aa D pos n))) 5),(ob,C (bv) 5)]) h;dsimp only[List.cons_append,List.nil_append]at h;replace fX:=Hid.mk fX;replace fB:=Hid.mk fB;have Bn:core x5=core x:=(by rw[om];rfl);have Ny:x5.r1=s.a:=(b8 cQ.r1 om).trans Gh.1;have SR:x5.r2=s.b:=(b8 cQ.r2 om).trans Gh.2.1;have SU:x5.r3=s.c:=(b8 cQ.r3 om).trans Gh.2.2;have h5b:x5.bA=aB ob:=(b8 cQ.bA om).trans J;have h5n:x5.bN=0:=(b8 cQ.bN om).trans J;have h5c:x5.bC=BZ:=(b8 cQ.bC om).trans J;have Am:x5.cA=aB kH/\x5.cN=n/\x5.cC=yP:=⟨(b8 cQ.cA om).trans J,(b8 cQ.cN om).trans J,(b8 cQ.cC om).trans J⟩;have JZ:x5.lA=aB pN/\x5.lC=lT:=⟨(b8 cQ.lA om).trans J,(b8 cQ.lC om).trans J⟩;have An:x5.hA=xa/\x5.hN=xn/\x5.hC=xc/\x5.hb=xb:=⟨(b8 cQ.hA om).trans J,(b8 cQ.hN om).trans J,(b8 cQ.hC om).trans J,(b8 cQ.hb om).trans J⟩;have Nz:x5.wA=x.wA/\x5.wN=x.wN/\x5.wC=x.wC/\x5.wO=x.wO:=⟨(b8 cQ.wA om).trans J,(b8 cQ.wN om).trans J,(b8 cQ.wC om).trans J,(b8 cQ.wO om).trans J⟩;clear om;have zR:x5=BX x5 ob 0 BZ:=(au0 h5b h5n h5c).symm;rw[zR]at h;refine V 12 ?_;refine ah (jz vE (ok=true) J (λe=>(fX.o e).1) (λe=>(fB.o (by simpa using e)).1) J) ?_;refine aC (an J ?_ ?_)<;>intro zU
 have ld:=fB.o (by simpa using zU);have uZ:(i' aL ak s (aa D pos n)).1≠1:=Et.2.1 ld.2;have G7: ¬(pos+n<=D.length/\(i' aL ak s (aa D pos n)).1=1):=λe=>uZ e.2;refine V 6 ?_;replace h:=h.zz [6,8,6,6,6,7,7,9,9,9] 0;exact⟨_,J,λe=>absurd e G7,λ_=>⟨Or.inl ld.1,[_,_,_,_,_,_,_,_,_,_]++G,by rw[cF];exact h⟩⟩
 have ld:=fX.o (by simpa using zU);clear fX fB;have n7:(jo s.a_ (List.drop n1 (aa D pos n))).1=1:=(by have:=ld.2.1;have:=Et.1;have:=axV (a_:=s.a_) (E:=List.drop n1 (aa D pos n));omega);refine(ld.2.2 n7).elim λEu nB=>?_;clear ld n7;obtain⟨ajk,han,haE,jn⟩:=nB;refine V 7 ?_;refine an J ?_ ?_<;>intro Di
 have fk:many=0:=Di;have jN:=Et.2.2.1 (a2-n1) Eu (by rw[<-fk];exact ajk);clear Et;rw[bV]at jN;refine V 8 ?_;refine an J ?_ ?_<;>intro atw
 exfalso;have W:=jN.2.1;have h2:=jN.2.2.1;omega
 refine V 7 ?_;refine aO h J re (cM ?_)
 refine kW (List.map u8 []) bv (text.map u8) h 9 J J J ⟨J,by rw[eC];exact eL,bP _,fh⟩ (qg (aP.own (T:=5) JY) (λe he=>by
   rcases je.1 he with rfl
   exact(ar (ar (ar (ar (ar (ar bF)))))))) (by intro y hy;obtain⟨z,_,rfl⟩:=jd.1 hy;rfl) I aj J ?_
 intro w dy c9 dL h df fG eG;dsimp only[List.set]at h;rw[E4,List.nil_append]at h df;refine V 2 ?_;refine cV (.slice (aB dy) (0+text.length) c9) re ?_;intro w h;rw[Gu]at h;refine V 6 ?_;replace h:=h.zz [6,8,6,6,6,7,7,9,9,9] 0
 have hinv:En (BX x5 dy (0+text.length) c9) dy kH pN Gr pJ p0 p1 p2 (List.map u8 text++dL) (cT nE 0 (List.map u8 (aa D pos n))) (List.map u8 text++JX) mI m1 c0 c1 c2:=
   {b:=⟨J,(by rw[df,eC];rfl),eG⟩,k:=⟨Am.1,(by rw[Lm,GF];exact Am.2.2.symm),(by show x5.cN<=x5.cC;rw[Am.2.1,Am.2.2];exact SP),(λe=>Am.2.2.trans (SQ e))⟩,l:=⟨JZ.1,(by rw[JY.2.1,eC];exact JZ.2.symm),(λe=>JZ.2.trans (JY.2.2.2 e))⟩,u:=(by show GU x5.hA x5.hN x5.hC pJ m1;rw[An.1,An.2.1,An.2.2.1];exact aji),s:=tm}
 have aaG:JT (G++F) (BX x5 dy (0+text.length) c9) m1 p0 p1 p2 c0 c1 c2 {s with out:=s.out++text,tree:=nw}:=
   {tr:=(by show GV x5.hN x5.hb m1 nw;rw[An.2.1,An.2.2.2];exact yq),tb:=(by show Gp (G++F) x5 p0 p1 p2 c0 c1 c2 s.a_;rw[<-jN.1];exact aaF jn (λb bs hm=>no5 hm)),ok:=Nw,a:=⟨Ny,SR,SU⟩,bd:=qi}
 exact⟨_,J,λ_=>⟨J,BX x5 dy (0+text.length) c9,vL,dy,List.map u8 text++dL,Gr,mI,pJ,m1,p0,c0,p1,c1,p2,c2,kH,(cT nE 0 (List.map u8 (aa D pos n))),pN,List.map u8 text++JX,G,h,hinv,Bn,({s with out:=s.out++text,tree:=nw}),text,dL,jN.2.2.2.2,J,J,im text.length,aaG⟩,λe=>absurd ⟨jD,by rw[jN.2.2.2.2]⟩ e⟩
 have jN:=Et.2.2.2 many (a2-n1) Eu Di ajk;clear Et;obtain⟨pA,FJ,jr,ax'⟩:=jN;refine ax'.elim λy J0=>?_;have kg:=axS FJ jr;have B6:List.drop (a2-n1) (List.drop n1 (aa D pos n))=List.drop a2 (aa D pos n):=(by rw[j7];congr 1;omega);rw[B6]at J0;have SM:(k9 (qh Eu) aL ak s.out x5.r1 x5.r2 x5.r3 text many (List.drop a2 (aa D pos n))).1≠0:=(by rw[Ny,SR,SU,<-J0.1];intro e;exact hVV (by rw[J0.2];exact e));refine V 8 ?_;replace h:=h.zz [9,1] 0;refine CP J J J J J J ?_
 refine(avu (x:=x5) (ob:=ob) (sp:=bv) (bc:=BZ) (E:=(aa D pos n)) (text:=text) (wd:=wd) (pre:=s.out) (aL:=aL) (ak:=ak) (ts:=qh Eu) h (qp.sub (λe he=>ar (ar (ar (ar (ar (ar (ar (ar ((fe _ he))))))))))) (hXk _ (ar (ar (ar (ar (ar (ar (ar bF)))))))) hEb haE ((aP.own (T:=5) JY).sub (λe he=>by
   rcases je.1 he with rfl
   exact(ar (ar (ar (ar (ar bF))))))) (by rw[Nz.1,Nz.2.1,Nz.2.2.1];exact hW.sub (λe he=>ar (ar (ar (ar (ar (ar (ar (ar ((fe _ he))))))))))) ⟨J,by rw[eC];exact eL,bP _,fh⟩ (λk hk=>?_) kg.1 (by rw[Nz.2.2.2];exact sY) kh (by rw[Nz.2.2.2];exact Zp) fF DQ I I oQ (by rw[Ny];exact qi.1) (by rw[Ny];exact qi.2.1) (by rw[SR];exact qi.2.2.1) (by rw[SU];exact qi.2.2.2) SM).mono ?_
 have rR: ∀e:aD,e∈[(p0,C (aX c0) 214),(p1,C (aX c1) 214),(p2,C (aX c2) 214)]\/e∈G++(kH,C (cT nE 0 (List.map u8 (aa D pos n))) 5)::F->e∈(Gr,C (cU mI) 227)::(p0,C (aX c0) 214)::(p1,C (aX c1) 214)::(p2,C (aX c2) 214)::(pJ,C (List.map dk m1) 174)::(pN,C (List.map u8 text++JX) 5)::(af sb [.slice iA D.length ic,R (pos+n),.int .i64 vL] 84)::(kH,C (cT nE 0 (List.map u8 (aa D pos n))) 5)::(G++L):=by
  intro e he;rcases he with he|he
  rcases mR.1 he with rfl|he
  exact(ar bF)
  rcases mR.1 he with rfl|he
  exact(ar (ar bF))
  rcases je.1 he with rfl;exact(ar (ar (ar bF)))
  rcases nL.1 he with he|he
  exact ar (ar (ar (ar (ar (ar (ar (ar ((ni _ he)))))))))
  rcases mR.1 he with rfl|he
  exact(ar (ar (ar (ar (ar (ar (ar bF)))))))
  exact ar (ar (ar (ar (ar (ar (ar (ar ((fe _ (g8 _ he))))))))))
 rcases k3 hk with rfl|rfl|rfl
 exact(Jp jn.1 (kg.2 0 aj)).sub (λe he=>by
   rcases mR.1 he with rfl|he
   . exact rR _ (Or.inl bF)
   . exact rR _ (Or.inr he))
 exact(Jp jn.2.1 (kg.2 1 aj)).sub (λe he=>by
   rcases mR.1 he with rfl|he
   . exact rR _ (Or.inl (ar bF))
   . exact rR _ (Or.inr he))
 exact(Jp jn.2.2 (kg.2 2 aj)).sub (λe he=>by
   rcases mR.1 he with rfl|he
   . exact rR _ (Or.inl (ar (ar bF)))
   . exact rR _ (Or.inr he))
 rintro e w1 ⟨er9,dy,c9,B7,dL,ra,rb,rc,rfl,h,yh,wV,vG⟩;refine⟨_,J,?_⟩;rw[Ny,SR,SU,<-J0.1]at wV vG;refine V 3 ?_;replace h:=h.zz [7,9,7,7,7,8,8,8,9,9] 0
 have hinv:En (BX (RO x5 ra rb rc) dy B7.length c9) dy kH pN Gr pJ p0 p1 p2 (List.map u8 B7++dL) (cT nE 0 (List.map u8 (aa D pos n))) (List.map u8 text++JX) mI m1 c0 c1 c2:=
   {b:=⟨J,(by rw[yh.2.1,eC];rfl),yh.2.2.2⟩,k:=⟨Am.1,(by rw[Lm,GF];exact Am.2.2.symm),(by show x5.cN<=x5.cC;rw[Am.2.1,Am.2.2];exact SP),(λe=>Am.2.2.trans (SQ e))⟩,l:=⟨JZ.1,(by rw[JY.2.1,eC];exact JZ.2.symm),(λe=>JZ.2.trans (JY.2.2.2 e))⟩,u:=(by show GU x5.hA x5.hN x5.hC pJ m1;rw[An.1,An.2.1,An.2.2.1];exact aji),s:=tm}
 by_cases w_:y.1=1
 have ub:=wV w_
 have aaG:JT (G++F) (BX (RO x5 ra rb rc) dy B7.length c9) m1 p0 p1 p2 c0 c1 c2 ⟨s.out++B7,nw,Eu,ra,rb,rc⟩:=
   {tr:=(by show GV x5.hN x5.hb m1 nw;rw[An.2.1,An.2.2.2];exact yq),tb:=(by show Gp (G++F) x5 p0 p1 p2 c0 c1 c2 Eu;exact aaF jn (λb bs hm=>no5 hm)),ok:=FJ,a:=⟨J,J,J⟩,bd:=ub.2.2}
 have hcf:i' aL ak s (aa D pos n)=(1,⟨s.out++B7,nw,Eu,ra,rb,rc⟩):=(by rw[J0.2,ub.2.1]);exact⟨_,J,λ_=>⟨ub.1,BX (RO x5 ra rb rc) dy B7.length c9,vL,dy,List.map u8 B7++dL,Gr,mI,pJ,m1,p0,c0,p1,c1,p2,c2,kH,(cT nE 0 (List.map u8 (aa D pos n))),pN,List.map u8 text++JX,G,h,hinv,Bn,⟨s.out++B7,nw,Eu,ra,rb,rc⟩,B7,dL,hcf,J,J,J,aaG⟩,λe=>absurd ⟨jD,by rw[hcf]⟩ e⟩
 have G7: ¬(pos+n<=D.length/\(i' aL ak s (aa D pos n)).1=1):=λe=>w_ (by have h2:=e.2;rw[J0.2]at h2;exact h2);exact⟨_,J,λe=>absurd e G7,λ_=>⟨Or.inl (vG w_),[_,_,_,_,_,_,_,_,_,_]++G,by rw[cF];exact h⟩⟩
variable {T b:List UInt8}{j nn q:Nat}{bf:Nat->UInt8}
theorem aya(h:q+n<=T.length):aa (T++b) q n=aa T q n:=by
 unfold aa;rw[zd I,Vz (by rw[bV];omega)]
theorem ajl(hj:j<4):lane (aa E q 32) j=num (aa E (q+8*j) 8):=by
 unfold lane;rw[iL I]
theorem ajm:lane (E.drop q) j=num (aa E (q+8*j) 8):=by
 unfold lane aa;rw[j7]
theorem ayb{v:V4}(hj:j<4):(Fh v E).getD j 0=ie (v.getD j 0) (lane E j):=by
 unfold Fh;rw[Wp _ _ _ _ hj,ai hj]
theorem ajn{v:V4}:Fh v (aa E q 32)=Fh v (E.drop q):=by
 unfold Fh pZ;refine VA λj hj=>?_;have:=oX.1 hj;rw[ai this,ai this,ajl this,ajm]
theorem SV{v:V4}:jV 0 E v=v:=by unfold jV;rw[VC,OU]
theorem SW{T b:List UInt8}{v:V4}: ∀(n:Nat),32*n<=T.length->jV n (T++b) v=jV n T v
 |0,_=>by rw[SV,SV]
 |n+1,h=>by have ih:=SW (T:=T) (b:=b) (v:=v) n I;have e1:=ajn (E:=T++b) (q:=32*n) (v:=jV n T v);have e2:=ajn (E:=T) (q:=32*n) (v:=jV n T v);rw[aya I]at e1;have W:=Iw n (T++b) v;have h2:=Iw n T v;rw[ih]at W;exact W.trans (e1.symm.trans (e2.trans h2.symm))
def VV(v:Nat->Nat)(n:Nat)(S:List UInt8):Prop:= ∀k,k<4->v k=(jV n S v0).getD k 0
structure XI(n:Nat)(v:Nat->Nat)(bf:Nat->UInt8)(c:Nat)(T:List UInt8):Prop where
 en:n=T.length
 ec:c=T.length % 32
 ev:VV v (T.length/32) T
 eb: ∀i,i<c->bf i=T.getD (32*(T.length/32)+i) 0
theorem VV.lt{v:Nat->Nat}(h:VV v n S){k:Nat}(hk:k<4):v k<c_:=by
 rw[h k hk];exact Fi n S v0 Fj k
theorem VV.step{v:Nat->Nat}(h:VV v n S):VV (eX (eX (eX (eX v 0 (ie (v 0) (lane (S.drop (32*n)) 0))) 1 (ie (v 1) (lane (S.drop (32*n)) 1))) 2 (ie (v 2) (lane (S.drop (32*n)) 2))) 3 (ie (v 3) (lane (S.drop (32*n)) 3))) (n+1) S:=by
 intro k hk;rw[Iw,ayb hk,<-h k hk];rcases(I:k=0\/k=1\/k=2\/k=3)with rfl|rfl|rfl|rfl
 rw[sX aj,sX aj,sX aj,yD]
 rw[sX aj,sX aj,yD]
 rw[sX aj,yD]
 rw[yD]
theorem XI.zero{v:Nat->Nat}(h: ∀k,k<4->v k=v0.getD k 0):XI 0 v bf 0 []:=⟨J,J,(λk hk=>(h k hk).trans (by rw[fE,Nat.zero_div,SV])),λi hi=>by omega⟩
theorem ajo(h:i<T.length):(T++b).getD i 0=T.getD i 0:=by
 simp only[bS];rw[ir h]
theorem ajp(h:T.length<=i):(T++b).getD i 0=b.getD (i-T.length) 0:=by
 simp only[bS];rw[nN h]
theorem XI.less{v:Nat->Nat}(h:XI n v bf c T)(hl:c+b.length<32):XI (n+b.length) v (dW bf c b) (c+b.length) (T++b):=by
 have hc:=h.ec;have hd:(T.length+b.length)/32=T.length/32:=I;refine⟨by rw[h.en,aF],by rw[aF];omega,?_,λi hi=>?_⟩
 intro k hk;rw[aF,hd,SW _ I];exact h.ev k hk
 rw[aF,hd];unfold dW;by_cases vA:i<c
 rw[ag I,h.eb i vA,ajo I]
 rw[ai I,ajp I];congr 1;omega
theorem XI.full{v:Nat->Nat}(h:XI n v bf c T)(hl:32<=c+b.length):(List.range 32).map (dW bf c (b.take (32-c)))=aa (T++b) (32*(T.length/32)) 32:=by
 have hc:=h.ec;have hs:(aa (T++b) (32*(T.length/32)) 32).length=32:=dx (by rw[aF];omega);apply oF;intro i;by_cases hi:i<32
 rw[kK,AD hi,uN];have e:(aa (T++b) (32*(T.length/32)) 32)[i]? =some ((aa (T++b) (32*(T.length/32)) 32).getD i 0):=(by rw[bS,gv I];rfl);rw[e,kN hi];congr 1;unfold dW;rw[gk];by_cases vA:i<c
 rw[ag I,h.eb i vA,ajo I]
 rw[ai I,ajp I];have e2:(b.take (32-c)).getD (i-c) 0=b.getD (i-c) 0:=(by simp only[bS,pT];rw[ai I]);rw[e2];congr 1;omega
 rw[gP (by simp;omega),gP I]
theorem XI.done{v:Nat->Nat}(hn:nn=S.length)(h:VV v n S)(W:32*n<=S.length)(h2:S.length-32*n<32):XI nn v (dW bf 0 (S.drop (32*n))) (S.length-32*n) S:=by
 have hd:S.length/32=n:=I;refine⟨hn,I,by rw[hd];exact h,λi hi=>?_⟩;unfold dW;rw[bV,ai I,hd];simp only[bS,oE,KX]
theorem XI.ayc{v:Nat->Nat}(hn:nn=S.length)(h:VV v n S)(W:32*n<=S.length)(h2:S.length-32*n=0):XI nn v bf 0 S:=by
 have hd:S.length/32=n:=I;exact⟨hn,I,by rw[hd];exact h,λi hi=>by omega⟩
def XX(x:cQ)(n:Nat)(v:Nat->Nat)(b:Nat->UInt8)(c:Nat):cQ:={x with xl:=n,xv:=v,xb:=b,xc:=c}
section
variable {x:cQ}{n n' c c' k:Nat}{v:Nat->Nat}{b:Nat->UInt8}
theorem ajq:(au (XX x n v b c)).set 45 (cy n')=au (XX x n' v b c):=rfl
theorem SX:(au (XX x n v b c)).set 46 (cy n')=au (XX x n (eX v 0 n') b c):=rfl
theorem aaH:(au (XX x n v b c)).set 47 (cy n')=au (XX x n (eX v 1 n') b c):=rfl
theorem aaI:(au (XX x n v b c)).set 48 (cy n')=au (XX x n (eX v 2 n') b c):=rfl
theorem SY:(au (XX x n v b c)).set 49 (cy n')=au (XX x n (eX v 3 n') b c):=rfl
theorem S0:(au (XX x n v b c)).set 82 (R n')=au (XX x n v b n'):=rfl
theorem J1:(au (XX x n v b c))[45]? =some (cy n):=rfl
theorem B8:(au (XX x n v b c))[46]? =some (cy (v 0)):=rfl
theorem G8:(au (XX x n v b c))[47]? =some (cy (v 1)):=rfl
theorem Ev:(au (XX x n v b c))[48]? =some (cy (v 2)):=rfl
theorem B9:(au (XX x n v b c))[49]? =some (cy (v 3)):=rfl
theorem B_:(au (XX x n v b c))[82]? =some (R c):=rfl
theorem S_{X:List UInt8}(hq:q=50+k)(h:k+X.length<=32):cT (au (XX x n v b c)) q (X.map u8)=au (XX x n v (dW b k X) c):=by
 rw[aun hq h];rfl
theorem ajr:Rd (au (XX x n v b c)) 50 (((List.range 32).map b).map u8):=by
 rw[HV];have h:au (XX x n v b c)=(au (XX x n v b c)).take 50++((List.range 32).map (u8∘b)++(au (XX x n v b c)).drop 82):=rfl;refine Rd.of λj hj=>?_;rw[h,nN (by show 50<=50+j;omega)];rw[ir (by show 50+j-50<_;omega)];congr 1;show 50+j-50=j;omega
end
theorem ajs{v:Nat->Nat}{b:Nat->UInt8}(h:(af br (au (XX x n v b c)) 81)∈F):aP F (.slice (some ⟨br,50,none⟩) 32 32) ((List.range 32).map b):=
 ⟨_,_,_,J,by simp,aR _,λ_=>⟨br,50,_,_,J,h,ajr⟩⟩
section
variable {P:Program}{ρ:Env}{T T' ty:TypeId}{r:dQ}{w:World}{L:List aD}{x:Operand}{b q i n c:Nat}{l:List Value}{B:TypeId}
theorem ayd{sv u:Value}{w':World}(hx:Env.ev ρ x=sv)(hr:(Builtin.clear_ #[T] ty #[sv]).run P w= .ok u w'):run P ρ (.call {callee:= .builtin .clear,args:= #[x],argTypes:= #[T]}) ty w= .ok (.value u) w':=by
 simp[run,execOp,resolve,invoke,builtin,hx,hr]
theorem aye{z:Value}[hu:bO P T (.slice T')] [hz:Zr P T' [z]](Tc:plain z=true)(hn:n≠0)(h:H r w L)(hi:L[i]? =some (af b l B))(hq:q+n<=l.length): ∃w',(Builtin.clear_ #[T] ty #[.slice (some ⟨b,q,none⟩) n c]).run P w= .ok (.tuple #[]) w'/\H r w' (L.set i (af b (cT l q (List.replicate n z)) B)):=by
 obtain⟨zv,z1,z2⟩:=hz.zero w;have sE:(Builtin.zeroCells zv.cells n).toList=List.replicate n z:=(by rw[<-CT,z2];simp[Builtin.zeroCells,dj,CC,se]);obtain⟨w',s1,s2,_,_⟩:=CS (P:=P) (List.replicate n z) w L l q 0 h hi (λv hv=>by rw[OY]at hv;rw[hv.2];exact Tc) (by rw[dR];omega);refine⟨w',?_,by simpa using s2⟩;obtain⟨k,rfl⟩: ∃k,n=k+1:=⟨n-1,I⟩;simp[Builtin.clear_,underlying,program,Sem.run,hu.eq,z1,sE,s1]
theorem ayf{K:gw}{all:Array Oper}{rest:List Oper}{pos:String}{aN:Array Edge}{z:Value}[hu:bO P T (.slice T')] [hz:Zr P T' [z]](i:Nat)(h:H r w L)(hx:Env.ev ρ x= .slice (some ⟨b,q,none⟩) n c)(Tc:plain z=true)(hn:n≠0)(hi:L[i]? =some (af b l B))(hq:q+n<=l.length)(hk: ∀w',H r w' (L.set i (af b (cT l q (List.replicate n z)) B))->O P m all rest K ρ w'):O P m all ({dst:=none,op:= .call {callee:= .builtin .clear,args:= #[x],argTypes:= #[T]},type:=ty,pos:=pos,after:=aN,guard:=none}::rest) K ρ w:=by
 obtain⟨w',W,h2⟩:=aye (P:=P) (ty:=ty) (T:=T) (T':=T') (c:=c) Tc hn h hi hq;exact gf (ayd hx W) J (hk w' h2)
end
theorem ayg{P:Program}{ρ:Env}{T ty:TypeId}{x:Operand}(hx:Env.ev ρ x=cy n)(hn:n<=c_):run P ρ (.unOp .neg T x) ty w= .ok (.value (cy ((0+c_-n) % c_))) w:=by
 have hw:IntKind.u64.wrap (-(n:Int))=(((0+c_-n) % c_:Nat):Int):=(by have h:=acH .u64 0 n (by rw[iC]at hn;simp only[aG];omega) J;rw[show(((0:Nat):Int) - (n:Int))= -(n:Int) by omega]at h;rw[h,iC];rfl);simp[run,execOp,hx,Op.unary,Op.intArith,hw]
variable {a h l:Nat}{ad:Option Addr}{pv:Value}
theorem H.left{A B:List aD}(h:H r w (A++B)):H r w A:=
 ⟨h.rest,by have:=h.nodup;rw[List.filterMap_append]at this;exact(OM.1 this).1,λb o hm=>h.eH b o (ni _ hm)⟩
theorem Ew{X:List UInt8}(h:H r w F)(hX:aP F (.slice ad n c) X)(hN:8<=X.length):Calls PP 86 #[.slice ad n c] w λe w'=>e= .returned (cy (num (X.take 8)))/\eJ w w'/\H r w' F:=by
 obtain⟨F',W,h2⟩:=h.full;refine(Yn W (hX.sub (λ_ hm=>ni _ hm)) hN).mono ?_;rintro e w1 ⟨he,h3⟩;exact⟨he,h2 _ h3,h3.left⟩
theorem ayh{x:Nat}:(rotl (h^^^ie 0 x) 27*11400714785074694791 % (aG .u64+1)+9650029242287828579) % (aG .u64+1)=De h x:=by
 (conv=>rhs;unfold De);rw[tI,PJ,iC];rfl
theorem ayi{x:Nat}:(rotl (h^^^x*11400714785074694791 % (aG .u64+1)) 23*14029467366897019727 % (aG .u64+1)+1609587929392839161) % (aG .u64+1)=ya h x:=by
 (conv=>rhs;unfold ya);rw[tI,zp,PI,iC];rfl
theorem ayj{x:Nat}:rotl (h^^^x*2870177450012600261 % (aG .u64+1)) 11*11400714785074694791 % (aG .u64+1)=AY h x:=by
 (conv=>rhs;unfold AY);rw[tI,Iv,iC];rfl
theorem aaJ{b:Nat}(ha:a<c_)(hb:b<c_):a^^^b<c_:=by rw[zn]at*;exact KR ha hb
theorem ayk{v:Nat->Nat}{Z8:V4}(h: ∀k,k<4->v k=Z8.getD k 0):(((rotl (v 0) 1+rotl (v 1) 7) % (aG .u64+1)+rotl (v 2) 12) % (aG .u64+1)+rotl (v 3) 18) % (aG .u64+1)=x_ Z8:=by
 rw[h 0 aj,h 1 aj,h 2 aj,h 3 aj];(conv=>rhs;unfold x_);rw[iC];rfl
theorem ayl{Z8:V4}:oM Z8 0=x_ Z8:=by unfold oM;rw[VC,OU]
theorem ajt(h: ∀i,i<c->bf i=E.getD i 0)(hc:c<=32)(hE:c=E.length){q n:Nat}(hq:q+n<=c):(((List.range 32).map bf).drop q).take n=aa E q n:=by
 apply oF;intro i;unfold aa;rw[pT,pT];split
 rw[oE,oE,kK,AD I,uN,h _ I,bS,gv I];rfl
 rfl
theorem aym(h:i<32):((List.range 32).map bf).getD i 0=bf i:=by
 rw[bS,kK,AD h];rfl
theorem aaK{k:Nat}{v:Nat->Nat}{b:Nat->UInt8}(h:(af br (au (XX x n v b c)) 81)∈F)(hk:k<=32):aP F (.slice (some ⟨br,50+k,none⟩) (32-k) (32-k)) (((List.range 32).map b).drop k):=
 ⟨_,_,_,J,by simp,aR _,λ_=>⟨br,50+k,_,_,J,h,Rd.of λj hj=>by
   rw[bX,bV,bX,AG]at hj
   have:=(ajr (x:=x) (n:=n) (v:=v) (b:=b) (c:=c)).get (k+j) (by simp;omega)
   rw[gQ,this,Vt,oE]⟩⟩
theorem ayn:(11400714785074694791+14029467366897019727) % (aG .u64+1)=(P1+P2) % c_:=by rw[tI,zp,iC];rfl
theorem ayo:11400714785074694791<=c_:=by rw[iC];decide
theorem ayp:(0+c_-11400714785074694791) % c_=(0+c_-P1) % c_:=by rw[tI]
theorem Ex(E:List UInt8)(i:Nat):lane E i<c_:=by unfold lane;rw[zn];exact ph
theorem Ao(ha:a<c_)(hl:l<c_):Calls PP 100 #[pv,.int .u64 (a:Int),.int .u64 (l:Int)] w λe w'=>e= .returned (cy (ie a l))/\w'=w:=by
 rw[iC]at ha hl;refine mW Tryz.func100 Tryz.ntmps100 [6] ?_;refine V 8 ?_;refine ah (oG (b:=14029467366897019727) (h2:=ao.lit _) J J J) (ah (oY J J J) ?_);refine V 5 ?_;refine b_ (v1:=R 31) J J J (aA (rF (k:=31) (by rw[iC];exact dH _ aj) aj) ?_);rintro e w1 ⟨rfl,rfl⟩;refine V 5 ?_;refine ah (oG (b:=11400714785074694791) (h2:=ao.lit _) J J J) ?_;refine V 8 ?_;refine⟨(Il (a:=rotl ((a+l*14029467366897019727 % (aG .u64+1)) % (aG .u64+1)) 31*11400714785074694791 % (aG .u64+1)) ?_),J⟩;unfold ie;rw[tI,zp,iC];rfl
theorem Td(ha:a<c_)(hl:l<c_):Calls PP 101 #[pv,.int .u64 (a:Int),.int .u64 (l:Int)] w λe w'=>e= .returned (cy (wu a l))/\w'=w:=by
 have hM:=iC;refine mW Tryz.func101 Tryz.ntmps101 [6] ?_;refine V 8 ?_;refine ee (v1:=cy 0) J J J J (aA (Ao (a:=0) fg hl) ?_);rintro e w1 ⟨rfl,rfl⟩;refine V 6 ?_;refine ah (tj J J (aS ha) (aS (gV _ _))) ?_;refine V 5 ?_;refine ah (oG (b:=11400714785074694791) (h2:=ao.lit _) J J J) (ah (oY (b:=9650029242287828579) (h2:=ao.lit _) J J J) ?_);refine V 8 ?_;refine⟨(Il (a:=((a^^^ie 0 l)*11400714785074694791 % (aG .u64+1)+9650029242287828579) % (aG .u64+1)) ?_),J⟩;(conv=>rhs;unfold wu);rw[tI,PJ,iC];rfl
theorem ayq{v:Nat->Nat}(h:H r w ((af br (au (XX x n v bf c)) 81)::L)):Calls PP 84 #[.pointer (some ⟨br,45,none⟩)] w λe w'=>e= .returned (.tuple #[])/\ ∃v' NA,H r w' ((af br (au (XX x 0 v' NA 0)) 81)::L)/\XI 0 v' NA 0 []:=by
 refine gD Tryz.func84 Tryz.ntmps84 [] ?_;refine V 5 ?_;refine cV (cy (0)) J1 ?_;intro w h;rw[ajq]at h;refine V 7 ?_;refine cV (cy (11400714785074694791)) B8 ?_;intro w h;rw[SX]at h;refine aC ?_;refine a9 ?_;refine bL h [0,4,8,12,24,28,17,20,32,39] ?_;intro w h;refine av 6 ?_;refine aK J h J B8 ?_;refine aw J (bZ (oY (b:=14029467366897019727) (h2:=ao.lit _) J J J) ayn) ?_;refine av 1 ?_;refine cV (cy ((P1+P2) % c_)) B8 ?_;intro w h;rw[SX]at h;refine cm ?_;refine V 6 ?_;refine cV (cy (14029467366897019727)) G8 ?_;intro w h;rw[aaH]at h;refine V 7 ?_;refine cV (cy (0)) Ev ?_;intro w h;rw[aaI]at h;refine V 7 ?_;refine cV (cy (11400714785074694791)) B9 ?_;intro w h;rw[SY]at h;refine aC ?_;refine a9 ?_;refine bL h [0,4,8,12,16,28,32,21,24,36,43] ?_;intro w h;refine av 7 ?_;refine aK J h J B9 ?_;refine aw J (bZ (ayg J ayo) ayp) ?_;refine av 1 ?_;refine cV (cy ((0+c_-P1) % c_)) B9 ?_;intro w h;rw[SY]at h;refine cm ?_;refine V 5 ?_;refine ah (Ll J) ?_;refine ayf (q:=50) (n:=32) 0 h J J aj J (by rw[yA];decide) ?_;intro w h;dsimp only[List.set]at h;rw[show(List.replicate 32 (gR 0):List Value)=(List.replicate 32 (0:UInt8)).map u8 by rw[vX];rfl,S_ (k:=0) J (by rw[dR];decide)]at h;refine V 5 ?_;refine cV (R 0) B_ ?_;intro w h;rw[S0]at h;refine aC ?_;refine⟨J,eX (eX (eX (eX (eX (eX v 0 11400714785074694791) 0 ((P1+P2) % c_)) 1 14029467366897019727) 2 0) 3 11400714785074694791) 3 ((0+c_-P1) % c_),_,h,XI.zero (λk hk=>?_)⟩;unfold v0;rw[zp];rcases(I:k=0\/k=1\/k=2\/k=3)with rfl|rfl|rfl|rfl
 rw[sX aj,sX aj,sX aj,sX aj,yD];rfl
 rw[sX aj,sX aj,sX aj,yD];rfl
 rw[sX aj,sX aj,yD];rfl
 rw[yD];rfl
theorem ayr{dc:Nat}{v:Nat->Nat}{B:List UInt8}(h:H r w ((af br (au (XX x n v bf c)) 81)::L))(hX:aP L (.slice ad B.length dc) B)(sZ:XI n v bf c T)(hT:T.length+B.length<=4611686018427387903):Calls PP 90 #[.pointer (some ⟨br,45,none⟩),.slice ad B.length dc] w λe w'=>e= .returned (.tuple #[])/\ ∃v' NA c',H r w' ((af br (au (XX x (n+B.length) v' NA c')) 81)::L)/\XI (n+B.length) v' NA c' (T++B):=by
 have j1:B.length<=dc:=Gv hX;have hn:=sZ.en;have hc:=sZ.ec;have uz:(T++B).length=T.length+B.length:=aF;have hM:=iC;refine gS Tryz.func90 Tryz.ntmps90 [] ?_;refine V 5 ?_;refine aO h J J1 ?_;refine V 6 ?_;refine cV (cy (n+B.length)) J1 ?_;intro w h;rw[ajq]at h;refine V 7 ?_;refine aO h J B_ ?_;refine V 5 ?_;refine an J ?_ ?_<;>intro Dc
 refine a9 (bL h [0,4,8,12,16,20,32,25,28,39] ?_);intro w h;refine av 7 ?_;refine aK J h J B_ (aw J (Io J J I) (F8 (i:=0) (F:=L) (X:=B) J h J J J (λ_=>rfl) hX (λe he=>ar he) (by rw[yA];omega) J ?_));intro w h;dsimp only[List.set]at h;rw[jf I,S_ (k:=c) I (by first|omega| (rw[gk];omega))]at h;refine cm ?_;refine V 5 ?_;refine aO h J B_ ?_;refine V 5 ?_;refine cV (R (c+B.length)) B_ ?_;intro w h;rw[S0]at h;exact aC (iG ⟨J,v,dW bf c B,c+B.length,h,sZ.less I⟩)
 refine aQ (cD [(1,1),(4,4),(42,126)] (λρ w=> ∃n1:Nat,∃nU:Option Addr,∃vM:Nat,∃v1:Nat->Nat,∃NB:Nat->UInt8,Kn ρ [(1,.slice nU ((T++B).length-32*n1) vM)]/\H r w ((af br (au (XX x (n+B.length) v1 NB 0)) 81)::L)/\(VV v1 n1 (T++B))/\(32*n1<=(T++B).length)/\(aP L (.slice nU ((T++B).length-32*n1) vM) ((T++B).drop (32*n1)))) ?_ ?_)
 refine V 5 ?_;refine aO h J B_ ?_;refine V 2 ?_;refine an J ?_ ?_<;>intro IK
 have GO:min B.length (32-c)=32-c:=I;have ays:=sZ.full (b:=B) I;have GC: ∀j,j<4->lane ((List.range 32).map (dW bf c (B.take (32-c)))) j=lane ((T++B).drop (32*(T.length/32))) j:=λj hj=>(by rw[ays,ajl hj,ajm]);have M7:VV v (T.length/32) (T++B):=λk hk=>(by rw[SW _ I];exact sZ.ev k hk);have hvA:VV (eX (eX (eX (eX v 0 (ie (v 0) (lane ((List.range 32).map (dW bf c (B.take (32-c)))) 0))) 1 (ie (v 1) (lane ((List.range 32).map (dW bf c (B.take (32-c)))) 1))) 2 (ie (v 2) (lane ((List.range 32).map (dW bf c (B.take (32-c)))) 2))) 3 (ie (v 3) (lane ((List.range 32).map (dW bf c (B.take (32-c)))) 3))) ((T.length/32)+1) (T++B):=(by have h0:=M7.step;rw[<-GC 0 aj,<-GC 1 aj,<-GC 2 aj,<-GC 3 aj]at h0;exact h0);have yx:(T++B).drop (32*((T.length/32)+1))=B.drop (32-c):=(by rw[show 32*((T.length/32)+1)=T.length+(32-c) by omega,<-j7,List.drop_left]);have ayt:aP L (.slice (cut ad dc (32-c) 1) ((T++B).length-32*((T.length/32)+1)) (dc- (32-c))) ((T++B).drop (32*((T.length/32)+1))):=(by rw[yx,show(T++B).length-32*((T.length/32)+1)=B.length- (32-c) by omega];exact aP.drop hX I);refine a9 (bL h [0,4,8,12,16,20,32,25,28,39,40] ?_);intro w h;refine av 7 ?_;refine aK J h J B_ (aw J (Io J J I) (F8 (i:=0) (F:=L) (X:=B) J h J J J (λ_=>rfl) hX (λe he=>ar he) (by rw[yA];omega) J ?_));intro w h;dsimp only[List.set]at h;rw[S_ (k:=c) I (by first|omega| (rw[gk];omega))]at h;refine aw J (bZ (k:= .i64) (a:=min B.length (32-c)) run_assign GO) (cm ?_);refine V 4 ?_;refine ah (iY J J I j1) ?_;refine V 3 ?_;refine bL h [0,4,8,12,16,20,28,32,36,40,52,56,25,46,50,60,67] ?_;intro w h;refine av 9 ?_;refine aw J (Ll J) ?_;refine av 2 ?_;refine aK J h J B8 (AO J J J ((Ew h (ajs bF) (by first| (rw[bV];omega)| (simp;done)| (simp;omega))).mono ?_));rintro e w1 ⟨rfl,og,h⟩;refine⟨(cy (lane ((List.range 32).map (dW bf c (B.take (32-c)))) 0)),J,og,?_⟩;refine CO J J J J J ((Ao (sZ.ev.lt (k:=0) aj) (Ex _ _)).mono ?_);rintro e w1 ⟨rfl,rfl⟩;refine⟨_,J,eJ.refl _,?_⟩;refine av 1 ?_;refine cV (cy (ie (v 0) (lane ((List.range 32).map (dW bf c (B.take (32-c)))) 0))) B8 ?_;intro w h;rw[SX]at h;refine cm (a9 (bL h [0,4,8,12,16,20,28,32,36,40,52,56,25,46,50,60,67] ?_));intro w h;refine av 9 ?_;refine aw J (Io (a:=8) (W:=ao.lit _) J J aj) ?_;refine av 2 ?_;refine aK J h J G8 (AO J J J ((Ew h (aaK (k:=8) bF aj) (by first| (rw[bV];omega)| (simp;done)| (simp;omega))).mono ?_));rintro e w1 ⟨rfl,og,h⟩;refine⟨(cy (lane ((List.range 32).map (dW bf c (B.take (32-c)))) 1)),J,og,?_⟩;refine CO J J J J J ((Ao (sZ.ev.lt (k:=1) aj) (Ex _ _)).mono ?_);rintro e w1 ⟨rfl,rfl⟩;refine⟨_,J,eJ.refl _,?_⟩;refine av 1 ?_;refine cV (cy (ie (v 1) (lane ((List.range 32).map (dW bf c (B.take (32-c)))) 1))) G8 ?_;intro w h;rw[aaH]at h;refine cm (a9 (bL h [0,4,8,12,16,20,28,32,36,40,52,56,25,46,50,60,67] ?_));intro w h;refine av 9 ?_;refine aw J (Io (a:=16) (W:=ao.lit _) J J aj) ?_;refine av 2 ?_;refine aK J h J Ev (AO J J J ((Ew h (aaK (k:=16) bF aj) (by first| (rw[bV];omega)| (simp;done)| (simp;omega))).mono ?_));rintro e w1 ⟨rfl,og,h⟩;refine⟨(cy (lane ((List.range 32).map (dW bf c (B.take (32-c)))) 2)),J,og,?_⟩;refine CO J J J J J ((Ao (sZ.ev.lt (k:=2) aj) (Ex _ _)).mono ?_);rintro e w1 ⟨rfl,rfl⟩;refine⟨_,J,eJ.refl _,?_⟩;refine av 1 ?_;refine cV (cy (ie (v 2) (lane ((List.range 32).map (dW bf c (B.take (32-c)))) 2))) Ev ?_;intro w h;rw[aaI]at h;refine cm (a9 (bL h [0,4,8,12,16,20,28,32,36,40,52,56,25,46,50,60,67] ?_));intro w h;refine av 9 ?_;refine aw J (Io (a:=24) (W:=ao.lit _) J J aj) ?_;refine av 2 ?_;refine aK J h J B9 (AO J J J ((Ew h (aaK (k:=24) bF aj) (by first| (rw[bV];omega)| (simp;done)| (simp;omega))).mono ?_));rintro e w1 ⟨rfl,og,h⟩;refine⟨(cy (lane ((List.range 32).map (dW bf c (B.take (32-c)))) 3)),J,og,?_⟩;refine CO J J J J J ((Ao (sZ.ev.lt (k:=3) aj) (Ex _ _)).mono ?_);rintro e w1 ⟨rfl,rfl⟩;refine⟨_,J,eJ.refl _,?_⟩;refine av 1 ?_;refine cV (cy (ie (v 3) (lane ((List.range 32).map (dW bf c (B.take (32-c)))) 3))) B9 ?_;intro w h;rw[SY]at h;refine cm ?_;refine V 4 ?_;refine cV (R 0) B_ ?_;intro w h;rw[S0]at h;exact aC ⟨aH 92,(T.length/32)+1,cut ad dc (32-c) 1,dc- (32-c),(eX (eX (eX (eX v 0 (ie (v 0) (lane ((List.range 32).map (dW bf c (B.take (32-c)))) 0))) 1 (ie (v 1) (lane ((List.range 32).map (dW bf c (B.take (32-c)))) 1))) 2 (ie (v 2) (lane ((List.range 32).map (dW bf c (B.take (32-c)))) 2))) 3 (ie (v 3) (lane ((List.range 32).map (dW bf c (B.take (32-c)))) 3))),(dW bf c (B.take (32-c))),Kn.mk ⟨iJ J I J,trivial⟩,(by first|exact h| (rw[aju]at h;exact h)),hvA,I,ayt⟩
 have aju:c=0:=I;have hvB:VV v (T.length/32) (T++B):=λk hk=>(by rw[SW _ I];exact sZ.ev k hk);have ayu:aP L (.slice ad ((T++B).length-32*(T.length/32)) dc) ((T++B).drop (32*(T.length/32))):=(by rw[show(T++B).length-32*(T.length/32)=B.length by omega,show 32*(T.length/32)=T.length by omega,List.drop_left];exact hX);exact aQ ⟨aH 5,(T.length/32),ad,dc,v,bf,Kn.mk ⟨iJ J I J,trivial⟩,(by first|exact h| (rw[aju]at h;exact h)),hvB,I,ayu⟩
 rintro ρ w ⟨n1,nU,vM,v1,NB,⟨k5,rfl⟩,h,tV,gX,a8⟩;refine a9 (ze (bQ (σ:=Nat×Option Addr×Nat×(Nat->Nat)) [(1,1),(127,186)] (λ⟨n1,nU,vM,v1⟩ ρ w=>Kn ρ [(1,.slice nU ((T++B).length-32*n1) vM)]/\H r w ((af br (au (XX x (n+B.length) v1 NB 0)) 81)::L)/\(VV v1 n1 (T++B))/\(32*n1<=(T++B).length)/\(aP L (.slice nU ((T++B).length-32*n1) vM) ((T++B).drop (32*n1)))) (λ⟨n1,nU,vM,v1⟩=>(T++B).length-32*n1) (n1,nU,vM,v1) ⟨aq,h,tV,gX,a8⟩ ?_));rintro⟨n1,nU,vM,v1⟩ ρ w ⟨⟨mD,rfl⟩,h,tV,gX,a8⟩;have Te:=Gv a8;refine V 7 ?_;refine an J ?_ ?_<;>intro qe
 have NC:=tV.step;have G_:aP L (.slice (cut nU vM 32 1) ((T++B).length-32*(n1+1)) (vM-32)) ((T++B).drop (32*(n1+1))):=(by have h0:=aP.drop a8 (m:=32) I;rw[j7,show(T++B).length-32*n1-32=(T++B).length-32*(n1+1) by omega,show 32*n1+32=32*(n1+1) by omega]at h0;exact h0);refine V 3 ?_;refine bL h [0,4,8,12,16,20,28,40,44,25,34,38,48,55] ?_;intro w h;refine av 9 ?_;refine aK J h J B8 (AO J J J ((Ew h (a8.sub (Sub.cons _ _)) (by first| (rw[bV];omega)| (rw[bV,bV];omega))).mono ?_));rintro e w1 ⟨rfl,og,h⟩;refine⟨(cy (lane ((T++B).drop (32*n1)) 0)),J,og,?_⟩;refine CO J J J J J ((Ao (tV.lt (k:=0) aj) (Ex _ _)).mono ?_);rintro e w1 ⟨rfl,rfl⟩;refine⟨_,J,eJ.refl _,?_⟩;refine av 1 ?_;refine cV (cy (ie (v1 0) (lane ((T++B).drop (32*n1)) 0))) B8 ?_;intro w h;rw[SX]at h;refine cm (a9 (bL h [0,4,8,12,16,20,28,32,44,48,25,38,42,52,59] ?_));intro w h;refine av 7 ?_;refine aw J (iY (a:=8) (W:=ao.lit _) J J I Te) ?_;refine av 2 ?_;refine aK J h J G8 (AO J J J ((Ew h ((aP.drop a8 (m:=8) I).sub (Sub.cons _ _)) (by first| (rw[bV];omega)| (rw[bV,bV];omega))).mono ?_));rintro e w1 ⟨rfl,og,h⟩;refine⟨(cy (lane ((T++B).drop (32*n1)) 1)),J,og,?_⟩;refine CO J J J J J ((Ao (tV.lt (k:=1) aj) (Ex _ _)).mono ?_);rintro e w1 ⟨rfl,rfl⟩;refine⟨_,J,eJ.refl _,?_⟩;refine av 1 ?_;refine cV (cy (ie (v1 1) (lane ((T++B).drop (32*n1)) 1))) G8 ?_;intro w h;rw[aaH]at h;refine cm (a9 (bL h [0,4,8,12,16,20,28,32,44,48,25,38,42,52,59] ?_));intro w h;refine av 7 ?_;refine aw J (iY (a:=16) (W:=ao.lit _) J J I Te) ?_;refine av 2 ?_;refine aK J h J Ev (AO J J J ((Ew h ((aP.drop a8 (m:=16) I).sub (Sub.cons _ _)) (by first| (rw[bV];omega)| (rw[bV,bV];omega))).mono ?_));rintro e w1 ⟨rfl,og,h⟩;refine⟨(cy (lane ((T++B).drop (32*n1)) 2)),J,og,?_⟩;refine CO J J J J J ((Ao (tV.lt (k:=2) aj) (Ex _ _)).mono ?_);rintro e w1 ⟨rfl,rfl⟩;refine⟨_,J,eJ.refl _,?_⟩;refine av 1 ?_;refine cV (cy (ie (v1 2) (lane ((T++B).drop (32*n1)) 2))) Ev ?_;intro w h;rw[aaI]at h;refine cm (a9 (bL h [0,4,8,12,16,20,28,32,44,48,25,38,42,52,59] ?_));intro w h;refine av 7 ?_;refine aw J (iY (a:=24) (W:=ao.lit _) J J I Te) ?_;refine av 2 ?_;refine aK J h J B9 (AO J J J ((Ew h ((aP.drop a8 (m:=24) I).sub (Sub.cons _ _)) (by first| (rw[bV];omega)| (rw[bV,bV];omega))).mono ?_));rintro e w1 ⟨rfl,og,h⟩;refine⟨(cy (lane ((T++B).drop (32*n1)) 3)),J,og,?_⟩;refine CO J J J J J ((Ao (tV.lt (k:=3) aj) (Ex _ _)).mono ?_);rintro e w1 ⟨rfl,rfl⟩;refine⟨_,J,eJ.refl _,?_⟩;refine av 1 ?_;refine cV (cy (ie (v1 3) (lane ((T++B).drop (32*n1)) 3))) B9 ?_;intro w h;rw[SY]at h;exact cm (eS (cM (ah (iY (a:=32) (W:=ao.lit _) J J I Te) (dI (aC ⟨aH 65,(n1+1,cut nU vM 32 1,vM-32,(eX (eX (eX (eX v1 0 (ie (v1 0) (lane (List.drop (32*n1) (T++B)) 0))) 1 (ie (v1 1) (lane (List.drop (32*n1) (T++B)) 1))) 2 (ie (v1 2) (lane (List.drop (32*n1) (T++B)) 2))) 3 (ie (v1 3) (lane (List.drop (32*n1) (T++B)) 3)))),cw,Kn.mk ⟨iJ J I J,trivial⟩,h,NC,I,G_⟩)))))
 have ayv:(T++B).length-32*n1<32:=I;refine V 7 ?_;refine an J ?_ ?_<;>intro axN
 . refine V 5 ?_;refine ah (Ll J) (cM (asv (i:=0) (F:=L) (X:=(T++B).drop (32*n1)) h J J J (λ_=>rfl) a8 (λe he=>ar he) (by rw[yA];omega) J ?_));intro w h;dsimp only[List.set]at h;rw[jf (by rw[bV];omega),S_ (k:=0) J (by rw[bV];omega)]at h;refine V 7 ?_;refine cV (R ((T++B).length-32*n1)) B_ ?_;intro w h;rw[S0]at h;exact aC ⟨J,v1,dW NB 0 ((T++B).drop (32*n1)),(T++B).length-32*n1,h,XI.done I tV gX ayv⟩
 exact aQ ⟨J,v1,NB,0,h,XI.ayc I tV gX I⟩
theorem Tf:a % (aG .u64+1)<c_:=by rw[iC];exact dH _ az
theorem ayw(E:List UInt8)(h:Nat)(hh:h<c_): ∀i,i<=E.length->yb (E.take i) h<c_
 |0,_=>by rw[pV];exact hh
 |i+1,hi=>by rw[oK E 0 i I,PN];exact aed _ _
theorem ayx(h:H r w L)(hR:(af br (au x) 81)∈L)(sZ:XI x.xl x.xv x.xb x.xc T)(hT:T.length<=4611686018427387903):Calls PP 92 #[.pointer (some ⟨br,45,none⟩)] w λe w'=>e= .returned (cy (lD T))/\H r w' L:=by
 obtain⟨iR,Bz⟩:=cX hR;have hn:=sZ.en;have hc:=sZ.ec;have hM:=iC;have hv:=sZ.ev;have dK:(T.drop (32*(T.length/32))).length=T.length % 32:=(by rw[bV];omega);have vy: ∀i,i<T.length % 32->x.xb i=(T.drop (32*(T.length/32))).getD i 0:=λi hi=>(by rw[sZ.eb i I];simp only[bS,oE]);have fI:(af br (au (XX x x.xl x.xv x.xb x.xc)) 81)∈L:=hR;obtain⟨Z8,hV⟩: ∃Z8,(jV (T.length/32) T v0)=Z8:=⟨_,J⟩;have J2: ∀k,k<4->x.xv k=Z8.getD k 0:=λk hk=>(by rw[<-hV];exact hv k hk);have xX: ∀k,k<4->x.xv k<c_:=λk hk=>hv.lt hk;have ayy:oM Z8 1=wu (x_ Z8) (Z8.getD 0 0):=(by rw[<-ayl];exact Ix Z8 0);have ayz:oM Z8 2=wu (oM Z8 1) (Z8.getD 1 0):=Ix Z8 1;have ayA:oM Z8 3=wu (oM Z8 2) (Z8.getD 2 0):=Ix Z8 2;have ayB:oM Z8 4=wu (oM Z8 3) (Z8.getD 3 0):=Ix Z8 3;have tK:T.length % 32<32:=dH _ aj;have hKM:c_-1=aG .u64:=(by rw[iC];rfl);refine gD Tryz.func92 Tryz.ntmps92 [2] ?_;refine V 8 ?_;refine cD [(3,3),(7,76)] (λρ w=> ∃W:Nat,Kn ρ [(3,cy (W))]/\H r w (L)/\(W=if 32<=T.length then PM Z8 else P5)) ?_ ?_
 refine V 5 ?_;refine aO h J (J1 (x:=x) (n:=x.xl) (v:=x.xv) (b:=x.xb) (c:=x.xc)) ?_;refine V 2 ?_;refine an J ?_ ?_<;>intro Dm
 have h17:(x.xv 2+2870177450012600261) % (aG .u64+1)=P5:=(by have e2:x.xv 2=0:=(by rw[J2 2 aj,<-hV,show T.length/32=0 by omega,SV];rfl);rw[e2,Iv];rfl);refine V 5 ?_;exact aO h J (Ev (x:=x) (n:=x.xl) (v:=x.xv) (b:=x.xb) (c:=x.xc)) (ah (bZ (oY (b:=2870177450012600261) (h2:=ao.lit _) J J J) h17) (dI (aC ⟨aH 12,P5,aq,h,(by rw[ag I])⟩)))
 refine a9 (bL h [0,4,8,12,24,28,32,36,52,56,60,64,80,84,88,92,17,41,69,97,22,46,48,74,76,102,104,108] ?_);intro w h;refine av 16 ?_;refine aK J h J (B8 (x:=x) (n:=x.xl) (v:=x.xv) (b:=x.xb) (c:=x.xc)) (aK J h J (G8 (x:=x) (n:=x.xl) (v:=x.xv) (b:=x.xb) (c:=x.xc)) (aK J h J (Ev (x:=x) (n:=x.xl) (v:=x.xv) (b:=x.xb) (c:=x.xc)) (aK J h J (B9 (x:=x) (n:=x.xl) (v:=x.xv) (b:=x.xb) (c:=x.xc)) (AP (v1:=R 1) J J J J ((rF (k:=1) (xX 0 aj) aj).mono ?_)))));rintro e w1 ⟨rfl,rfl⟩;refine⟨_,J,eJ.refl _,?_⟩;refine AP (v1:=R 7) J J J J ((rF (k:=7) (xX 1 aj) aj).mono ?_);rintro e w1 ⟨rfl,rfl⟩;refine⟨_,J,eJ.refl _,?_⟩;refine aw J (oY J J J) (AP (v1:=R 12) J J J J ((rF (k:=12) (xX 2 aj) aj).mono ?_));rintro e w1 ⟨rfl,rfl⟩;refine⟨_,J,eJ.refl _,?_⟩;refine aw J (oY J J J) (AP (v1:=R 18) J J J J ((rF (k:=18) (xX 3 aj) aj).mono ?_));rintro e w1 ⟨rfl,rfl⟩;refine⟨_,J,eJ.refl _,?_⟩;refine aw J (bZ (oY J J J) (ayk J2)) (eY J (cm ?_));refine V 8 ?_;refine aO h J (B8 (x:=x) (n:=x.xl) (v:=x.xv) (b:=x.xb) (c:=x.xc)) (ee J J J J ((Td (ad_ Z8) (xX 0 aj)).mono ?_));rintro e w1 ⟨rfl,rfl⟩;refine⟨(cy (oM Z8 1)),(by rw[ayy,J2 0 aj]),?_⟩;refine V 10 ?_;refine aO h J (G8 (x:=x) (n:=x.xl) (v:=x.xv) (b:=x.xb) (c:=x.xc)) (ee J J J J ((Td (LD Z8 1) (xX 1 aj)).mono ?_));rintro e w1 ⟨rfl,rfl⟩;refine⟨(cy (oM Z8 2)),(by rw[ayz,J2 1 aj]),?_⟩;refine V 10 ?_;refine aO h J (Ev (x:=x) (n:=x.xl) (v:=x.xv) (b:=x.xb) (c:=x.xc)) (ee J J J J ((Td (LD Z8 2) (xX 2 aj)).mono ?_));rintro e w1 ⟨rfl,rfl⟩;refine⟨(cy (oM Z8 3)),(by rw[ayA,J2 2 aj]),?_⟩;refine V 9 ?_;refine aO h J (B9 (x:=x) (n:=x.xl) (v:=x.xv) (b:=x.xb) (c:=x.xc)) (ee J J J J ((Td (LD Z8 3) (xX 3 aj)).mono ?_));rintro e w1 ⟨rfl,rfl⟩;refine⟨(cy (oM Z8 4)),(by rw[ayB,J2 3 aj]),?_⟩;exact dI (aC ⟨aH 69,oM Z8 4,aq,h,(by rw[ai I];rfl)⟩)
 rintro ρ w ⟨W,⟨qY,rfl⟩,h,Dg⟩;have oN:(W+T.length) % c_<c_:=dH _ fg;refine cg ((W+T.length) % c_) λh2 aaL=>?_;rw[aaL]at oN;refine V 6 ?_;refine aO h J (J1 (x:=x) (n:=x.xl) (v:=x.xv) (b:=x.xb) (c:=x.xc)) (ah (bZ (oY J J J) (show(W+x.xl) % (aG .u64+1)=h2 by rw[hn,<-aaL,iC];rfl)) ?_);refine V 7 ?_;refine aO h J (J1 (x:=x) (n:=x.xl) (v:=x.xv) (b:=x.xb) (c:=x.xc)) ?_;refine V 5 ?_;refine ah (bZ (jO (n:=5) J J az aj) (show x.xl % 2^5=T.length % 32 by rw[hn])) ?_;refine V 7 ?_;refine ah (Ll J) ?_;refine V 4 ?_;refine bQ (σ:=Nat×Option Addr) [(3,6),(93,109)] (λ⟨j,ad⟩ ρ w=>Kn ρ [(5,.slice ad (32-8*j) (32-8*j)),(4,cy (T.length % 32-8*j)),(3,cy (wx j (T.drop (32*(T.length/32))) h2))]/\H r w (L)/\(8*j<=T.length % 32)/\(aP L (.slice ad (32-8*j) (32-8*j)) (((List.range 32).map x.xb).drop (8*j)))) (λ⟨j,ad⟩=>T.length % 32-8*j) (0,some ⟨br,50,none⟩) ⟨aq,h,(bP _),(ajs fI)⟩ ?_;rintro⟨j,ad⟩ ρ w ⟨⟨sO,rfl⟩,h,hj,a8⟩;have eo:=aee j (T.drop (32*(T.length/32))) h2 oN;refine V 6 ?_;refine an J ?_ ?_<;>intro I1
 have G_:aP L (.slice (cut ad (32-8*j) 8 1) (32-8*(j+1)) (32-8*(j+1))) (((List.range 32).map x.xb).drop (8*(j+1))):=(by have h0:=aP.drop a8 (m:=8) I;rw[j7,show 32-8*j-8=32-8*(j+1) by omega,show 8*j+8=8*(j+1) by omega]at h0;exact h0);have jX:=ajt vy I dK.symm (q:=8*j) (n:=8) I;refine V 6 ?_;refine dJ J J ((Yn h a8 (by rw[bV,bX,AG];omega)).mono ?_);rintro e w1 ⟨rfl,h⟩;refine⟨(cy (num (aa (T.drop (32*(T.length/32))) (8*j) 8))),(by rw[<-jX]),?_⟩;refine ee (v1:=cy 0) J J J J (aA (Ao (a:=0) fg (by rw[zn];exact ph)) ?_);rintro e w1 ⟨rfl,rfl⟩;refine V 5 ?_;refine ah (iY (a:=8) (W:=ao.lit _) J J I (aR _)) ?_;refine V 6 ?_;refine ah (tj J J (aS eo) (aS (gV _ _))) ?_;refine V 5 ?_;refine b_ (v1:=R 27) J J J (aA (rF (k:=27) (aaJ eo (gV _ _)) aj) ?_);rintro e w1 ⟨rfl,rfl⟩;refine ah (oG (b:=11400714785074694791) (h2:=ao.lit _) J J J) (ah (bZ (oY (b:=9650029242287828579) (h2:=ao.lit _) J J J) ayh) ?_);refine V 7 ?_;exact⟨aH 22,(j+1,cut ad (32-8*j) 8 1),cw,Kn.mk ⟨iJ J I I,(int_eq I),(int_eq (b8 Int.ofNat (Wq j _ h2).symm)),trivial⟩,h,I,G_⟩
 have WB:(T.length % 32)/8=j:=I;refine iy (cD [(3,5),(110,125)] (λρ w=> ∃m:Nat,∃Dh:Option Addr,∃h3:Nat,Kn ρ [(5,.slice Dh (32-8*j-m) (32-8*j-m)),(4,cy (T.length % 32-8*j-m)),(3,cy (h3))]/\H r w (L)/\(m=if 4<=T.length % 32-8*j then 4 else 0)/\(h3=if 4<=T.length % 32-8*j then ya (wx j (T.drop (32*(T.length/32))) h2) (num (aa (T.drop (32*(T.length/32))) (8*j) 4))else wx j (T.drop (32*(T.length/32))) h2)/\(aP L (.slice Dh (32-8*j-m) (32-8*j-m)) (((List.range 32).map x.xb).drop (8*j+m)))/\(8*j+m<=T.length % 32)) ?_ ?_)
 refine V 5 ?_;refine an J ?_ ?_<;>intro yF
 have G_:aP L (.slice (cut ad (32-8*j) 4 1) (32-8*j-4) (32-8*j-4)) (((List.range 32).map x.xb).drop (8*j+4)):=(by have h0:=aP.drop a8 (m:=4) I;rw[j7]at h0;exact h0);have jX:=ajt vy I dK.symm (q:=8*j) (n:=4) I;have QI:num (aa (T.drop (32*(T.length/32))) (8*j) 4)<2^32:=ph;refine V 4 ?_;refine dJ J J ((Ga h a8 (by rw[bV,bX,AG];omega)).mono ?_);rintro e w1 ⟨rfl,h⟩;refine⟨da (num (aa (T.drop (32*(T.length/32))) (8*j) 4)),(by rw[<-jX]),?_⟩;refine ah (eB J (by have:=QI;simp only[aG];omega)) ?_;refine ah (oG (b:=11400714785074694791) (h2:=ao.lit _) J J J) (ah (tj J J (aS eo) (aS Tf)) ?_);refine V 5 ?_;refine ah (iY (a:=4) (W:=ao.lit _) J J I (aR _)) ?_;refine V 5 ?_;refine b_ (v1:=R 23) J J J (aA (rF (k:=23) (aaJ eo Tf) aj) ?_);rintro e w1 ⟨rfl,rfl⟩;refine ah (oG (b:=14029467366897019727) (h2:=ao.lit _) J J J) (ah (bZ (oY (b:=1609587929392839161) (h2:=ao.lit _) J J J) ayi) ?_);refine V 7 ?_;exact⟨aH 20,4,cut ad (32-8*j) 4 1,ya (wx j (T.drop (32*(T.length/32))) h2) (num (aa (T.drop (32*(T.length/32))) (8*j) 4)),aq,h,(by rw[ai yF]),(by rw[ai yF]),G_,I⟩
 exact aQ ⟨aH 2,0,ad,wx j (T.drop (32*(T.length/32))) h2,aq,h,(by rw[ag yF]),(by rw[ag yF]),a8,I⟩
 rintro ρ w ⟨m,Dh,h3,⟨vk,rfl⟩,h,hm,yd,PU,lH⟩
 have qV:h3<c_:=by
  rw[yd];split
  exact aec _ _
  exact eo
 refine a9 (ze (bQ (σ:=Nat×Option Addr) [(3,5),(126,141)] (λ⟨i,Ha⟩ ρ w=>Kn ρ [(5,.slice Ha (32-8*j-m-i) (32-8*j-m-i)),(4,cy (T.length % 32-8*j-m-i)),(3,cy (yb (((T.drop (32*(T.length/32))).drop (8*j+m)).take i) h3))]/\H r w (L)/\(i<=T.length % 32-8*j-m)/\(aP L (.slice Ha (32-8*j-m-i) (32-8*j-m-i)) (((List.range 32).map x.xb).drop (8*j+m+i)))) (λ⟨i,Ha⟩=>T.length % 32-8*j-m-i) (0,Dh) ⟨(Kn.mk ⟨J,J,(int_eq (by rw[pV];rfl)),trivial⟩),h,(bP _),PU⟩ ?_));rintro⟨i,Ha⟩ ρ w ⟨⟨I5,rfl⟩,h,hi,Ey⟩;have aII:((T.drop (32*(T.length/32))).drop (8*j+m)).length=T.length % 32-8*j-m:=(by rw[bV,dK];omega);have fO:=ayw ((T.drop (32*(T.length/32))).drop (8*j+m)) h3 qV i I;refine V 6 ?_;refine an J ?_ ?_<;>intro ajv
 have G_:aP L (.slice (cut Ha (32-8*j-m-i) 1 1) (32-8*j-m- (i+1)) (32-8*j-m- (i+1))) (((List.range 32).map x.xb).drop (8*j+m+(i+1))):=(by have h0:=aP.drop Ey (m:=1) I;rw[j7,show 32-8*j-m-i-1=32-8*j-m- (i+1) by omega,show 8*j+m+i+1=8*j+m+(i+1) by omega]at h0;exact h0);refine aY (show ∃q0,∃q1,∃q2,∃q3,Ha=some ⟨q0,q1,none⟩/\(af q0 q2 q3)∈L/\Rd q2 q1 ((((List.range 32).map x.xb).drop (8*j+m+i)).map u8) by obtain⟨a1,a2,a3,a4,a5,a6,a7⟩:=id Ey;cases a4;exact a7 I) (λq0 jm=>?_);refine jm.elim λq1 ij=>?_;refine ij.elim λq2 oS=>?_;refine oS.elim λq3 hq=>?_;clear jm ij oS;refine fx hq.2.1 λiq hiq=>(cg ((x.xb (8*j+m+i)).toNat) λeD sG=>?_);have aIJ:eD<=255:=(by rw[<-sG];exact toNat_le _);have hxb:((((List.range 32).map x.xb).drop (8*j+m+i)).getD 0 0).toNat=eD:=(by rw[<-sG];congr 1;simp only[bS,oE,kU];rw[<-bS,aym I]);have m4:yb (((T.drop (32*(T.length/32))).drop (8*j+m)).take (i+1)) h3=AY (yb (((T.drop (32*(T.length/32))).drop (8*j+m)).take i) h3) eD:=(by rw[oK _ 0 i I,PN];congr 1;rw[<-sG,vy _ I];simp only[bS,oE]);refine V 6 ?_;refine ah (cI (a:=0) (W:=ao.lit _) J J hq.1 I) (ah (vI (run_load h J (jy hq.2.2 (i:=0) (by rw[bV];simp;omega))) hxb) ?_);refine V 1 ?_;refine ah (oG (b:=2870177450012600261) (h2:=ao.lit _) J J J) (ah (tj J J (aS fO) (aS Tf)) ?_);refine V 5 ?_;refine ah (iY (a:=1) (W:=ao.lit _) J J I (aR _)) ?_;refine V 5 ?_;refine b_ (v1:=R 11) J J J (aA (rF (k:=11) (aaJ fO Tf) aj) ?_);rintro e w1 ⟨rfl,rfl⟩;refine ah (bZ (oG (b:=11400714785074694791) (h2:=ao.lit _) J J J) ayj) ?_;refine V 7 ?_;exact⟨aH 20,(i+1,cut Ha (32-8*j-m-i) 1 1),cw,Kn.mk ⟨iJ J I I,(int_eq I),(int_eq (b8 Int.ofNat m4.symm)),trivial⟩,h,I,G_⟩
 have nX:i=T.length % 32-8*j-m:=I;have jH:((T.drop (32*(T.length/32))).drop (8*j+m)).take i=((T.drop (32*(T.length/32))).drop (8*j+m)):=jf I;refine V 5 ?_;refine ah (pX (b:=33) (h2:=ao.lit _) J J (by first|assumption|exact aS eo|exact aS qV|exact aS fO|exact aS (gV _ _)|exact aS (dH _ fg)|exact dz _ aj| (simp only[aG];omega))) ?_;refine ah (tj J J (by first|assumption|exact aS eo|exact aS qV|exact aS fO|exact aS (gV _ _)|exact aS (dH _ fg)|exact dz _ aj| (simp only[aG];omega)) (by first|assumption|exact aS eo|exact aS qV|exact aS fO|exact aS (gV _ _)|exact aS (dH _ fg)|exact dz _ aj| (simp only[aG];omega))) ?_;refine V 5 ?_;refine ah (oG (b:=14029467366897019727) (h2:=ao.lit _) J J J) ?_;refine V 6 ?_;refine ah (pX (b:=29) (h2:=ao.lit _) J J (by first|assumption|exact aS eo|exact aS qV|exact aS fO|exact aS (gV _ _)|exact aS (dH _ fg)|exact dz _ aj| (simp only[aG];omega))) ?_;refine ah (tj J J (by first|assumption|exact aS eo|exact aS qV|exact aS fO|exact aS (gV _ _)|exact aS (dH _ fg)|exact dz _ aj| (simp only[aG];omega)) (by first|assumption|exact aS eo|exact aS qV|exact aS fO|exact aS (gV _ _)|exact aS (dH _ fg)|exact dz _ aj| (simp only[aG];omega))) ?_;refine V 5 ?_;refine ah (oG (b:=1609587929392839161) (h2:=ao.lit _) J J J) ?_;refine V 6 ?_;refine ah (pX (b:=32) (h2:=ao.lit _) J J (by first|assumption|exact aS eo|exact aS qV|exact aS fO|exact aS (gV _ _)|exact aS (dH _ fg)|exact dz _ aj| (simp only[aG];omega))) ?_;refine ah (tj J J (by first|assumption|exact aS eo|exact aS qV|exact aS fO|exact aS (gV _ _)|exact aS (dH _ fg)|exact dz _ aj| (simp only[aG];omega)) (by first|assumption|exact aS eo|exact aS qV|exact aS fO|exact aS (gV _ _)|exact aS (dH _ fg)|exact dz _ aj| (simp only[aG];omega))) ?_;refine V 8 ?_;refine⟨Il ?_,h⟩;refine(aeh _).trans ?_;rw[jH];unfold lD Ww;dsimp only;rw[hV,<-Dg,aaL,dK,WB,bV,dK];by_cases h4:4<=T.length % 32-8*j
 rw[ai h4]at hm yd ⊢;have e3:(T.drop (32*(T.length/32))).drop (8*j+4)=((T.drop (32*(T.length/32))).drop (8*j)).drop 4:=(j7 (i:=4) (j:=8*j) (l:=(T.drop (32*(T.length/32))))).symm;rw[ai h4,yd,hm,e3];rfl
 rw[ag h4]at hm yd ⊢;rw[ag h4,yd,hm];rfl
variable {X wd:List UInt8}
def jQ(wd:List UInt8)(o:Nat)(X:List UInt8):List UInt8:=wd.take o++X++wd.drop (o+X.length)
theorem Ap{o:Nat}(h:o+X.length<=wd.length):(jQ wd o X).length=wd.length:=by
 unfold jQ;simp only[aF,gk,bV];omega
theorem aaM{sp:List Value}{o:Nat}(h:o+X.length<=wd.length):cT (List.map u8 wd++sp) o (List.map u8 X)=List.map u8 (jQ wd o X)++sp:=by
 rw[agB _ _ _ _ (by rw[bX,bX];exact h),AQ _ _ _ (by rw[bX,bX];exact h)];unfold jQ;rw[f_,f_,Vs,Vt,bX]
def Sv(S:Nat)(wd:List UInt8)(o:Nat)(B lj:List UInt8)(o':Nat):Prop:=
 (S=0->lj=wd/\o'=o)/\(S≠0->eR lj o'=(eR wd o++B).drop (wd.length+B.length-S)/\lj.length=min S (wd.length+B.length)/\o'<=lj.length/\(lj.length<S->o'=0))
theorem aaN:eR wd 0=wd:=by unfold eR;rw[CG,pV,dP]
section
variable {S o:Nat}{wd B:List UInt8}
theorem ayC(h:S=0):Sv S wd o B wd o:=⟨λ_=>⟨J,J⟩,λh2=>absurd h h2⟩
theorem ayD(hl:wd.length<=S)(ho:o<=wd.length)(h0:wd.length<S->o=0)(hB:B.length=0):Sv S wd o B wd o:=
 ⟨λ_=>⟨J,J⟩,λ_=>⟨by rw[kq.1 hB,dP,show wd.length+([]:List UInt8).length-S=0 by simp;omega,CG],I,ho,h0⟩⟩
theorem ayE(hS:S≠0)(hl:wd.length<=S)(ho:o<=wd.length)(hB:S<=B.length):Sv S wd o B (B.drop (B.length-S)) 0:=by
 refine⟨λh=>absurd h hS,λ_=>⟨?_,by rw[bV];omega,bP _,λ_=>rfl⟩⟩;have hW:=BK ho;have e:=EY (l₁:=eR wd o) (l₂:=B) (i:=wd.length+B.length-S);have e0:(eR wd o).drop (wd.length+B.length-S)=[]:=xG I;rw[aaN,e,e0,List.nil_append];congr 1;omega
theorem ayF(hS:S≠0)(hl:wd.length=S)(ho:o<=wd.length)(hB:o+B.length<=S):Sv S wd o B (jQ wd o B) (o+B.length):=by
 refine⟨λh=>absurd h hS,λ_=>⟨?_,by rw[Ap I];omega,by rw[Ap I];omega,λh=>by rw[Ap I]at h;omega⟩⟩;have e:wd.length+B.length-S=B.length:=I;unfold eR jQ;have l1:(wd.take o++B).length=o+B.length:=(by rw[aF,gk];omega);rw[Pe l1,VD l1,e,zd (by simp;omega),zd (by rw[bV];omega),j7,cF]
theorem ayG(hS:S≠0)(hl:wd.length=S)(ho:o<=wd.length)(hB:S<o+B.length)(rY:B.length<S):Sv S wd o B (jQ (jQ wd o (B.take (S-o))) 0 (B.drop (S-o))) (B.length- (S-o)):=by
 have hx:(B.take (S-o)).length=S-o:=(by rw[gk];omega);have hy:(B.drop (S-o)).length=B.length- (S-o):=bV;have l0:(jQ wd o (B.take (S-o))).length=S:=(by rw[Ap I];exact hl);have e1:jQ wd o (B.take (S-o))=wd.take o++B.take (S-o):=(by unfold jQ;rw[xG I,dP]);have l2:(jQ (jQ wd o (B.take (S-o))) 0 (B.drop (S-o))).length=S:=(by rw[Ap I];exact l0);refine⟨λh=>absurd h hS,λ_=>⟨?_,by rw[l2];omega,by rw[l2];omega,λh=>by rw[l2]at h;omega⟩⟩;rw[e1];have e2:jQ (wd.take o++B.take (S-o)) 0 (B.drop (S-o))=B.drop (S-o)++(wd.take o++B.take (S-o)).drop (B.length- (S-o)):=(by unfold jQ;rw[pV,List.nil_append,im,hy]);rw[e2];unfold eR;rw[Pe hy,VD hy];have l3:(wd.drop o).length=S-o:=(by rw[bV,hl]);have l4:(wd.take o).length=o:=(by rw[gk];omega);have hk:wd.length+B.length-S=(S-o)+(B.length- (S-o)):=I;have a1:(wd.take o++B.take (S-o)).drop (B.length- (S-o))=(wd.take o).drop (B.length- (S-o))++B.take (S-o):=zd I;have a2:(wd.take o++B).drop (B.length- (S-o))=(wd.take o).drop (B.length- (S-o))++B:=zd I;have a3:(wd.drop o++(wd.take o++B)).drop (S-o)=wd.take o++B:=Pe l3;rw[a1,hk,<-j7,cF,xD,cF,a3,a2]
theorem ayH(hS:S≠0)(ho:o=0)(hB:wd.length+B.length<=S):Sv S wd o B (wd++B) o:=by
 subst ho;refine⟨λh=>absurd h hS,λ_=>⟨?_,by rw[aF];omega,bP _,λ_=>rfl⟩⟩;rw[aaN,aaN,show wd.length+B.length-S=0 by omega,CG]
theorem ayI(hS:S≠0)(hl:wd.length<S)(ho:o=0)(hB:S<wd.length+B.length)(rY:B.length<S):Sv S wd o B (jQ (wd++B.take (S-wd.length)) 0 (B.drop (S-wd.length))) (B.length- (S-wd.length)):=by
 subst ho;have hx:(B.take (S-wd.length)).length=S-wd.length:=(by rw[gk];omega);have hy:(B.drop (S-wd.length)).length=B.length- (S-wd.length):=bV;have l0:(wd++B.take (S-wd.length)).length=S:=(by rw[aF];omega);have l2:(jQ (wd++B.take (S-wd.length)) 0 (B.drop (S-wd.length))).length=S:=(by rw[Ap I];exact l0);refine⟨λh=>absurd h hS,λ_=>⟨?_,by rw[l2];omega,by rw[l2];omega,λh=>by rw[l2]at h;omega⟩⟩;have e2:jQ (wd++B.take (S-wd.length)) 0 (B.drop (S-wd.length))=B.drop (S-wd.length)++(wd++B.take (S-wd.length)).drop (B.length- (S-wd.length)):=(by unfold jQ;rw[pV,List.nil_append,im,hy]);rw[e2];unfold eR;rw[Pe hy,VD hy,CG,pV,dP];rw[<-zd I,cF,xD];congr 1;omega
end
theorem ayJ{S aL o o':Nat}{lj B pre:List UInt8}(h:Sv S wd o B lj o')(hS:S=aL)(hl:wd.length<=S)(ho:o<=wd.length)(h0:S=0->B=[])(hp: ∃p0,pre=p0++eR wd o/\(p0=[]\/aL<=wd.length)): ∃p0,pre++B=p0++eR lj o'/\(p0=[]\/aL<=lj.length):=by
 obtain⟨p0,e,hc⟩:=hp;by_cases hz:S=0
 obtain⟨e1,e2⟩:=h.1 hz;rw[e1,e2,h0 hz,dP];exact⟨p0,e,hc⟩
 obtain⟨e1,e2,_⟩:=h.2 hz;have hW:=BK ho;refine⟨p0++(eR wd o++B).take (wd.length+B.length-S),?_,?_⟩
 rw[e1,e,cF,cF,xD]
 by_cases hk:S<=wd.length+B.length
 right;omega
 rw[show wd.length+B.length-S=0 by omega,pV,dP];rcases hc with hc|hc
 exact .inl hc
 right;omega
def WX(x:cQ)(s:Nat)(wo:Option Nat)(n c o:Nat):cQ:={x with wS:=s,wA:=aB wo,wN:=n,wC:=c,wO:=o}
section
variable {x:cQ}{s s' n n' c c' o o':Nat}{wo mf:Option Nat}
theorem ayK:(au (WX x s wo n c o)).set 14 (R s')=au (WX x s' wo n c o):=rfl
theorem Tg:(au (WX x s wo n c o)).set 15 (.slice (aB mf) n' c')=au (WX x s mf n' c' o):=rfl
theorem ND:(au (WX x s wo n c o)).set 16 (R o')=au (WX x s wo n c o'):=rfl
theorem NF:(au (WX x s wo n c o))[14]? =some (R s):=rfl
theorem xg:(au (WX x s wo n c o))[15]? =some (.slice (aB wo) n c):=rfl
theorem Hb:(au (WX x s wo n c o))[16]? =some (R o):=rfl
end
variable {S size wc:Nat}{wo:Option Nat}
section
variable {P:Program}{n:Nat}{K:gw}{ρ:Env}{all:Array Oper}{d:Option Nat}{ty:TypeId}{pos:String}{aN:Array Edge}{r:dQ}{w:World}{L:List aD}{x y:Operand}{T T':TypeId}
theorem ayL{ord:Ot}{j:Nat}{T2:TypeId}{zs:List Value}{eD:Nat}[hu:bO P T (.slice T')] [hs:Sz P T' size] [hz:Zr P T' zs] [hb:By P T' eD] [j_:bO P T2 (.int .i64)]
   {ob:Option Nat} {nn c m:Nat} (xs sp:List Value) (hj:all[j]? =some {dst:=d,op:= .call {callee:= .builtin .append,args:= #[x,y],argTypes:= #[T,T2]},type:=ty,pos:=pos,after:=aN,guard:=none})
   (h:H r w L) (i:Nat) (hx:Env.ev ρ x= .slice (aB ob) nn c) (hy:Env.ev ρ y=R m) (hi:L[i]? =some (ob,C (xs++sp) T'))
   (hlen:xs.length=nn*size/\(xs++sp).length=c*size/\nn<=c/\(ob=none->c=0)) (fF: ∀v∈zs,plain v=true) (eT:(2*(nn+m)+1000)*eD<=281474976710656/\nn+m<=281474976710656)
   (ly:zs.length=size/\0<size) (hd:aV n d=true)
   (hk: ∀w' bH c' dm,H r w' (L.set i (bH,C (xs++dj zs m++dm) T'))->(xs++dj zs m++dm).length=c'*size->nn+m<=c'->(bH=none->c'=0)->D P n all ord K (Env.put ρ d (.slice (aB bH) (nn+m) c')) w'):
   D P n all (.cons (j,.h) ord) K ρ w:=by
 obtain⟨w',bH,c',dm,W,h2,h3,h4,h5⟩:=ahO (P:=P) (ty:=ty) (T:=T) (T2:=T2) ly.1 h hi hlen.1 hlen.2.1 hlen.2.2.1 hlen.2.2.2 ly.2 fF eT.1 eT.2
 exact Le hj (CV hx hy W) hd (hk w' bH c' dm h2 h3 h4 h5)
end
theorem ayM{o:Nat}{wv:List Value}(h:H r w ((af br (au (WX x S wo n wc o)) 81)::(wo,C (wv) 5)::L))(hl:wv.length=wc)(h0:wo=none->wc=0)(hs:size<=8388608):Calls PP 87 #[.pointer (some ⟨br,14,none⟩),R size] w λe w'=>e= .returned (.tuple #[])/\ ∃mf vN Aq,H r w' ((af br (au (WX x size mf 0 vN 0)) 81)::(mf,C (Aq) 5)::L)/\Aq.length=vN/\(mf=none->vN=0):=by
 refine gS Tryz.func87 Tryz.ntmps87 [] ?_;refine V 5 ?_;refine aO h J xg (ah (lX (c:=0) (W:=ao.lit _) J J (bP _)) (dI (aC (cD [(4,4),(10,15)] (λρ w=> ∃J3:Option Nat,∃J4:Nat,∃Th:List Value,Kn ρ [(4,.slice (aB J3) 0 J4)]/\H r w ((af br (au (WX x S wo n wc o)) 81)::(J3,C (Th) 5)::L)/\(Th.length=J4)/\(J3=none->J4=0)) ?_ ?_))))
 refine V 3 ?_;refine ah (E_ J) ?_;refine V 3 ?_;refine an J ?_ ?_<;>intro L5
 refine eS (cM (tu (a:=0) (W:=ao.lit _) (c:=size) h J J J (bP _) I I J ?_));intro bW w h;rw[CT]at h;refine dI (aC ?_);replace h:=h.zz [1,2] 1;exact⟨aH 7,some bW,size,(List.replicate size (gR 0)),aq,h,dR ..,(λe=>by cases e)⟩
 exact aQ ⟨aH 4,wo,wc,wv,aq,h,hl,h0⟩
 rintro ρ w ⟨J3,J4,Th,⟨k5,rfl⟩,h,dE,h01⟩;refine V 6 ?_;refine cV (.slice (aB J3) 0 J4) xg ?_;intro w h;rw[Tg]at h;refine V 6 ?_;refine cV (R 0) Hb ?_;intro w h;rw[ND]at h;refine V 6 ?_;refine cV (R size) NF ?_;intro w h;rw[ayK]at h;exact aC ⟨J,J3,J4,Th,h,dE,h01⟩
theorem ajw{n0 bc:Nat}{ob:Option Nat}{bv:List Value}(h:H r w ((af br (au (BX x ob n0 bc)) 81)::(ob,C (bv) 5)::L))(hl:bv.length=bc)(h0:ob=none->bc=0)(hs:size<=8388608):Calls PP 88 #[aW br,R size] w λe w'=>e= .returned (.tuple #[])/\ ∃bH lR JU,H r w' ((af br (au (BX x bH size lR)) 81)::(bH,C (JU) 5)::L)/\JU.length=lR/\size<=lR/\(bH=none->lR=0):=by
 refine gS Tryz.func88 Tryz.ntmps88 [] ?_;refine cD [(4,33)] (λρ w=> ∃bI:Option Nat,∃n1 ja:Nat,∃Ti:List Value,Kn ρ []/\H r w ((af br (au (BX x bI n1 ja)) 81)::(bI,C (Ti) 5)::L)/\(Ti.length=ja)/\(size<=ja)/\(bI=none->ja=0)) ?_ ?_
 refine V 5 ?_;refine aO h J re (ah (E_ J) ?_);refine V 3 ?_;refine an J ?_ ?_<;>intro Dm
 refine V 6 ?_;refine aO h J re (ah (E_ J) ?_);refine V 3 ?_;refine bL h [0,4,8,12,20,24,28,44,17,33,36,40,51,52,56,63] ?_;intro w h;refine av 8 ?_;refine aK J h J re (aK J h J re (aw J (E_ J) (aw J (lX J J (aR _)) (ayL bv [] J h 1 J J (by rw[dP];rfl) ⟨by rw[eC];exact hl,by rw[dP,eC];exact hl,aR _,h0⟩ (by intro v hv;simp at hv;subst hv;rfl) I aj J ?_))));intro w dy c9 dL h df fG eG;dsimp only[List.set]at h;refine av 2 ?_;refine cV (.slice (aB dy) (bc+(size-bc)) c9) re ?_;intro w h;rw[Gu]at h;exact cm ⟨aH 31,dy,bc+(size-bc),c9,(bv++dj [gR 0] (size-bc)++dL),aq,h,(by rw[df,eC]),I,eG⟩
 exact aQ ⟨aH 7,ob,n0,bc,bv,aq,h,hl,I,h0⟩
 rintro ρ w ⟨bI,n1,ja,Ti,⟨mD,rfl⟩,h,dE,ig,h01⟩;refine V 5 ?_;refine aO h J re (cM (ah (lX J J ig) ?_));refine V 2 ?_;refine cV (.slice (aB bI) size ja) re ?_;intro w h;rw[Gu]at h;exact aC ⟨J,bI,ja,Ti,h,dE,ig,h01⟩
theorem ayN{o dc:Nat}{B:List UInt8}{sp:List Value}(h:H r w ((af br (au (WX x S wo wd.length wc o)) 81)::(wo,C (List.map u8 wd++sp) 5)::L))(hB:aP L (.slice ad B.length dc) B)(hk:bG wo wd.length wc (List.map u8 wd) sp 1)(hS:S<=8388608)(GA:B.length<=8388608)(hl:wd.length<=S)(ho:o<=wd.length)(h0:wd.length<S->o=0):Calls PP 91 #[.pointer (some ⟨br,14,none⟩),.slice ad B.length dc] w λe w'=>e= .returned (.tuple #[])/\ ∃mf vN lj dm o',H r w' ((af br (au (WX x S mf lj.length vN o')) 81)::(mf,C (List.map u8 lj++dm) 5)::L)/\bG mf lj.length vN (List.map u8 lj) dm 1/\Sv S wd o B lj o':=by
 have yj:B.length<=dc:=Gv hB;have eF:=hk.1;have cK:=hk.2.1;have lK:=hk.2.2.1;refine gS Tryz.func91 Tryz.ntmps91 [] ?_;refine V 6 ?_;refine aO h J NF ?_;refine V 2 ?_;refine an J ?_ ?_<;>intro Dm
 exact iG ⟨J,wo,wc,wd,sp,o,h,hk,ayC I⟩
 refine V 8 ?_;refine an J ?_ ?_<;>intro FG
 exact iG ⟨J,wo,wc,wd,sp,o,h,hk,ayD hl ho h0 I⟩
 refine V 9 ?_;refine aO h J NF ?_;refine V 2 ?_;refine an J ?_ ?_<;>intro oR
 refine V 7 ?_;refine aO h J NF ?_;refine V 4 ?_;refine bL h [0,4,8,12,24,28,32,17,20,39,40,44,51] ?_;intro w h;refine av 6 ?_;refine aw J (iY J J I yj) (aK J h J xg (aw J (lX (c:=0) (W:=ao.lit _) J J (bP _)) (mV (List.map u8 []) (List.map u8 wd++sp) ((B.drop (B.length-S)).map u8) J h 1 J J J ⟨J,cK,bP _,hk.2.2.2⟩ (qg (aP.drop hB I) aJ) (by intro y hy;obtain⟨z,_,rfl⟩:=jd.1 hy;rfl) I aj J ?_)));intro w dy c9 dL h df fG eG;dsimp only[List.set]at h;rw[E4,List.nil_append]at h df;refine av 2 ?_;refine cV (.slice (aB dy) (0+(B.length- (B.length-S))) c9) xg ?_;intro w h;rw[Tg]at h;refine cm ?_;refine V 5 ?_;refine cV (R 0) Hb ?_;intro w h;rw[ND]at h;refine aC (iG ?_);have j1:(B.drop (B.length-S)).length=B.length- (B.length-S):=bV;rw[im,<-j1]at h;exact⟨J,dy,c9,(B.drop (B.length-S)),dL,0,h,⟨by rw[bX,eC],df,I,eG⟩,ayE I hl ho I⟩
 refine aQ (a9 (bL h [0,4,8,16,20,24,13,29,32,36,40] ?_));intro w h;refine av 6 ?_;refine aK J h J NF (aK J h J xg ?_);refine av 4 ?_;refine V 5 ?_;refine an J ?_ ?_<;>intro Nj
 refine(SO (n:=1) hk.2.2.2 I I).elim λbW hbW=>?_;rw[hbW]at h;have kh:(List.map u8 wd++sp).length=wc:=(by rw[cK,eC]);have J5:wd.length=S:=I;have hAw:0<wd.length-o->cut (aB (some bW)) wc o 1=some ⟨bW,o,none⟩:=λhp=>sx J I;refine cg (min B.length (wd.length-o)) λnn tS=>(a9 (bL h [0,4,8,16,20,24,36,13,29,32,43,44] ?_));intro w h;refine av 7 ?_;refine aK J h J xg (aK J h J Hb (aw J (iY J J I I) (F8 (i:=1) (F:=L) (X:=B) J h J J J hAw hB (λe he=>ar (ar (he))) (by rw[kh];omega) J ?_)));intro w h;dsimp only[List.set]at h;rw[aaM (by rw[gk];omega),show wd.length-o=S-o by rw[J5]]at h;refine aw J (bZ (k:= .i64) (a:=min B.length (wd.length-o)) run_assign tS) (cm ?_);refine V 7 ?_;refine an J ?_ ?_<;>intro Fv
 have hnB:nn=B.length:=Fv;have jH:B.take (S-o)=B:=jf I;rw[jH]at h;refine V 4 ?_;refine aO h J Hb ?_;refine V 4 ?_;refine cV (R (o+nn)) Hb ?_;intro w h;rw[ND]at h;refine aC ?_;have fF:(jQ wd o B).length=wd.length:=Ap I;rw[hnB,<-fF]at h;have Af:(List.map u8 (jQ wd o B)++sp).length=wc:=(by rw[aF,bX,fF];rw[aF,bX]at kh;exact kh);exact⟨J,some bW,wc,jQ wd o B,sp,o+B.length,h,⟨by rw[bX,eC],by rw[Af,eC],I,(λe=>by cases e)⟩,ayF I J5 ho I⟩
 have hnS:nn=S-o:=I;have Tj:(jQ wd o (B.take (S-o))).length=S:=(by rw[Ap (by rw[gk];omega)];exact J5);refine bL h [0,4,8,12,20,24,28,17,35,36,40,47] ?_;intro w h;refine av 6 ?_;refine aw J (iY J J I yj) (aK J h J (show(au (WX x S (some bW) wd.length wc o))[15]? =_ from xg) (F8 (i:=1) (F:=L) (X:=B.drop nn) J h J J J (λ_=>rfl) (aP.drop hB I) (λe he=>ar (ar (he))) (by rw[aF,bX,Tj,<-J5];omega) J ?_));intro w h;dsimp only[List.set]at h;have aaO:(B.drop nn).take wd.length=B.drop nn:=jf (by rw[bV];omega);rw[aaO,hnS,aaM (by rw[Tj,bV];omega)]at h;have Hc:min (B.length-nn) wd.length=B.length- (S-o):=I;refine av 2 ?_;refine cV (R (min (B.length-nn) wd.length)) Hb ?_;intro w h;rw[ND]at h;refine cm ?_;have fF:(jQ (jQ wd o (B.take (S-o))) 0 (B.drop (S-o))).length=wd.length:=(by rw[Ap (by rw[Tj,bV];omega),Tj,J5]);have Af:(List.map u8 (jQ (jQ wd o (B.take (S-o))) 0 (B.drop (S-o)))++sp).length=wc:=(by rw[aF,bX,fF];rw[aF,bX]at kh;exact kh);rw[Hc,<-fF]at h;exact⟨J,some bW,wc,(jQ (jQ wd o (B.take (S-o))) 0 (B.drop (S-o))),sp,B.length- (S-o),h,⟨by rw[bX,eC],by rw[Af,eC],I,(λe=>by cases e)⟩,ayG I J5 ho I I⟩
 refine V 7 ?_;refine an J ?_ ?_<;>intro qU
 refine V 5 ?_;refine aO h J xg (cM (kW (List.map u8 wd) sp (B.map u8) h 1 J J J hk (qg hB aJ) (by intro y hy;obtain⟨z,_,rfl⟩:=jd.1 hy;rfl) I aj J ?_));intro w dy c9 dL h df fG eG;dsimp only[List.set]at h;rw[<-f_]at h df;refine V 2 ?_;refine cV (.slice (aB dy) (wd.length+B.length) c9) xg ?_;intro w h;rw[Tg]at h;refine aC ?_;have oO:(wd++B).length=wd.length+B.length:=aF;rw[<-oO]at h;exact⟨J,dy,c9,wd++B,dL,o,h,⟨by rw[bX,eC],df,I,eG⟩,ayH I (h0 I) I⟩
 refine a9 (bL h [0,4,8,12,20,24,28,17,35,36,40,47] ?_);intro w h;refine av 6 ?_;refine aw J (lX J J I) (aK J h J xg (mV (List.map u8 wd) sp ((B.take (S-wd.length)).map u8) J h 1 J J J hk (qg (aP.take hB I) aJ) (by intro y hy;obtain⟨z,_,rfl⟩:=jd.1 hy;rfl) I aj J ?_));intro w dy c9 dL h df fG eG;dsimp only[List.set]at h;rw[<-f_]at h df;have p9:(wd++B.take (S-wd.length)).length=S:=(by rw[aF,gk];omega);have hl7:(List.map u8 (wd++B.take (S-wd.length))++dL).length=c9:=(by rw[df,eC]);have xY:S<=c9:=I;refine(SO (n:=1) eG I I).elim λbW hbW=>?_;refine av 2 ?_;refine cV (.slice (aB dy) (wd.length+(S-wd.length)) c9) xg ?_;intro w h;rw[Tg]at h;rw[hbW]at h;refine cm (bL h [0,4,8,12,20,24,28,17,35,36,40,47] ?_);intro w h;refine av 6 ?_;refine aw J (iY J J I yj) (aK J h J xg (F8 (i:=1) (F:=L) (X:=B.drop (S-wd.length)) J h J J J (λ_=>by rfl) (aP.drop hB I) (λe he=>ar (ar (he))) (by rw[hl7];omega) J ?_));intro w h;dsimp only[List.set]at h;have aaO:(B.drop (S-wd.length)).take (wd.length+(S-wd.length))=B.drop (S-wd.length):=jf (by rw[bV];omega);rw[aaO,aaM (by rw[p9,bV];omega)]at h;have Hc:min (B.length- (S-wd.length)) (wd.length+(S-wd.length))=B.length- (S-wd.length):=I;refine av 2 ?_;refine cV (R (min (B.length- (S-wd.length)) (wd.length+(S-wd.length)))) Hb ?_;intro w h;rw[ND]at h;refine cm ?_;have fF:(jQ (wd++B.take (S-wd.length)) 0 (B.drop (S-wd.length))).length=wd.length+(S-wd.length):=(by rw[Ap (by rw[p9,bV];omega),p9];omega);have Af:(List.map u8 (jQ (wd++B.take (S-wd.length)) 0 (B.drop (S-wd.length)))++dL).length=c9:=(by rw[aF,bX,fF];rw[aF,bX,p9]at hl7;omega);rw[Hc,<-fF]at h;exact⟨J,some bW,c9,(jQ (wd++B.take (S-wd.length)) 0 (B.drop (S-wd.length))),dL,B.length- (S-wd.length),h,⟨by rw[bX,eC],by rw[Af,eC],I,(λe=>by cases e)⟩,ayI I I (h0 I) I I⟩
end Go.Z
