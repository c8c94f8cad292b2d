/- Part 8 of the proof. -/
import Derived.KernelRfl
import Derived.Test.YtmgkiicjpmihfaaGreatDoorQG
set_option linter.all false
set_option maxRecDepth 20000
set_option maxHeartbeats 400000000
namespace Go.Z
open Go Go.Proofs
variable {E:List UInt8}{hd:Nat}{ad:Option Addr}{p:Prop}
theorem ahs{p:Nat}(h:p+1<=E.length):num (aa E p 1)=(E.getD p 0).toNat:=by
 have hl:(aa E p 1).length=1:=dx h;have e0:=sH (aa E p 1) 0 I;rw[jf I]at e0;rw[e0,kN I];simp[num]
theorem RM{p:Nat}(h:p+3<=E.length):num (aa E p 3)=(E.getD p 0).toNat+(E.getD (p+1) 0).toNat*2^8+(E.getD (p+2) 0).toNat*2^16:=by
 have hl:(aa E p 3).length=3:=dx h;have e2:=sH (aa E p 3) 2 I;have e1:=sH (aa E p 3) 1 I;have e0:=sH (aa E p 3) 0 I;rw[jf I]at e2;rw[e2,e1,e0,kN I,kN I,kN I];simp[num]
theorem avO(h:[1,2,1,3].getD (byte E 0/4 % 4) 0=hd)(hl:hd<=E.length)(h0:E.length≠0){nn:Nat}(hn:num (aa E 0 hd)/2^ [3,4,3,4].getD (byte E 0/4 % 4) 0=nn){tr:Option Tr}(hm:byte E 0 % 4<2):dT tr E=if 131072<nn then(0,[],0,none)else if byte E 0 % 4=1 then(if E.length<hd+1 then(2,[],0,none)else(1,List.replicate nn (E.getD hd 0),hd+1,tr))else if E.length<hd+nn then(2,[],0,none)else(1,aa E hd nn,hd+nn,tr):=by
 subst h;subst hn;unfold dT;rw[ag h0,ai hm];dsimp only;rw[ag I]
theorem aht(h:[1,2,1,3].getD (byte E 0/4 % 4) 0=hd)(hl:E.length<hd)(h0:E.length≠0){tr:Option Tr}(hm:byte E 0 % 4<2):(dT tr E).1=2:=by
 subst h;unfold dT;rw[ag h0,ai hm];dsimp only;rw[ai I]
theorem avP(l:UInt8)(i:Nat):List.replicate i l++[l]=List.replicate (i+1) l:=by rw[CE]
theorem ahu(l:List UInt8)(y:UInt8):l.map u8++[u8 y]=(l++[y]).map u8:=by rw[f_];rfl
theorem avQ{F:List aD}{c q n:Nat}{X:List UInt8}(h:aP F (.slice ad X.length c) X)(hq:q+n<=X.length):aP F (.slice (cut ad c q 1) (q+n-q) (c-q)) (aa X q n):=by
 have W:=aP.take (aP.drop h (m:=q) I) (m:=n) I;rw[uO];exact W
theorem ahv(h:p:=by rintro e w1 ⟨be,rfl,h⟩;refine V 5 ?_;exact⟨_,_,[],ob,bc,sp,_,J,h,hk,(λe=>I),(λ_=>Exists.intro be J)⟩):p:=h
theorem ahw(h:p:=by refine V 4 ?_;refine ee J J J J (aA (qk h (ar hR) (hG.sub aJ)) ?_);exact ahv):p:=h
theorem ahx(h:p:=by refine V 4 ?_;refine b_ J J J (aA (tX h (ar hR) (hG.sub aJ)) ?_);exact ahv):p:=h
theorem avR{r:dQ}{w:World}{L:List aD}{br dc bc:Nat}{x:cQ}{aE aU:Addr}{ob:Option Nat}{sp:List Value}{tr:Option Tr}(h:H r w ((ob,C (List.map u8 ([])++sp) 5)::L))(hR:(af br (au x) 81)∈L)(hG:Gl L aE aU)(hX:aP L (.slice ad E.length dc) E)(mZ:1<=E.length)(hE:E.length<=268435456)(hk:bG ob 0 bc [] sp 1)(hm:byte E 0 % 4<2)(hV:(dT tr E).1≠0):Calls PP 102 #[aW br,.slice ad E.length dc,R 1,U8 (byte E 0),.slice (aB ob) 0 bc] w λe w'=> ∃n er cO bH lR dm v',e= .returned (.tuple #[R n,v',er])/\H r w' ((bH,C (List.map u8 (cO)++dm) 5)::L)/\bG bH cO.length lR (cO.map u8) dm 1/\((dT tr E).1=1->er= .nilIface/\v'= .slice (aB bH) cO.length lR/\dT tr E=(1,cO,n,tr))/\((dT tr E).1≠1-> ∃be,er= .iface 182 (aW be)):=by
 have jm: ∃db q l T,ad=some ⟨db,q,none⟩/\(af db l T)∈L/\Rd l q (E.map u8):=(by obtain⟨iM,n',c',e1,hl,hc,h3⟩:=id hX;cases e1;exact h3 I);have j1:E.length<=dc:=(by obtain⟨iM,n',c',e1,hl,hc,_⟩:=id hX;cases e1;exact hc);obtain⟨db,q,l,T,ij,oS,wU⟩:=jm;have j3:=λi (hi:i<E.length)=>jy wU (i:=i) hi;obtain⟨ib,nT⟩:=cX oS;have dO:=toNat_le (E.getD 0 0);have eL:=toNat_le (E.getD 1 0);have fh:=toNat_le (E.getD 2 0);have GB:byte E 0=(E.getD 0 0).toNat:=rfl;have aHh:(E.getD (1+1) 0).toNat=(E.getD 2 0).toNat:=rfl;have hm4: ∀z,byte E 0/4 % 4=z->byte E 0/2^2 % 2^2=z:=λ_ h=>h;refine qN (P:=PP) Tryz.func102 130 Tryz.ntmps102 [10,11,12] J J (args:=[_,_,_,_,_]) J ?_;refine V 9 ?_;refine ah (vv J J az) ?_;refine V 12 ?_;refine ah (jO (n:=2) J J (aI (j6 _ _) az) aj) ?_;refine aC (jB [(2,2),(10,12),(14,14),(23,79)] (λρ w=> ∃hd nn:Nat,Kn ρ [(14,R nn),(2,R hd)]/\H r w ((ob,C (List.map u8 ([])++sp) 5)::L)/\(([1,2,1,3].getD (byte E 0/4 % 4) 0)=hd)/\(num (aa E 0 hd)/2^ [3,4,3,4].getD (byte E 0/4 % 4) 0=nn)/\(1<=hd/\hd<=E.length/\hd<=3)/\(nn<=2000000)) ?_ ?_)
 refine V 6 ?_;refine an J ?_ ?_<;>intro tQ
 refine aQ (an J ?_ ?_)<;>intro tQ
 have hz:byte E 0/4 % 4=0:=I;have jZ:([1,2,1,3].getD (byte E 0/4 % 4) 0)=1:=(by rw[hz];rfl);have qb:num (aa E 0 1)/2^ [3,4,3,4].getD (byte E 0/4 % 4) 0=byte E 0/2^3:=(by rw[hz,ahs I];show _/2^3=_;simp only[im,<-GB]<;>omega);refine V 3 ?_;exact ah (eB J (aI (j6 _ _) az)) (dI (aC ⟨aH 6,1,byte E 0/2^3,aq,h,jZ,qb,⟨I,I,I⟩,I⟩))
 exfalso;omega
 refine V 4 ?_;refine an J ?_ ?_<;>intro tQ
 have hz:byte E 0/4 % 4=2:=I;have jZ:([1,2,1,3].getD (byte E 0/4 % 4) 0)=1:=(by rw[hz];rfl);have qb:num (aa E 0 1)/2^ [3,4,3,4].getD (byte E 0/4 % 4) 0=byte E 0/2^3:=(by rw[hz,ahs I];show _/2^3=_;simp only[im,<-GB]<;>omega);refine V 3 ?_;exact ah (eB J (aI (j6 _ _) az)) (dI (aC ⟨aH 8,1,byte E 0/2^3,aq,h,jZ,qb,⟨I,I,I⟩,I⟩))
 refine V 5 ?_;refine an J ?_ ?_<;>intro mY
 refine V 8 ?_;refine an J ?_ ?_<;>intro Ge
 have hz:byte E 0/4 % 4=1:=I;have rE:(dT tr E).1=2:=aht (hd:=2) (by rw[hz];rfl) I I hm;exact ahx
 have hz:byte E 0/4 % 4=1:=I;have jZ:([1,2,1,3].getD (byte E 0/4 % 4) 0)=2:=(by rw[hz];rfl);have qb:num (aa E 0 2)/2^ [3,4,3,4].getD (byte E 0/4 % 4) 0=byte E 0/2^4+(E.getD 1 0).toNat*2^4:=(by rw[hz,agN I];show _/2^4=_;simp only[im,<-GB]<;>omega);refine V 5 ?_;refine ah (eB J (aI (j6 _ _) az)) (cM (cM (ah (cI J J ij I) (aO h J (j3 _ I) (ah (eB J (dz _ aj)) ?_)))));refine ah (dN (b:=4) (h2:=ao.lit _) J J aj az) ?_;refine V 8 ?_;exact⟨aH 24,2,byte E 0/2^4+(E.getD 1 0).toNat*2^4,aq,h,jZ,qb,⟨I,I,I⟩,I⟩
 refine V 5 ?_;refine an J ?_ ?_<;>intro Mj
 refine V 9 ?_;refine an J ?_ ?_<;>intro FA
 have hz:byte E 0/4 % 4=3:=I;have rE:(dT tr E).1=2:=aht (hd:=3) (by rw[hz];rfl) I I hm;exact ahx
 have hz:byte E 0/4 % 4=3:=I;have jZ:([1,2,1,3].getD (byte E 0/4 % 4) 0)=3:=(by rw[hz];rfl);have qb:num (aa E 0 3)/2^ [3,4,3,4].getD (byte E 0/4 % 4) 0=byte E 0/2^4+(E.getD 1 0).toNat*2^4+(E.getD (1+1) 0).toNat*2^12:=(by rw[hz,RM I];show _/2^4=_;simp only[im,<-GB]<;>omega);refine aQ (a9 (bL h [0,4,8,12,16,20,40,44,48,52,25,28,32,36,57,60,64,68,72] ?_));intro w h;refine av 2 ?_;refine aw J (eB J (aI (j6 _ _) az)) ?_;refine av 2 ?_;refine aw J (cI J J ij I) ?_;refine av 3 ?_;refine aw J (cI J J ij I) (aK J h J (j3 _ I) (aw J (eB J (dz _ aj)) ?_));refine aw J (dN (b:=4) (h2:=ao.lit _) J J aj az) ?_;refine av 1 ?_;refine aK J h J (j3 _ I) (aw J (eB J (dz _ aj)) ?_);refine aw J (dN (b:=12) (h2:=ao.lit _) J J aj az) ?_;refine av 3 ?_;refine V 5 ?_;exact⟨aH 35,3,byte E 0/2^4+(E.getD 1 0).toNat*2^4+(E.getD (1+1) 0).toNat*2^12,aq,h,jZ,qb,⟨I,I,I⟩,I⟩
 exfalso;omega
 rintro ρ w ⟨hd,nn,⟨mC,rfl⟩,h,jZ,qb,hle,L3⟩;have jh:=avO (tr:=tr) jZ hle.2.1 I qb hm;have gX: ¬131072<nn:=λe=>(by rw[jh,ai e]at hV;exact hV J);rw[ag gX]at jh;refine V 6 ?_;refine an J ?_ ?_<;>intro Mm
 exfalso;omega
 refine aQ (cD [(2,2),(4,4),(10,12),(15,16),(85,127)] (λρ w=> ∃n:Nat,∃dM:List UInt8,∃cr:Option Nat,∃c2:Nat,∃cG:List Value,Kn ρ [(2,R n),(4,.slice (aB cr) dM.length c2)]/\H r w ((cr,C (List.map u8 (dM)++cG) 5)::L)/\(bG cr dM.length c2 (dM.map u8) cG 1)/\(dT tr E=(1,dM,n,tr))) ?_ ?_)
 refine V 4 ?_;refine an J ?_ ?_<;>intro D1
 refine V 10 ?_;refine an J ?_ ?_<;>intro tP
 have rE:(dT tr E).1=2:=(by rw[jh,ag I,ai I]);exact ahw
 rw[ag I,ag I]at jh;refine V 9 ?_;refine ah (uX J J J (mS _ _) I) (kW (List.map u8 []) sp ((aa E hd nn).map u8) h 0 J J J hk (qg (avQ hX I) aJ) (by intro y hy;obtain⟨z,_,rfl⟩:=jd.1 hy;rfl) I aj J ?_);intro w dy c9 dL h df fG eG;dsimp only[List.set]at h;rw[<-f_,List.nil_append]at h df;refine V 8 ?_;exact⟨aH 20,hd+nn,aa E hd nn,dy,c9,dL,Kn.mk ⟨J,iJ J (by rw[dx I];omega) J,trivial⟩,h,(by rw[dx I];exact⟨by rw[bX,dx I,eC],df,I,eG⟩),jh⟩
 refine V 8 ?_;refine an J ?_ ?_<;>intro avS
 have rE:(dT tr E).1=2:=(by rw[jh,ai I,ai I]);exact ahw
 rw[ai I,ag I]at jh;refine V 5 ?_;refine ah (cI J J ij I) (aO h J (j3 _ I) ?_);refine V 13 ?_;refine bQ (σ:=Nat×Option Nat×Nat×List Value) [(4,4),(16,16),(119,127)] (λ⟨i,bI,ja,bJ⟩ ρ w=>Kn ρ [(16,R i),(4,.slice (aB bI) i ja)]/\H r w ((bI,C (List.map u8 (List.replicate i (E.getD hd 0))++bJ) 5)::L)/\(i<=nn)/\(bG bI i ja (List.map u8 (List.replicate i (E.getD hd 0))) bJ 1)) (λ⟨i,bI,ja,bJ⟩=>nn-i) (0,ob,bc,sp) ⟨aq,h,(bP _),hk⟩ ?_;rintro⟨i,bI,ja,bJ⟩ ρ w ⟨⟨k5,rfl⟩,h,hi,eF⟩;refine V 7 ?_;refine an J ?_ ?_<;>intro Zf
 refine V 6 ?_;refine kX J (kB _) h ?_;intro bz w h;refine kW (List.map u8 (List.replicate i (E.getD hd 0))) bJ [u8 (E.getD hd 0)] h 1 J J J eF (Src.slice (j:=0) (q2:=0) J ⟨J,trivial⟩ J) (by intro x hx;simp at hx;subst hx;rfl) I aj J ?_;intro w dy c9 dL h df fG eG;dsimp only[List.set]at h;rw[ahu,avP]at h df;have yh:bG dy (i+1) c9 (List.map u8 (List.replicate (i+1) (E.getD hd 0))) dL 1:=⟨by rw[bX,dR,eC],df,fG,eG⟩;replace h:=h.tail;(try dsimp only[dB]at h);refine V 7 ?_;exact⟨aH 11,(i+1,dy,c9,dL),cw,aq,h,I,yh⟩
 have p_:i=nn:=I;have lK:=eF;rw[p_]at lK h;exact iy ⟨aH 18,hd+1,List.replicate nn (E.getD hd 0),bI,ja,bJ,Kn.mk ⟨J,iJ J (by rw[dR];omega) J,trivial⟩,h,(by rw[dR];exact lK),jh⟩
 rintro ρ w ⟨n,dM,cr,c2,cG,⟨mD,rfl⟩,h,cK,ahy⟩;refine V 9 ?_;exact⟨n,_,dM,cr,c2,cG,_,J,h,cK,(λ_=>⟨J,J,ahy⟩),(λe=>absurd (by rw[ahy]) e)⟩
end Go.Z
namespace Go.Z
variable {E:List UInt8}{B N N' a a1 k ri m ak n off:Nat}{t:Tr}
theorem ZR(al:List Nat)(ak w:Nat): ∀i,2^w∣(eW al ak (w+1) i).length
 |0=>⟨0,J⟩
 | i+1=>by
  rw[eW,aF];refine Nat.dvd_add (ZR al ak w i) ?_;split
  rw[dR];exact Pc _
  exact⟨0,J⟩
theorem ZS{al:List Nat}{ak m:Nat}(ht:(cW al ak m).length=2^m): ∀d w,w+d=m->2^w∣(cW al ak w).length
 |0,w,e=>by have:w=m:=I;subst this;rw[ht];exact Pc _
 |d+1,w,e=>by have h:=ZS ht d (w+1) I;have h2:2^w∣2^(w+1):=K4 2 I;have h3:=Nat.dvd_trans h2 h;rw[cW,aF]at h3;exact(Nat.dvd_add_left (ZR al ak w al.length)).1 h3
theorem ahz(al:List Nat)(ak w:Nat): ∀n i j,i<(eW al ak (w+1) n).length->i/2^w=j/2^w->(eW al ak (w+1) n)[j]? =(eW al ak (w+1) n)[i]?
 |0,i,j,hi,_=>by simp[eW]at hi
 | n+1,i,j,hi,e=>by
  have hp:=ep w;obtain⟨c,hc⟩:=ZR al ak w n;rw[eW]at hi ⊢;have ZT:=K7 j (2^w);have hmi:=K7 i (2^w);have GC:=dH j hp;have hli:=dH i hp;rcases dh i (eW al ak (w+1) n).length with h|h
  have hj:j<(eW al ak (w+1) n).length:=(by rw[hc]at h ⊢;have W:i/2^w<c:=(O7 hp).2 (by rw[iu];exact h);rw[e]at W;have:=(O7 hp).1 W;rwa [iu]);rw[ir h,ir hj];exact ahz al ak w n i j h e
  have hj:(eW al ak (w+1) n).length<=j:=(by rw[hc]at h ⊢;have W:c<=i/2^w:=(H5 hp).2 (by rw[iu];exact h);rw[e]at W;have:=(H5 hp).1 W;rwa [iu]);rw[nN h,nN hj];rw[aF]at hi;split at hi
  rename_i lJ;rw[ai lJ];rw[dR]at hi;rw[uM,uM];simp only[zc]at hi ⊢;rw[hc]at h hj hi ⊢;have W:i/2^w=c:=Nat.div_eq_of_lt_le (by rw[iu];exact h) (by rw[qH,rz,iu c];exact hi);have h2:j/2^w=c:=(by rw[<-e];exact W);rw[W]at hmi;rw[h2]at ZT;rw[ai I,ai I]
  simp at hi;omega
theorem ahA{al:List Nat}{ak m:Nat}(ht:(cW al ak m).length=2^m): ∀Z_,Z_<=m->Z_<=ak-> ∀{i j:Nat} {x:Nat×Nat},(cW al ak Z_)[i]? =some x->i/2^(ak-x.2)=j/2^(ak-x.2)->(cW al ak Z_)[j]? =some x
 |0,_,_,i,j,x,h,_=>by simp[cW]at h
 | Z_+1,hW,Ec,i,j,x,h,e=>by
  obtain⟨c,hc⟩:=ZS ht (m-Z_) Z_ I;rw[cW]at h ⊢;rcases dh i (cW al ak Z_).length with hi|hi
  rw[ir hi]at h;have hb:=ahA ht Z_ I I h e;have hj:=(sf.1 hb).1;rw[ir hj];exact hb
  rw[nN hi]at h;have hx:=Qj (uJ h);have nX:=(sf.1 h).1;have he:ak-x.2=Z_:=I;rw[he]at e;have hp:=ep Z_;rw[hc]at hi;have W:c<=i/2^Z_:=(H5 hp).2 (by rw[iu];exact hi);have h2:c<=j/2^Z_:=(by rw[<-e];exact W);have hj:2^Z_*c<=j:=(by have:=(H5 hp).1 h2;rwa [iu]);rw[nN (by rw[hc];exact hj)];rw[<-h];refine ahz al ak Z_ al.length _ _ nX ?_;rw[hc];have a1:i=(i-2^Z_*c)+2^Z_*c:=I;have a2:j=(j-2^Z_*c)+2^Z_*c:=I;have b1:i/2^Z_=(i-2^Z_*c)/2^Z_+c:=(by rw[a1];simp[O_ _ _ hp]);have b2:j/2^Z_=(j-2^Z_*c)/2^Z_+c:=(by rw[a2];simp[O_ _ _ hp]);omega
structure BP(t:Tr):Prop where
 ok:wE t
 bm: ∀i,t.bits.getD i 0<=t.ak
 al: ∀i j,i<2^t.ak->i/2^(t.ak-t.bits.getD i 0)=j/2^(t.ak-t.bits.getD i 0)->t.bits.getD j 0=t.bits.getD i 0/\t.syms.getD j 0=t.syms.getD i 0
theorem avT{al:List Nat}(h:wE (l6 al ak)):BP (l6 al ak):=by
 have hl:(cW al ak ak).length=2^ak:=(by have:=h.syms;simpa [l6] using this);have g1: ∀i,(l6 al ak).syms.getD i 0=((cW al ak ak)[i]?.map (·.1)).getD 0:=λi=>(by show((cW al ak ak).map (·.1)).getD i 0=_;rw[bS,kK]);have g2: ∀i,(l6 al ak).bits.getD i 0=((cW al ak ak)[i]?.map (·.2)).getD 0:=λi=>(by show((cW al ak ak).map (·.2)).getD i 0=_;rw[bS,kK]);refine⟨h,λi=>?_,λi j hi e=>?_⟩
 rw[g2]
 cases hx:(cW al ak ak)[i]? with
 |none=>simp
 | some x=>
   have:=Qk (uJ hx)
   show x.2<=ak
   omega
 have GD:i<(cW al ak ak).length:=(by rw[hl];exact hi);have hx:=gv GD;obtain⟨x,hxx⟩: ∃x,(cW al ak ak)[i]=x:=⟨_,J⟩;rw[hxx]at hx;have hb:(l6 al ak).bits.getD i 0=x.2:=(by rw[g2,hx];rfl);have hm:(l6 al ak).ak=ak:=rfl;rw[hb,hm]at e;have hj:=ahA hl ak (aR _) (aR _) hx e;rw[g1,g1,g2,g2,hx,hj];exact⟨J,J⟩
theorem ahB{ws:List Nat}(h:gL ws=some t):BP t:=by
 have cS:=(L8 h).1;unfold gL at h;split at h
 cases h
 dsimp only at h;split at h
 cases h
 split at h
 cases h
 cases h;exact avT cS
theorem ZU{N l:Nat}{t:Tr}: ∀d i,(fi N t l (i+d)).1<=(fi N t l i).1
 |0,i=>Pd _
 |d+1,i=>by have h:=ZU (N:=N) (l:=l) (t:=t) d i;rw[<-gQ,fi];dsimp only;omega
theorem ahC(N l:Nat): ∀d,dS N (l:Int) (l+d)=dt N 0 l*2^d
 |0=>by rw[kU,Da N l l (aR _),AE];simp
 |d+1=>by rw[<-gQ,dS,ahC N l d,ag I,jT,kU,iu 2,tg]
theorem M9{p:Nat}(h:p+k<=8*n):dt (num (aa E off n)) p k=dt (num E) (8*off+p) k:=by
 have W:num (E.drop off)=num (aa E off n)+256^(aa E off n).length*num ((E.drop off).drop n):=(by have:=Fg ((E.drop off).take n) ((E.drop off).drop n);rw[xD]at this;exact this);rw[zV];by_cases hn:n<=(E.drop off).length
 have hl:(aa E off n).length=n:=(by unfold aa;rw[gk];omega);rw[hl,show(256:Nat)^n=2^(8*n) by rw[KU]]at W;rw[W];unfold dt;obtain⟨c,hc⟩: ∃c,8*n=p+(k+c):=⟨8*n-p-k,I⟩;rw[hc,ks 2 p,tg,O_ _ _ (ep _),ks 2 k,tg,Pa]
 have:aa E off n=E.drop off:=(by unfold aa;rw[jf I]);rw[this]
theorem ahD{cs many vH i:Nat}(ht:BP t)(wY:2<=off)(hb:iV (aa E off cs)=some vH)(hle:vH<=8*cs)(hd:(gz (aa E off cs) t many).1≠0)(hi:i<many): ∃lf nx idx:Nat,(fi (num (aa E off cs)) t vH i).1=(lf:Int)/\idx=dt (num E) (8*off+lf-t.ak) t.ak/\idx<2^t.ak/\t.bits.getD idx 0<=lf/\nx=lf-t.bits.getD idx 0/\(fi (num (aa E off cs)) t vH (i+1))=((nx:Int),(fi (num (aa E off cs)) t vH i).2++[UInt8.ofNat (t.syms.getD idx 0)])/\lf<=8*cs:=by
 have avU:=ht.ok.ak;obtain⟨S,hS⟩: ∃S,aa E off cs=S:=⟨_,J⟩;have F4:=λp k (h:p+k<=8*cs)=>hS▸(M9 (E:=E) (off:=off) h);rw[hS]at hb hd ⊢
 have h0:(fi (num S) t vH many).1=0:=by
  unfold gz at hd;split at hd
  exact absurd J hd
  rw[hb]at hd;dsimp only at hd;split at hd
  exact absurd J hd
  rename_i hh;exact nj.1 hh
 have jE:=ZU (N:=num S) (l:=vH) (t:=t) (many-i) i;have kE:=ZU (N:=num S) (l:=vH) (t:=t) (many- (i+1)) (i+1);rw[show i+(many-i)=many by omega]at jE;rw[show i+1+(many- (i+1))=many by omega]at kE;rw[h0]at jE kE;have eT:=(Xf (N:=num S) (left:=vH) ht.ok i).2;obtain⟨lf,jh⟩: ∃lf:Nat,(fi (num S) t vH i).1=(lf:Int):=⟨(fi (num S) t vH i).1.toNat,I⟩;have avV:lf<=8*cs:=I;have dd:fi (num S) t vH (i+1)=((lf:Int) -t.bits.getD (dS (num S) (lf:Int) t.ak) 0,(fi (num S) t vH i).2++[UInt8.ofNat (t.syms.getD (dS (num S) (lf:Int) t.ak) 0)]):=(by rw[fi,jh]);obtain⟨k,hk⟩: ∃k,dS (num S) (lf:Int) t.ak=k:=⟨_,J⟩;rw[hk]at dd;have GF:k<2^t.ak:=(by rw[<-hk];exact u6 _ _ _);have fS:t.bits.getD k 0<=lf:=(by rw[dd]at kE;dsimp only at kE;omega);obtain⟨idx,BQ⟩: ∃idx,idx=dt (num E) (8*off+lf-t.ak) t.ak:=⟨_,J⟩;have nX:idx<2^t.ak:=(by rw[BQ];exact Ff _ _ _)
 have ZV:t.bits.getD idx 0=t.bits.getD k 0/\t.syms.getD idx 0=t.syms.getD k 0:=by
  rcases dh lf t.ak with h|h
  obtain⟨d,hdm⟩: ∃d,t.ak=lf+d:=⟨t.ak-lf,I⟩;have cK:k=dt (num S) 0 lf*2^d:=(by rw[<-hk,hdm,ahC]);have vA:idx/2^d=dt (num S) 0 lf:=(by rw[F4 0 lf I,BQ];unfold dt;rw[hdm,show 8*off+lf- (lf+d)=8*off-d by omega,Ay lf d,ks,OQ,sk,<-ks,show 8*off-d+d=8*off+0 by omega]);refine ht.al k idx GF ?_;have he:t.ak-t.bits.getD k 0=d+(lf-t.bits.getD k 0):=I;rw[he,ks,<-sk,<-sk,vA,cK,Nat.mul_div_cancel _ (ep _)]
  have:idx=k:=(by rw[BQ,<-hk,Da _ _ _ h,F4 _ _ I];congr 1;omega);rw[this];exact⟨J,J⟩
 refine⟨lf,lf-t.bits.getD idx 0,idx,jh,BQ,nX,by rw[ZV.1];exact fS,J,?_,avV⟩;rw[dd,ZV.1,ZV.2];congr 1;omega
theorem Ab{len v:Nat}(hN: ∀p k,p+k<=B->dt N' p k=dt N p k)(hB:B<=8*ri)(h:fM N len a false k=(v,a1,false))(ha:a1<=B):fM N' ri a false k=(v,a1,false)/\a<=a1:=by
 unfold fM at*;split at h
 cases h;rw[ai I,hN _ _ ha];exact⟨J,I⟩
 cases h
theorem ahE{len v:Nat}:fM N len a true k=(v,a1,false)->False:=by
 unfold fM;split<;>intro h<;>cases h
theorem ahF{len v:Nat}(hN: ∀p k,p+k<=B->dt N' p k=dt N p k)(hB:B<=8*ri)(h:jW N len a false m=(v,a1,false))(ha:a1<=B):jW N' ri a false m=(v,a1,false)/\a<=a1:=by
 unfold jW at*;dsimp only at*;rcases hx:fM N len a false m.log2 with⟨x,ax,bx⟩;rw[hx]at h;dsimp only at h;split at h
 rename_i hs;cases h;have:=Ab hN hB hx ha;rw[this.1];dsimp only;rw[ai hs];exact⟨J,this.2⟩
 rename_i hs;rcases hy:fM N len ax bx 1 with⟨y,ay,eD⟩;rw[hy]at h;dsimp only at h;have e2:=b8 (λz=>z.2.1) h;have e3:=b8 (λz=>z.2.2) h;dsimp only at e2 e3;subst e2;subst e3
 cases bx with
 |true=>exact(ahE hy).elim
 | false=>
   have h2:=Ab hN hB hy ha
   have W:=Ab hN hB hx (aI h2.2 ha)
   rw[W.1];dsimp only
   rw[ag hs,h2.1]
   exact⟨h,aI W.2 h2.2⟩
theorem RN{N len symbols:Nat}: ∀{f:Nat} {out o:List Int} {a a':Nat},ns N len symbols f out a=some (o,a')->a<=a'
 | f+1,out,o,a,a',h=>by
  rcases hv:fM N len a false 2 with⟨v,a1,b1⟩;rw[sL hv]at h;have DR:b1=false->a<=a1:=λe=>(by subst e;exact(Ab (N':=N) (ri:=len) (B:=8*len) (λ_ _ _=>rfl) (aR _) hv (by unfold fM at hv;split at hv<;>cases hv;omega)).2);split at h
  cases h
  rename_i hb;have eL:b1=false:=(by cases b1 with|false=>rfl|true=>exact absurd (Or.inl J) hb);split at h
  cases h;exact DR eL
  exact aI (DR eL) (RN h)
theorem ahG{N N' len ri B symbols:Nat}(hN: ∀p k,p+k<=B->dt N' p k=dt N p k)(hB:B<=8*ri): ∀{f:Nat} {out o:List Int} {a a':Nat},ns N len symbols f out a=some (o,a')->a'<=B->ns N' ri symbols f out a=some (o,a')
 | f+1,out,o,a,a',h,ha=>by
  rcases hv:fM N len a false 2 with⟨v,a1,b1⟩;rw[sL hv]at h;split at h
  cases h
  rename_i hb;have eL:b1=false:=(by cases b1 with|false=>rfl|true=>exact absurd (Or.inl J) hb);subst eL;split at h
  rename_i h3;cases h;rw[sL (Ab hN hB hv ha).1,ag hb,ai h3]
  rename_i h3;rw[sL (Ab hN hB hv (aI (RN h) ha)).1,ag hb,ag h3];exact ahG hN hB h ha
theorem ahH{len v:Nat}(h:jW N len a false m=(v,a1,false)):a<=a1/\a1<=8*len\/a1=a:=by
 have h8: ∀{a k v a1:Nat},fM N len a false k=(v,a1,false)->a1<=8*len:=λ{a k v a1} e=>(by unfold fM at e;split at e<;>cases e;omega);unfold jW at h;dsimp only at h;rcases hx:fM N len a false m.log2 with⟨x,ax,bx⟩;rw[hx]at h;dsimp only at h;split at h
 cases h;exact .inl ⟨(Ab (N':=N) (ri:=len) (B:=8*len) (λ_ _ _=>rfl) (aR _) hx (h8 hx)).2,h8 hx⟩
 rcases hy:fM N len ax bx 1 with⟨y,ay,eD⟩;rw[hy]at h;have e2:=b8 (λz=>z.2.1) h;have e3:=b8 (λz=>z.2.2) h;dsimp only at e2 e3;subst e2;subst e3
 cases bx with
 |true=>exact(ahE hy).elim
 | false=>
   have h2:=(Ab (N':=N) (ri:=len) (B:=8*len) (λ_ _ _=>rfl) (aR _) hy (h8 hy)).2
   have W:=(Ab (N':=N) (ri:=len) (B:=8*len) (λ_ _ _=>rfl) (aR _) hx (h8 hx)).2
   exact .inl ⟨aI W h2,h8 hy⟩
theorem RP{N len symbols:Nat}: ∀{f:Nat} {out o:List Int} {a a':Nat},ns N len symbols f out a=some (o,a')->a'<=8*len
 | f+1,out,o,a,a',h=>by
  rcases hv:fM N len a false 2 with⟨v,a1,b1⟩;rw[sL hv]at h;split at h
  cases h
  rename_i hb;have eL:b1=false:=(by cases b1 with|false=>rfl|true=>exact absurd (Or.inl J) hb);subst eL;split at h
  cases h;unfold fM at hv;split at hv<;>cases hv;omega
  exact RP h
theorem M_{N len symbols:Nat}: ∀{f left:Nat} {out o:List Int} {a a':Nat},gh N len symbols f left out a=some (o,a')->a<=8*len->a<=a'/\a'<=8*len
 | f+1,left,out,o,a,a',h,lJ=>by
  by_cases h0:left=0
  unfold gh at h;rw[ai h0]at h;cases h;exact⟨aR _,lJ⟩
  rcases hv:jW N len a false (left+1)with⟨v,a1,b1⟩;rw[wB h0 hv]at h;split at h
  cases h
  rename_i hb;have eL:b1=false:=(by cases b1 with|false=>rfl|true=>exact absurd (Or.inl J) hb);subst eL;have hm:=ahH hv;split at h
  cases hz:ns N len symbols (symbols+1) (out++[(v:Int) -1]) a1 with
  |none=>rw[hz]at h;cases h
  | some y=>
    rw[hz]at h
    have W:=RN (o:=y.1) (a':=y.2) hz
    have h2:=M_ (show gh N len symbols f _ y.1 y.2=some (o,a')from h) (RP (o:=y.1) (a':=y.2) hz)
    exact⟨I,h2.2⟩
  have h2:=M_ h I;exact⟨I,h2.2⟩
theorem ZW{N N' len ri B symbols:Nat}(hN: ∀p k,p+k<=B->dt N' p k=dt N p k)(hB:B<=8*ri): ∀{f left:Nat} {out o:List Int} {a a':Nat},gh N len symbols f left out a=some (o,a')->a<=8*len->a'<=B->gh N' ri symbols f left out a=some (o,a')
 | f+1,left,out,o,a,a',h,lJ,ha=>by
  by_cases h0:left=0
  unfold gh at h ⊢;rw[ai h0]at h ⊢;exact h
  rcases hv:jW N len a false (left+1)with⟨v,a1,b1⟩;rw[wB h0 hv]at h;split at h
  cases h
  rename_i hb;have eL:b1=false:=(by cases b1 with|false=>rfl|true=>exact absurd (Or.inl J) hb);subst eL;have hm:=ahH hv;split at h
  rename_i gr
  cases hz:ns N len symbols (symbols+1) (out++[(v:Int) -1]) a1 with
  |none=>rw[hz]at h;cases h
  | some y=>
    rw[hz]at h
    have W:=RN (o:=y.1) (a':=y.2) hz
    have hp:gh N len symbols f _ y.1 y.2=some (o,a'):=h
    have h2:=M_ hp (RP (o:=y.1) (a':=y.2) hz)
    rw[wB h0 (ahF hN hB hv I).1,ag hb,ai gr,ahG hN hB (o:=y.1) (a':=y.2) hz I]
    exact ZW hN hB hp (RP (o:=y.1) (a':=y.2) hz) ha
  rename_i gr;have h2:=M_ h I;rw[wB h0 (ahF hN hB hv I).1,ag hb,ag gr];exact ZW hN hB h I ha
theorem ahI{len symbols:Nat}{out:List Int}{lg size:Nat}(hN: ∀p k,p+k<=8*n->dt N' p k=dt N p k)(hn:n<=ri)(h:ft N len ak symbols=some (out,lg,size))(hs:size<=n):ft N' ri ak symbols=some (out,lg,size):=by
 unfold ft at*;dsimp only at*;rcases hx:fM N len 0 false 4 with⟨v,a,b⟩;rw[hx]at h;dsimp only at h;split at h
 cases h
 rename_i hb;have eL:b=false:=(by cases b with|false=>rfl|true=>exact absurd (Or.inl J) hb);subst eL;have ha8:a<=8*len:=(by unfold fM at hx;split at hx<;>cases hx;omega)
 cases hp:gh N len symbols (symbols+1) (2^(v+5)) [] a with
 |none=>rw[hp]at h;cases h
 | some y=>
   rw[hp]at h;cases h
   have hm:=M_ (o:=y.1) (a':=y.2) hp ha8
   rw[(Ab hN I hx I).1]
   dsimp only
   rw[ag hb,ZW hN I (o:=y.1) (a':=y.2) hp ha8 I]
end Go.Z
namespace Go.Z
open Go Go.Proofs
variable {E:List UInt8}{cs i many off:Nat}{t:Tr}{w:World}
def m8(t:Tr)(i:Nat):Nat:=t.syms.getD i 0 % 256*256+t.bits.getD i 0
def HuT(L:List aD)(x:cQ)(t:Tr):Prop:= ∃tb m,x.hA=some ⟨tb,0,none⟩/\(some tb,C (List.map dk m) 174)∈L/\x.hN<=m.length/\2^t.ak<=x.hN/\(∀i,i<2^t.ak->m.getD i 0=m8 t i)/\x.hb=t.ak
theorem ahJ(E:List UInt8)(off cs:Nat):aa E off cs=(E.take (off+cs)).drop off:=by
 unfold aa;rw[HS,uO]
theorem ZX(W:1<=cs)(h:off+cs<=E.length)(h0:(E.getD (off+cs-1) 0).toNat=0):iV (aa E off cs)=none:=by
 have hl:(E.take (off+cs)).length=off+cs:=(by rw[gk];omega);have hg:(E.take (off+cs)).getD (off+cs-1) 0=E.getD (off+cs-1) 0:=(by simp only[bS,pT];rw[ai I]);rw[ahJ];exact ag7 I (by rw[hl,hg];exact h0)
theorem ZY(W:1<=cs)(h:off+cs<=E.length)(h0:(E.getD (off+cs-1) 0).toNat≠0):iV (aa E off cs)=some (7- (8-gH (E.getD (off+cs-1) 0).toNat)+8*(cs-1)):=by
 have hl:(E.take (off+cs)).length=off+cs:=(by rw[gk];omega);have hg:(E.take (off+cs)).getD (off+cs-1) 0=E.getD (off+cs-1) 0:=(by simp only[bS,pT];rw[ai I]);rw[ahJ,ag8 I (by rw[hl,hg];exact h0),hl,hg];congr 2;omega
theorem Bs.start(W:1<=cs)(h2:2<=off)(h:off+cs<=E.length)(h0:(E.getD (off+cs-1) 0).toNat≠0):Bs E (off-2) (off+cs-1) (E.getD (off+cs-1) 0).toNat (7- (8-gH (E.getD (off+cs-1) 0).toNat)) (7- (8-gH (E.getD (off+cs-1) 0).toNat)+8*(cs-1)+16):=by
 have hb:=toNat_le (E.getD (off+cs-1) 0);have h8:= @kj (E.getD (off+cs-1) 0).toNat 8 I;exact⟨I,I,I,oT.init I h0,I⟩
theorem ux{P:Program}{ρ:Env}{op:Op}{ty:TypeId}{w':World}{n:Nat}{s:UInt8}(h:run P ρ op ty w= .ok (.value (gR n)) w')(e:n=s.toNat):run P ρ op ty w= .ok (.value (u8 s)) w':=by rw[h,e]
theorem ahK(h:(gz E t many).1≠0):1<=E.length:=by
 rcases nO E.length with e|e
 exfalso;apply h;unfold gz;rw[ai e]
 exact e
theorem ahL(h:iV E=none):(gz E t many).1≠1:=by
 unfold gz;split
 decide
 rw[h];show(2:Nat)≠1;decide
theorem ahM{l:Nat}(h:iV E=some l)(hd:(gz E t many).1≠0):gz E t many=(1,(fi (num E) t l many).2):=by
 unfold gz at*;split
 rename_i e;rw[ai e]at hd;exact absurd J hd
 rename_i e;rw[ag e,h]at hd;dsimp only at hd;rw[h];dsimp only;split
 rename_i e2;rw[ai e2]at hd;exact absurd J hd
 rfl
theorem GG(h:t.bits.getD i 0<=11):m8 t i % 2^8=t.bits.getD i 0:=by unfold m8;omega
theorem M'(h:t.bits.getD i 0<=11):m8 t i/2^8=(UInt8.ofNat (t.syms.getD i 0)).toNat:=by
 have e:(UInt8.ofNat (t.syms.getD i 0)).toNat=t.syms.getD i 0 % 256:=(by simp);rw[e];unfold m8;omega
theorem Na(h:t.bits.getD i 0<=11):m8 t i<=65535:=by unfold m8;omega
theorem avW{r:dQ}{L:List aD}{br dc bc:Nat}{x:cQ}{aE aU:Addr}{ad:Option Addr}{ob:Option Nat}{sp:List Value}(h:H r w ((ob,C (List.map u8 ([])++sp) 5)::L))(hR:(af br (au x) 81)∈L)(hG:Gl L aE aU)(hX:aP L (.slice ad E.length dc) E)(hE:E.length<=268435456)(hk:bG ob 0 bc [] sp 1)(hT:HuT L x t)(ht:BP t)(wY:2<=off)(ig:off+cs<=E.length)(Dz:many<=131072)(hV:(gz (aa E off cs) t many).1≠0):Calls PP 110 #[.pointer (some ⟨br,0,none⟩),.slice ad E.length dc,R off,R cs,R many,.slice (aB ob) 0 bc] w λe w'=> ∃er cO bH lR dm v',e= .returned (.tuple #[v',er])/\H r w' ((bH,C (List.map u8 (cO)++dm) 5)::L)/\bG bH cO.length lR (cO.map u8) dm 1/\((gz (aa E off cs) t many).1=1->er= .nilIface/\v'= .slice (aB bH) cO.length lR/\gz (aa E off cs) t many=(1,cO))/\((gz (aa E off cs) t many).1≠1-> ∃be,er= .iface 182 (.pointer (some ⟨be,0,none⟩))):=by
 have a8:(aa E off cs).length=cs:=dx ig;have ZZ:1<=cs:=(by have:=ahK hV;omega);obtain⟨tb,m,hA,hm,tS,Eg,Eh,pA⟩:=hT;have lJ:=ht;have BR:=ht.ok.ak;have JH:=ht.ok.le;have Nb:(au x)[13]? =some (R t.ak):=(by rw[<-pA];rfl);have Nc:(au x)[12]? =some (.slice (some ⟨tb,0,none⟩) x.hN x.hC):=(by rw[<-hA];rfl);have nz:=ep t.ak;have Nd:2^t.ak<=2048:=aI (dp aj BR) aj;obtain⟨b,BS⟩: ∃b,t.ak=b:=⟨_,J⟩;rw[BS]at BR Nb Eg Eh nz Nd;obtain⟨iR,Bz⟩:=cX hR;obtain⟨iT,hiT⟩:=cX hm;refine qN (P:=PP) Tryz.func110 86 Tryz.ntmps110 [12,13] J J (args:=[_,_,_,_,_,_]) J ?_;refine V 15 ?_;refine uV J J J J J (aA (Gd h (ar hR) (hG.sub aJ) (hX.sub aJ) (off:=off+cs-1) (st:=off-2) I hE I) ?_);rintro e w1 ⟨vs,MP,rfl,t_,D',h,hz,qu⟩;refine V 3 ?_;refine eh h J ?_;intro bB w h;refine qP (vs:=vs) h J J t_ D' (by exact aR 6) J ?_;intro w h;dsimp only[List.set]at h;rw[Gw (by rw[t_];rfl)]at h;refine V 6 ?_;refine ah (jz MP (¬(E.getD (off+cs-1) 0).toNat=0) J (λe=>(qu e).1) (λe=>hz (E6.1 e)) J) (aC (an J ?_ ?_))<;>intro iP
 have dO:(E.getD (off+cs-1) 0).toNat=0:=I;have bY:(gz (aa E off cs) t many).1≠1:=ahL (ZX ZZ ig dO);refine V 7 ?_;replace h:=h.tail;(try dsimp only[dB]at h);exact⟨_,[],ob,bc,sp,_,J,h,hk,(λe=>absurd e bY),(λ_=>hz dO)⟩
 have dO:(E.getD (off+cs-1) 0).toNat≠0:=I;have eM:=ZY ZZ ig dO;have MQ:=Bs.start ZZ wY ig dO;rw[(qu dO).2]at h;have Rx:= @kj (E.getD (off+cs-1) 0).toNat 8 (by have:=toNat_le (E.getD (off+cs-1) 0);omega);refine cg (7- (8-gH (E.getD (off+cs-1) 0).toNat)+8*(cs-1)) λfK z5=>?_;rw[z5]at eM MQ;have avX:fK<=8*cs:=I;have gp:=ahM eM hV;refine V 6 ?_;refine aO h J Nc ?_;refine V 7 ?_;refine aO h J Nb ?_;refine V 6 ?_;refine ah (gn J J dw az) ?_;refine V 9 ?_;refine bQ (σ:=Nat×Nat×Nat×Nat×Nat×Option Nat×Nat×List Value) [(5,5),(12,13),(19,21),(49,84)] (λ⟨i,lf,o,bi,cn,bI,ja,bJ⟩ ρ w=>Kn ρ [(19,R i),(5,.slice (aB bI) i ja)]/\H r w ((af bB [.pointer (some ⟨br,0,none⟩),.slice ad E.length dc,aZ o,aZ (off-2),aZ bi,aZ cn] 207)::(bI,C (List.map u8 ((fi (num (aa E off cs)) t fK i).2)++bJ) 5)::L)/\(i<=many)/\((fi (num (aa E off cs)) t fK i).1=(lf:Int))/\(Bs E (off-2) o bi cn (lf+16))/\(bG bI i ja (List.map u8 ((fi (num (aa E off cs)) t fK i).2)) bJ 1)) (λ⟨i,lf,o,bi,cn,bI,ja,bJ⟩=>many-i) (0,fK,off+cs-1,(E.getD (off+cs-1) 0).toNat,7- (8-gH (E.getD (off+cs-1) 0).toNat),ob,bc,sp) ⟨aq,h,(bP _),J,MQ,hk⟩ ?_;rintro⟨i,lf,o,bi,cn,bI,ja,bJ⟩ ρ w ⟨⟨mC,rfl⟩,h,hi,jh,lh,eF⟩;refine V 7 ?_;refine an J ?_ ?_<;>intro aeq
 refine(ahD lJ wY eM avX hV (i:=i) I).elim λJI eK=>?_;refine eK.elim λnx fL=>?_;refine fL.elim λidx gE=>?_;obtain⟨BI,oV,MG,Z0,Z1,hd6,hd7⟩:=gE;clear eK fL;have avY:=lJ.bm idx;rw[BS]at avY;have avZ:JI=lf:=(by have:=jh;omega);rw[avZ]at oV Z0 Z1 hd7;rw[BS]at oV MG;have Mb:=JH idx;have jv:=Na Mb;have aHi:=GG Mb;have GA:=lh.left;have Nf:=lh.st;have ahN:=lh.le;have hBc:=lh.uq;refine V 8 ?_;refine b_ J J J (aA (Mu h (hX.sub aJ) lh.le hE I (b:=b) I lh.uq lh.Z7) ?_);rintro e w1 ⟨ok,o1,iD,eO,rfl,h,hoo,nV,jJ,fX,Jr,pG⟩;refine ah (j8 J) (aC (eA J ?_ ?_))<;>intro FN
 exfalso;cases ok with|true=>exact absurd FN aj|false=>have:=Jr J;omega
 have JJ:ok=true:=(by cases ok with|true=>rfl|false=>exact absurd FN aj);have fB:=fX JJ;have jn:=pG Nf;have RQ:eO<=32:=I;have av0:=jJ.1;have BQ:iD/2^(eO-b) % 2^b=idx:=(by rw[jJ.val fB.1 RQ,oV];congr 1;omega);have Z2:(List.map dk m)[idx]? =some (dk (m8 t idx)):=(by rw[D5 I,Eh _ MG]);refine V 12 ?_;refine ah (iz J J fB.1 az) ?_;refine V 2 ?_;refine ah (jO (n:=b) J J (aI (j6 _ _) az) az) ?_;refine V 6 ?_;refine ah (js J J J (by rw[BQ];omega)) ?_;refine aO h J (by rw[BQ];exact Z2) ?_;refine V 7 ?_;refine ah (ux (eB (a:=m8 t idx/2^8) J az) (M' (JH idx))) (kX J (kB _) h ?_);intro bz w h;refine kW (List.map u8 ((fi (num (aa E off cs)) t fK i).2)) bJ [u8 (UInt8.ofNat (t.syms.getD idx 0))] h 2 J J J eF (Src.slice (j:=0) (q2:=0) J ⟨J,trivial⟩ J) (by intro x hx;simp at hx;subst hx;rfl) I aj J ?_;intro w dy c9 dL h df fG eG;dsimp only[List.set]at h;have av1:(fi (num (aa E off cs)) t fK i).2++[UInt8.ofNat (t.syms.getD idx 0)]=(fi (num (aa E off cs)) t fK (i+1)).2:=(by rw[hd6]);rw[ahu,av1]at h df;have yh:bG dy (i+1) c9 (List.map u8 ((fi (num (aa E off cs)) t fK (i+1)).2)) dL 1:=⟨by rw[bX,A9,eC],df,fG,eG⟩;replace h:=h.tail;(try dsimp only[dB]at h);refine V 6 ?_;refine ah (jO (n:=8) J J az aj) ?_;refine ah (eB J (by rw[GG (JH idx)];simp only[aG];omega)) ?_;refine ah (iz J J (by rw[GG (JH idx)];omega) az) ?_;refine pe J (b7 ?_);intro w h;refine V 6 ?_;exact⟨aH 41,(i+1,nx,o1,iD,eO-m8 t idx % 2^8,dy,c9,dL),cw,aq,h,I,(by rw[hd6]),⟨by have:=lh.st;omega,by have:=lh.le;omega,I,oT.less jJ (vV _ _),by have:=lh.left;have:=lh.st;omega⟩,yh⟩
 have p_:i=many:=I;have lK:=eF;rw[p_]at lK h;have RS:((fi (num (aa E off cs)) t fK many).2).length=many:=A9 _ _ _ _;refine V 8 ?_;replace h:=h.tail;(try dsimp only[dB]at h);rw[p_];exact⟨_,(fi (num (aa E off cs)) t fK many).2,bI,ja,bJ,_,J,h,(by rw[RS];exact lK),(λ_=>⟨J,iJ J RS.symm J,gp⟩),(λe=>absurd (by rw[gp]) e)⟩
variable {f:FuncId}
section
variable {n:Nat}{K:gw}{ρ:Env}{w:World}{all:Array Oper}{d:Option Nat}{ty:TypeId}{pos:String}{aN:Array Edge}{ts:Array TypeId}{x y z x0:Operand}{v0 c0 c1 c2:Value}{rest:List Oper}
theorem av2(h0:Env.ev ρ x=c0)(W:Env.ev ρ y=c1)(h2:Env.ev ρ z=c2):run PP ρ (.makeFunc (.func f) #[] #[x,y,z]) ty w= .ok (.value (.func (.func f) #[] #[c0,c1,c2])) w:=by
 simp[run,execOp,Instr.makeFunc,h0,W,h2]
theorem av3[hb:Body PP f](hy:Env.ev ρ y= .func (.func f) #[] #[c0,c1,c2])(h0:Env.ev ρ x0=v0):run PP ρ (.call {callee:= .value y,args:= #[x0],argTypes:=ts}) ty w= .ok (.enter f #[v0,c0,c1,c2]) w:=by
 have h:=hb.run #[v0,c0,c1,c2] w;simp[run,execOp,resolve,invoke,Deferred.ofValue,hy,h0,h]
theorem RT[Body PP f] (hy:Env.ev ρ y= .func (.func f) #[] #[c0,c1,c2]) (h0:Env.ev ρ x0=v0) (hd:aV n d=true)
 (h:Calls PP f #[v0,c0,c1,c2] w λe w'=> ∃v,e= .returned v/\O PP n all rest K (Env.put ρ d v) w'):
 O PP n all ({dst:=d,op:= .call {callee:= .value y,args:= #[x0],argTypes:=ts},type:=ty,pos:=pos,after:=aN,guard:=none}::rest) K ρ w:=K_ (av3 hy h0) hd h
end
end Go.Z
namespace Go.Z
open Go
variable {zs:List Value}{eD size:Nat}{T2:TypeId}
section
variable {P:Program}{n:Nat}{K:gw}{ρ:Env}{all:Array Oper}{rest:List Oper}{d:Option Nat}{ty:TypeId}{pos:String}{aN:Array Edge}
variable {r:dQ}{w:World}{L:List aD}{x y z:Operand}{b q i:Nat}{l:List Value}{T T':TypeId}{v:Value}
theorem RU{m:Nat}{v:Value}(h:v∈dj zs m)(h0:0<zs.length):v∈zs:=by
 unfold dj at h;obtain⟨j,hj,e⟩:=jd.1 h;have hm:=dH j h0;rw[gv hm]at e;subst e;exact za hm
theorem ahO[hu:bO P T (.slice T')] [hs:Sz P T' size] [hz:Zr P T' zs] [hb:By P T' eD] [j_:bO P T2 (.int .i64)](rD:zs.length=size){ob:Option Nat}{xs sp:List Value}{nn c m:Nat}(h:H r w L)(hi:L[i]? =some (ob,C (xs++sp) T'))(eK:xs.length=nn*size)(fL:(xs++sp).length=c*size)(uZ:nn<=c)(uU:ob=none->c=0)(ia:0<size)(Z3: ∀v∈zs,plain v=true)(eT:(2*(nn+m)+1000)*eD<=281474976710656)(We:nn+m<=281474976710656): ∃w' bH c' dm,(Builtin.append_ #[T,T2] ty #[.slice (aB ob) nn c,R m]).run P w= .ok (.slice (aB bH) (nn+m) c') w'/\H r w' (L.set i (bH,C (xs++dj zs m++dm) T'))/\(xs++dj zs m++dm).length=c'*size/\nn+m<=c'/\(bH=none->c'=0):=by
 obtain⟨t,t1,t2⟩:=hb.bytes w;have e2:=hs.size w;have fF: ∀v∈dj zs m,plain v=true:=λv hv=>Z3 v (RU hv I);have W:(dj zs m).length=m*size:=(by rw[CU,rD]);have nT:i<L.length:=(sf.1 hi).1;have nr:IntKind.i64.wrap ((m:Nat):Int)=(m:Int):=th .i64 m az;have pA: ¬((281474976710656:Int)<(m:Int)*(eD:Int)):=(by have h3:m*eD<=(2*(nn+m)+1000)*eD:=sj eD I;have h4:((m*eD:Nat):Int)=(m:Int)*(eD:Int):=(by simp);omega);have nt: ¬((m:Int)<0):=I
 have su: ∀w':World,(if m*size=0 then(pure #[]:Sem (Array Value))else do pure (Builtin.zeroCells (<-zeroValue T').cells m)).run P w'= .ok (dj zs m).toArray w':=by
  intro w';obtain⟨zv,z1,z2⟩:=hz.zero w';by_cases fk:m*size=0
  rw[ai fk];have:dj zs m=[]:=kq.1 (by rw[W,fk]);rw[this];simp
  rw[ag fk];have sE:(Builtin.zeroCells zv.cells m)=⟨dj zs m⟩:=(by rw[z2];apply EX.1;simp[Builtin.zeroCells,dj,CC,se]);simp[z1,sE]
 by_cases jD:nn+m<=c
 have hle:nn*size+(dj zs m).length<=(xs++sp).length:=(by have:(nn+m)*size<=c*size:=sj _ jD;rw[qH]at this;omega)
 cases ob with
 | none=>
   have hc:=uU J
   subst hc
   obtain rfl:nn=0:=I
   obtain rfl:m=0:=I
   have hy:dj zs 0=[]:=kq.1 (by rw[W];omega)
   refine⟨w,none,0,sp,?_,?_,by rw[hy];simpa using fL,aR _,λ_=>rfl⟩
   . simp[Builtin.append_,underlying,program,Sem.run,hu.eq,j_.eq,e2,t1,t2,asInt,asIntOf,aB,show IntKind.i64.wrap 0=0 from J]
   . rw[hy,dP,Ip hi];exact h
 | some b=>
   obtain⟨w',s1,s2,_,_⟩:=CS (P:=P) (dj zs m) w L (xs++sp) (nn*size) 0 h hi fF I
   refine⟨w',some b,c,sp.drop (dj zs m).length,?_,?_,?_,jD,λe=>by cases e⟩
   . have:=su w
     simp[Builtin.append_,underlying,program,Sem.run,hu.eq,j_.eq,e2,jD,t1,t2,asInt,asIntOf,nr,nt,pA,aB,add_plain]
     by_cases fk:m*size=0
     . have hy:dj zs m=[]:=kq.1 (by rw[W];exact fk)
       rw[hy]at s1
       simp[fk,s1]
     . have jE: ¬(m*size=0):=fk
       rw[ag jE]at this
       simp at this
       obtain⟨zv,z1,z2⟩:=hz.zero w
       simp[z1]at this
       simp[fk,z1,this,s1]
   . have e5:cT (xs++sp) (nn*size+0) (dj zs m)=xs++dj zs m++sp.drop (dj zs m).length:=by
       rw[kU,AQ _ _ _ hle,<-eK]
       simp[EY]
     rw[e5]at s2;exact s2
   . simp only[aF,bV]at fL hle ⊢;omega
 have jt:c<nn+m:=I;have AR: ¬((281474976710656:Nat)<Builtin.nextslicecap (nn+m) c*eD):=(by have:=sj eD (PA jt);omega);have Fb: ¬((9223372036854775807:Int)<(nn:Int)+(m:Int)):=I;obtain⟨w1,mU⟩: ∃w1:World,w1=w.drew:=⟨_,J⟩;have h':H r w1 L:=(by rw[mU];exact h.drew);have xP:=su w1;obtain⟨zv,z1,z2⟩:=hz.zero w1;obtain⟨t',AS,AT⟩:=hb.bytes w1;obtain⟨iZ,xQ⟩: ∃iZ,iZ=(Question.appendCap (nn+m) c T').cut (w.tape w.drawn (Question.appendCap (nn+m) c T')):=⟨_,J⟩;have np:nn+m<=iZ:=(by rw[xQ];exact PB _ _ _ _);have oI: ∀k,(askRoom k).run P w1= .ok () w1:=λk=>(by unfold askRoom;split<;>simp[mark,Sem.run])
 have hold:(Builtin.firstCells size nn (.slice (aB ob) nn c)).run P w1= .ok xs.toArray w1:=by
  cases ob with
  | none=>
    have hc:=uU J
    have : xs = [] := kq.1 (by rw[eK]; have:nn=0:=I; subst this;simp)
    subst this;simp[Builtin.firstCells,aB]
  | some b=>
    simp only[Builtin.firstCells,aB]
    refine CR h' hi ?_ eK
    exact Rd.of λj hj=>by rw[im,ir hj]
 have sE:(Builtin.zeroCells zv.cells (iZ- (nn+m)))=⟨dj zs (iZ- (nn+m))⟩:=(by rw[z2];apply EX.1;simp[Builtin.zeroCells,dj,CC,se]);have Fc:(Question.appendCap (nn+m) c T').forced=false:=rfl;refine⟨w1.alloc (C (xs++dj zs m++dj zs (iZ- (nn+m))) T'),some w1.heap.size,iZ,dj zs (iZ- (nn+m)),?_,(h'.alloc _).replace nT,?_,np,λe=>by cases e⟩
 simp[Builtin.append_,underlying,program,Sem.run,hu.eq,j_.eq,e2,jD,t1,t2,asInt,asIntOf,nr,nt,pA,AR,Fb,choose,Fc];simp only[<-xQ,show({w with drawn:=w.drawn+1}:World)=w1 from mU.symm,show w.drew=w1 from mU.symm];by_cases fk:m*size=0
 have hy:dj zs m=[]:=kq.1 (by rw[W];exact fk);simp[C,AS,AT,oI,hold,fk,z1,sE,hy,newRow,newObj,Sem.run,show aB (some w1.heap.size)=some ⟨w1.heap.size,0,none⟩from J]
 have jE: ¬(m*size=0):=fk;rw[ag jE]at xP;simp[z1]at xP;simp[C,AS,AT,oI,hold,fk,z1,xP,sE,newRow,newObj,Sem.run,show aB (some w1.heap.size)=some ⟨w1.heap.size,0,none⟩from J]
 rw[aF,aF,W,CU,rD,eK,<-qH,<-qH];congr 1;omega
theorem ahP[hu:bO P T (.slice T')] [hs:Sz P T' size] [hz:Zr P T' zs] [hb:By P T' eD] [j_:bO P T2 (.int .i64)]{ob:Option Nat}{nn c m:Nat}(xs sp:List Value)(h:H r w L)(i:Nat)(hx:Env.ev ρ x= .slice (aB ob) nn c)(hy:Env.ev ρ y=R m)(hi:L[i]? =some (ob,C (xs++sp) T'))(hlen:xs.length=nn*size/\(xs++sp).length=c*size/\nn<=c/\(ob=none->c=0))(fF: ∀v∈zs,plain v=true)(eT:(2*(nn+m)+1000)*eD<=281474976710656/\nn+m<=281474976710656)(ly:zs.length=size/\0<size)(hd:aV n d=true)(hk: ∀w' bH c' dm,H r w' (L.set i (bH,C (xs++dj zs m++dm) T'))->(xs++dj zs m++dm).length=c'*size->nn+m<=c'->(bH=none->c'=0)->O P n all rest K (Env.put ρ d (.slice (aB bH) (nn+m) c')) w'):O P n all ({dst:=d,op:= .call {callee:= .builtin .append,args:= #[x,y],argTypes:= #[T,T2]},type:=ty,pos:=pos,after:=aN,guard:=none}::rest) K ρ w:=by
 obtain⟨w',bH,c',dm,W,h2,h3,h4,h5⟩:=ahO (P:=P) (ty:=ty) (T:=T) (T2:=T2) ly.1 h hi hlen.1 hlen.2.1 hlen.2.2.1 hlen.2.2.2 ly.2 fF eT.1 eT.2;exact gf (CV hx hy W) hd (hk w' bH c' dm h2 h3 h4 h5)
end
theorem bZ{P:Program}{ρ:Env}{op:Op}{ty:TypeId}{w w':World}{k:IntKind}{a b:Nat}(h:run P ρ op ty w= .ok (.value (.int k ((a:Nat):Int))) w')(e:a=b):run P ρ op ty w= .ok (.value (.int k ((b:Nat):Int))) w':=by rw[h,e]
end Go.Z
namespace Go.Z
open Go Go.Proofs
variable {E X:List UInt8}{i many n size:Nat}{t:Tr}{y:UInt8}
theorem RV{S:List UInt8}{pos:Nat}(hi:i<4)(W:(fP S t many i).1=1)(h4:(fP S t many 4).1≠0)(hp:(fP S t many i).2.2=pos)(hn:(if i=3 then many-3*((many+3)/4)else(many+3)/4)=n)(hs:(if i=3 then S.length-pos else num (aa S (2*i) 2))=size):(S.length-pos<size->(fP S t many 4).1≠1)/\(size<=S.length-pos->n≠0/\(gz (aa S pos size) t n).1≠0/\((gz (aa S pos size) t n).1≠1->(fP S t many 4).1≠1)/\((gz (aa S pos size) t n).1=1->fP S t many (i+1)=(1,(fP S t many i).2.1++(gz (aa S pos size) t n).2,pos+size))):=by
 have e:fP S t many (i+1)=if S.length-pos<size then(2,[],0)else if n=0 then(0,[],0)else
     if(gz (aa S pos size) t n).1≠1 then((gz (aa S pos size) t n).1,[],0)else(1,(fP S t many i).2.1++(gz (aa S pos size) t n).2,pos+size):=by
   rw[fP];dsimp only
   rw[ag I,hp,hn,hs]
 have dd:(fP S t many (i+1)).1≠1->(fP S t many 4).1=(fP S t many (i+1)).1:=λhh=>(by rw[LY hh I]);refine⟨λcP=>?_,λnp=>?_⟩
 rw[ai cP]at e;rw[dd (by rw[e];show(2:Nat)≠1;decide),e];show(2:Nat)≠1;decide
 rw[ag I]at e;by_cases h0:n=0
 rw[ai h0]at e;exact absurd (by rw[dd (by rw[e];show(0:Nat)≠1;decide),e]) h4
 rw[ag h0]at e;refine⟨h0,?_,?_,?_⟩
 intro hd;rw[ai I]at e;exact h4 (by rw[dd (by rw[e];show(gz (aa S pos size) t n).1≠1;omega),e];exact hd)
 intro hd;rw[ai hd]at e;rw[dd (by rw[e];exact hd),e];exact hd
 intro hd;rw[ag I]at e;exact e
theorem RW{off T pos O:Nat}{outs:List UInt8}(hT:off+T<=E.length)(hO:O=off+pos)(RX:2<=O)(p8:pos+size<=T)(hi:i<4)(W:fP (aa E off T) t many i=(1,outs,pos))(h4:(fP (aa E off T) t many 4).1≠0)(hn:(if i=3 then many-3*((many+3)/4)else(many+3)/4)=n)(hs:(if i=3 then T-pos else num (aa (aa E off T) (2*i) 2))=size):1<=n/\1<=size/\((E.getD (O+size-1) 0).toNat=0->(fP (aa E off T) t many 4).1≠1)/\((E.getD (O+size-1) 0).toNat≠0-> ∃lf X,iV (aa E O size)=some lf/\lf<=8*size/\Bs E (O-2) (O+size-1) (E.getD (O+size-1) 0).toNat (7- (8-gH (E.getD (O+size-1) 0).toNat)) (lf+16)/\(gz (aa E O size) t n).1≠0/\X=(fi (num (aa E O size)) t lf n).2/\X.length=n/\fP (aa E off T) t many (i+1)=(1,outs++X,pos+size)):=by
 have hl:(aa E off T).length=T:=dx hT;have hx:=(RV (pos:=pos) (n:=n) (size:=size) hi (by rw[W]) h4 (by rw[W]) hn (by rw[hl];exact hs)).2 (by rw[hl];omega);rw[W,iL p8,<-hO]at hx;obtain⟨a1,a2,a3,a4⟩:=hx;have a8:(aa E O size).length=size:=dx I;have eZ:1<=size:=(by have:=ahK a2;omega);refine⟨I,eZ,λhz=>a3 (ahL (ZX eZ I hz)),λqu=>?_⟩;have hb:=ZY (off:=O) eZ I qu;have hB:=Bs.start eZ RX I qu;have Ib:= @kj (E.getD (O+size-1) 0).toNat 8 (by have:=toNat_le (E.getD (O+size-1) 0);omega);have hd:=ahM hb a2;exact⟨_,_,hb,I,hB,a2,J,A9 _ _ _ _,by rw[a4 (by rw[hd]),hd]⟩
def GH(E:List UInt8)(t:Tr)(O size fK i o bi cn lf:Nat):Prop:=(fi (num (aa E O size)) t fK i).1=(lf:Int)/\Bs E (O-2) o bi cn (lf+16)
def pz(X:List UInt8)(i:Nat):List UInt8:=X.take i++List.replicate (X.length-i) 0
theorem Ei(X:List UInt8)(i:Nat):(pz X i).length=X.length:=by unfold pz;rw[aF,gk,dR];omega
theorem av4(X:List UInt8):pz X 0=List.replicate X.length 0:=by unfold pz;simp
theorem RY(h:X.length<=i):pz X i=X:=by unfold pz;rw[jf h,Nat.sub_eq_zero_of_le h];simp
theorem av5(h:i<X.length):(pz X i).set i (X.getD i 0)=pz X (i+1):=by
 unfold pz;have hl:(X.take i).length=i:=(by rw[gk];omega);rw[HT _ _ I,hl,AE,oK X 0 i h];obtain⟨c,hc⟩: ∃c,X.length-i=c+1:=⟨X.length-i-1,I⟩;rw[hc,HW,List.set_cons_zero,cF,show X.length- (i+1)=c by omega];rfl
theorem RZ{A B:List UInt8}{sp:List Value}{q:Nat}(hq:q=A.length+i)(h:i<X.length)(hy:X.getD i 0=y):(List.map u8 (A++(pz X i++B))++sp).set q (u8 y)=List.map u8 (A++(pz X (i+1)++B))++sp:=by
 subst hy;have fF:=Ei X i;rw[KY _ _ (by rw[bX,aF,aF];omega),<-jM,hq,HT _ _ I,uO,KY _ _ I,av5 h]
def four(X1 X2 X3 X4:List UInt8)(a b c d:Nat):List UInt8:=pz X1 a++(pz X2 b++(pz X3 c++pz X4 d))
theorem R0(X1 X2 X3 X4:List UInt8)(a b c d:Nat):(four X1 X2 X3 X4 a b c d).length=X1.length+(X2.length+(X3.length+X4.length)):=by
 unfold four;simp only[aF,Ei]
section
variable {X1 X2 X3 X4:List UInt8}{a b c d q:Nat}{sp:List Value}{y:UInt8}
theorem av6(hq:q=a)(h:a<X1.length)(hy:X1.getD a 0=y):(List.map u8 (four X1 X2 X3 X4 a b c d)++sp).set q (u8 y)=List.map u8 (four X1 X2 X3 X4 (a+1) b c d)++sp:=by
 have:=RZ (A:=[]) (B:=pz X2 b++(pz X3 c++pz X4 d)) (sp:=sp) (q:=q) (by simpa using hq) h hy;exact this
theorem av7(hq:q=X1.length+b)(h:b<X2.length)(hy:X2.getD b 0=y):(List.map u8 (four X1 X2 X3 X4 a b c d)++sp).set q (u8 y)=List.map u8 (four X1 X2 X3 X4 a (b+1) c d)++sp:=
 RZ (A:=pz X1 a) (B:=pz X3 c++pz X4 d) (by rw[Ei];exact hq) h hy
theorem av8(hq:q=X1.length+X2.length+c)(h:c<X3.length)(hy:X3.getD c 0=y):(List.map u8 (four X1 X2 X3 X4 a b c d)++sp).set q (u8 y)=List.map u8 (four X1 X2 X3 X4 a b (c+1) d)++sp:=by
 have:=RZ (A:=pz X1 a++pz X2 b) (B:=pz X4 d) (sp:=sp) (q:=q) (by rw[aF,Ei,Ei];exact hq) h hy;rw[cF,cF]at this;exact this
theorem av9(hq:q=X1.length+X2.length+X3.length+d)(h:d<X4.length)(hy:X4.getD d 0=y):(List.map u8 (four X1 X2 X3 X4 a b c d)++sp).set q (u8 y)=List.map u8 (four X1 X2 X3 X4 a b c (d+1))++sp:=by
 have:=RZ (A:=pz X1 a++pz X2 b++pz X3 c) (B:=[]) (sp:=sp) (q:=q) (by rw[aF,aF,Ei,Ei,Ei];exact hq) h hy;rw[dP,dP,cF,cF,cF,cF]at this;exact this
theorem ahQ:four X1 X2 X3 X4 0 0 0 0=List.replicate (X1.length+(X2.length+(X3.length+X4.length))) 0:=by
 unfold four;simp only[av4,HX]
theorem av_(W:X1.length<=a)(h2:X2.length<=b)(h3:X3.length<=c)(h4:X4.length<=d):four X1 X2 X3 X4 a b c d=X1++(X2++(X3++X4)):=by
 unfold four;rw[RY W,RY h2,RY h3,RY h4]
end
theorem ahR{N l:Nat}{t:Tr}: ∀k i,∃Z,(fi N t l (i+k)).2=(fi N t l i).2++Z
 |0,i=>⟨[],by simp⟩
 |k+1,i=>by obtain⟨Z,hZ⟩:=ahR (N:=N) (l:=l) (t:=t) k i;rw[<-gQ,fi];exact⟨Z++[_],by dsimp only;rw[hZ,cF]⟩
theorem av'{N l:Nat}{a:Int}(h:i<n)(e:fi N t l (i+1)=(a,(fi N t l i).2++[y])):(fi N t l n).2.getD i 0=y:=by
 obtain⟨Z,hZ⟩:=ahR (N:=N) (l:=l) (t:=t) (n- (i+1)) (i+1);rw[show i+1+(n- (i+1))=n by omega,e]at hZ;rw[hZ];have hl:=A9 N t l i;simp only[bS];rw[ir (by simp[hl]),nN I,hl];simp
theorem R4{O fK o bi cn lf b:Nat}(ht:BP t)(hb:t.ak=b)(hO:2<=O)(eM:iV (aa E O size)=some fK)(p9:fK<=8*size)(hV:(gz (aa E O size) t many).1≠0)(hi:i<many)(hS:GH E t O size fK i o bi cn lf): ∃idx,idx=dt (num E) (8*O+lf-b) b/\idx<2^b/\t.bits.getD idx 0<=lf/\t.bits.getD idx 0<=b/\t.bits.getD idx 0<=11/\(fi (num (aa E O size)) t fK many).2.getD i 0=UInt8.ofNat (t.syms.getD idx 0)/\ ∀o' ql jl,Bs E (O-2) o' ql jl (lf+16)->t.bits.getD idx 0<=jl->GH E t O size fK (i+1) o' ql (jl-t.bits.getD idx 0) (lf-t.bits.getD idx 0):=by
 obtain⟨JI,nx,idx,W,h2,h3,h4,h5,h6,h7⟩:=ahD ht hO eM p9 hV hi;have he:JI=lf:=(by have:=hS.1;omega);subst he;rw[hb]at h2 h3;refine⟨idx,h2,h3,h4,by rw[<-hb];exact ht.bm idx,ht.ok.le idx,av' hi h6,λo' ql jl hB hc=>⟨by rw[h6,h5],?_⟩⟩;exact⟨hB.st,hB.le,by have:=hB.uq;omega,hB.Z7.less (vV _ _),by have:=hB.left;omega⟩
variable {br dc:Nat}{ad:Option Addr}{p:Prop}{r:dQ}{w:World}
theorem awa{S:List UInt8}(h:(gZ S t many true).1≠0):6<=many/\(S.length<6->(gZ S t many true).1=2)/\(6<=S.length->gZ S t many true=((fP S t many 4).1,(fP S t many 4).2.1)):=by
 unfold gZ at*;rw[ag aj]at h ⊢;by_cases h6:many<6
 rw[ai h6]at h;exact absurd J h
 rw[ag h6]at h ⊢;refine⟨I,λhs=>by rw[ai hs],λhs=>by rw[ag I]⟩
theorem R5{F:List aD}{rb kb km kt tb O o bi cn lf b idx v hN hC:Nat}{m:List Nat}(h:H r w ((af rb [aW br,.slice ad E.length dc,aZ o,aZ (O-2),aZ bi,aZ cn] 207)::F))(hKb:(af kb [da b] 51)∈F)(hKm:(af km [da (2^b-1)] 51)∈F)(hKt:(af kt [cf tb hN hC] 68)∈F)(hm:(af tb (List.map dk m) 174)∈F)(tS:hN<=m.length)(Eg:2^b<=hN)(hX:aP F (.slice ad E.length dc) E)(hE:E.length<=268435456)(hb:b<=11)(hO:2<=O)(hB:Bs E (O-2) o bi cn (lf+16))(BQ:idx=dt (num E) (8*O+lf-b) b)(nX:idx<2^b)(hv:m.getD idx 0=v):Calls PP 119 #[aW rb,aW kb,aW km,aW kt] w λe w'=> ∃o' ql jl,e= .returned (.tuple #[dk v,.nilIface])/\H r w' ((af rb [aW br,.slice ad E.length dc,aZ o',aZ (O-2),aZ ql,aZ jl] 207)::F)/\Bs E (O-2) o' ql jl (lf+16)/\b<=jl:=by
 obtain⟨i1,n7⟩:=cX hKb;obtain⟨i2,vA⟩:=cX hKm;obtain⟨i3,yr⟩:=cX hKt;obtain⟨i4,hi4⟩:=cX hm;have nz:=ep b;have Nd:2^b<=2048:=aI (dp aj hb) aj;have GA:=hB.left;have Nf:=hB.st;have ahN:=hB.le;have hBc:=hB.uq;refine wj Tryz.func119 Tryz.ntmps119 [5,6] ?_;refine V 11 ?_;refine b_ J J J (aA (Mu h hX hB.le hE I (b:=b) I hB.uq hB.Z7) ?_);rintro e w1 ⟨ok,o1,iD,eO,rfl,h,hoo,nV,jJ,fX,Jr,pG⟩;refine ah (j8 J) (aC (eA J ?_ ?_))<;>intro zS
 exfalso;cases ok with|true=>exact absurd zS aj|false=>have:=Jr J;omega
 have JJ:ok=true:=(by cases ok with|true=>rfl|false=>exact absurd zS aj);have fB:=fX JJ;have jn:=pG Nf;have RQ:eO<=32:=I;have av0:=jJ.1;have ahS:iD/2^(eO-b) % 2^b=idx:=(by rw[jJ.val fB.1 RQ,BQ];congr 1;omega);have Z2:(List.map dk m)[idx]? =some (dk v):=(by rw[D5 I,hv]);refine aQ (a9 (bL h [0,4,8,16,20,24,13,29,33,36,40,45,48,52] ?_));intro w h;refine av 9 ?_;refine aw J (iz J J fB.1 az) ?_;refine av 2 ?_;refine aw J (jO (n:=b) J J (aI (j6 _ _) az) az) (eY J (cm ?_));refine V 4 ?_;refine ah (js J J J (by rw[ahS];omega)) ?_;refine aO h J (by rw[ahS];exact Z2) ?_;refine V 4 ?_;exact⟨o1,iD,eO,J,h,⟨jn,I,RQ,jJ,I⟩,fB.1⟩
theorem ahT(h:p:=by rintro e w1 ⟨be,rfl,h⟩;refine V 4 ?_;exact⟨_,[],ob,bc,sp,_,J,h,hk,(λe=>absurd e bY),(λ_=>Exists.intro be J)⟩):p:=h
theorem ahU(h:p:=by refine V 4 ?_;refine b_ J J J (aA (tX h (ar (hR)) (hG.sub aJ)) ?_);exact ahT):p:=h
theorem awb{L:List aD}{off T bc:Nat}{x:cQ}{aE aU:Addr}{ob:Option Nat}{sp:List Value}(h:H r w ((ob,C (List.map u8 ([])++sp) 5)::L))(hR:(af br (au x) 81)∈L)(hG:Gl L aE aU)(hX:aP L (.slice ad E.length dc) E)(hE:E.length<=268435456)(hk:bG ob 0 bc [] sp 1)(hT:HuT L x t)(ht:BP t)(wY:1<=off)(ig:off+T<=E.length)(Dz:many<=131072)(hV:(gZ (aa E off T) t many true).1≠0):Calls PP 111 #[.pointer (some ⟨br,0,none⟩),.slice ad E.length dc,R off,R T,R many,.slice (aB ob) 0 bc] w λe w'=> ∃er cO bH lR dm v',e= .returned (.tuple #[v',er])/\H r w' ((bH,C (List.map u8 (cO)++dm) 5)::L)/\bG bH cO.length lR (cO.map u8) dm 1/\((gZ (aa E off T) t many true).1=1->er= .nilIface/\v'= .slice (aB bH) cO.length lR/\gZ (aa E off T) t many true=(1,cO))/\((gZ (aa E off T) t many true).1≠1-> ∃be,er= .iface 182 (.pointer (some ⟨be,0,none⟩))):=by
 have a8:(aa E off T).length=T:=dx ig;obtain⟨hm6,Z4,hF4⟩:=awa hV;rw[a8]at Z4 hF4;obtain⟨tb,m,hA,hm,tS,Eg,Eh,pA⟩:=hT;have lJ:=ht;have BR:=ht.ok.ak;have Nb:(au x)[13]? =some (R t.ak):=(by rw[<-pA];rfl);have Nc:(au x)[12]? =some (.slice (some ⟨tb,0,none⟩) x.hN x.hC):=(by rw[<-hA];rfl);have nz:=ep t.ak;have Nd:2^t.ak<=2048:=aI (dp aj BR) aj;obtain⟨b,BS⟩: ∃b,t.ak=b:=⟨_,J⟩;rw[BS]at BR Nb Eg Eh nz Nd;obtain⟨iR,Bz⟩:=cX hR;have j1:E.length<=dc:=Gv hX;obtain⟨n,hn⟩: ∃n,(many+3)/4=n:=⟨_,J⟩;obtain⟨n4,QI⟩: ∃n4,many-3*n=n4:=⟨_,J⟩;obtain⟨s1,eZ⟩: ∃s1,num (aa E off 2)=s1:=⟨_,J⟩;obtain⟨s2,fH⟩: ∃s2,num (aa E (off+2) 2)=s2:=⟨_,J⟩;obtain⟨s3,i_⟩: ∃s3,num (aa E (off+4) 2)=s3:=⟨_,J⟩;have eL:s1<2^16:=(by rw[<-eZ];exact ph);have fh:s2<2^16:=(by rw[<-fH];exact ph);have rG:s3<2^16:=(by rw[<-i_];exact ph);refine qN (P:=PP) Tryz.func111 318 Tryz.ntmps111 [12,13] J J (args:=[_,_,_,_,_,_]) J ?_;refine V 14 ?_;refine an J ?_ ?_<;>intro GI
 have bY:(gZ (aa E off T) t many true).1≠1:=(by rw[Z4 I];decide);exact ahU
 refine V 7 ?_;refine an J ?_ ?_<;>intro rL
 have bY:(gZ (aa E off T) t many true).1≠1:=(by rw[Z4 I];decide);refine V 4 ?_;refine ee J J J J (aA (qk h (ar (hR)) (hG.sub aJ)) ?_);exact ahT
 have GJ:=hF4 I;have hT6:6<=T:=I;have GK:(fP (aa E off T) t many 4).1≠0:=(by rw[GJ]at hV;exact hV);have gX:2<=n/\n*3<=many/\many<=4*n:=I;refine V 5 ?_;refine ah (bZ (mT (b:=4) (h2:=ao.lit _) J J aj az) hn) ?_;refine V 10 ?_;refine an J ?_ ?_<;>intro IL
 exfalso;omega
 refine V 5 ?_;refine ah (iY J J I j1) (dJ J J ((QR h ((aP.drop hX (m:=off) I).sub aJ) (by rw[bV];omega)).mono ?_));rintro e w1 ⟨rfl,h⟩;refine⟨dk s1,(by rw[<-eZ];rfl),?_⟩;refine V 7 ?_;refine ah (iY J J I j1) (dJ J J ((QR h ((aP.drop hX (m:=(off+2)) I).sub aJ) (by rw[bV];omega)).mono ?_));rintro e w1 ⟨rfl,h⟩;refine⟨dk s2,(by rw[<-fH];rfl),?_⟩;refine V 7 ?_;refine ah (iY J J I j1) (dJ J J ((QR h ((aP.drop hX (m:=(off+4)) I).sub aJ) (by rw[bV];omega)).mono ?_));rintro e w1 ⟨rfl,h⟩;refine⟨dk s3,(by rw[<-i_];rfl),?_⟩;refine V 29 ?_;refine an J ?_ ?_<;>intro QB
 have bY:(gZ (aa E off T) t many true).1≠1:=by
  rw[GJ];have q0:fP (aa E off T) t many 0=(1,[],6):=rfl;have a0:=RV (S:=(aa E off T)) (t:=t) (many:=many) (i:=0) (pos:=6) (n:=n) (size:=s1) aj J GK J (by rw[ag aj];exact hn) (by rw[ag aj,iL I];exact eZ);rw[a8]at a0;by_cases c0:T-6<s1
  exact a0.1 c0
  by_cases d0:(gz (aa (aa E off T) 6 s1) t n).1=1
  have e0:=(a0.2 I).2.2.2 d0;have a1:=RV (S:=(aa E off T)) (t:=t) (many:=many) (i:=1) (pos:=6+s1) (n:=n) (size:=s2) aj (by rw[e0]) GK (by rw[e0]) (by rw[ag aj];exact hn) (by rw[ag aj,iL I];exact fH);rw[a8]at a1;by_cases c1:T- (6+s1)<s2
  exact a1.1 c1
  by_cases d1:(gz (aa (aa E off T) (6+s1) s2) t n).1=1
  have e1:=(a1.2 I).2.2.2 d1;have a2:=RV (S:=(aa E off T)) (t:=t) (many:=many) (i:=2) (pos:=6+s1+s2) (n:=n) (size:=s3) aj (by rw[e1]) GK (by rw[e1]) (by rw[ag aj];exact hn) (by rw[ag aj,iL I];exact i_);rw[a8]at a2;exact a2.1 I
  exact(a1.2 I).2.2.1 d1
  exact(a0.2 I).2.2.1 d0
 exact ahU
 have aHj:s1+s2+s3<=T-6:=I;refine cg (T-6- (s1+s2+s3)) λs4 Dv=>(cg (off+6) λO1 pJ=>(cg (O1+s1) λO2 RX=>(cg (O2+s2) λO3 Z5=>(cg (O3+s3) λO4 hO4=>?_))));have hO5:O4+s4=off+T:=I;have jF:=RW (E:=E) (t:=t) (off:=off) (T:=T) (many:=many) (i:=0) (pos:=6) (n:=n) (size:=s1) (O:=O1) (outs:=[]) ig I I I aj J GK (by rw[ag aj];exact hn) (by rw[ag aj,iL I];exact eZ);have aHk:=jF.2.1;refine V 8 ?_;refine ah (bZ (iz J J I az) Dv) ?_;refine V 5 ?_;refine ah (bZ (iz (b:=1) (h2:=ao.lit _) J J I az) (I:off+6-1=off+5)) ?_;refine V 7 ?_;refine ah (bZ (d_ J J az) (I:off+5+s1=O1+s1-1)) ?_;refine V 5 ?_;refine ah (bZ (d_ (b:=1) (h2:=ao.lit _) J J az) (I:off+5+1=O1)) ?_;refine V 7 ?_;refine ah (bZ (d_ J J az) (I:O1+s1-1+s2=O2+s2-1)) ?_;refine V 5 ?_;refine ah (bZ (d_ (b:=1) (h2:=ao.lit _) J J az) (I:O1+s1-1+1=O2)) ?_;refine V 7 ?_;refine ah (bZ (d_ J J az) (I:O2+s2-1+s3=O3+s3-1)) ?_;refine V 5 ?_;refine ah (bZ (d_ (b:=1) (h2:=ao.lit _) J J az) (I:O2+s2-1+1=O3)) ?_;refine V 7 ?_;refine ah (bZ (d_ J J az) (I:O3+s3-1+s4=O4+s4-1)) ?_;refine V 5 ?_;refine ah (bZ (d_ (b:=1) (h2:=ao.lit _) J J az) (I:O3+s3-1+1=O4)) ?_;refine V 9 ?_;refine uV J J J J J (aA (Gd h (ar (hR)) (hG.sub aJ) (hX.sub aJ) (off:=O1+s1-1) (st:=O1-2) I hE I) ?_);rintro e w1 ⟨vs1,q9,rfl,ahV,awc,h,wV,aaa⟩;refine V 3 ?_;refine eh h J ?_;intro bR1 w h;refine qP (vs:=vs1) h J J ahV awc (by exact aR 6) J ?_;intro w h;dsimp only[List.set]at h;rw[Gw (by rw[ahV];rfl)]at h;refine V 6 ?_;refine ah (jz q9 (¬(E.getD (O1+s1-1) 0).toNat=0) J (λe=>(aaa e).1) (λe=>wV (E6.1 e)) J) (aC (an J ?_ ?_))<;>intro ahW
 have dO:(E.getD (O1+s1-1) 0).toNat=0:=I;have bY:(gZ (aa E off T) t many true).1≠1:=(by rw[GJ];exact jF.2.2.1 dO);refine V 7 ?_;replace h:=h.tail;(try dsimp only[dB]at h);exact⟨_,[],ob,bc,sp,_,J,h,hk,(λe=>absurd e bY),(λ_=>wV dO)⟩
 have ahX:(E.getD (O1+s1-1) 0).toNat≠0:=I;rw[(aaa ahX).2]at h;have ij:=jF.2.2.2 ahX;clear jF wV aaa;refine ij.elim λJI ahY=>?_;refine ahY.elim λX1 awd=>?_;clear ij ahY;obtain⟨Jn,awe,Ry,awf,awg,aHl,pG⟩:=awd;have lF:=RW (E:=E) (t:=t) (off:=off) (T:=T) (many:=many) (i:=1) (pos:=(6+s1)) (n:=n) (size:=s2) (O:=O2) (outs:=([]++X1)) ig I I I aj pG GK (by rw[ag aj];exact hn) (by rw[ag aj,iL I];exact fH);have XF:=lF.2.1;refine V 8 ?_;refine uV J J J J J (aA (Gd h (ar (ar (hR))) (hG.sub aJ) (hX.sub aJ) (off:=O2+s2-1) (st:=O2-2) I hE I) ?_);rintro e w1 ⟨vs2,vE,rfl,ahZ,awh,h,vG,aab⟩;refine V 3 ?_;refine eh h J ?_;intro bR2 w h;refine qP (vs:=vs2) h J J ahZ awh (by exact aR 6) J ?_;intro w h;dsimp only[List.set]at h;rw[Gw (by rw[ahZ];rfl)]at h;refine V 6 ?_;refine ah (jz vE (¬(E.getD (O2+s2-1) 0).toNat=0) J (λe=>(aab e).1) (λe=>vG (E6.1 e)) J) (aC (an J ?_ ?_))<;>intro afn
 have dO:(E.getD (O2+s2-1) 0).toNat=0:=I;have bY:(gZ (aa E off T) t many true).1≠1:=(by rw[GJ];exact lF.2.2.1 dO);refine V 7 ?_;replace h:=h.tail.tail;(try dsimp only[dB]at h);exact⟨_,[],ob,bc,sp,_,J,h,hk,(λe=>absurd e bY),(λ_=>vG dO)⟩
 have ah0:(E.getD (O2+s2-1) 0).toNat≠0:=I;rw[(aab ah0).2]at h;have oS:=lF.2.2.2 ah0;clear lF vG aab;refine oS.elim λBN ah1=>?_;refine ah1.elim λX2 awi=>?_;clear oS ah1;obtain⟨MD,awj,Rz,awk,awl,aHm,jn⟩:=awi;have Je:=RW (E:=E) (t:=t) (off:=off) (T:=T) (many:=many) (i:=2) (pos:=(6+s1+s2)) (n:=n) (size:=s3) (O:=O3) (outs:=([]++X1++X2)) ig I I I aj jn GK (by rw[ag aj];exact hn) (by rw[ag aj,iL I];exact i_);have aHn:=Je.2.1;refine V 8 ?_;refine uV J J J J J (aA (Gd h (ar (ar (ar (hR)))) (hG.sub aJ) (hX.sub aJ) (off:=O3+s3-1) (st:=O3-2) I hE I) ?_);rintro e w1 ⟨vs3,BJ,rfl,ah2,awm,h,ub,Ng⟩;refine V 3 ?_;refine eh h J ?_;intro bR3 w h;refine qP (vs:=vs3) h J J ah2 awm (by exact aR 6) J ?_;intro w h;dsimp only[List.set]at h;rw[Gw (by rw[ah2];rfl)]at h;refine V 6 ?_;refine ah (jz BJ (¬(E.getD (O3+s3-1) 0).toNat=0) J (λe=>(Ng e).1) (λe=>ub (E6.1 e)) J) (aC (an J ?_ ?_))<;>intro ah3
 have dO:(E.getD (O3+s3-1) 0).toNat=0:=I;have bY:(gZ (aa E off T) t many true).1≠1:=(by rw[GJ];exact Je.2.2.1 dO);refine V 7 ?_;replace h:=h.tail.tail.tail;(try dsimp only[dB]at h);exact⟨_,[],ob,bc,sp,_,J,h,hk,(λe=>absurd e bY),(λ_=>ub dO)⟩
 have ah4:(E.getD (O3+s3-1) 0).toNat≠0:=I;rw[(Ng ah4).2]at h;have wU:=Je.2.2.2 ah4;clear Je ub Ng;refine wU.elim λpI ah5=>?_;refine ah5.elim λX3 awn=>?_;clear wU ah5;obtain⟨awo,awp,RA,awq,awr,aHo,aws⟩:=awn;have vf:=RW (E:=E) (t:=t) (off:=off) (T:=T) (many:=many) (i:=3) (pos:=(6+s1+s2+s3)) (n:=n4) (size:=s4) (O:=O4) (outs:=([]++X1++X2++X3)) ig I I I aj aws GK (by rw[ai J,hn];exact QI) (by rw[ai J];omega);have aHp:=vf.2.1;have aHq:=vf.1;refine V 8 ?_;refine uV J J J J J (aA (Gd h (ar (ar (ar (ar (hR))))) (hG.sub aJ) (hX.sub aJ) (off:=O4+s4-1) (st:=O4-2) I hE I) ?_);rintro e w1 ⟨vs4,yC,rfl,ah6,awt,h,hz4,aac⟩;refine V 3 ?_;refine eh h J ?_;intro bR4 w h;refine qP (vs:=vs4) h J J ah6 awt (by exact aR 6) J ?_;intro w h;dsimp only[List.set]at h;rw[Gw (by rw[ah6];rfl)]at h;refine V 6 ?_;refine ah (jz yC (¬(E.getD (O4+s4-1) 0).toNat=0) J (λe=>(aac e).1) (λe=>hz4 (E6.1 e)) J) (aC (an J ?_ ?_))<;>intro awu
 have dO:(E.getD (O4+s4-1) 0).toNat=0:=I;have bY:(gZ (aa E off T) t many true).1≠1:=(by rw[GJ];exact vf.2.2.1 dO);refine V 7 ?_;replace h:=h.tail.tail.tail.tail;(try dsimp only[dB]at h);exact⟨_,[],ob,bc,sp,_,J,h,hk,(λe=>absurd e bY),(λ_=>hz4 dO)⟩
 have ah7:(E.getD (O4+s4-1) 0).toNat≠0:=I;rw[(aac ah7).2]at h;have ue:=vf.2.2.2 ah7;clear vf hz4 aac;refine ue.elim λlf4 ah8=>?_;refine ah8.elim λX4 awv=>?_;clear ue ah8;obtain⟨aww,awx,RH,awy,awz,aHr,awA⟩:=awv;have lP:gZ (aa E off T) t many true=(1,X1++(X2++(X3++X4))):=(by rw[GJ,awA];show(1,_)=(1,_);rw[List.nil_append,cF,cF]);have wy:X1.length+(X2.length+(X3.length+X4.length))=many:=I;refine V 11 ?_;refine ah (bZ (d_ J J az) (im n)) ?_;refine V 21 ?_;refine ah (bZ (iz J J I az) (I:many-n*3=n4)) ?_;refine V 6 ?_;refine ahP (List.map u8 []) sp h 4 J J J hk (by intro v hv;simp at hv;subst hv;rfl) I aj J ?_;intro w dy c9 dL h df fG eG;dsimp only[List.set]at h;rw[ae8,<-wy,<-ahQ,E4,List.nil_append]at h df;refine aY (show ∃b9,dy=some b9 by cases dy with|none=>(have:=eG J;omega)|some b9=>exact⟨b9,J⟩) (λb9 Dw=>?_);rw[Dw]at h;refine V 7 ?_;refine aO h J Nc (eh h J ?_);intro bT w h;refine b7 ?_;intro w h;refine V 6 ?_;refine aO h J Nb ?_;refine V 1 ?_;refine eh h J ?_;intro bK w h;refine b7 ?_;intro w h;refine V 4 ?_;refine ah (gn J J dw az) ?_;refine V 1 ?_;refine eh h J ?_;intro bM w h;refine b7 ?_;intro w h;refine V 7 ?_;refine bQ (σ:=Nat×Nat×Nat×Nat×Nat×Nat×Nat×Nat×Nat×Nat×Nat×Nat×Nat×Nat×Nat×Nat×Nat×Nat) [(12,13),(33,36),(41,49),(215,316)] (λ⟨i,d,o1,iD,eO,l1,o2,nu,sW,l2,o3,nA,kQ,l3,o4,zX,zY,l4⟩ ρ w=>Kn ρ [(41,R i),(33,R i),(34,R (n+i)),(35,R (n+n+i)),(36,R (n+n+n+d))]/\H r w ((af bM [da (2^b-1)] 51)::(af bK [da b] 51)::(af bT [.slice (some ⟨tb,0,none⟩) x.hN x.hC] 68)::(af bR4 [.pointer (some ⟨br,0,none⟩),.slice ad E.length dc,aZ o4,aZ (O4-2),aZ zX,aZ zY] 207)::(af bR3 [.pointer (some ⟨br,0,none⟩),.slice ad E.length dc,aZ o3,aZ (O3-2),aZ nA,aZ kQ] 207)::(af bR2 [.pointer (some ⟨br,0,none⟩),.slice ad E.length dc,aZ o2,aZ (O2-2),aZ nu,aZ sW] 207)::(af bR1 [.pointer (some ⟨br,0,none⟩),.slice ad E.length dc,aZ o1,aZ (O1-2),aZ iD,aZ eO] 207)::(af b9 (List.map u8 (four X1 X2 X3 X4 i i i d)++dL) 5)::L)/\(i<=n)/\(d=min i n4)/\(GH E t O1 s1 JI i o1 iD eO l1)/\(GH E t O2 s2 BN i o2 nu sW l2)/\(GH E t O3 s3 pI i o3 nA kQ l3)/\(GH E t O4 s4 lf4 d o4 zX zY l4)) (λ⟨i,d,o1,iD,eO,l1,o2,nu,sW,l2,o3,nA,kQ,l3,o4,zX,zY,l4⟩=>n-i) (0,0,O1+s1-1,(E.getD (O1+s1-1) 0).toNat,7- (8-gH (E.getD (O1+s1-1) 0).toNat),JI,O2+s2-1,(E.getD (O2+s2-1) 0).toNat,7- (8-gH (E.getD (O2+s2-1) 0).toNat),BN,O3+s3-1,(E.getD (O3+s3-1) 0).toNat,7- (8-gH (E.getD (O3+s3-1) 0).toNat),pI,O4+s4-1,(E.getD (O4+s4-1) 0).toNat,7- (8-gH (E.getD (O4+s4-1) 0).toNat),lf4) ⟨aq,h,(bP _),I,⟨J,Ry⟩,⟨J,Rz⟩,⟨J,RA⟩,J,RH⟩ ?_;rintro⟨i,d,o1,iD,eO,l1,o2,nu,sW,l2,o3,nA,kQ,l3,o4,zX,zY,l4⟩ ρ w ⟨⟨k5,rfl⟩,h,hi,hd,zT,lQ,Mw,hS4⟩;refine V 7 ?_;refine an J ?_ ?_<;>intro FP
 refine(R4 lJ BS I Jn awe awf (i:=i) I zT).elim λx1 eK=>?_;obtain⟨awB,ah9,aHs,aHt,aad,ah_,awC⟩:=eK;rw[<-awg]at ah_;have XC:=Na aad;have ah':=GG aad;refine(R4 lJ BS I MD awj awk (i:=i) I lQ).elim λx2 fL=>?_;obtain⟨awD,aia,aHu,aHv,aae,aib,awE⟩:=fL;rw[<-awl]at aib;have FQ:=Na aae;have aic:=GG aae;refine(R4 lJ BS I awo awp awq (i:=i) I Mw).elim λx3 gE=>?_;obtain⟨awF,aid,aHw,aHx,aaf,aie,awG⟩:=gE;rw[<-awr]at aie;have aHy:=Na aaf;have aif:=GG aaf;refine V 12 ?_;refine ah (av2 J J J) ?_;refine V 5 ?_;replace h:=h.zz [6] 0;refine RT J J J ((R5 (b:=b) (O:=O1) (lf:=l1) (idx:=x1) (v:=m8 t x1) h (ar bF) bF (ar (ar bF)) (ar (ar (ar (ar (ar (ar (ar (hm)))))))) tS Eg (hX.sub aJ) hE BR I zT.2 awB ah9 (Eh _ ah9)).mono ?_);rintro e w1 ⟨p1,q1,r1,rfl,h,aih,aHz⟩;refine⟨_,J,?_⟩;have aHA:=aih.uq;refine V 10 ?_;refine ah (wT J J) (aC (fV J ?_));refine V 4 ?_;replace h:=h.zz [6] 0;refine RT J J J ((R5 (b:=b) (O:=O2) (lf:=l2) (idx:=x2) (v:=m8 t x2) h (ar (ar bF)) (ar bF) (ar (ar (ar bF))) (ar (ar (ar (ar (ar (ar (ar (hm)))))))) tS Eg (hX.sub aJ) hE BR I lQ.2 awD aia (Eh _ aia)).mono ?_);rintro e w1 ⟨p2,q2,r2,rfl,h,aii,aHB⟩;refine⟨_,J,?_⟩;have aHC:=aii.uq;refine V 10 ?_;refine ah (wT J J) (aC (fV J ?_));refine V 4 ?_;replace h:=h.zz [6] 0;refine RT J J J ((R5 (b:=b) (O:=O3) (lf:=l3) (idx:=x3) (v:=m8 t x3) h (ar (ar (ar bF))) (ar (ar bF)) (ar (ar (ar (ar bF)))) (ar (ar (ar (ar (ar (ar (ar (hm)))))))) tS Eg (hX.sub aJ) hE BR I Mw.2 awF aid (Eh _ aid)).mono ?_);rintro e w1 ⟨p3,q3,r3,rfl,h,aij,aHD⟩;refine⟨_,J,?_⟩;have aHE:=aij.uq;refine V 10 ?_;refine ah (wT J J) (aC (fV J (aQ (cD [(12,13),(36,36),(48,49),(248,271)] (λρ w=> ∃d2 R6 R7 R8 l4b:Nat,Kn ρ [(36,R (n+n+n+d2))]/\H r w ((af bR3 [.pointer (some ⟨br,0,none⟩),.slice ad E.length dc,aZ p3,aZ (O3-2),aZ q3,aZ r3] 207)::(af bR2 [.pointer (some ⟨br,0,none⟩),.slice ad E.length dc,aZ p2,aZ (O2-2),aZ q2,aZ r2] 207)::(af bR1 [.pointer (some ⟨br,0,none⟩),.slice ad E.length dc,aZ p1,aZ (O1-2),aZ q1,aZ r1] 207)::(af bM [da (2^b-1)] 51)::(af bK [da b] 51)::(af bT [.slice (some ⟨tb,0,none⟩) x.hN x.hC] 68)::(af bR4 [.pointer (some ⟨br,0,none⟩),.slice ad E.length dc,aZ R6,aZ (O4-2),aZ R7,aZ R8] 207)::(af b9 (List.map u8 (four X1 X2 X3 X4 i i i d2)++dL) 5)::L)/\(d2=min (i+1) n4)/\(GH E t O4 s4 lf4 d2 R6 R7 R8 l4b)) ?_ ?_))))
 refine V 4 ?_;refine an J ?_ ?_<;>intro aHF
 refine(R4 lJ BS I aww awx awy (i:=d) I hS4).elim λx4 qf=>?_;obtain⟨awH,aik,aHG,aHH,aag,ail,awI⟩:=qf;rw[<-awz]at ail;have aHI:=Na aag;have aim:=GG aag;refine V 3 ?_;replace h:=h.zz [6] 0;refine RT J J J ((R5 (b:=b) (O:=O4) (lf:=l4) (idx:=x4) (v:=m8 t x4) h (ar (ar (ar (ar bF)))) (ar (ar (ar bF))) (ar (ar (ar (ar (ar bF))))) (ar (ar (ar (ar (ar (ar (ar (hm)))))))) tS Eg (hX.sub aJ) hE BR I hS4.2 awH aik (Eh _ aik)).mono ?_);rintro e w1 ⟨p4,q4,r4,rfl,h,ain,aHJ⟩;refine⟨_,J,?_⟩;have aHK:=ain.uq;refine V 10 ?_;refine ah (wT J J) (aC (fV J ?_));refine V 7 ?_;refine ah (ux (eB (a:=m8 t x4/2^8) J az) (M' aag)) (ah (js J J (by rw[Dw];rfl) I) ?_);refine gC (v:=u8 (UInt8.ofNat (t.syms.getD x4 0))) h J (LV (by rw[R0];omega)) J J J ?_;intro w h;dsimp only[List.set]at h;rw[av9 I I ail]at h;refine V 11 ?_;refine ah (jO (n:=8) J J az aj) ?_;refine ah (bZ (eB J (by rw[aim];simp only[aG];omega)) aim) ?_;refine V 2 ?_;refine b7 ?_;intro w h;refine aC ?_;replace h:=h.zz [7,1,7,7,7,7,7,7] 0;exact⟨aH 28,d+1,p4,q4,r4-t.bits.getD x4 0,l4-t.bits.getD x4 0,aq,h,I,awI _ _ _ ain I⟩
 exact aQ ⟨aH 1,d,o4,zX,zY,l4,aq,h,I,hS4⟩
 rintro ρ w ⟨d2,R6,R7,R8,l4b,⟨mD,rfl⟩,h,oV,awJ⟩;refine V 6 ?_;refine ah (ux (eB (a:=m8 t x1/2^8) J az) (M' aad)) (ah (js J J (by rw[Dw];rfl) I) ?_);refine gC (v:=u8 (UInt8.ofNat (t.syms.getD x1 0))) h J (LV (by rw[R0];omega)) J J J ?_;intro w h;dsimp only[List.set]at h;rw[av6 I I ah_]at h;refine V 12 ?_;refine ah (jO (n:=8) J J az aj) ?_;refine ah (bZ (eB J (by rw[ah'];simp only[aG];omega)) ah') ?_;refine V 2 ?_;refine b7 ?_;intro w h;refine V 7 ?_;refine ah (ux (eB (a:=m8 t x2/2^8) J az) (M' aae)) (ah (js J J (by rw[Dw];rfl) I) ?_);refine gC (v:=u8 (UInt8.ofNat (t.syms.getD x2 0))) h J (LV (by rw[R0];omega)) J J J ?_;intro w h;dsimp only[List.set]at h;rw[av7 I I aib]at h;refine V 12 ?_;refine ah (jO (n:=8) J J az aj) ?_;refine ah (bZ (eB J (by rw[aic];simp only[aG];omega)) aic) ?_;refine V 2 ?_;refine b7 ?_;intro w h;refine V 7 ?_;refine ah (ux (eB (a:=m8 t x3/2^8) J az) (M' aaf)) (ah (js J J (by rw[Dw];rfl) I) ?_);refine gC (v:=u8 (UInt8.ofNat (t.syms.getD x3 0))) h J (LV (by rw[R0];omega)) J J J ?_;intro w h;dsimp only[List.set]at h;rw[av8 I I aie]at h;refine V 11 ?_;refine ah (jO (n:=8) J J az aj) ?_;refine ah (bZ (eB J (by rw[aif];simp only[aG];omega)) aif) ?_;refine V 2 ?_;refine b7 ?_;intro w h;refine V 6 ?_;replace h:=h.zz [7,3,3,3,7,7,7,7] 0;exact⟨aH 94,(i+1,d2,p1,q1,r1-t.bits.getD x1 0,l1-t.bits.getD x1 0,p2,q2,r2-t.bits.getD x2 0,l2-t.bits.getD x2 0,p3,q3,r3-t.bits.getD x3 0,l3-t.bits.getD x3 0,R6,R7,R8,l4b),cw,aq,h,I,oV,awC _ _ _ aih I,awE _ _ _ aii I,awG _ _ _ aij I,awJ⟩
 have p_:i=n:=I;have hdn:d=n4:=I;rw[p_,hdn,av_ I I I I]at h;rw[ahQ,aF,bX,dR,wy]at df;have hXX:(X1++(X2++(X3++X4))).length=many:=(by simp only[aF];omega);refine V 8 ?_;replace h:=h.tail.tail.tail.tail.tail.tail.tail;(try dsimp only[dB]at h);exact⟨_,X1++(X2++(X3++X4)),some b9,c9,dL,_,J,h,(by rw[hXX];exact⟨by rw[bX,hXX,eC],by rw[aF,bX,hXX];exact df,I,(λe=>by cases e)⟩),(λ_=>⟨J,iJ (by rw[Dw]) I J,lP⟩),(λe=>absurd (by rw[lP]) e)⟩
variable {al m ws:List Nat}{Wv:List UInt8}{j ak r s w:Nat}
def mJ(al:List Nat)(w:Nat):Nat->Nat
 |0=>0
 |i+1=>mJ al w i+if al.getD i 0=w then 1 else 0
theorem aio(al:List Nat)(ak w:Nat): ∀i,(eW al ak (w+1) i).length=mJ al (w+1) i*2^w
 |0=>by simp[eW,mJ]
 | i+1=>by
  rw[eW,aF,aio al ak w i,mJ,qH];split
  rw[dR,rz];rfl
  simp
theorem Nh(al:List Nat)(ak w:Nat):(cW al ak (w+1)).length=(cW al ak w).length+mJ al (w+1) al.length*2^w:=by
 rw[cW,aF,aio]
theorem JK(al:List Nat)(ak:Nat): ∀d w,(cW al ak w).length<=(cW al ak (w+d)).length
 |0,w=>aR _
 |d+1,w=>by have:=JK al ak d w;rw[<-gQ,Nh];omega
theorem aah(al:List Nat)(ak w:Nat): ∀d i,(eW al ak w i).length<=(eW al ak w (i+d)).length
 |0,i=>aR _
 |d+1,i=>by have:=aah al ak w d i;rw[<-gQ,eW,aF];omega
theorem awK(ht:(cW al ak ak).length=2^ak)(W:1<=ak):mJ al 1 al.length % 2=0:=by
 have h:=ZS ht (ak-1) 1 I;have e:=Nh al ak 0;simp only[cW,fE,im,K5,eC]at e h;rw[e]at h;exact Nat.mod_eq_zero_of_dvd (by simpa using h)
theorem aip{al:List Nat}{ak:Nat}: ∀Z_,1<=Z_->Z_<=ak-> ∀{j:Nat} {x:Nat×Nat},(cW al ak Z_)[j]? =some x->(cW al ak 1).length<=j->x.2<ak
 | Z_+1,W,hW,j,x,h,hj=>by
  rw[cW]at h;rcases dh j (cW al ak Z_).length with hi|hi
  rw[ir hi]at h;rcases nO Z_ with e|e
  subst e;simp[cW]at hi
  exact aip Z_ e I h hj
  rw[nN hi]at h;have hm:=Qj (uJ h);rcases nO Z_ with e|e
  subst e;have hl:=(sf.1 h).1;simp only[cW,List.nil_append,fE,KX,im]at hl hj;omega
  omega
theorem awL{al:List Nat}{ak:Nat}(ht:(cW al ak ak).length=2^ak)(W:1<=ak)(h0:mJ al 1 al.length=0):(l6 al ak).bits.getD 0 0<ak:=by
 have e:(l6 al ak).bits.getD 0 0=((cW al ak ak)[0]?.map (·.2)).getD 0:=(by show((cW al ak ak).map (·.2)).getD 0 0=_;rw[bS,kK]);have e1:(cW al ak (0+1)).length=0:=(by rw[Nh al ak 0,im,h0];simp[cW]);rw[e]
 cases hx:(cW al ak ak)[0]? with
 |none=>show 0<ak;omega
 | some x=>
   show x.2<ak
   exact aip ak W (aR _) hx (by rw[im]at e1;omega)
theorem awM(hj:j<ws.length)(h:11<ws.getD j 0):gL ws=none:=by
 unfold gL;rw[ai (any_true hj h)]
theorem awN(h:fj ws ws.length=0):gL ws=none:=by
 unfold gL;split
 rfl
 dsimp only;rw[ai h]
theorem awO(h:11<l5 (fj ws ws.length)):gL ws=none:=by
 unfold gL;split
 rfl
 dsimp only;split
 rfl
 rw[ai (Or.inl h)]
theorem awP(h:2^r.log2=r):rJ r=r.log2+1:=by
 unfold rJ;split
 rename_i W;have h0:=ep r.log2;have:r=1:=I;subst this;decide
 rename_i W;obtain⟨k,hk⟩: ∃k,r.log2=k:=⟨_,J⟩;rw[hk]at h ⊢;have ly:k≠0:=(by intro e;subst e;simp at h;omega);obtain⟨c,hc⟩: ∃c,k=c+1:=⟨k-1,I⟩;subst hc;have lY:=ep c;rw[jT]at h;have:(r-1).log2=c:=(Vq I).2 ⟨I,by rw[jT];omega⟩;omega
theorem awQ(k:Nat):(2^k).log2=k:=(Vq (by have:=ep k;omega)).2 ⟨aR _,Nat.pow_lt_pow_right I I⟩
theorem awR(h: ¬2^(2^l5 (fj ws ws.length) -fj ws ws.length).log2=2^l5 (fj ws ws.length) -fj ws ws.length):gL ws=none:=by
 unfold gL;split
 rfl
 dsimp only;split
 rfl
 rw[ai];refine Or.inr λe=>h ?_;rw[<-e,awQ]
theorem awS{m:Nat}(hw: ∀j,j<ws.length->ws.getD j 0<=11)(hs:fj ws ws.length=s)(h0:s≠0)(hm:l5 s=m)(avU:m<=11)(hr:2^m-s=r)(hp:2^r.log2=r):gL ws=some (l6 (ws++[r.log2+1]) m):=by
 unfold gL;rw[any_false hw];simp only[Bool.false_eq_true,if_false];rw[hs,ag h0,hm,hr,awP hp,zc,ag I]
theorem aiq(ws:List Nat)(l w:Nat): ∀i,i<=ws.length->mJ (ws++[l]) w i=mJ ws w i
 |0,_=>rfl
 |i+1,h=>by rw[mJ,mJ,aiq ws l w i I];have:(ws++[l]).getD i 0=ws.getD i 0:=(by simp only[bS];rw[ir I]);rw[this]
theorem awT(ws:List Nat)(l w:Nat):mJ (ws++[l]) w (ws++[l]).length=mJ ws w ws.length+if l=w then 1 else 0:=by
 rw[aF,HZ,mJ,aiq _ _ _ _ (aR _)];have:(ws++[l]).getD ws.length 0=l:=(by simp);rw[this]
theorem air{ws:List Nat}: ∀{i j:Nat},j<i->w2 (ws.getD j 0)<=fj ws i
 | i+1,j,h=>by
  rw[fj];rcases dh j i with h'|h'
  have:=air (ws:=ws) h';omega
  have:j=i:=I;subst this;omega
theorem ais{m:Nat}(hs:fj ws ws.length=s)(h0:s≠0)(hm:l5 s=m)(hj:j<ws.length):ws.getD j 0<=m:=by
 have W:=air (ws:=ws) hj;rw[hs]at W;unfold w2 at W;split at W
 have h2:=zb (n:=s);have h3:2^(ws.getD j 0-1)<2^(s.log2+1):=I;have:=(K0 (I:1<2)).1 h3;unfold l5 at hm;omega
 omega
def Mk(ws:List Nat)(mk:List Nat)(i:Nat):Prop:=mk.length=13/\ ∀w,w<13->mk.getD w 0=mJ ws w i
theorem Mk.step{mk:List Nat}(h:Mk ws mk i)(hw:ws.getD i 0<13):Mk ws (mk.set (ws.getD i 0) (mk.getD (ws.getD i 0) 0+1)) (i+1):=by
 refine⟨by rw[dD];exact h.1,λw rP=>?_⟩;rw[mJ,eE];by_cases e:ws.getD i 0=w
 rw[ai ⟨e,by rw[h.1];exact hw⟩,ai e,e,h.2 w rP]
 rw[ag I,ag e,h.2 w rP,kU]
theorem Mk.last{mk:List Nat}{l:Nat}(h:Mk ws mk ws.length)(hl:l<13):Mk (ws++[l]) (mk.set l (mk.getD l 0+1)) (ws++[l]).length:=by
 refine⟨by rw[dD];exact h.1,λw rP=>?_⟩;rw[awT,eE];by_cases e:l=w
 rw[ai ⟨e,by rw[h.1];exact hl⟩,ai e,e,h.2 w rP]
 rw[ag I,ag e,h.2 w rP,kU]
theorem Ni(ws:List Nat)(w:Nat): ∀i,mJ ws w i<=i
 |0=>aR _
 |i+1=>by rw[mJ];have:=Ni ws w i;split<;>omega
def Mn(al:List Nat)(ak:Nat)(mk:List Nat)(i:Nat):Prop:=mk.length=13/\(∀w,1<=w->w<=i->mk.getD w 0=(cW al ak (w-1)).length)/\ ∀w,i<w->w<13->mk.getD w 0=mJ al w al.length
theorem Mn.init{mk:List Nat}(h:Mk al mk al.length):Mn al ak mk 0:=⟨h.1,λw W h2=>by omega,λw _ hw=>h.2 w hw⟩
theorem Mn.step{mk:List Nat}(h:Mn al ak mk i)(hi:i+1<13):Mn al ak (mk.set (i+1) (cW al ak i).length) (i+1):=by
 refine⟨by rw[dD];exact h.1,λw W h2=>?_,λw W h2=>?_⟩
 rw[eE];by_cases e:i+1=w
 rw[ai ⟨e,by rw[h.1];omega⟩,<-e];rfl
 rw[ag I];exact h.2.1 w W I
 rw[eE,ag I];exact h.2.2 w I h2
def cod(x:Nat×Nat):Nat:=x.1 % 256*256+x.2
structure FI(al:List Nat)(ak:Nat)(m mk:List Nat)(i:Nat):Prop where
 ml:2^ak<=m.length
 kl:mk.length=13
 k: ∀w,1<=w->w<=ak->mk.getD w 0=(cW al ak (w-1)).length+(eW al ak w i).length
 m: ∀w,1<=w->w<=ak-> ∀j,j<(eW al ak w i).length->m.getD ((cW al ak (w-1)).length+j) 0=cod ((eW al ak w i).getD j (0,0))
theorem FI.init{mk:List Nat}(h:Mn al ak mk ak)(hm:2^ak<=m.length):FI al ak m mk 0:=
 ⟨hm,h.1,λw W h2=>by rw[h.2.1 w W h2];rfl,λw _ _ j hj=>by simp[eW]at hj⟩
theorem FI.skip{mk:List Nat}(h:FI al ak m mk i)(h0:al.getD i 0=0):FI al ak m mk (i+1):=by
 have e: ∀w,1<=w->eW al ak w (i+1)=eW al ak w i:=λw hw=>(by rw[eW,ag I,dP]);exact⟨h.ml,h.kl,λw W h2=>by rw[e w W];exact h.k w W h2,λw W h2 j hj=>by rw[e w W]at hj ⊢;exact h.m w W h2 j hj⟩
theorem FI.room{mk:List Nat}(ht:(cW al ak ak).length=2^ak)(h:FI al ak m mk i)(hi:i<al.length)(hw:al.getD i 0=w+1)(wH:w+1<=ak):mk.getD (w+1) 0=(cW al ak w).length+(eW al ak (w+1) i).length/\mk.getD (w+1) 0+2^w<=(cW al ak (w+1)).length/\(cW al ak (w+1)).length<=2^ak:=by
 have W:=h.k (w+1) I wH;have h2:(eW al ak (w+1) (i+1)).length=(eW al ak (w+1) i).length+2^w:=(by rw[eW,ai hw,aF,dR];rfl);have h3:=aah al ak (w+1) (al.length- (i+1)) (i+1);rw[show i+1+(al.length- (i+1))=al.length by omega]at h3;have h4:(cW al ak (w+1)).length=(cW al ak w).length+(eW al ak (w+1) al.length).length:=(by rw[cW,aF]);have h5:=JK al ak (ak- (w+1)) (w+1);rw[show w+1+(ak- (w+1))=ak by omega,ht]at h5;simp only[zc]at W;exact⟨W,I,h5⟩
theorem FI.step{m' mk:List Nat}(ht:(cW al ak ak).length=2^ak)(h:FI al ak m mk i)(hi:i<al.length)(hw:al.getD i 0=w+1)(wH:w+1<=ak)(aHL:ak<13)(hl:m'.length=m.length)(hm: ∀q,q<m.length->m'.getD q 0=if mk.getD (w+1) 0<=q/\q<mk.getD (w+1) 0+2^w then i % 256*256+(ak-w)else m.getD q 0):FI al ak m' (mk.set (w+1) (mk.getD (w+1) 0+2^w)) (i+1):=by
 obtain⟨r1,r2,r3⟩:=h.room ht hi hw wH;have lH:=h.ml;have hs:eW al ak (w+1) (i+1)=eW al ak (w+1) i++List.replicate (2^w) (i,ak-w):=(by rw[eW,ai hw,zc,show ak+1- (w+1)=ak-w by omega]);have hn: ∀v,1<=v->v≠w+1->eW al ak v (i+1)=eW al ak v i:=λv _ hv=>(by rw[eW,ag I,dP]);refine⟨by rw[hl];exact lH,by rw[dD];exact h.kl,λv W h2=>?_,λv W h2 j hj=>?_⟩
 rw[eE];by_cases e:w+1=v
 rw[ai ⟨e,by rw[h.kl];omega⟩,<-e,hs,aF,dR,zc];omega
 rw[ag I,hn v W I];exact h.k v W h2
 by_cases e:w+1=v
 subst e;rw[hs,aF,dR]at hj;simp only[zc];rw[hm _ I];by_cases MH:j<(eW al ak (w+1) i).length
 rw[ag I];have:=h.m (w+1) I wH j MH;simp only[zc]at this;rw[this,hs];congr 1;simp only[bS];rw[ir MH]
 rw[ai I,hs];simp only[bS];rw[nN I,uM,ai I];rfl
 rw[hn v W I]at hj ⊢;have h6:(cW al ak v).length=(cW al ak (v-1)).length+(eW al ak v al.length).length:=(by obtain⟨c,rfl⟩: ∃c,v=c+1:=⟨v-1,I⟩;rw[cW,aF,zc]);have h7:=aah al ak v (al.length-i) i;rw[show i+(al.length-i)=al.length by omega]at h7;have h8:=JK al ak (ak-v) v;rw[show v+(ak-v)=ak by omega,ht]at h8
 have bY: ¬(mk.getD (w+1) 0<=(cW al ak (v-1)).length+j/\(cW al ak (v-1)).length+j<mk.getD (w+1) 0+2^w):=by
  rcases dh v (w+1)with hv|hv
  have:=JK al ak (w-v) v;rw[show v+(w-v)=w by omega]at this;omega
  have:=JK al ak (v-1- (w+1)) (w+1);rw[show w+1+(v-1- (w+1))=v-1 by omega]at this;omega
 rw[hm _ I,ag bY];exact h.m v W h2 j hj
theorem FI.rows{mk:List Nat}(h:FI al ak m mk al.length): ∀Z_,Z_<=ak-> ∀{j:Nat} {x:Nat×Nat},(cW al ak Z_)[j]? =some x->m.getD j 0=cod x
 |0,_,j,x,hx=>by simp[cW]at hx
 | Z_+1,hW,j,x,hx=>by
  rw[cW]at hx;rcases dh j (cW al ak Z_).length with hi|hi
  rw[ir hi]at hx;exact h.rows Z_ I hx
  rw[nN hi]at hx;have hl:=(sf.1 hx).1;have:=h.m (Z_+1) I hW _ hl;simp only[zc]at this;rw[show(cW al ak Z_).length+(j- (cW al ak Z_).length)=j by omega]at this;rw[this];simp[bS,hx]
theorem FI.yt{mk:List Nat}(ht:(cW al ak ak).length=2^ak)(h:FI al ak m mk al.length){i:Nat}(hi:i<2^ak):m.getD i 0=m8 (l6 al ak) i:=by
 have hx:=gv (l:=cW al ak ak) (I:i<_);rw[h.rows ak (aR _) hx];unfold cod m8 l6;simp only[bS,kK,hx];rfl
theorem ait{O cs lf b:Nat}(hb:b<=lf)(hl:lf<=8*cs):dS (num (E.drop O)) (lf:Int) b=dS (num (aa E O cs)) (lf:Int) b:=by
 rw[Da _ _ _ hb,Da _ _ _ hb,M9 I,<-zV]
structure yJ(Wv:List UInt8)(ws:List Nat):Prop where
 l:Wv.length=256
 n:ws.length<=256
 g: ∀i,i<ws.length->(Wv.getD i 0).toNat=ws.getD i 0
theorem yJ.snoc{v:UInt8}(h:yJ Wv ws)(hn:ws.length<256)(hv:v.toNat=s):yJ (Wv.set ws.length v) (ws++[s]):=by
 refine⟨by rw[dD];exact h.l,by simp;omega,λi hi=>?_⟩;rw[aF,HZ]at hi;rw[eE];by_cases e:ws.length=i
 rw[ai ⟨e,by rw[h.l];omega⟩,hv];subst e;simp
 rw[ag I,h.g i I];simp only[bS];rw[ir I]
theorem yJ.more{q:Nat}{v:UInt8}(h:yJ Wv ws)(hq:ws.length<=q):yJ (Wv.set q v) ws:=by
 refine⟨by rw[dD];exact h.l,h.n,λi hi=>?_⟩;rw[eE,ag I];exact h.g i hi
theorem awU{k:Nat}(h:gA E=some (t,k)):BP t:=by
 unfold gA at h;split at h
 cases h
 dsimp only at h;split at h
 split at h
 cases h
 cases hx:gL ((List.range (byte E 0-127)).map λi=>byte E (1+i/2)/2^(4-i % 2*4) % 16)with
 |none=>rw[hx]at h;cases h
 |some t'=>rw[hx]at h;cases h;exact ahB hx
 split at h
 cases h
 cases hw:wF (aa E 1 (byte E 0))with
 |none=>rw[hw]at h;cases h
 | some ws=>
   rw[hw,ss]at h
   cases hx:gL ws with
   |none=>rw[hx]at h;cases h
   |some t'=>rw[hx]at h;cases h;exact ahB hx
theorem awV{m:Nat}(h:gL ws=some t)(e:t=l6 al m):(cW al m m).length=2^m:=by
 have:=(L8 h).1.syms;rw[e]at this;simpa [l6] using this
variable {cs:List de}{S U:List UInt8}{N a b cur f k lf lg tR st tv y:Nat}
theorem aiu:(aa E a n).drop k=aa E (a+k) (n-k):=by
 unfold aa;rw[HS,j7]
theorem aiv{p:Nat}(h:p+k<=8*n):dt (num (aa E a n)) p k=dt (num (E.drop a)) p k:=by
 rw[M9 h,zV]
theorem aiw(h: ∀out lg size,ft (num S) S.length 6 256=some (out,lg,size)->S.length<size+2):wF S=none:=by
 unfold wF
 cases hp:ft (num S) S.length 6 256 with
 |none=>rfl
 | some x=>
   have W:=h x.1 x.2.1 x.2.2 hp
   have cS:=Dt (out:=x.1) (log:=x.2.1) (size:=x.2.2) hp aj aj
   have py:=cS.1.lZ
   have ia:=FT (out:=x.1) (log:=x.2.1) (size:=x.2.2) hp
   dsimp only
   rw[mx ia]
   cases hb:iV (S.drop x.2.2)with
   |none=>rfl
   | some left=>
     dsimp only
     have hl7:left<=7:=by
       unfold iV at hb
       split at hb
       . cases hb
       . rename_i bY
         have hlen:(S.drop x.2.2).length=1:=by
           have:=bV (i:=x.2.2) (l:=S)
           have:(S.drop x.2.2).length≠0:=λe=>bY (Or.inl e)
           omega
         have aHM:zw (S.drop x.2.2)<=255:=toNat_le _
         have kY:zw (S.drop x.2.2)≠0:=λe=>bY (Or.inr e)
         have:=(qI kY (k:=8)).2 I
         injection hb with hb
         rw[hlen]at hb
         omega
     rw[ai I]
theorem awW{out:List Int}{left:Nat}(hp:ft (num S) S.length 6 256=some (out,lg,size))(hb:iV (S.drop size)=some left)(hl:2*lg<=left):wF S=rM (num (S.drop size)) (cY out lg) 257 (dS (num (S.drop size)) left lg) (dS (num (S.drop size)) ((left:Int) -lg) lg) ((left:Int) -lg-lg) []:=by
 have ia:=FT hp;unfold wF;rw[hp];dsimp only;rw[mx ia,hb];dsimp only;rw[ag I]
theorem awX{out:List Int}{left:Nat}(hp:ft (num S) S.length 6 256=some (out,lg,size))(hb:iV (S.drop size)=some left)(hl:left<2*lg):wF S=none:=by
 have ia:=FT hp;unfold wF;rw[hp];dsimp only;rw[mx ia,hb];dsimp only;rw[ai I]
theorem awY{out:List Int}(hp:ft (num S) S.length 6 256=some (out,lg,size))(hb:iV (S.drop size)=none):wF S=none:=by
 have ia:=FT hp;unfold wF;rw[hp];dsimp only;rw[mx ia,hb]
section
variable {E:List UInt8}{p hd:Nat}
theorem aix{out:List Int}(hle:p+1+hd<=E.length)(h:ft (num (aa E (p+1) hd)) (aa E (p+1) hd).length 6 256=some (out,lg,size)):ft (num (E.drop (p+1))) (E.length- (p+1)) 6 256=some (out,lg,size):=by
 have hl:(aa E (p+1) hd).length=hd:=dx I;have hs:=FT h;exact ahI (n:=hd) (λa k hk=>(aiv hk).symm) I h I
theorem awZ{out:List Int}(hle:p+1+hd<=E.length)(h:ft (num (E.drop (p+1))) (E.length- (p+1)) 6 256=some (out,lg,size))(hs:size<=hd):ft (num (aa E (p+1) hd)) (aa E (p+1) hd).length 6 256=some (out,lg,size):=by
 have hl:(aa E (p+1) hd).length=hd:=dx I;exact ahI (n:=hd) (λa k hk=>aiv hk) I h I
theorem aw0(hle:p+1+hd<=E.length)(h:wX (E.length- (p+1)) (ft (num (E.drop (p+1))) (E.length- (p+1)) 6 256)):wF (aa E (p+1) hd)=none:=by
 refine aiw λout lg size hp=>?_;have hl:(aa E (p+1) hd).length=hd:=dx I;have:=h out lg size (aix hle hp);omega
theorem aw1{out:List Int}{x0:Nat}(hle:p+1+hd<=E.length)(hP:ft (num (E.drop (p+1))) (E.length- (p+1)) 6 256=some (out,lg,size))(hx:(E.getD (p+1+hd-1) 0).toNat=x0):(x0=0->wF (aa E (p+1) hd)=none)/\(x0≠0-> ∀lf,7- (8-gH x0)+8*(p+1+hd-1- (p+1+size))=lf->(lf<2*lg->wF (aa E (p+1) hd)=none)/\(2*lg<=lf->size<hd/\lf<=8*(hd-size)/\wF (aa E (p+1) hd)=rM (num (aa E (p+1+size) (hd-size))) (cY out lg) 257 (dt (num E) (8*(p+1+size)+lf-lg) lg) (dt (num E) (8*(p+1+size)+lf-lg-lg) lg) ((lf-2*lg:Nat):Int) [])):=by
 have hl:(aa E (p+1) hd).length=hd:=dx I;have cS:=Dt hP aj aj;have py:=cS.1.lZ;have RI:hd<=size->wF (aa E (p+1) hd)=none:=λhs=>aiw λcO lg' aHN hp=>(by have e:=(aix hle hp).symm.trans hP;cases e;omega);have rZ:x0<=255:=(by rw[<-hx];exact toNat_le _);have hb8:= @kj x0 8 I;rcases dh size hd with hs|hs
 have hp:=awZ hle hP I;have yx:(aa E (p+1) hd).drop size=aa E (p+1+size) (hd-size):=aiu;have hi:p+1+size+(hd-size) -1=p+1+hd-1:=I;refine⟨λh0=>awY hp ?_,λh0 lf jh=>?_⟩
 rw[yx];exact ZX I I (by rw[hi,hx];exact h0)
 have hb:iV (aa E (p+1+size) (hd-size))=some lf:=(by rw[ZY I I (by rw[hi,hx];exact h0),hi,hx];congr 1;omega);have jG:=F9 (n:=x0) I;refine⟨λcP=>awX hp (by rw[yx];exact hb) cP,λnp=>⟨hs,I,?_⟩⟩;have p9:lf<=8*(hd-size):=I;rw[awW hp (by rw[yx];exact hb) np,yx];have e1:(lf:Int) -lg=((lf-lg:Nat):Int):=I;have e2:((lf-lg:Nat):Int) -lg=((lf-2*lg:Nat):Int):=I;rw[e1,e2,Da _ _ _ (I:lg<=lf),Da _ _ _ (I:lg<=lf-lg),M9 I,M9 I];congr 2<;>omega
 refine⟨λ_=>RI hs,λh0 lf jh=>⟨λ_=>RI hs,λnp=>?_⟩⟩;exfalso;omega
end
theorem aai{GL:List de}(hi:i<cs.length)(e:cs.getD i default=GL.getD i default)(hy:(GL.getD i default).sym=y)(hb:(GL.getD i default).bits=b)(hn:(GL.getD i default).base=n):(cU cs)[i*3+0]? =some (U8 y)/\(cU cs)[i*3+1]? =some (U8 b)/\(cU cs)[i*3+2]? =some (dk n):=by
 rw[I8 hi,QU hi,QV hi,e,hy,hb,hn];exact⟨J,J,J⟩
theorem qv(h:n<=255):n=(UInt8.ofNat n).toNat:=by
 have:(UInt8.ofNat n).toNat=n % 256:=(by simp);omega
theorem aiy{y2:Nat}{out:List Nat}(hy:(cs.getD cur default).sym=y)(hb:(cs.getD cur default).bits=b)(BF:(cs.getD tR default).sym=y2)(h:lf<b):rM N cs (f+1) cur tR (lf:Int) out=if out.length+2<=255 then some (out++[y]++[y2])else none:=by
 rw[Xx,hy,hb,BF,ai I]
theorem aiz{v:Nat}{out:List Nat}(hy:(cs.getD cur default).sym=y)(hb:(cs.getD cur default).bits=b)(hn:(cs.getD cur default).base=n)(h:b<=lf)(hv:dS N (lf:Int) b=v):rM N cs (f+1) cur tR (lf:Int) out=if 255<out.length+1 then none else rM N cs f tR (n+v) ((lf-b:Nat):Int) (out++[y]):=by
 rw[Xx,hy,hb,hn,ag I,hv,show(lf:Int) - (b:Int)=((lf-b:Nat):Int) by omega]
theorem aiA{α:Type}(f:Nat->α)(n:Nat):(List.range (n+1)).map f=(List.range n).map f++[f n]:=by rw[pU,f_];rfl
def r5(U:List UInt8)(i:Nat):Nat:=byte U (1+i/2)/2^(4-i % 2*4) % 16
theorem aw2(h:i % 2=0)(hb:byte U (1+i/2)=b):r5 U i=b/2^4/\r5 U (i+1)=b % 2^4:=by
 have W:(i+1)/2=i/2:=I;have h2:(i+1) % 2=1:=I;have h3:b<=255:=(by rw[<-hb];exact toNat_le _);unfold r5;rw[W,h,h2,hb];refine⟨?_,?_⟩
 show b/16 % 16=b/16;omega
 show b/1 % 16=b % 16;omega
theorem R9(h0:U.length≠0)(hb:128<=byte U 0)(hn:byte U 0-127=n):gA U=if U.length<1+(n+1)/2 then none else(gL ((List.range n).map (r5 U))).map λt=>(t,1+(n+1)/2):=by
 subst hn;unfold gA;rw[ag h0];dsimp only;rw[ai hb,ai hb];rfl
theorem R_(h0:U.length≠0)(hb:byte U 0<128):gA U=if U.length<1+byte U 0 then none else(wF (aa U 1 (byte U 0))).bind λws=>(gL ws).map λt=>(t,1+byte U 0):=by
 unfold gA;have hn: ¬128<=byte U 0:=I;rw[ag h0];dsimp only;simp only[ag hn]
theorem aaj{ws:List Nat}: ∀{i:Nat},(∀j,j<i->ws.getD j 0<=12)->fj ws i<=2048*i
 |0,_=>by simp[fj]
 | i+1,h=>by
  have W:=aaj (ws:=ws) (i:=i) (λj hj=>h j I)
  have h2:w2 (ws.getD i 0)<=2048:=by
   unfold w2;split
   exact aI (dp I (show ws.getD i 0-1<=11 by have:=h i I;omega)) aj
   omega
  rw[fj];omega
theorem aw3(n:Nat):List.replicate n (gR 0)=List.map u8 (List.replicate n 0):=by rw[vX];rfl
theorem BU{D:List Nat}(h:i<D.length):(D.map da)[i]? =some (da (D.getD i 0)):=by simp[h]
def GM(m m1:List Nat)(st j tv:Nat):Prop:=m1.length=m.length/\ ∀q,q<m.length->m1.getD q 0=if st<=q/\q<st+j then tv else m.getD q 0
theorem GM.init:GM m m st 0 tv:=⟨J,λq _=>by rw[ag I]⟩
theorem GM.step{m1:List Nat}(h:GM m m1 st j tv):GM m (m1.set (st+j) tv) st (j+1) tv:=by
 refine⟨by rw[dD];exact h.1,λq hq=>?_⟩;rw[eE];by_cases e:st+j=q
 rw[ai ⟨e,by rw[h.1];omega⟩,ai I]
 rw[ag I,h.2 q hq];by_cases e2:st<=q/\q<st+j
 rw[ai e2,ai I]
 rw[ag e2,ag I]
variable {c:Nat}{x:cQ}{w:World}
def FX(x:cQ)(fa:Option Addr)(fn fc:Nat):cQ:={x with fA:=fa,fN:=fn,fC:=fc}
theorem aw4{a a':Option Addr}{n' c':Nat}:(au (FX x a n c)).set 44 (.slice a' n' c')=au (FX x a' n' c'):=rfl
theorem R'{a:Option Addr}:(au (FX x a n c))[44]? =some (.slice a n c):=rfl
structure Hid(P:Prop):Prop where
 o:P
theorem ar2{x:Nat}(e:c+x+a=lf)(h: ¬2*a<=lf):c+x<a:=I
theorem arf(h:f+1+1+n=257):f+(n+1+1)=257:=I
theorem arw(h: ¬255<=n+1):n+1+1<=255:=I
theorem arm{g:Nat}(h:f=g+1+1):g<f:=I
theorem ar1{x:Nat}(e:c+x+a=lf)(h:2*a<=lf):a<=c+x:=I
theorem vI{P:Program}{ρ:Env}{op:Op}{ty:TypeId}{w':World}{z:UInt8}(h:run P ρ op ty w= .ok (.value (u8 z)) w')(e:z.toNat=n):run P ρ op ty w= .ok (.value (U8 n)) w':=by rw[h,<-e]
theorem Sa(h:p:=by have hN:gA (E.drop p)=none:=(by rw[DK,<-pE];rfl);refine a9 (eS (b_ J J J (aA (QL h (ar (ar (ar bF))) (hG.sub aJ) bF I) ?_)));rintro e w1 ⟨be,rfl,h⟩;refine V 5 ?_;replace h:=h.zz [4,2,4,4,4] 2;exact⟨_,_,_,some ⟨fb,0,none⟩,f2,mH,some fb,mI,m,J,h,uy,lH,Or.inr ⟨(Or.inl ⟨_,J⟩),(λt k e=>by rw[hN]at e;cases e)⟩⟩):p:=h
theorem Sb(h:p:=by refine V 4 ?_;refine ee J J J J (aA (qk h (ar (ar bF)) (hG.sub aJ)) ?_);rintro e w1 ⟨be,rfl,h⟩;refine V 5 ?_;replace h:=h.tail.tail;(try dsimp only[dB]at h);exact⟨_,_,_,fa,fn,fc,jq,gB,m,J,h,hFs,lH,Or.inr ⟨(Or.inl ⟨_,J⟩),(λt k e=>by rw[hN]at e;cases e)⟩⟩):p:=h
theorem aiB(h:p:=by refine V 4 ?_;refine ee J J J J (aA (qk h (ar (ar bF)) (hG.sub aJ)) ?_);rintro e w1 ⟨be,rfl,h⟩;refine V 5 ?_;replace h:=h.tail.tail;(try dsimp only[dB]at h);exact⟨_,_,_,fa,fn,fc,jq,gB,m,J,h,hFs,lH,Or.inr ⟨(Or.inl ⟨_,J⟩),(λt k e=>Or.inr (by rw[Ej]at e;cases e;exact aiC I))⟩⟩):p:=h
theorem aw5{r:dQ}{L:List aD}{hb p:Nat}{aE aU:Addr}{dZ:Option Nat}(h:H r w ((af br (au (FX x x.fA x.fN x.fC)) 81)::(dZ,C (cU cs) 227)::(af hb (List.map dk m) 174)::L))(hG:Gl L aE aU)(hX:aP L (.slice ad E.length dc) E)(hE:E.length<=268435456)(hp:p<=E.length)(q_:w5 x.fA x.fN x.fC dZ cs)(lH:m.length=2048):Calls PP 109 #[aW br,.slice ad E.length dc,R p,cf hb 2048 2048] w λe w'=> ∃a b er fa fn fc nC jK m',e= .returned (.tuple #[R a,R b,er])/\H r w' ((af br (au (FX x fa fn fc)) 81)::(nC,C (cU jK) 227)::(af hb (List.map dk m') 174)::L)/\w5 fa fn fc nC jK/\m'.length=2048/\((er= .nilIface/\ ∃t k,gA (E.drop p)=some (t,k)/\b=p+k/\a=t.ak/\(∀i,i<2^t.ak->m'.getD i 0=m8 t i)/\p+k<=E.length/\1<=k)\/(Er aU er/\ ∀t k,gA (E.drop p)=some (t,k)->E.length<=p+k\/t.bits.getD 0 0<t.ak)):=by
 have qm:0<E.length-> ∃db q l T,ad=some ⟨db,q,none⟩/\(af db l T)∈L/\Rd l q (E.map u8):=(by obtain⟨iM,n',c',e1,hl,hc,h3⟩:=id hX;cases e1;intro h0;exact h3 I);obtain⟨T1,fy⟩:=hG.g1;obtain⟨i1,n7⟩:=cX fy;obtain⟨p6,yB,MC,Jm⟩:=id q_;have hUl:(E.drop p).length=E.length-p:=bV;refine wj Tryz.func109 Tryz.ntmps109 [8,9,10] ?_;refine V 14 ?_;refine an J ?_ ?_<;>intro zN
 have hN:gA (E.drop p)=none:=(by unfold gA;rw[ai I]);refine V 4 ?_;refine b_ J J J (aA (tX h bF (hG.sub aJ)) ?_);rintro e w1 ⟨be,rfl,h⟩;refine V 5 ?_;exact⟨_,_,_,x.fA,x.fN,x.fC,dZ,cs,m,J,h,q_,lH,Or.inr ⟨(Or.inl ⟨_,J⟩),(λt k e=>by rw[hN]at e;cases e)⟩⟩
 refine aY (qm I) (λdb eN=>aY (eN) (λq eK=>aY (eK) (λl fL=>aY (fL) (λT jm=>?_))));have ij:=jm.1;have j3:=λi (hi:i<E.length)=>jy jm.2.2 (i:=i) hi;refine fx jm.2.1 λib nT=>(cg ((E.getD p 0).toNat) λhv jY=>?_);have hv8:hv<=255:=(by rw[<-jY];exact toNat_le _);have sG: ∀i,byte (E.drop p) i=(E.getD (p+i) 0).toNat:=λi=>(by unfold byte;simp only[bS,oE]);have dO:byte (E.drop p) 0=hv:=(by rw[sG,kU];exact jY);have hU0:(E.drop p).length≠0:=I;have GN:p<E.length:=I;clear qm;refine V 5 ?_;refine ah (cI J J ij I) (ah (vI (run_load h J (j3 _ I)) jY) ?_);refine V 10 ?_;refine eh h J ?_;intro bW w h;rw[aw3]at h;have aiD:yJ (List.replicate 256 0) []:=⟨by rw[dR],by show 0<=256;omega,λi hi=>absurd hi (by show ¬i<0;omega)⟩;refine V 5 ?_;refine cD [(2,2),(8,10),(13,25),(54,277)] (λρ w=> ∃ws:List Nat,∃Wv:List UInt8,∃k:Nat,∃fa:Option Addr,∃fn fc:Nat,∃jq:Option Nat,∃gB:List de,Kn ρ [(2,R (p+k)),(13,R ws.length)]/\H r w ((af bW (List.map u8 Wv) 233)::(af br (au (FX x fa fn fc)) 81)::(jq,C (cU gB) 227)::(af hb (List.map dk m) 174)::L)/\(yJ Wv ws)/\(w5 fa fn fc jq gB)/\(gA (E.drop p)=(gL ws).map λt=>(t,k))/\(p+k<=E.length/\1<=k)/\(ws.length<=255)) ?_ ?_
 refine V 5 ?_;refine an J ?_ ?_<;>intro Nj
 refine cD [(56,65)] (λρ w=> ∃fb:Nat,∃gB:List de,∃f2 mH:Nat,Kn ρ []/\H r w ((af bW (List.map u8 (List.replicate 256 0)) 233)::(af br (au (FX x (some ⟨fb,0,none⟩) f2 mH)) 81)::((some fb),C (cU gB) 227)::(af hb (List.map dk m) 174)::L)/\(mH<=gB.length)/\(64<=f2/\f2<=mH)) ?_ ?_
 refine V 5 ?_;refine aO h J R' ?_;refine V 3 ?_;refine an J ?_ ?_<;>intro ahc
 refine eS (cM (tu (a:=64) (W:=ao.lit _) (c:=64) (h2:=ao.lit _) h J J J I I I J ?_));intro bc w h;rw[agH]at h;refine V 2 ?_;refine cV (cf bc 64 64) R' ?_;intro w h;rw[aw4]at h;refine aC ?_;replace h:=h.zz [4,1,3,3,4] 1;exact⟨aH 11,bc,List.replicate 64 default,64,64,aq,h,(by rw[dR];exact aR _),I,I⟩
 have Y':dZ≠none:=λe=>(by have:=Jm e;omega);refine(Vx.1 Y').elim λfb n6=>?_;rw[n6]at h;have Gm:x.fA=some ⟨fb,0,none⟩:=(by rw[p6,n6];rfl);rw[Gm]at h;exact aQ ⟨aH 6,fb,cs,x.fN,x.fC,aq,h,I,I,I⟩
 rintro ρ w ⟨fb,gB,f2,mH,⟨k5,rfl⟩,h,auG,auH⟩;refine V 8 ?_;refine aO h J R' ?_;replace h:=h.zz [2] 0;refine Wa (v3:=R 255) (v4:=R 6) J J J J J J J (aA (ago (off:=p+1) (ms:=255) (mb:=6) h (ar bF) (hG.sub aJ) (hX.sub aJ) I hE I I (by show 64<=f2;omega) I) ?_);rintro e w1 ⟨a1,b1,q9,mI,rfl,h,FQ,hd⟩;refine(Jk hd).elim λok cS=>?_;have fX:=cS.1;have fB:=cS.2;have uy:w5 (some ⟨fb,0,none⟩) f2 mH (some fb) mI:=⟨J,I,I,λe=>by cases e⟩;have hSg:aa (E.drop p) 1 hv=aa E (p+1) hv:=(by unfold aa;rw[j7]);have wI:=λ(cP:hv<128)=>R_ hU0 (by rw[dO];exact cP);rw[dO]at wI;rw[hSg]at wI;refine V 12 ?_;refine ah (jz q9 (ok=true) J (λe=>(fX e).1) (λe=>(fB (by simpa using e)).1) J) ?_;refine aC (an J ?_ ?_)<;>intro PT
 have hN:gA (E.drop p)=none:=by
  rw[wI I];by_cases hh:E.length-p<1+hv
  rw[ai I]
  rw[ag I,aw0 I (fB (by simpa using PT)).2,Option.bind_none]
 refine V 8 ?_;replace h:=h.zz [3,1,3,3] 1;exact⟨_,_,_,some ⟨fb,0,none⟩,f2,mH,some fb,mI,m,J,h,uy,lH,Or.inr ⟨(Or.inl ((fB (by simpa using PT)).1)),(λt k e=>by rw[hN]at e;cases e)⟩⟩
 have fy:=fX (by simpa using PT);refine aY (fy.2) (λout eN=>aY (eN) (λsize jw=>?_));have hP:=jw.1;have GB:=jw.2.1;have aak:=jw.2.2;clear cS fX fB hd fy jw eN;have ud:=Dt hP aj aj;have aHO:=ud.1.lZ;have Bm:a1<=6:=ud.2.1;have aiE:2^a1<=64:=aI (dp aj Bm) aj;have p7:=λy (hy:y<2^a1)=>FE ud.1 hy;have aHP:p+1+size<=E.length:=(by have:=FT hP;omega);refine cg (p+1+size) λr6 aal=>?_;refine V 6 ?_;refine aO h J R' ?_;refine V 13 ?_;refine an J ?_ ?_<;>intro tP
 have hN:gA (E.drop p)=none:=(by rw[wI I,ai I]);refine V 4 ?_;refine b_ J J J (aA (tX h (ar (ar bF)) (hG.sub aJ)) ?_);rintro e w1 ⟨be,rfl,h⟩;refine V 5 ?_;replace h:=h.zz [3,1,3,3] 1;exact⟨_,_,_,some ⟨fb,0,none⟩,f2,mH,some fb,mI,m,J,h,uy,lH,Or.inr ⟨(Or.inl ⟨_,J⟩),(λt k e=>by rw[hN]at e;cases e)⟩⟩
 have hle:p+1+hv<=E.length:=I;refine cg (p+1+hv-1) λo0 ho0=>?_;have aHQ:p+hv=o0:=I;refine cg ((E.getD o0 0).toNat) λx0 eN=>?_;have Bo:=aw1 (x0:=x0) hle hP (by rw[ho0];exact eN);rw[ho0,aal]at Bo;have aHR:x0<=255:=(by rw[<-eN];exact toNat_le _);refine cg (wF (aa E (p+1) hv)) λRR hRR=>?_;rw[hRR]at Bo wI;have DK:gA (E.drop p)=RR.bind λws=>(gL ws).map λt=>(t,1+hv):=(by rw[wI I,ag I]);replace Bo:=Hid.mk Bo;clear wI;refine V 9 ?_;refine ah (bZ (iz (b:=1) (h2:=ao.lit _) J J I az) ho0) (cM (uV J J J J J (aA (Gd h (ar (ar bF)) (hG.sub aJ) (hX.sub aJ) (off:=o0) (st:=b1) I hE I) ?_)));rintro e w1 ⟨vs,MP,rfl,t_,D',h,hz,qu⟩;rw[eN]at hz qu;replace hz:=Hid.mk hz;replace qu:=Hid.mk qu;refine V 3 ?_;refine eh h J ?_;intro bB w h;refine qP (vs:=vs) h J J t_ D' (by exact aR 6) J ?_;intro w h;dsimp only[List.set]at h;rw[Gw (by rw[t_];rfl)]at h;refine V 6 ?_;refine ah (jz MP (¬x0=0) J (λe=>(qu.o e).1) (λe=>hz.o (E6.1 e)) J) (aC (an J ?_ ?_))<;>intro Di
 have aiF:x0=0:=I;have hN:gA (E.drop p)=none:=(by rw[DK,Bo.o.1 aiF];rfl);refine V 8 ?_;replace h:=h.zz [4,2,4,4,4] 2;exact⟨_,_,_,some ⟨fb,0,none⟩,f2,mH,some fb,mI,m,J,h,uy,lH,Or.inr ⟨(Or.inl (hz.o aiF)),(λt k e=>by rw[hN]at e;cases e)⟩⟩
 have aam:x0≠0:=I;rw[(qu.o aam).2,GB,aal]at h;have Rx:= @kj x0 8 I;have hI0:=oT.init (E:=E) (o:=o0) I (by rw[eN];exact aam);rw[eN]at hI0;refine cg (7- (8-gH x0)) λc0 lY=>?_;have aHS:c0<=7:=I;refine cg (c0+8*(o0-r6)) λfK z5=>?_;have kh:=Hid.mk (Bo.o.2 aam fK (by rw[lY];exact z5));rw[lY]at h hI0;clear hz Bo qu lY Rx eN;refine V 5 ?_;refine b_ J J J (aA (Yq (b:=a1) (st:=r6) h (ar (ar bF)) (hG.sub aJ) (hX.sub aJ) I hE I I I hI0) ?_);rintro e w1 ⟨v1,vE,o1,iD,eO,rfl,h,pD,pG,gr,mU⟩;rw[z5]at gr mU;replace gr:=Hid.mk gr;replace mU:=Hid.mk mU;replace pG:=Hid.mk pG;refine V 10 ?_;refine ah (jz vE (a1<=fK) J (λe=>(gr.o e).1) (λe=>mU.o (vW e)) J) (aC (an J ?_ ?_))<;>intro aw6
 have hN:gA (E.drop p)=none:=(by rw[DK,kh.o.1 I];rfl);refine V 8 ?_;replace h:=h.zz [4,2,4,4,4] 2;exact⟨_,_,_,some ⟨fb,0,none⟩,f2,mH,some fb,mI,m,J,h,uy,lH,Or.inr ⟨(Or.inl (mU.o (vW aw6))),(λt k e=>by rw[hN]at e;cases e)⟩⟩
 have h1a:a1<=fK:=I;have aw7:=gr.o h1a;obtain⟨aHT,aw8,aw9,aw_,Sc,Sd⟩:=aw7;replace Sd:=Sd (aI Bm aj);clear mU gr;refine V 5 ?_;refine b_ J J J (aA (Yq (b:=a1) (st:=r6) h (ar (ar bF)) (hG.sub aJ) (hX.sub aJ) I hE I I aw9 aw_) ?_);rintro e w1 ⟨v2,BJ,o2,nu,sW,rfl,h,oU,jn,k4,rP⟩;replace k4:=Hid.mk k4;replace rP:=Hid.mk rP;replace jn:=Hid.mk jn;refine V 10 ?_;refine ah (jz BJ (2*a1<=fK) J (λe=>(k4.o (ar1 Sc e)).1) (λe=>rP.o (ar2 Sc e)) J) (aC (an J ?_ ?_))<;>intro aiG
 have hN:gA (E.drop p)=none:=(by rw[DK,kh.o.1 (vW aiG)];rfl);refine V 8 ?_;replace h:=h.zz [4,2,4,4,4] 2;exact⟨_,_,_,some ⟨fb,0,none⟩,f2,mH,some fb,mI,m,J,h,uy,lH,Or.inr ⟨(Or.inl (rP.o (ar2 Sc aiG))),(λt k e=>by rw[hN]at e;cases e)⟩⟩
 have h2a:2*a1<=fK:=I;have aw':=k4.o (ar1 Sc h2a);obtain⟨aHU,axa,axb,axc,aHV,Se⟩:=aw';clear rP k4;replace Se:=Se (aI Bm aj);have MJ:=kh.o.2 h2a;obtain⟨rE,p9,aan⟩:=MJ;refine cg (hv-size) λds hds=>?_;rw[hds]at p9 aan;have aHW:size+ds=hv:=I;clear hds;clear kh;replace pG:=pG.o I;replace jn:=jn.o pG;have e1:v1=dt (num E) (8*r6+fK-a1) a1:=(by rw[Sd];congr 1;omega);have e2:v2=dt (num E) (8*r6+fK-a1-a1) a1:=(by rw[Se];congr 1;omega);rw[<-e1,<-e2]at aan;have z8:Bs E r6 o2 nu sW (fK-2*a1):=⟨jn,I,axb,axc,I⟩;clear Sd Se e1 e2 pG jn;refine V 3 ?_;refine bQ (σ:=Nat×Nat×Nat×Nat×Nat×Nat×Nat×List Nat×List UInt8) [(8,10),(13,13),(19,23),(128,241)] (λ⟨f,s1,s2,o,bi,cn,lf,ws,Wv⟩ ρ w=>Kn ρ [(19,da s1),(20,da s2),(13,R ws.length)]/\H r w ((af bB [aW br,.slice ad E.length dc,aZ o,aZ r6,aZ bi,aZ cn] 207)::(af fb (cU mI) 227)::(af bW (List.map u8 Wv) 233)::(af br (au (FX x (some ⟨fb,0,none⟩) f2 mH)) 81)::(af hb (List.map dk m) 174)::L)/\(Bs E r6 o bi cn lf)/\(lf<=8*ds)/\(s1<2^a1)/\(s2<2^a1)/\(yJ Wv ws)/\(rM (num (aa E r6 ds)) (cY out a1) f s1 s2 ((lf:Nat):Int) (ws)=RR)/\(f+ws.length=257)/\(ws.length<=255)) (λ⟨f,s1,s2,o,bi,cn,lf,ws,Wv⟩=>f) (257,v1,v2,o2,nu,sW,fK-2*a1,[],List.replicate 256 0) ⟨aq,h,z8,(aI (vV _ _) p9),aw8,axa,aiD,aan.symm,J,(by show 0<=255;omega)⟩ ?_;rintro⟨f,s1,s2,o,bi,cn,lf,ws,Wv⟩ ρ w ⟨⟨mD,rfl⟩,h,hB,p9,eZ,fH,jb,pE,hf,kh⟩;refine aY (show ∃Nk,f=Nk+1+1 from⟨f-2,I⟩) (λNk aao=>?_);rw[aao]at pE;have ahN:=hB.le;have Nf:=hB.st;have GA:=hB.left;have hBc:=hB.uq;refine cg (((cY out a1).getD s1 default).sym) λy1 w_=>(cg (((cY out a1).getD s1 default).bits) λyK Sf=>(cg (((cY out a1).getD s1 default).base) λn1 gX=>?_));have Nl:=aai (cs:=mI) (GL:=cY out a1) (i:=s1) I (aak _ eZ) w_ Sf gX;have Sg:=p7 _ eZ;rw[w_,Sf,gX]at Sg;have Si:y1<=255:=(by have:=Sg.2.2.1;have:=ud.2.2;omega);have aHX:=ep yK;refine cg (((cY out a1).getD s2 default).sym) λy4 z9=>(cg (((cY out a1).getD s2 default).bits) λnD Sj=>(cg (((cY out a1).getD s2 default).base) λn2 fW=>?_));have JL:=aai (cs:=mI) (GL:=cY out a1) (i:=s2) I (aak _ fH) z9 Sj fW;have Sk:=p7 _ fH;rw[z9,Sj,fW]at Sk;have JM:y4<=255:=(by have:=Sk.2.2.1;have:=ud.2.2;omega);have aHY:=ep nD;refine V 5 ?_;refine ah (ky J J J I) ?_;refine V 8 ?_;refine ah (run_load h J Nl.2.1) (b_ J J J (aA (Mu (b:=yK) h (hX.sub aJ) hB.le hE I I hB.uq hB.Z7) ?_));rintro e w1 ⟨Sl,o5,bi5,cn5,rfl,h,aHZ,axd,Ek,rf,Sm,Nm⟩;have Nm:=Nm Nf;replace rf:=Hid.mk rf;replace Sm:=Hid.mk Sm;refine ah (j8 J) (aC (eA J ?_ ?_))<;>intro Qu
 have axe:Sl=false:=(by cases Sl with|false=>rfl|true=>exact absurd Qu aj);have aiH:lf<yK:=(by have:=Sm.o axe;omega);rw[aiy w_ Sf z9 aiH]at pE;refine V 6 ?_;refine an J ?_ ?_<;>intro aH0
 rw[ag I]at pE;exact Sa
 rw[ai I]at pE;have Ac:(ws++[y1]).length=ws.length+1:=(by rw[aF];rfl);have Nn:=(jb.snoc (v:=UInt8.ofNat y1) (s:=y1) I (qv Si).symm).snoc (v:=UInt8.ofNat y4) (s:=y4) (by rw[Ac];omega) (qv JM).symm;rw[Ac]at Nn;have No:=DK;rw[<-pE,ss]at No;refine V 7 ?_;refine ah (ux (run_load h J Nl.1) (qv Si)) ?_;refine V 1 ?_;refine gC (v:=u8 (UInt8.ofNat y1)) h J (gl (by first| (rw[jb.l];omega)| (rw[dD,jb.l];omega)| (rw[dD,dD,jb.l];omega))) J J J ?_;intro w h;dsimp only[List.set]at h;rw[<-jM]at h;refine V 7 ?_;refine ah (ky J J J I) (pe J (ah (ux (run_load h J JL.1) (qv JM)) ?_));refine V 1 ?_;refine gC (v:=u8 (UInt8.ofNat y4)) h J (gl (by first| (rw[jb.l];omega)| (rw[dD,jb.l];omega)| (rw[dD,dD,jb.l];omega))) J J J ?_;intro w h;dsimp only[List.set]at h;rw[<-jM]at h;refine V 15 ?_;replace h:=h.zz [4,2,4,4,4] 1;exact⟨aH 106,ws++[y1]++[y4],(Wv.set ws.length (UInt8.ofNat y1)).set (ws.length+1) (UInt8.ofNat y4),1+hv,some ⟨fb,0,none⟩,f2,mH,some fb,mI,Kn.mk ⟨(gy I),(gy (by rw[aF,aF];rfl)),trivial⟩,h,Nn,uy,No,⟨I,I⟩,(by rw[aF,aF];show ws.length+1+1<=255;omega)⟩
 have axf:Sl=true:=(by cases Sl with|true=>rfl|false=>exact absurd Qu aj);replace rf:=rf.o axf;clear Sm;have Sn:yK<=lf:=I;have Ad:Bs E r6 o5 bi5 cn5 lf:=⟨Nm,I,I,Ek,I⟩;refine V 6 ?_;refine ah (run_load h J Nl.2.1) (b_ J J J (aA (yH (b:=yK) h (ar (ar bF)) (hG.sub aJ) (hX.sub aJ) hE Ad I) ?_));rintro e w1 ⟨y3,BJ,o3,nA,kQ,rfl,h,zW,ld,Ea⟩;replace ld:=Hid.mk ld;replace Ea:=Hid.mk Ea;refine V 10 ?_;refine ah (jz BJ (yK<=lf) J (λe=>(ld.o e).1) (λe=>Ea.o (vW e)) J) (aC (an J ?_ ?_))<;>intro aap
 exact absurd Sn aap
 replace ld:=ld.o Sn;clear Ea;have aH1:=ld.2.1;have xe:=ld.2.2.1;have aiI:=ld.2.2.2 (aI Sg.1 (aI Bm aj));clear ld;rw[ait Sn p9]at aiI;rw[aiz w_ Sf gX Sn aiI.symm]at pE;have aH2:=xe.le;have axg:=xe.st;have aH3:=xe.left;have aH4:=xe.uq;have i_:n1+y3<2^a1:=(by have:=Sg.2.1;omega);refine V 6 ?_;refine ah (run_load h J Nl.2.2) ?_;refine V 11 ?_;refine an J ?_ ?_<;>intro aH5
 rw[ai I]at pE;exact Sa
 rw[ag I]at pE;have aiJ:=jb.snoc (v:=UInt8.ofNat y1) (s:=y1) I (qv Si).symm;have Ac:(ws++[y1]).length=ws.length+1:=(by rw[aF];rfl);refine V 7 ?_;refine ah (ux (run_load h J Nl.1) (qv Si)) ?_;refine V 1 ?_;refine gC (v:=u8 (UInt8.ofNat y1)) h J (gl (by first| (rw[jb.l];omega)| (rw[dD,jb.l];omega)| (rw[dD,dD,jb.l];omega))) J J J ?_;intro w h;dsimp only[List.set]at h;rw[<-jM]at h;refine V 11 ?_;refine ah (ky J J J I) ?_;refine V 8 ?_;refine ah (run_load h J JL.2.1) (b_ J J J (aA (Mu (b:=nD) h (hX.sub aJ) xe.le hE I I xe.uq xe.Z7) ?_));rintro e w1 ⟨So,o7,bi7,cn7,rfl,h,aH6,aH7,hI7,uw,Sr,aaq⟩;have aaq:=aaq axg;replace uw:=Hid.mk uw;replace Sr:=Hid.mk Sr;refine ah (j8 J) (aC (eA J ?_ ?_))<;>intro aiK
 have axh:So=false:=(by cases So with|false=>rfl|true=>exact absurd aiK aj);have axi:lf-yK<nD:=(by have:=Sr.o axh;omega);refine cg (((cY out a1).getD (n1+y3) default).sym) λy9 M6=>(cg (((cY out a1).getD (n1+y3) default).bits) λb9_ aiL=>(cg (((cY out a1).getD (n1+y3) default).base) λn9 hn9=>?_));have axj:=aai (cs:=mI) (GL:=cY out a1) (i:=(n1+y3)) I (aak _ i_) M6 aiL hn9;have aiM:=p7 _ i_;rw[M6,aiL,hn9]at aiM;have aiN:y9<=255:=(by have:=aiM.2.2.1;have:=ud.2.2;omega);have aH8:=ep b9_;rw[aiy z9 Sj M6 axi,Ac]at pE;refine V 6 ?_;refine an J ?_ ?_<;>intro axk
 rw[ag I]at pE;exact Sa
 rw[ai I]at pE;have aiO:(ws++[y1]++[y4]).length=ws.length+1+1:=(by rw[aF,Ac];rfl);have Nn:=(aiJ.snoc (v:=UInt8.ofNat y4) (s:=y4) I (qv JM).symm).snoc (v:=UInt8.ofNat y9) (s:=y9) (by rw[aiO];omega) (qv aiN).symm;rw[aiO,Ac]at Nn;have No:=DK;rw[<-pE,ss]at No;refine V 7 ?_;refine ah (ux (run_load h J JL.1) (qv JM)) ?_;refine V 1 ?_;refine gC (v:=u8 (UInt8.ofNat y4)) h J (gl (by first| (rw[jb.l];omega)| (rw[dD,jb.l];omega)| (rw[dD,dD,jb.l];omega))) J J J ?_;intro w h;dsimp only[List.set]at h;rw[<-jM]at h;refine V 7 ?_;refine ah (ky J J J I) (pe J (ah (ux (run_load h J axj.1) (qv aiN)) ?_));refine V 1 ?_;refine gC (v:=u8 (UInt8.ofNat y9)) h J (gl (by first| (rw[jb.l];omega)| (rw[dD,jb.l];omega)| (rw[dD,dD,jb.l];omega))) J J J ?_;intro w h;dsimp only[List.set]at h;rw[<-jM]at h;refine V 15 ?_;replace h:=h.zz [4,2,4,4,4] 1;exact⟨aH 148,ws++[y1]++[y4]++[y9],((Wv.set ws.length (UInt8.ofNat y1)).set (ws.length+1) (UInt8.ofNat y4)).set (ws.length+1+1) (UInt8.ofNat y9),1+hv,some ⟨fb,0,none⟩,f2,mH,some fb,mI,Kn.mk ⟨(gy I),(gy (by rw[aF,aF,aF];rfl)),trivial⟩,h,Nn,uy,No,⟨I,I⟩,(by rw[aF,aF,Ac];show ws.length+1+1+1<=255;omega)⟩
 have axl:So=true:=(by cases So with|true=>rfl|false=>exact absurd aiK aj);replace uw:=uw.o axl;clear Sr;have Ss:nD<=lf-yK:=I;have hB7:Bs E r6 o7 bi7 cn7 (lf-yK):=⟨aaq,I,I,hI7,I⟩;refine V 6 ?_;refine ah (run_load h J JL.2.1) (b_ J J J (aA (yH (b:=nD) h (ar (ar bF)) (hG.sub aJ) (hX.sub aJ) hE hB7 I) ?_));rintro e w1 ⟨y6,ZF,o6,MZ,M0,rfl,h,ZG,pH,Ee⟩;replace pH:=Hid.mk pH;replace Ee:=Hid.mk Ee;refine V 10 ?_;refine ah (jz ZF (nD<=lf-yK) J (λe=>(pH.o e).1) (λe=>Ee.o (vW e)) J) (aC (an J ?_ ?_))<;>intro axm
 exact absurd Ss axm
 replace pH:=pH.o Ss;clear Ee;have axn:=pH.2.1;have hBf:=pH.2.2.1;have aiP:=pH.2.2.2 (aI Sk.1 (aI Bm aj));clear pH;rw[ait Ss (aI (vV _ _) p9)]at aiP;rw[aiz z9 Sj fW Ss aiP.symm,Ac]at pE;refine V 6 ?_;refine ah (run_load h J JL.2.2) ?_;refine V 11 ?_;refine an J ?_ ?_<;>intro aiQ
 rw[ai I]at pE;exact Sa
 rw[ag I]at pE;have axo:=pE;have axp:=Sk.2.1;have JN:(ws++[y1]++[y4]).length=ws.length+1+1:=(by rw[aF,Ac];rfl);have hfn:Nk+(ws++[y1]++[y4]).length=257:=(by rw[JN];exact arf (show Nk+1+1+ws.length=257 by rw[<-aao];exact hf));have Js:(ws++[y1]++[y4]).length<=255:=(by rw[JN];exact arw aiQ);have hs6:n2+y6<2^a1:=ry (Nat.add_lt_add_left axn n2) axp;have aiR:=aiJ.snoc (v:=UInt8.ofNat y4) (s:=y4) I (qv JM).symm;rw[Ac]at aiR;refine V 7 ?_;refine ah (ux (run_load h J JL.1) (qv JM)) ?_;refine V 1 ?_;refine gC (v:=u8 (UInt8.ofNat y4)) h J (gl (by first| (rw[jb.l];omega)| (rw[dD,jb.l];omega)| (rw[dD,dD,jb.l];omega))) J J J ?_;intro w h;dsimp only[List.set]at h;rw[<-jM]at h;refine V 6 ?_;exact⟨aH 84,(Nk,n1+y3,n2+y6,o6,MZ,M0,lf-yK-nD,ws++[y1]++[y4],(Wv.set ws.length (UInt8.ofNat y1)).set (ws.length+1) (UInt8.ofNat y4)),arm aao,Kn.mk ⟨J,J,(gy JN.symm),trivial⟩,h,hBf,aI (vV _ _) (aI (vV _ _) p9),i_,hs6,aiR,axo,hfn,Js⟩
 refine cg (hv-127) λn0 ke=>?_;have Su:=R9 hU0 (by rw[dO];omega) (n:=n0) (by rw[dO];exact ke);rw[hUl]at Su;refine V 4 ?_;refine ah (bZ (iz (b:=127) (h2:=ao.lit _) J J I az) ke) ?_;refine V 8 ?_;refine ah (mT (b:=2) (h2:=ao.lit _) J J aj az) ?_;refine V 5 ?_;refine an J ?_ ?_<;>intro aiS
 have hN2: ∀t k,gA (E.drop p)=some (t,k)->E.length<=p+k:=by
  intro t k e;rw[Su]at e;split at e
  cases e
  cases hx:gL ((List.range n0).map (r5 (E.drop p)))with
  |none=>rw[hx]at e;cases e
  |some t'=>rw[hx]at e;cases e;omega
 refine a9 (bL h [4,8,1,12] ?_);intro w h;refine aw J (zl 0 J (ao.lit _).eq) (aw J (zl 0 J (ao.lit _).eq) ?_);refine av 3 ?_;refine iG ?_;replace h:=h.tail;(try dsimp only[dB]at h);exact⟨_,_,_,x.fA,x.fN,x.fC,dZ,cs,m,J,h,q_,lH,Or.inr ⟨(Or.inr J),(λt k e=>Or.inl (hN2 t k e))⟩⟩
 rw[ag I]at Su;refine V 6 ?_;refine bQ (σ:=Nat×List UInt8) [(2,2),(24,25),(258,277)] (λ⟨i,Wv⟩ ρ w=>Kn ρ [(24,R i),(2,R (p+1+i/2))]/\H r w ((af bW (List.map u8 Wv) 233)::(af br (au (FX x x.fA x.fN x.fC)) 81)::(dZ,C (cU cs) 227)::(af hb (List.map dk m) 174)::L)/\(i % 2=0/\i<=n0+1)/\(yJ Wv ((List.range (min (i) n0)).map (r5 (E.drop p))))) (λ⟨i,Wv⟩=>n0+2-i) (0,List.replicate 256 0) ⟨aq,h,⟨J,I⟩,(by rw[Nat.zero_min];exact aiD)⟩ ?_;rintro⟨i,Wv⟩ ρ w ⟨⟨qY,rfl⟩,h,hi,jb⟩;refine V 7 ?_;refine an J ?_ ?_<;>intro aH9
 refine cg ((E.getD (p+1+i/2) 0).toNat) λbv qX=>?_;have aH_:bv<=255:=(by rw[<-qX];exact toNat_le _);have Np:=aw2 (U:=(E.drop p)) (b:=bv) hi.1 (by rw[sG,<-gQ];exact qX)
 have axq:yJ ((Wv.set i (UInt8.ofNat (bv/2^4))).set (i+1) (UInt8.ofNat (bv % 2^4))) ((List.range (min (i+2) n0)).map (r5 (E.drop p))):=by
  have l1:((List.range (min (i) n0)).map (r5 (E.drop p))).length=i:=(by rw[bX,AG];omega);have s1:=jb.snoc (v:=UInt8.ofNat (bv/2^4)) (s:=bv/2^4) (by rw[l1];omega) (qv I).symm;rw[l1,show min i n0=i by omega,<-Np.1,<-aiA]at s1;have l2:((List.range (i+1)).map (r5 (E.drop p))).length=i+1:=(by rw[bX,AG]);by_cases yk:i+1=n0
  rw[show min (i+2) n0=i+1 by omega,<-Np.1];exact s1.more (by rw[l2];omega)
  have s2:=s1.snoc (v:=UInt8.ofNat (bv % 2^4)) (s:=bv % 2^4) (by rw[l2];omega) (qv I).symm;rw[l2,<-Np.2,<-aiA]at s2;rw[show min (i+2) n0=i+1+1 by omega,<-Np.1,<-Np.2];exact s2
 refine V 7 ?_;refine ah (cI J J ij I) (ah (vI (run_load h J (j3 _ I)) qX) ?_);refine V 12 ?_;refine ah (ux (pX (b:=4) (h2:=ao.lit _) J J az) (qv I)) ?_;refine V 1 ?_;refine gC (v:=u8 (UInt8.ofNat (bv/2^4))) h J (gl (by first| (rw[jb.l];omega)| (rw[dD,jb.l];omega)| (rw[dD,dD,jb.l];omega))) J J J ?_;intro w h;dsimp only[List.set]at h;rw[<-jM]at h;refine V 5 ?_;refine ah (ux (jO (n:=4) J J az aj) (qv I)) ?_;refine V 1 ?_;refine gC (v:=u8 (UInt8.ofNat (bv % 2^4))) h J (gl (by first| (rw[jb.l];omega)| (rw[dD,jb.l];omega)| (rw[dD,dD,jb.l];omega))) J J J ?_;intro w h;dsimp only[List.set]at h;rw[<-jM]at h;refine V 6 ?_;exact⟨aH 25,(i+2,(Wv.set i (UInt8.ofNat (bv/2^4))).set (i+1) (UInt8.ofNat (bv % 2^4))),cw,Kn.mk ⟨J,(gy (I:p+1+i/2+1=p+1+(i+2)/2)),trivial⟩,h,⟨I,I⟩,axq⟩
 have GO:min i n0=n0:=I;rw[GO]at jb;have Bk:((List.range n0).map (r5 (E.drop p))).length=n0:=(by rw[bX,AG]);have p_:i/2=(n0+1)/2:=I;exact iy ⟨aH 19,(List.range n0).map (r5 (E.drop p)),Wv,1+(n0+1)/2,x.fA,x.fN,x.fC,dZ,cs,Kn.mk ⟨(gy I),(gy Bk.symm),trivial⟩,h,jb,q_,Su,⟨I,I⟩,(by rw[Bk];omega)⟩
 rintro ρ w ⟨ws,Wv,k,fa,fn,fc,jq,gB,⟨sO,rfl⟩,h,jb,hFs,Ej,nW,kh⟩;refine a9 (eS (eh h J ?_));intro bM w h;replace h:H r w ((af bM (List.map da (List.replicate 13 0)) 235)::_):=h;have axr:Mk ws (List.replicate 13 0) 0:=⟨by rw[dR],λw hw=>by rw[bS,uM,ai hw];rfl⟩;refine V 9 ?_;refine ah (uY J J I) ?_;refine V 4 ?_;refine bQ (σ:=Nat×List Nat) [(8,10),(27,27),(29,29),(281,302)] (λ⟨i,mk⟩ ρ w=>Kn ρ [(281,R i),(27,da (fj ws i))]/\H r w ((af bM (List.map da mk) 235)::(af bW (List.map u8 Wv) 233)::(af br (au (FX x fa fn fc)) 81)::(jq,C (cU gB) 227)::(af hb (List.map dk m) 174)::L)/\(i<=ws.length)/\(Mk ws mk i)/\(∀j,j<i->ws.getD j 0<=12)) (λ⟨i,mk⟩=>ws.length-i) (0,List.replicate 13 0) ⟨aq,h,(bP _),axr,(λj hj=>I)⟩ ?_;rintro⟨i,mk⟩ ρ w ⟨⟨vk,rfl⟩,h,hi,JO,GP⟩;refine V 5 ?_;refine an J ?_ ?_<;>intro aH'
 refine cg (ws.getD i 0) λwv Ae=>?_;have aIa:wv<=255:=(by rw[<-Ae,<-jb.g i I];exact toNat_le _);have a8:=aaj GP;have hss:fj ws (i+1)=fj ws i+w2 wv:=(by rw[fj,Ae]);refine V 6 ?_;refine ah (vI (run_load h J (gl (by rw[jb.l];omega))) ((jb.g i I).trans Ae)) ?_;refine V 8 ?_;refine an J ?_ ?_<;>intro aIb
 have hN:gA (E.drop p)=none:=(by rw[Ej,awM (j:=i) I I];rfl);exact Sb
 have aar:=JO.step (by rw[Ae];omega);rw[Ae]at aar;have jv:=Ni ws wv i;have hmc:mk.getD wv 0=mJ ws wv i:=JO.2 wv I;have DT:2^(wv-1)<=2048:=aI (dp aj (I:wv-1<=11)) aj;refine V 5 ?_;refine aO h J (BU (by rw[JO.1];omega)) ?_;refine V 2 ?_;refine gC (v:=da (mk.getD wv 0+1)) h J (BU (by rw[JO.1];omega)) J J J ?_;intro w h;dsimp only[List.set]at h;rw[<-jM]at h;refine V 6 ?_;refine an J ?_ ?_<;>intro aIc
 have vj:da (fj ws i+2^(wv-1))=da (fj ws (i+1)):=(by rw[hss];unfold w2;rw[ai I]);refine V 4 ?_;refine ah (gn J J dw az) ?_;refine V 7 ?_;exact⟨aH 22,(i+1,mk.set wv (mk.getD wv 0+1)),cw,Kn.mk ⟨J,vj,trivial⟩,h,I,aar,(λj hj=>by rcases dh j i with W|W;exact GP j W;rw[show j=i by omega,Ae];omega)⟩
 have vj:da (fj ws i)=da (fj ws (i+1)):=(by rw[hss];unfold w2;rw[ag I,kU]);refine V 5 ?_;exact⟨aH 16,(i+1,mk.set wv (mk.getD wv 0+1)),cw,Kn.mk ⟨J,vj,trivial⟩,h,I,aar,(λj hj=>by rcases dh j i with W|W;exact GP j W;rw[show j=i by omega,Ae];omega)⟩
 have p_:i=ws.length:=I;rw[p_]at JO GP;refine cg (fj ws ws.length) λS hS=>?_;have uz:=aaj GP;rw[hS]at uz;have hSi:fj ws i=S:=(by rw[p_];exact hS);refine V 7 ?_;refine an J ?_ ?_<;>intro aId
 have hN:gA (E.drop p)=none:=(by rw[Ej,awN I];rfl);exact Sb
 have w8:S≠0:=I;have hbS:=F9 (n:=S) I;have aIe:= @kj S 32 I;refine cg (l5 S) λmm wG=>?_;have hmm:32- (32-gH (fj ws i))=mm:=(by rw[hSi];unfold l5 at wG;omega);have aiT:1<=mm:=(by unfold l5 at wG;omega);have aIf:S<2^mm:=(by rw[<-wG];exact zb);refine V 4 ?_;refine dJ J J (aA (af3 (by rw[hSi];omega)) ?_);rintro e w1 ⟨rfl,rfl⟩;refine ah (bZ (iz (a:=32) (W:=ao.lit _) J J I az) hmm) ?_;refine V 8 ?_;refine an J ?_ ?_<;>intro aIg
 have hN:gA (E.drop p)=none:=(by rw[Ej,awO (by rw[hS,wG];omega)];rfl);exact Sb
 have aiU:mm<=11:=I;have Nd:2^mm<=2048:=aI (dp aj aiU) aj;have hpm:=ep mm;refine cg (2^mm-S) λrr JP=>?_;have hr:2^mm-fj ws i=rr:=(by rw[hSi];exact JP);have hbR:=F9 (n:=rr) I;have aIh:= @kj rr 12 I;refine cg rr.log2 λlz hlz=>?_;have hJ:31- (32-gH rr)=lz:=I;have axs:lz<=11:=I;have aIi:2^lz<=2048:=aI (dp aj axs) aj;refine V 7 ?_;refine ah (gn J J dw az) ?_;refine V 2 ?_;refine an J ?_ ?_<;>intro aIj
 exfalso;omega
 refine V 4 ?_;refine ah (gn J J dw az) ?_;refine cM (ah (bZ (iz J J I az) hr) ?_);refine V 8 ?_;refine an J ?_ ?_<;>intro ahm
 exfalso;omega
 refine V 4 ?_;refine dJ J J (aA (af3 (a:=rr) I) ?_);rintro e w1 ⟨rfl,rfl⟩;refine ah (bZ (iz (a:=31) (W:=ao.lit _) J J I az) hJ) ?_;refine V 6 ?_;refine ah (gn J J dw az) ?_;refine V 3 ?_;refine an J ?_ ?_<;>intro aIk
 have hN:gA (E.drop p)=none:=(by rw[Ej,awR (by rw[hS,wG,JP,hlz];omega)];rfl);exact Sb
 refine V 7 ?_;refine an J ?_ ?_<;>intro aIl
 exfalso;omega
 have Af:2^lz=rr:=I;have Sw:=awS (ws:=ws) (λj hj=>by have:=ais hS w8 wG hj;omega) hS w8 wG aiU JP (by rw[hlz];exact Af);rw[hlz]at Sw;rw[Sw]at Ej;have FB:lz+1<=mm:=(by have W:2^lz<2^mm:=I;have:=(K0 (I:1<2)).1 W;omega);have Sy:=JO;have aas:=jb.snoc (v:=UInt8.ofNat (lz+1)) (s:=lz+1) I (qv I).symm;have SA:=Sy.last (l:=lz+1) I;have aIm:mk.getD (lz+1) 0=mJ ws (lz+1) ws.length:=Sy.2 _ I;have aIn:=Ni ws (lz+1) ws.length;have jr:(ws++[lz+1]).length=ws.length+1:=(by rw[aF];rfl);have GQ:(cW (ws++[lz+1]) mm mm).length=2^mm:=awV Sw J
 have wH: ∀j,j<(ws++[lz+1]).length->(ws++[lz+1]).getD j 0<=mm:=λj hj=>by
  rcases dh j ws.length with W|W
  have:=ais hS w8 wG W;simp only[bS]at this ⊢;rw[ir W];exact this
  have:j=ws.length:=I;subst this;simp;exact FB
 refine cg (ws++[lz+1]) λal lJ=>?_;rw[lJ]at Ej Sw aas SA jr GQ wH;have axt:=awK GQ aiT;have aiC:= @awL al mm GQ aiT;refine cg (mJ al 1 al.length) λc1 mX=>?_;rw[mX]at axt aiC;have aiV:(List.map da (mk.set (lz+1) (mk.getD (lz+1) 0+1)))[1]? =some (da c1):=(by rw[BU (by rw[SA.1];decide),SA.2 1 aj,mX]);have aIo:c1<=256:=(by rw[<-mX];have:=Ni al 1 al.length;omega);refine V 6 ?_;refine ah (ux (eB (a:=lz+1) J az) (qv I)) ?_;refine V 1 ?_;refine gC (v:=u8 (UInt8.ofNat (lz+1))) h J (gl (by rw[jb.l];omega)) J J J ?_;intro w h;dsimp only[List.set]at h;rw[<-jM]at h;refine V 12 ?_;refine aO h J (BU (by rw[Sy.1];omega)) ?_;refine V 2 ?_;refine gC (v:=da (mk.getD (lz+1) 0+1)) h J (BU (by rw[Sy.1];omega)) J J J ?_;intro w h;dsimp only[List.set]at h;rw[<-jM]at h;refine aC (cD [(8,10),(361,372)] (λρ w=>Kn ρ [(8,R mm)]/\H r w ((af bM (List.map da (mk.set (lz+1) (mk.getD (lz+1) 0+1))) 235)::(af bW (List.map u8 (Wv.set ws.length (UInt8.ofNat (lz+1)))) 233)::(af br (au (FX x fa fn fc)) 81)::(jq,C (cU gB) 227)::(af hb (List.map dk m) 174)::L)/\(2<=c1)) ?_ ?_)
 refine V 3 ?_;refine aO h J aiV ?_;refine V 2 ?_;refine d' (t:=364) J (λaxu=>?_) (λaxu=>?_)
 refine V 6 ?_;refine iI J ?_;exact aiB
 refine dn J J J (Lk (a:=1) (W:=ao.lit _) J J I) J (dn J J J (run_load h J aiV) J (dn J J J (jO (n:=1) J J az aj) J ?_));refine V 3 ?_;refine an J ?_ ?_<;>intro aIp
 exact aiB
 have zS:2<=c1:=I;exact aQ ⟨aM,aq,h,I⟩
 rintro ρ w ⟨⟨I5,rfl⟩,h,zS⟩;refine V 10 ?_;refine bQ (σ:=Nat×List Nat) [(32,34),(373,390)] (λ⟨i,GR⟩ ρ w=>Kn ρ [(33,R i),(32,da (cW al mm i).length)]/\H r w ((af bM (List.map da GR) 235)::(af bW (List.map u8 (Wv.set ws.length (UInt8.ofNat (lz+1)))) 233)::(af br (au (FX x fa fn fc)) 81)::(jq,C (cU gB) 227)::(af hb (List.map dk m) 174)::L)/\(i<=mm)/\(Mn al mm GR i)) (λ⟨i,GR⟩=>mm-i) (0,(mk.set (lz+1) (mk.getD (lz+1) 0+1))) ⟨aq,h,(bP _),(Mn.init SA)⟩ ?_;rintro⟨i,GR⟩ ρ w ⟨⟨Mo,rfl⟩,h,hi,JQ⟩;refine V 7 ?_;refine an J ?_ ?_<;>intro aIq
 have axv:(List.map da GR)[i+1]? =some (da (mJ al (i+1) al.length)):=(by rw[BU (by rw[JQ.1];omega),JQ.2.2 _ I I]);have jF:=Nh al mm i;have lF:=JK al mm (mm- (i+1)) (i+1);rw[show i+1+(mm- (i+1))=mm by omega,GQ]at lF;have hrb:mJ al (i+1) al.length*2^i<=2048:=I;have aIr:(cW al mm i).length<=2048:=I;have zy:=Ni al (i+1) al.length;refine V 14 ?_;refine aO h J axv (cM (ah (dN J J dw az) ?_));refine ah (bZ (d_ J J az) (Nh al mm i).symm) ?_;refine V 7 ?_;refine gC (v:=da (cW al mm i).length) h J (BU (by rw[JQ.1];omega)) J J J ?_;intro w h;dsimp only[List.set]at h;rw[<-jM]at h;refine V 6 ?_;exact⟨aH 22,(i+1,GR.set (i+1) (cW al mm i).length),cw,aq,h,I,JQ.step I⟩
 have him:i=mm:=I;rw[him]at JQ;have axw:=FI.init JQ (m:=m) I;refine V 5 ?_;refine ah (uY J J I) ?_;refine V 4 ?_;refine bQ (σ:=Nat×List Nat×List Nat) [(35,40),(394,434)] (λ⟨i,Ah,m2⟩ ρ w=>Kn ρ [(394,R i)]/\H r w ((af bM (List.map da Ah) 235)::(af bW (List.map u8 (Wv.set ws.length (UInt8.ofNat (lz+1)))) 233)::(af br (au (FX x fa fn fc)) 81)::(jq,C (cU gB) 227)::(af hb (List.map dk m2) 174)::L)/\(i<=al.length)/\(FI al mm m2 Ah i)/\(m2.length=2048)) (λ⟨i,Ah,m2⟩=>al.length-i) (0,GR,m) ⟨aq,h,(bP _),axw,lH⟩ ?_;rintro⟨i,Ah,m2⟩ ρ w ⟨⟨Q6,rfl⟩,h,hi,GS,kE⟩;refine V 5 ?_;refine an J ?_ ?_<;>intro axd
 refine cg (al.getD i 0) λwv Ae=>?_;have aIs:wv<=mm:=(by rw[<-Ae];exact wH i I);refine aQ (a9 (jB [(35,40),(396,433)] (λρ w=> ∃SC mj:List Nat,Kn ρ []/\H r w ((af bM (List.map da SC) 235)::(af bW (List.map u8 (Wv.set ws.length (UInt8.ofNat (lz+1)))) 233)::(af br (au (FX x fa fn fc)) 81)::(jq,C (cU gB) 227)::(af hb (List.map dk mj) 174)::L)/\(FI al mm mj SC (i+1))/\(mj.length=2048)) ?_ ?_))
 refine V 4 ?_;refine ah (vI (run_load h J (gl (by rw[aas.l];omega))) ((aas.g i I).trans Ae)) ?_;refine V 9 ?_;refine an J ?_ ?_<;>intro aIt
 exact iy ⟨aH 7,Ah,m2,aq,(by first|exact h| (rw[dd];exact h)),GS.skip I,kE⟩
 refine cg (wv-1) λv gr=>?_;have k4:v+1<=mm:=I;have aiW:wv=v+1:=I;have hrm:=GS.room GQ I I k4;refine cg (Ah.getD (v+1) 0) λr6 dd=>?_;rw[dd]at hrm;have hgw:(List.map da Ah)[wv]? =some (da r6):=(by rw[aiW,BU (by rw[GS.kl];omega),dd]);have hpv:=ep v;have aIu:2^v<=2048:=I;have htv:i*2^8||| (mm-v)=i % 256*256+(mm-v):=(by rw[OS,oJ I];omega);refine V 4 ?_;refine ah (bZ (iz (b:=1) (h2:=ao.lit _) J J I az) gr) (ah (gn J J dw az) ?_);refine V 6 ?_;refine ah (dN (b:=8) (h2:=ao.lit _) J J aj az) ?_;refine V 5 ?_;refine ah (bZ (iz J J I az) (I:mm+1-wv=mm-v)) (ah (bZ (eI J J az az) htv) ?_);refine V 6 ?_;refine aO h J hgw ?_;refine V 8 ?_;refine bQ (σ:=Nat×List Nat) [(40,40),(417,427)] (λ⟨j,m3⟩ ρ w=>Kn ρ [(40,da j)]/\H r w ((af bM (List.map da Ah) 235)::(af bW (List.map u8 (Wv.set ws.length (UInt8.ofNat (lz+1)))) 233)::(af br (au (FX x fa fn fc)) 81)::(jq,C (cU gB) 227)::(af hb (List.map dk m3) 174)::L)/\(j<=2^v)/\(GM m2 m3 r6 j (i % 256*256+(mm-v)))) (λ⟨j,m3⟩=>2^v-j) (0,m2) ⟨aq,h,(bP _),GM.init⟩ ?_;rintro⟨j,m3⟩ ρ w ⟨⟨aat,rfl⟩,h,hj,Nq⟩;refine V 7 ?_;refine an J ?_ ?_<;>intro aIv
 refine V 10 ?_;refine gC (v:=dk (i % 256*256+(mm-v))) h J (D5 (by rw[Nq.1];omega)) J J J ?_;intro w h;dsimp only[List.set]at h;rw[<-jM]at h;refine V 6 ?_;exact⟨aH 13,(j+1,m3.set (r6+j) (i % 256*256+(mm-v))),cw,aq,h,I,Nq.step⟩
 have hjn:j=2^v:=I;refine V 4 ?_;refine aO h J hgw ?_;refine V 3 ?_;refine gC (v:=da (r6+2^v)) h J (BU (by rw[GS.kl];omega)) J J J ?_;intro w h;dsimp only[List.set]at h;rw[<-jM,aiW]at h;exact aC ⟨aH 38,Ah.set (v+1) (Ah.getD (v+1) 0+2^v),m3,aq,(by first|exact h| (rw[dd];exact h)),GS.step GQ I I k4 I Nq.1 (by intro q hq;rw[Nq.2 q hq,dd,hjn]),Nq.1.trans kE⟩
 rintro ρ w ⟨SC,mj,⟨SD,rfl⟩,h,axx,ZT⟩;refine V 4 ?_;exact⟨aH 4,(i+1,SC,mj),cw,aq,h,I,axx,ZT⟩
 have axy:i=al.length:=I;rw[axy]at GS;refine V 10 ?_;replace h:=h.tail.tail;(try dsimp only[dB]at h);exact⟨mm,p+k,_,fa,fn,fc,jq,gB,m2,J,h,hFs,kE,Or.inl ⟨J,l6 al mm,k,Ej,J,J,(λi hi=>GS.yt GQ hi),nW.1,nW.2⟩⟩
end Go.Z
