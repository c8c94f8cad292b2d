/- Part 11 of the proof. -/
import Derived.Laws.BytesString
import Derived.Laws.Strings
import Derived.Test.YtmgkiicjpmihfaaGreatDoorQJ
set_option linter.all false
set_option maxRecDepth 20000
set_option maxHeartbeats 400000000
namespace Go.Z
open Go Go.Proofs
variable {aE aU:Addr}{e1 e2:aD}{ρ:Env}{F F0 L:List aD}{dl:List UInt8}{br ic sb:Nat}{x:Operand}{r:dQ}{T' ty:TypeId}{er:Value}{w:World}
theorem aAK{y:Operand}(hx:Env.ev ρ x=er)(he:Er aU er)(hy:Env.ev ρ y= .iface 199 (.pointer (some aE)))(h:H r w L)(hG:Gl L aE aU):run PP ρ (.binOp .eql 103 x y T') ty w= .ok (.value (.bool false)) w:=by
 rcases he with⟨b,rfl⟩|rfl
 exact asg hx hy aj
 obtain⟨l,T,hU⟩:=hG.bU;obtain⟨l',T',hE⟩:=hG.bE;exact QJ hx hy h hG.ne hU hE
theorem aAL{c:Value}(hx:Env.ev ρ x=er)(he:Er aU er)(hc:c= .nilIface):run PP ρ (.binOp .eql 103 x (.const c) T') ty w= .ok (.value (.bool false)) w:=by
 obtain⟨a,b,e⟩:=he.TO;exact Ye (hx.trans e) hc
theorem aAM(h:H r w F)(hG:Gl F aE aU):Calls PP 36 #[.nilIface] w λe w'=>e= .returned (R 0)/\H r w' F:=by
 obtain⟨T0,Hj⟩:=hG.g0;obtain⟨i0,rV⟩:=cX Hj;refine gD Tryz.func36 Tryz.ntmps36 [2] ?_;refine V 12 ?_;refine ah (afV J J) (dI (aC (iI J ?_)));refine V 5 ?_;exact⟨J,h⟩
theorem aAN(h:H r w F)(hG:Gl F aE aU):Calls PP 36 #[.iface 199 (.pointer (some aE))] w λe w'=>e= .returned (R 1)/\H r w' F:=by
 obtain⟨T0,Hj⟩:=hG.g0;obtain⟨i0,rV⟩:=cX Hj;refine gD Tryz.func36 Tryz.ntmps36 [2] ?_;refine V 12 ?_;refine ah (Ye J J) (dI (aC (fV J ?_)));refine V 3 ?_;refine ah (Mq J J) (dI (aC (iI J ?_)));refine V 5 ?_;exact⟨J,h⟩
theorem aAO(h:H r w F)(hG:Gl F aE aU){er:Value}(Kf:Er aU er):Calls PP 36 #[er] w λe w'=>e= .returned (R 2)/\H r w' F:=by
 obtain⟨T0,Hj⟩:=hG.g0;obtain⟨i0,rV⟩:=cX Hj;refine gD Tryz.func36 Tryz.ntmps36 [2] ?_;refine V 12 ?_;refine ah (aAL J Kf J) (dI (aC (fV J ?_)));refine V 3 ?_;refine ah (aAK J Kf J h hG) (dI (aC (fV J ?_)));refine V 6 ?_;exact⟨J,h⟩
def akq(aE aU:Addr)(er:Value)(kk:Nat):Prop:=(er= .nilIface/\kk=0)\/(er= .iface 199 (.pointer (some aE))/\kk=1)\/(Er aU er/\kk=2)
theorem aAP{kk:Nat}(h:H r w F)(hG:Gl F aE aU)(he:akq aE aU er kk):Calls PP 36 #[er] w λe w'=>e= .returned (R kk)/\H r w' F:=by
 rcases he with⟨rfl,rfl⟩| ⟨rfl,rfl⟩| ⟨he,rfl⟩
 exact aAM h hG
 exact aAN h hG
 exact aAO h hG he
theorem H.aAQ{G:List aD}{e:aD}(h:H r w (e::e1::(G++e2::F))):H r w (e1::e2::e::(G++F)):=
 ((h.perm ((List.perm_middle.cons e1).cons e)).mv 2).mv 2
theorem H.aAR{G:List aD}{e:aD}(h:H r w (e::e1::e2::(G++F))):H r w (e::e1::(G++e2::F)):=h.perm ((List.perm_middle.symm.cons e1).cons e)
def abc(D:List UInt8)(iA:Option Addr)(ic sb br:Nat)(F0:List aD)(dl Hl:List UInt8)(pos kk k:Nat)(Y:List aD)(pc:List Value):Prop:=
 (kk=0/\ ∃x' A' pos' qB kS X,Y=(some br,C (au x') 81)::A'/\jR D iA ic sb F0 A' x' pos' qB kS/\qB=(dl++X)++kS.drop x'.off/\x'.off<=kS.length/\k=X.length/\0<k/\Rd pc 0 (List.map u8 X)/\(pos+3<=pos'\/(pos'=pos/\Hl=X++kS.drop x'.off)))\/
 (k=0/\kk=1/\DF D 0 []=(1,dl))\/(k=0/\kk=2/\(DF D 0 []).1≠1)
theorem aAS{l:List Value}{X:List Value}(h:X.length<=l.length):Rd (cT l 0 X) 0 X:=by
 rw[AQ _ _ _ I,pV,List.nil_append];exact Rd.left _ _
theorem aAT{D:List UInt8}{iA:Option Addr}{pos:Nat}{bp k:Nat}{pl:List Value}{Hl:List UInt8}(fF:pl.length=4096)(hh:(er= .nilIface/\ ∃x' A' pos' qB kS X,H r w ((af br (au x') 81)::(af bp (cT pl 0 (List.map u8 X)) 5)::(A'++e2::L))/\jR D iA ic sb F0 A' x' pos' qB kS/\qB=(dl++X)++kS.drop x'.off/\x'.off<=kS.length/\k=X.length/\k<=4096/\(0<4096->0<k)/\(pos+3<=pos'\/(pos'=pos/\Hl=X++kS.drop x'.off)))\/(k=0/\(∃Z,H r w ((af bp (pl) 5)::(Z++e2::L)))/\((er= .iface 199 (.pointer (some aE))/\DF D 0 []=(1,dl))\/(Er aU er/\(DF D 0 []).1≠1)))): ∃pc Y kk,H r w ((af bp pc 5)::e2::(Y++L))/\k<=4096/\akq aE aU er kk/\abc D iA ic sb br F0 dl Hl pos kk k Y pc:=by
 rcases hh with⟨he,x',A',pos',qB,kS,X,h,W,h2,h3,h4,h5,h6,h7⟩| ⟨h0,⟨Z,h⟩,h2⟩
 exact⟨_,_,0,h.aAQ,h5,Or.inl ⟨he,J⟩,Or.inl ⟨J,x',A',pos',qB,kS,X,J,W,h2,h3,h4,h6 aj,aAS (by rw[bX];omega),h7⟩⟩
 rcases h2 with⟨h2,h3⟩| ⟨h2,h3⟩
 exact⟨_,Z,1,h.IZ,I,Or.inr (Or.inl ⟨h2,J⟩),Or.inr (Or.inl ⟨h0,J,h3⟩)⟩
 exact⟨_,Z,2,h.IZ,I,Or.inr (Or.inr ⟨h2,J⟩),Or.inr (Or.inr ⟨h0,J,h3⟩)⟩
theorem aAU{D gI bo:List UInt8}{iA:Option Addr}{pos:Nat}{A:List aD}{x:cQ}(h:H r w ((af br (au x) 81)::(A++L)))(hS:jR D iA ic sb F0 A x pos gI bo)(j1:gI=dl++bo.drop x.off)(nZ:x.off<=bo.length)(g8:Sub F0 L)(hG:Gl F0 aE aU)(hD:aP F0 (.slice iA D.length ic) D)(jP:D.length<=140737488355328)(hV:(DF D 0 []).1≠0):Calls PP 24 #[aW br,R 4096] w λe w'=> ∃k kk bp Y pc,e= .returned (.agg #[R k,cf bp k 4096,R kk])/\H r w' ((af bp pc 5)::(Y++L))/\k<=4096/\abc D iA ic sb br F0 dl (bo.drop x.off) pos kk k Y pc:=by
 refine CW (P:=PP) Tryz.func24 43 Tryz.ntmps24 4 64 [] J J (args:=[_,_]) J (a9 (eS (eh h J ?_)));intro bs w h;refine V 5 ?_;refine ah (Pk (a:=4096) (b:=0) (W:=ao.lit _) (h2:=ao.lit _) J J) (aC (fV J ?_));refine V 4 ?_;refine tu h J J J I I I J ?_;intro bp w h;refine V 6 ?_;replace h:=h.zz [1,1,2] 0;have fF:(dj [Value.int .u8 ((0:Nat):Int)] 4096).length=4096:=(by rw[CU];rfl);refine b_ J J J (aA (aAJ (L:=(af bs [R 0,.slice none 0 0,R 0] 64)::L) (n:=4096) h.aAR fF aj hS j1 nZ (g8.trans (Sub.cons _ _)) hG hD jP hV) ?_);rintro e w1 ⟨er,k,rfl,hh⟩;have hu:=aAT (L:=L) (e2:=(af bs [R 0,.slice none 0 0,R 0] 64)) (aE:=aE) (aU:=aU) fF hh;clear hh;refine AW (hu) λpc Y kk q=>?_;have h:=q.1;have hek:=q.2.2.1;have rO:=q.2.1;refine V 7 ?_;refine bL h [0,4,8,12,16,20,24,28,35,36,43] ?_;intro w h;refine av 4 ?_;refine aw J (zh (b:=4096) (h2:=ao.lit _) J J) (aw J (bZ (Lf (a:=0) (W:=ao.lit _) J J) (I:max 0 (min k 4096)=k)) (aw J (lX J J rO) (kA J (pY J J J (aA (aAP h (hG.sub (g8.trans ((w7 Y).trans ((Sub.cons _ _).trans (Sub.cons _ _))))) hek) ?_)))));rintro e w1 ⟨rfl,h⟩;refine aw J (wg (ao6 _ _ _ _ _) J J J) (Lo J h J J J J (by first|decide|exact aR _| (simp;done)|omega) J ?_);intro w h;(try dsimp only[cT,List.set]at h);refine cm (iG (⟨_,qQ [_,_,_] h J ⟨J,J,J,trivial⟩ J,?_⟩));exact⟨k,kk,bp,Y,pc,J,(h.mv 1).tail,rO,q.2.2.2⟩
variable {k:Nat}
theorem aAV{D:List UInt8}{iA:Option Addr}{Hl:List UInt8}{pos kk:Nat}{Y:List aD}{pc:List Value}(h:abc D iA ic sb br F0 dl Hl pos kk k Y pc): ∃X:List UInt8,k=X.length/\Rd pc 0 (List.map u8 X)/\((kk=0/\0<k/\ ∃x' A' pos' qB kS,Y=(af br (au x') 81)::A'/\jR D iA ic sb F0 A' x' pos' qB kS/\qB=(dl++X)++kS.drop x'.off/\x'.off<=kS.length/\(pos+3<=pos'\/(pos'=pos/\Hl=X++kS.drop x'.off)))\/(¬kk=0/\X=[]/\((decide (kk=1)=true/\DF D 0 []=(1,dl))\/(decide (kk=1)=false/\(DF D 0 []).1≠1)))):=by
 rcases h with⟨h0,x',A',pos',qB,kS,X,W,h2,h3,h4,h5,h6,h7,h8⟩| ⟨W,rfl,h3⟩| ⟨W,rfl,h3⟩
 exact⟨X,h5,h7,Or.inl ⟨h0,h6,x',A',pos',qB,kS,W,h2,h3,h4,h8⟩⟩
 exact⟨[],W,trivial,Or.inr ⟨by decide,J,Or.inl ⟨J,h3⟩⟩⟩
 exact⟨[],W,trivial,Or.inr ⟨by decide,J,Or.inr ⟨J,h3⟩⟩⟩
theorem msr{P p p' a b:Nat}(W:p'<=P)(h2:b<=4194304)(h3:0<k)(h:p+3<=p'\/(p'=p/\a=k+b)):(P-p')*4194305+b<(P-p)*4194305+a:=by
 rcases h with h| ⟨rfl,rfl⟩
 have:(P-p)*4194305=(P-p')*4194305+(p'-p)*4194305:=(by rw[<-qH];congr 1;omega);have h5:4194305<=(p'-p)*4194305:=Nat.le_mul_of_pos_left _ I;omega
 omega
theorem aAW{D gI bo:List UInt8}{iA:Option Addr}{pos:Nat}{A:List aD}{x:cQ}(h:H r w ((af br (au x) 81)::(A++L)))(hS:jR D iA ic sb F0 A x pos gI bo)(j1:gI=bo.drop x.off)(nZ:x.off<=bo.length)(g8:Sub F0 L)(hG:Gl F0 aE aU)(hD:aP F0 (.slice iA D.length ic) D)(jP:D.length<=140737488355328)(hV:(DF D 0 []).1≠0):Calls PP 17 #[aW br] w λe w'=> ∃ob out c sp ok Z,e= .returned (.tuple #[.slice (aB ob) out.length c,.bool ok])/\H r w' ((ob,C (List.map u8 out++sp) 5)::(Z++L))/\bG ob out.length c (List.map u8 out) sp 1/\((ok=true/\DF D 0 []=(1,out))\/(ok=false/\(DF D 0 []).1≠1)):=by
 replace h:=(h.ghost (C (List.map u8 []++[]) 5)).mv 1;dsimp only[dB]at h;refine gD Tryz.func17 Tryz.ntmps17 [2,3] ?_;refine V 10 ?_;refine bQ (σ:=cQ×List aD×Nat×List UInt8×List UInt8×List UInt8×Option Nat×Nat×List Value) [(2,18)] (λ⟨xx,AA,pp,tt,bb,out,ob,c,sp⟩ ρ w=>Kn ρ [(4,.slice (aB ob) out.length c)]/\H r w ((af br (au xx) 81)::(ob,C (List.map u8 out++sp) 5)::(AA++L))/\(jR D iA ic sb F0 AA xx pp tt bb)/\(tt=out++bb.drop xx.off)/\(xx.off<=bb.length)/\(bG ob out.length c (List.map u8 out) sp 1)) (λ⟨xx,AA,pp,tt,bb,out,ob,c,sp⟩=>(D.length-pp)*4194305+(bb.drop xx.off).length) (x,A,pos,gI,bo,[],none,0,[]) ⟨aq,h,hS,(by rw[j1,List.nil_append]),nZ,J,J,aR _,λ_=>rfl⟩ ?_;rintro⟨xx,AA,pp,tt,bb,out,ob,c,sp⟩ ρ w ⟨⟨sO,rfl⟩,h,lQ,oV,oU,hk⟩;refine V 4 ?_;have eo:=lQ.tl;refine b_ (v1:=R 4096) J J J ((aAU (L:=(ob,C (List.map u8 out++sp) 5)::L) h.akp lQ oV oU (g8.trans (Sub.cons _ _)) hG hD jP hV).mono ?_);clear h;rintro e w1 hh;refine aY (hh) (λk eN=>aY (eN) (λkk eK=>aY (eK) (λbp fL=>aY (fL) (λY gE=>aY (gE) (λpc oN=>?_)))));have h:=oN.2.1.IZ;refine⟨_,oN.1,?_⟩;have rO:=oN.2.2.1;refine(aAV oN.2.2.2).elim λX hX=>?_;have BA:=hX.1;refine eh h J ?_;intro bT w h;refine qP h J J J J (by first|decide|exact aR _| (simp;done)|omega) J ?_;intro w h;(try dsimp only[cT,List.set]at h);refine V 6 ?_;refine kW (List.map u8 out) sp (List.map u8 X) h 2 J J J hk (Src.slice (j:=1) (q2:=0) J hX.2.1 (by rw[bX,eC];exact BA.symm)) (by intro y hy;obtain⟨z,_,rfl⟩:=jd.1 hy;rfl) (by rw[oV,aF]at eo;omega) aj J ?_;intro w cr c2 cG h dE hJ kZ;dsimp only[List.set]at h;rw[<-f_]at h dE;have cK:bG cr (out++X).length c2 (List.map u8 (out++X)) cG 1:=⟨by rw[bX,eC],dE,by rw[aF,<-BA];exact hJ,kZ⟩;refine V 8 ?_;refine an J ?_ ?_<;>intro FG
 have NW:=hX.2.2.resolve_left (λz=>FG z.1);refine a9 (bL h [0,4,16,9,12,20] ?_);intro w h;refine av 7 ?_;exact iG ⟨cr,out++X,c2,cG,_,Y,(by rw[aF,<-BA];rfl),h.tail.tail,cK,by rw[NW.2.1,dP];exact NW.2.2⟩
 have NW:=hX.2.2.resolve_right (λz=>z.1 (nj.1 FG));have aAX:=NW.2.1;refine adU (NW.2.2) λx2 A2 p2 t2 b2 q=>?_;replace h:=h.tail.tail;rw[q.1]at h;replace h:=h.zz [1] 0;(try dsimp only[dB,List.cons_append]at h);exact aQ ⟨aH 12,(x2,A2,p2,t2,b2,out++X,cr,c2,cG),(msr q.2.1.pl (by have:=q.2.1.bl;rw[bV];omega) aAX (q.2.2.2.2.imp_right (λz=>⟨z.1,by rw[z.2,aF,BA]⟩))),Kn.mk ⟨iJ J (by rw[aF,BA]) J,trivial⟩,h,q.2.1,q.2.2.1,q.2.2.2.1,cK⟩
def Hm:cQ:=⟨.nilIface,false,false,false,false,0,0,none,0,0,0,0,0,0,none,0,0,0,0,none,0,0,0,none,0,0,none,0,0,λ_=> .slice none 0 0,λ_=>0,λ_=> .slice none 0 0,λ_=>0,none,0,0,0,λ_=>0,λ_=>0,0⟩
theorem aAY{v:Value}(hv:plain v=true)(h:H r w ((af br (au Hm) 81)::L)):Calls PP 25 #[aW br,v] w λe w'=>e= .returned (.tuple #[])/\H r w' ((af br (au {Hm with sV:=v}) 81)::L):=by
 refine gS Tryz.func25 Tryz.ntmps25 [] ?_;refine V 6 ?_;refine gC (v:=v) h J J J hv J ?_;intro w h;dsimp only[List.set]at h;rw[atW]at h;refine V 6 ?_;refine gU (.bool false) ?_;intro w h;rw[atX]at h;refine V 6 ?_;refine gU (.bool false) ?_;intro w h;rw[atY]at h;refine V 6 ?_;refine gU (.bool false) ?_;intro w h;rw[atZ]at h;refine V 6 ?_;refine gU (.bool false) ?_;intro w h;rw[aua]at h;refine V 6 ?_;refine gU (cy 0) ?_;intro w h;rw[aub]at h;refine V 6 ?_;refine b7 ?_;intro w h;rw[agA]at h;refine V 8 ?_;refine ah (lX (ad:=none) (len:=0) (cap:=0) (c:=0) (W:=ao.lit _) J J aj) ?_;refine V 2 ?_;refine gU (.slice none 0 0) ?_;intro w h;rw[auc]at h;refine V 5 ?_;refine gU (R 0) ?_;intro w h;rw[YZ]at h;exact aC ⟨J,h⟩
theorem aAZ{v:Value}(hv:plain v=true)(h:H r w L):Calls PP 18 #[v] w λe w'=> ∃br,e= .returned (aW br)/\H r w' ((af br (au {Hm with sV:=v}) 81)::L):=by
 refine gD Tryz.func18 Tryz.ntmps18 [2] ?_;refine V 6 ?_;refine eh h J ?_;intro br w h;refine V 6 ?_;have h:H r w ((af br (au Hm) 81)::L):=h;refine b_ J J J (aA (aAY hv h) ?_);rintro e w1 ⟨rfl,h⟩;refine V 7 ?_;exact⟨_,J,h⟩
theorem aA0{ad:Option Addr}{n c:Nat}(h:H r w L):Calls PP 19 #[.slice ad n c] w λe w'=> ∃sb,e= .returned (aW sb)/\H r w' ((af sb [.slice ad n c,R 0,.int .i64 (-1)] 84)::L):=by
 refine gD Tryz.func19 Tryz.ntmps19 [2] ?_;refine V 7 ?_;refine ah (wg (v1:=R 0) (ao8 _ _ _ _ _) J J J) (sB h J J J ?_);intro bs w h;refine V 3 ?_;exact⟨_,J,h⟩
theorem aA1{D:List UInt8}{iA:Option Addr}{pr:Int}(hD:0<D.length)(h:H r w ((af br (au {Hm with sV:= .iface 58 (aW sb)}) 81)::(af sb [.slice iA D.length ic,R 0,.int .i64 pr] 84)::L)): ∃A,H r w ((af br (au {Hm with sV:= .iface 58 (aW sb)}) 81)::(A++L))/\jR D iA ic sb F0 A {Hm with sV:= .iface 58 (aW sb)} 0 [] []:=by
 refine⟨AL D iA ic sb 0 pr none none none none none none none none none (List.map u8 []++[]) [] [] (List.map u8 []++[]) [] [] [] [] [] [],?_,?_⟩
 exact(((((((((((h.ghost (C (List.map u8 []++[]) 5)).ghost (C [] 5)).ghost (C [] 5)).ghost (C (aX []) 214)).ghost (C (aX []) 214)).ghost (C (aX []) 214)).ghost (C (List.map dk []) 174)).ghost (C (cU []) 227)).ghost (C (List.map u8 []++[]) 5)).mv 10).mv 10)
 refine⟨pr,none,none,none,none,none,none,none,none,none,[],[],[],[],[],[],[],[],[],[],[],J,J,bP _,?_,?_,J,bP _,Or.inl ⟨J,Or.inr hD,bP _,J⟩⟩
 exact⟨⟨J,J,λ_=>rfl⟩,⟨J,J,aR _,λ_=>rfl⟩,⟨J,J,λ_=>rfl⟩,⟨J,Or.inl J⟩,⟨J,aR _,bP _,λ_=>rfl⟩,⟨0,0,J,aR _,Or.inl J⟩,⟨0,0,J,aR _,Or.inl J⟩,0,0,J,aR _,Or.inl J⟩
 exact⟨J,J,J,J,aR _,λ_=>rfl⟩
theorem akr{D:List UInt8}{iA:Option Addr}(h:H r w L)(hG:Gl L aE aU)(hD:aP L (.slice iA D.length ic) D)(jP:D.length<=140737488355328)(hV:(pB D).1≠0):Calls PP 10 #[.slice iA D.length ic] w λe w'=> ∃ob out c sp ok Z,e= .returned (.tuple #[.slice (aB ob) out.length c,.bool ok])/\H r w' ((ob,C (List.map u8 out++sp) 5)::(Z++L))/\bG ob out.length c (List.map u8 out) sp 1/\((ok=true/\pB D=(1,out))\/(ok=false/\(pB D).1≠1)):=by
 have hD0:0<D.length:=by
  rcases nO D.length with e|e
  exact absurd (by unfold pB;rw[ai e]) hV
  exact e
 have gp:pB D=DF D 0 []:=(by unfold pB;rw[ag I];rfl);rw[gp]at hV ⊢;refine gD Tryz.func10 Tryz.ntmps10 [2,3] ?_;refine V 8 ?_;refine dJ J J (aA (aA0 h) ?_);rintro e w1 ⟨sb,rfl,h⟩;refine ah (asf J) (dJ J J (aA (aAZ J h) ?_));rintro e w1 ⟨br,rfl,h⟩;refine(aA1 (F0:=L) hD0 h).elim λA hA=>?_;refine dJ J J ((aAW hA.1 hA.2 J (aR _) aJ hG hD jP hV).mono ?_);clear h;rintro e w1 hh;refine aY (hh) (λob eN=>aY (eN) (λout eK=>aY (eK) (λc fL=>aY (fL) (λsp gE=>aY (gE) (λok qf=>aY (qf) (λZ q=>?_))))));have h:=q.2.1;refine⟨_,q.1,?_⟩;refine V 6 ?_;exact⟨ob,out,c,sp,ok,Z,J,h,q.2.2⟩
variable {f:FuncId}{X:List UInt8}
def Hn(X:List UInt8):ByteArray:=(X.map λx:UInt8=>(x.toNat:Int)).foldl (λr n=>r.push (UInt8.ofNat n.toNat)) ByteArray.empty
theorem foldl_push(X:List UInt8): ∀s:ByteArray,((X.map λx:UInt8=>(x.toNat:Int)).foldl (λr n=>r.push (UInt8.ofNat n.toNat)) s).data.toList=s.data.toList++X:=by
 induction X with
 |nil=>intro s;simp
 | cons x X ih=>
   intro s
   rw[EW,KV,ih]
   simp[ByteArray.push]
theorem aA2(X:List UInt8):(Hn X).toList=X:=by
 rw[ByteArray.toList_eq];unfold Hn;rw[foldl_push];rfl
section
variable {P:Program}{ρ:Env}{x y:Operand}{ty:TypeId}{w:World}{r:dQ}{L:List aD}{T T' E:TypeId}
theorem abd{v:Value}[hu:bO P T (.slice E)] [he:bO P E (.int .u8)] [hd:bO P T' .string](h:H r w L)(hx:Env.ev ρ x=v)(hX:aP L v X):run P ρ (.convert T T' x) ty w= .ok (.value (.string (Hn X))) w:=by
 obtain⟨ad,n,c,rfl,hl,hc,h3⟩:=hX
 have key:(convert T T' (.slice ad n c)).run P w= .ok (.string (Hn X)) w:=by
  cases ad with
  | none=>
    have h0:X=[]:=by
      rcases nO X.length with e|e
      . exact kq.1 e
      . obtain⟨b,q,l,T,e2,_⟩:=h3 I;cases e2
    subst h0
    simp[convert,run_underlying hu.eq,run_underlying hd.eq,run_underlying he.eq,Conv.bytesToString,Sem.run_pure];rfl
  | some a=>
    rw[run_convert_bytes_string w T T' E a n c hu.eq he.eq hd.eq]
    unfold Hn
    refine run_bytesToString w a n c _ ?_
    rw[HV]
    rcases nO X.length with e|e
    . have h0:X=[]:=kq.1 e
      subst h0
      have hn:n=0:=hl
      subst hn
      simp[loadCells,loadCellsFrom]
    . obtain⟨b,q,l,T,e2,hm,hr⟩:=h3 I
      cases e2
      obtain⟨i,hi⟩:=HP hm
      exact CR h hi hr (by rw[bX];exact hl.symm)
 simp[run,execOp,hx,key]
theorem aks{Y:List UInt8}(hx:Env.ev ρ x= .string (Hn X))(hy:Env.ev ρ y= .string (Hn Y)):run P ρ (.binOp .eql T x y T') ty w= .ok (.value (.bool (decide (X=Y)))) w:=by
 have e:(X==Y)=decide (X=Y):=(by by_cases h:X=Y<;>simp[h]);simp[run,execOp,hx,hy,eqGuard,binOp,Op.stringOp,aA2,e,Sem.run_pure]
end
section
variable {P:Program}{n:Nat}{K:gw}{ρ:Env}{w:World}{all:Array Oper}{rest:List Oper}{d:Option Nat}{ty:TypeId}{pos:String}{aN:Array Edge}{g t:Nat}{want:Bool}
theorem aA3[Body P f] {ts:Array TypeId} (hg:(all[g]?).bind (·.dst)=some t) (ht:Nat.blt t n=true) (hv:ρ t= .bool want) (hd:aV n d=true)
 (h:Calls P f #[] w λe w'=> ∃v,e= .returned v/\O P n all rest K (Env.put ρ d v) w'):
 O P n all ({dst:=d,op:= .call {callee:= .value (.func f),args:= #[],argTypes:=ts},type:=ty,pos:=pos,after:=aN,guard:=some (g,want)}::rest) K ρ w:=V' hg ht hv (by simp) hd h
theorem aA4[Body P f] {x0:Operand} {v0:Value} {ts:Array TypeId} (hg:(all[g]?).bind (·.dst)=some t) (ht:Nat.blt t n=true) (hv:ρ t= .bool want) (h0:Env.ev ρ x0=v0) (hd:aV n d=true)
 (h:Calls P f #[v0] w λe w'=> ∃v,e= .returned v/\O P n all rest K (Env.put ρ d v) w'):
 O P n all ({dst:=d,op:= .call {callee:= .value (.func f),args:= #[x0],argTypes:=ts},type:=ty,pos:=pos,after:=aN,guard:=some (g,want)}::rest) K ρ w:=V' hg ht hv (by simp[h0]) hd h
theorem yT[Body P f] {x0 x1:Operand} {v0 v1:Value} {ts:Array TypeId} (hg:(all[g]?).bind (·.dst)=some t) (ht:Nat.blt t n=true) (hv:ρ t= .bool want) (h0:Env.ev ρ x0=v0) (W:Env.ev ρ x1=v1) (hd:aV n d=true)
 (h:Calls P f #[v0,v1] w λe w'=> ∃v,e= .returned v/\O P n all rest K (Env.put ρ d v) w'):
 O P n all ({dst:=d,op:= .call {callee:= .value (.func f),args:= #[x0,x1],argTypes:=ts},type:=ty,pos:=pos,after:=aN,guard:=some (g,want)}::rest) K ρ w:=V' hg ht hv (by simp[h0,W]) hd h
end
theorem aA5{va vb:Value}{A B:List UInt8}(h:H r w F)(hA:aP F va A)(hB:aP F vb B):Calls PP 11 #[va,vb] w λe w'=>e= .returned (.bool (decide (A=B)))/\H r w' F:=by
 refine gS Tryz.func11 Tryz.ntmps11 [4] ?_;refine V 7 ?_;refine ah (abd h J hA) (cM (ah (abd h J hB) (ah (aks J J) ?_)));refine V 3 ?_;exact⟨J,h⟩
theorem Ch{P:Program}{op:Op}{w':World}{k:IntKind}{a b:Int}(e:a=b)(h:run P ρ op ty w= .ok (.value (.int k a)) w'):run P ρ op ty w= .ok (.value (.int k b)) w':=by rw[h,e]
theorem akt{x:Int}{n:Nat}(h:H r w F)(hx: -9223372036854775808<=x/\x<=9223372036854775807)(hn:0<n)(fW:n<=4611686018427387904):Calls PP 7 #[.int .i64 x,R n] w λe w'=> ∃k,e= .returned (R k)/\k<n/\H r w' F:=by
 have bY:((n:Nat):Int)≠0:=I;have pt:=Int.lt_tmod_of_pos x (I:0<((n:Nat):Int));have zD:=Int.tmod_lt_of_pos x (I:0<((n:Nat):Int));refine cg (x.tmod ((n:Nat):Int)) λy hy=>?_;rw[hy]at pt zD;refine gS Tryz.func7 Tryz.ntmps7 [4] ?_;refine V 8 ?_;refine ah (Ch hy (acJ J J bY)) (dI (aC (cD [(0,0),(8,12)] (λρ w=> ∃k:Nat,Kn ρ [(0,R k)]/\H r w (F)/\(k<n)) ?_ ?_)))
 refine V 3 ?_;refine ah (qL (v:=0) J J) (aC (an J ?_ ?_))<;>intro fG
 refine V 3 ?_;exact ah (H_ J J I I) (dI (aC ⟨aH 6,((y+((n:Nat):Int)).toNat),(Kn.mk ⟨(int_eq (I:y+((n:Nat):Int)=_)),trivial⟩),h,I⟩))
 exact aQ ⟨aH 2,y.toNat,Kn.mk ⟨(int_eq (I:y=_)),trivial⟩,h,I⟩
 rintro ρ w ⟨k,⟨mC,rfl⟩,h,hk⟩;refine V 6 ?_;exact⟨k,J,hk,h⟩
def aku:List UInt8:=[40,181,47,253,32,2,17,0,0,104,105]
theorem aA6:pB aku=(1,[104,105]):=by decide+kernel
theorem H.exZ{e e':aD}{Z:List aD}(h:H r w (e::(Z++e'::L))): ∃Z',H r w (Z'++L):=⟨e::(Z++[e']),by simpa using h⟩
theorem abe(h:H r w L)(hG:Gl L aE aU):Calls PP 5 #[] w λe w'=>e= .returned (.bool true)/\ ∃Z,H r w' (Z++L):=by
 have TQ:=aA6;refine qN (P:=PP) Tryz.func5 14 Tryz.ntmps5 [0] J J (args:=[]) J ?_;refine V 6 ?_;refine tq (v:=λb=>cf b 11 11) (λw=>AU (u:=λb=>cf b 11 11) (λw=>apt (40) (181) (47) (253) (32) (2) (17) (0) (0) (104) (105) w) J) h J ?_;intro bd w h;refine dJ J J ((akr (D:=aku) (iA:=some ⟨bd,0,none⟩) (ic:=11) h (hG.sub (Sub.cons _ _)) ⟨_,_,_,J,J,aR _,λ_=>⟨bd,0,_,_,J,e_ ..,Rd.self _⟩⟩ aj (by rw[TQ];decide)).mono ?_);clear h;rintro e w1 hh;refine aY (hh) (λob eN=>aY (eN) (λout eK=>aY (eK) (λc fL=>aY (fL) (λsp gE=>aY (gE) (λok qf=>aY (qf) (λZ q=>?_))))));have h:=q.2.1
 have cS:ok=true:=by
  rcases q.2.2.2 with z|z
  exact z.1
  exact absurd (by rw[TQ]) z.2
 have Q2:out=[104,105]:=by
  rcases q.2.2.2 with z|z
  rw[TQ]at z;exact(b8 Prod.snd z.2).symm
  exact absurd (by rw[TQ]) z.2
 refine⟨_,(by rw[q.1,cS]),?_⟩;refine V 11 ?_;refine dn J J J (abd h J (aP.own q.2.2.1)) J (dn J J J (aks (X:=out) (Y:=[104,105]) J J) J ?_);refine V 4 ?_;exact⟨by rw[Q2];rfl,h.exZ⟩
variable {Z:List aD}{N:List Int}{DD E:List UInt8}{l:List Value}{c db n:Nat}{ad:Option Addr}{p:Prop}
theorem aA7{v nv cv:Nat}{lL:Option Addr}(W:(pB E).1=v)(h2:v≠1->H r w F)(h3:v=1-> ∃out ob co sp,pB E=(1,out)/\lL=aB ob/\nv=out.length/\cv=co/\bG ob out.length co (out.map u8) sp 1/\H r w ((ob,C (List.map u8 out++sp) 5)::F)): ∃o l,H r w ((o,C l 5)::F)/\(v=1-> ∃out,pB E=(1,out)/\aP [(o,C l 5)] (.slice lL nv cv) out):=by
 by_cases hv:v=1
 obtain⟨out,ob,co,sp,e1,e2,e3,e4,e5,h⟩:=h3 hv;refine⟨ob,_,h,λ_=>⟨out,e1,?_⟩⟩;rw[e2,e3,e4];exact aP.own e5
 exact⟨none,[],(h2 hv).ghost _,λe=>absurd e hv⟩
theorem aP.in1{o:Option Nat}{T:TT}{v:Value}(h:aP [(o,C l T)] v X)(hm:(o,C l T)∈L):aP L v X:=
 h.sub (λe he=>by rcases je.1 he with rfl;exact hm)
theorem aA8(hm:(af db (List.map u8 DD) 5)∈F)(hn:n<=DD.length)(hc:n<=c):aP F (cf db (aa DD 0 n).length c) (aa DD 0 n):=by
 have:=aP.aa (n:=n) (c:=c) (q:=0) (ad:=some ⟨db,0,none⟩) hm (λ_=>rfl) I hc;rw[dx I];exact this
theorem aA9{out:List UInt8}{v:Nat}{ok:Bool}(hv:(pB E).1=v)(h:(ok=true/\pB E=(1,out))\/(ok=false/\(pB E).1≠1)):ok=decide (v=1):=by
 rcases h with⟨W,h2⟩| ⟨W,h2⟩
 rw[W,<-hv,h2];rfl
 rw[W,H3 (by rw[<-hv];exact h2)]
theorem aA_{P:Program}{y:Operand}{T:TypeId}{a b:Bool}[hu:bO P T .bool](hx:Env.ev ρ x= .bool a)(hy:Env.ev ρ y= .bool b)(h:a=b):run P ρ (.binOp .eql T x y T') ty w= .ok (.value (.bool true)) w:=by
 subst h;have h9: ∀d:Nat,(Op.equalIn (d+1) T (.bool a) (.bool a)).run P w= .ok true w:=λd=>(by simp[Op.equalIn,run_underlying hu.eq]);have h:(binOp .eql T (.bool a) (.bool a)).run P w= .ok (.bool true) w:=(by simp only[binOp];simp[Op.equal,Op.maxDepth,h9 9999]);simp only[run,execOp,hx,hy];simp[eqGuard,h]
theorem H.aA'{Y:List aD}{e3 e4:aD}(h:H r w (Y++(e1::e2::(Z++(e3::e4::L))))): ∃Z',H r w (Z'++L):=⟨Y++(e1::e2::(Z++[e3,e4])),by simpa using h⟩
theorem H.aBa{A:List aD}(h:H r w (Z++(A++L))): ∃Z',H r w (Z'++L):=⟨Z++A,by simpa using h⟩
theorem akv(h:p:=by refine V 2 ?_;refine aA3 J J J J (aA (abe h (hG.sub aJ)) ?_);rintro e w1 ⟨rfl,Zw,h⟩;refine V 4 ?_;exact⟨J,h.aA'⟩):p:=h
theorem aBb(h:H r w ((af db (List.map u8 DD) 5)::L))(hG:Gl L aE aU)(hn:n<=DD.length)(hc:n<=c)(fW:n<=1099511627776):Calls PP 8 #[.slice (some ⟨db,0,none⟩) n c] w λe w'=>e= .returned (.bool true)/\ ∃Z,H r w' (Z++L):=by
 have a8:=dx (D:=DD) (q:=0) (n:=n) I;refine gD Tryz.func8 Tryz.ntmps8 [2] ?_;refine V 11 ?_;refine an J ?_ ?_<;>intro xY
 refine V 5 ?_;exact⟨J,[_],h⟩
 refine V 4 ?_;refine dJ J J ((ar' (db:=db) (q:=0) (D:=DD) h bF (λ_=>rfl) I hc fW).mono ?_);clear h;rintro e w1 hh;refine aY (hh) (λv eN=>aY (eN) (λlL eK=>aY (eK) (λnv fL=>aY (fL) (λcv gE=>aY (gE) (λae qf=>aY (qf) (λne zR=>aY (zR) (λce q=>?_)))))));refine⟨_,q.1,?_⟩;refine aY (aA7 q.2.1 q.2.2.1 q.2.2.2) (λo eN=>aY (eN) (λoL qq=>?_));have h:=qq.1;refine eh h J ?_;intro br w h;refine b7 ?_;intro w h;refine V 8 ?_;refine an J ?_ ?_<;>intro L5
 refine a9 (eS (Ik J (aA (abe h (hG.sub aJ)) ?_)));rintro e w1 ⟨rfl,Zw,h⟩;refine V 3 ?_;exact⟨J,H.aBa (A:=[_,_,_]) h⟩
 refine V 4 ?_;have u7:(pB (aa DD 0 n)).1≠0:=(by rw[q.2.1];exact L5);refine dJ J J ?_;rw[show Value.slice (some ⟨db,0,none⟩) n c= .slice (some ⟨db,0,none⟩) (aa DD 0 n).length c from by rw[a8]];refine(akr h (hG.sub aJ) (aA8 (ar (ar bF)) hn hc) I u7).mono ?_;clear h;rintro e w1 hh;refine aY (hh) (λob eN=>aY (eN) (λout eK=>aY (eK) (λco fL=>aY (fL) (λsp gE=>aY (gE) (λok qf=>aY (qf) (λZ p=>?_))))));have h:=p.2.1;have akw:=aA9 q.2.1 p.2.2.2;refine⟨_,p.1,?_⟩;replace h:=H.IZ (G:=Z) h;refine V 12 ?_;refine ah (aA_ J J akw) ?_;refine V 2 ?_;refine dn J J J (j8 J) J ?_;refine V 1 ?_;refine we (t:=28) J (λSN=>?_) (λSN=>?_)
 refine V 4 ?_;refine dn J J J (sw J) J ?_;exact akv
 refine V 3 ?_;have fX:ok=true:=EA SN;have gr:v=1:=tf (akw.symm.trans fX);refine(qq.2 gr).elim λdM oS=>?_
 have heq:out=dM:=by
  rcases p.2.2.2 with z|z
  exact b8 Prod.snd (z.2.symm.trans oS.1)
  rw[fX]at z;cases z.1
 refine yT J J J J J J ((aA5 h (aP.own p.2.2.1) (oS.2.in1 (ar (ar (fe _ bF))))).mono ?_);rintro e w1 ⟨rfl,h⟩;refine⟨.bool true,(by rw[xF heq]),?_⟩;refine dn J J J (uW J) J ?_;exact akv
def nG(F:List aD)(v:Value)(N:List Int):Prop:= ∃ad n c,v= .slice ad n c/\n=N.length/\n<=c/\(0<N.length-> ∃b q l T,ad=some ⟨b,q,none⟩/\(some b,C l T)∈F/\Rd l q (N.map i64))/\ ∀i,-9223372036854775808<=N.getD i 0/\N.getD i 0<=9223372036854775807
theorem nG.sub{F':List aD}{v:Value}(h:nG F v N)(hs:Sub F F'):nG F' v N:=by
 obtain⟨ad,n,c,W,h2,h3,h4,h5⟩:=h;refine⟨ad,n,c,W,h2,h3,λh0=>?_,h5⟩;obtain⟨b,q,l,T,e1,e2,e3⟩:=h4 h0;exact⟨b,q,l,T,e1,hs _ e2,e3⟩
theorem TV{q i:Nat}{X:List Int}(h:Rd l q (X.map i64))(hi:i<X.length):l[q+i]? =some (i64 (X.getD i 0)):=by
 rw[h.get i (by rw[bX];exact hi)];exact xO hi
def akx(Q:List UInt8->List UInt8->Prop):Prop:= ∀(r:dQ) (w:World) (F:List aD) (vt vc:Value) (T:List UInt8) (N:List Int),H r w F->aP F vt T->nG F vc N->T.length<=1048576->N.length<=2147483647->
 Calls PP 6 #[vt,vc] w λe w'=> ∃b DD n c,e= .returned (.slice (some ⟨b,0,none⟩) n c)/\H r w' ((some b,C (List.map u8 DD) 5)::F)/\0<n/\n<=DD.length/\n<=c/\n<=1099511627776/\Q T (aa DD 0 n)
theorem aky(h:nG F (.slice ad n c) N)(h0:0<N.length): ∃b q l T,ad=some ⟨b,q,none⟩/\(af b l T)∈F/\Rd l q (N.map i64):=by
 obtain⟨_,_,_,e1,e2,e3,e4,_⟩:=h;cases e1;exact e4 h0
theorem akz{v:Value}(h:nG F v N)(i:Nat): -9223372036854775808<=N.getD i 0/\N.getD i 0<=9223372036854775807:=by
 obtain⟨_,_,_,_,_,_,_,h⟩:=h;exact h i
theorem akA(h:aP F (.slice ad n c) X)(h0:0<X.length): ∃b q l T,ad=some ⟨b,q,none⟩/\(af b l T)∈F/\Rd l q (X.map u8):=by
 obtain⟨_,_,_,e1,e2,e3,e4⟩:=h;cases e1;exact e4 I
theorem akB(h:p:=by intro w h;dsimp only[List.set]at h;rw[<-jM]at h;exact cm ⟨aH 20,DE.set k (Z8.getD i 0),aq,h,(by rw[dD];exact hDE)⟩):p:=h
theorem abf(h:p:=by refine iI J ?_;refine V 5 ?_;exact⟨J,[],h⟩):p:=h
theorem aBc{ta ca pa va:Option Addr}{tn tc cn cc pn pc vn vc:Nat}{T Z8:List UInt8}{Ps:List Int}{Q:List UInt8->List UInt8->Prop}(hE:akx Q)(h:H r w L)(hG:Gl L aE aU)(hT:aP L (.slice ta tn tc) T)(hN:nG L (.slice ca cn cc) N)(hP:nG L (.slice pa pn pc) Ps)(TW:aP L (.slice va vn vc) Z8):Calls PP 3 #[.slice ta tn tc,.slice ca cn cc,.slice pa pn pc,.slice va vn vc] w λe w'=>e= .returned (.bool true)/\ ∃Z,H r w' (Z++L):=by
 have NX:=hT.len;have hVl:=TW.len;have hNl:cn=N.length:=(by obtain⟨_,_,_,e1,e2,_⟩:=hN;cases e1;exact e2);have Ho:pn=Ps.length:=(by obtain⟨_,_,_,e1,e2,_⟩:=hP;cases e1;exact e2);refine wj Tryz.func3 Tryz.ntmps3 [8] ?_;refine V 4 ?_;refine cD [(8,8),(12,29)] (λρ w=>Kn ρ []/\H r w (L)/\(cn<=2147483647)/\(pn<=2147483647)/\(vn<=2147483647)) ?_ ?_
 refine V 6 ?_;refine d' (t:=15) J (λaBd=>?_) (λaBd=>?_)
 refine V 15 ?_;exact abf
 refine V 5 ?_;refine d' (t:=20) J (λaBe=>?_) (λaBe=>?_)
 refine V 10 ?_;exact abf
 refine V 5 ?_;refine d' (t:=25) J (λabg=>?_) (λabg=>?_)
 refine V 5 ?_;exact abf
 refine V 5 ?_;refine an J ?_ ?_<;>intro mY
 refine V 5 ?_;exact⟨J,[],h⟩
 exact aQ ⟨aM,aq,h,I,I,I⟩
 rintro ρ w ⟨⟨k5,rfl⟩,h,jv,fF,t_⟩;refine V 7 ?_;refine an J ?_ ?_<;>intro tK
 refine a9 (eS (Ik J (aA (abe h hG) ?_)));rintro e w1 ⟨rfl,Zw,h⟩;refine V 3 ?_;exact⟨J,Zw,h⟩
 refine V 5 ?_;refine b_ J J J ((hE _ _ _ _ _ _ _ h hT hN I I).mono ?_);clear h;rintro e w1 hh;refine kC (hh) λdb DD n c q=>?_;refine⟨_,q.1,?_⟩;have h:=q.2.1;have ke:=q.2.2.1;have hnD:=q.2.2.2.1;refine V 10 ?_;refine bQ (σ:=Nat×List UInt8) [(10,11),(39,58)] (λ⟨i,DE⟩ ρ w=>Kn ρ [(39,R i)]/\H r w ((af db (List.map u8 DE) 5)::L)/\(i<=pn)/\(DE.length=DD.length)) (λ⟨i,DE⟩=>pn-i) (0,DD) ⟨aq,h,I,J⟩ ?_;rintro⟨i,DE⟩ ρ w ⟨⟨mD,rfl⟩,h,hi,hDE⟩;refine V 5 ?_;refine an J ?_ ?_<;>intro LH
 refine kC (aky hP (I:0<Ps.length)) λpb pq lp Tp q1=>?_;refine fx q1.2.1 λip qC=>?_;have At:=akz hP i;refine aQ (a9 (jB [(10,11),(41,57)] (λρ w=> ∃TX:List UInt8,Kn ρ []/\H r w ((af db (List.map u8 TX) 5)::L)/\(TX.length=DD.length)) ?_ ?_))
 refine V 3 ?_;refine ah (cI J J q1.1 I) (aO h J (TV q1.2.2 I) ?_);refine V 10 ?_;refine an J ?_ ?_<;>intro tN
 refine kC (akA TW (I:0<Z8.length)) λvb vq lv Tv q2=>?_;refine fx q2.2.1 λiv Dp=>(wk h (cL [0,4,8,12,20,24,28] (.fork (cL [19,33,36,43] .nil) (cL [33,19,36,43] .nil))) ?_);intro w h;refine av 6 ?_;refine aw J (cI J J q2.1 I) (gg ?_ ?_)
 refine kL J J J J (aA (akt h At ke I) ?_);rintro e w1 ⟨k,rfl,hk,h⟩;refine aK J h J (jy q2.2.2 I) (aw J (js J J J hk) (v_ (v:=u8 (Z8.getD i 0)) J h J (gl I) J J J ?_));exact akB
 refine aK J h J (jy q2.2.2 I) (kL J J J J (aA (akt h At ke I) ?_));rintro e w1 ⟨k,rfl,hk,h⟩;refine aw J (js J J J hk) (v_ (v:=u8 (Z8.getD i 0)) J h J (gl I) J J J ?_);exact akB
 exact aQ ⟨aH 9,DE,aq,h,hDE⟩
 rintro ρ w ⟨TX,⟨qY,rfl⟩,h,hD2⟩;refine V 4 ?_;exact⟨aH 4,(i+1,TX),cw,aq,h,I,I⟩
 refine V 4 ?_;refine dJ J J (aA (aBb h hG I q.2.2.2.2.1 q.2.2.2.2.2.1) ?_);rintro e w1 ⟨rfl,Zw,h⟩;refine V 3 ?_;exact⟨J,Zw,h⟩
end Go.Z
