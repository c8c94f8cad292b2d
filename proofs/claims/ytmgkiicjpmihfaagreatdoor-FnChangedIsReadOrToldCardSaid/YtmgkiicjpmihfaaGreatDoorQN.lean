/- Part 14 of the proof. -/
import Derived.Test.YtmgkiicjpmihfaaGreatDoorQM
set_option linter.all false
set_option maxRecDepth 20000
set_option maxHeartbeats 400000000
namespace Go.Z
open Go Go.Proofs
variable {F:List aD}{X:List UInt8}{l0:List Value}{b0 c n:Nat}{ad:Option Addr}{r:dQ}{T0:TT}{w:World}
theorem amk{X:List UInt8}{q:Nat}:aa (List.replicate q 0++X) q X.length=X:=by
 unfold aa;rw[zd (by rw[dR];omega),xG (by rw[dR];omega),List.nil_append,K1]
theorem aml{l:List Value}{q:Nat}(h:Rd l q (X.map u8)): ∀i,q<=i->i<q+X.length->l[i]? =some (u8 ((List.replicate q 0++X).getD i 0)):=λi W h2=>by
 have h3:=jy (i:=i-q) h I;have e:(List.replicate q 0++X).getD i 0=X.getD (i-q) 0:=(by rw[bS,nN (by rw[dR];omega),dR,<-bS]);rw[show q+(i-q)=i by omega]at h3;rw[h3,e]
theorem HB(h:H r w F)(hX:aP F (.slice ad n c) X)(h0:0<X.length)(hl:X.length<=8)(hN:num X<=9223372036854775807):Calls PP 22 #[.slice ad n c] w λe w'=>e= .returned (R (num X))/\H r w' F:=by
 have hn:=hX.len.1;obtain⟨b,q,l,T,e1,e2,e3⟩:=hX.eH I;obtain⟨F0,hp⟩:=Fl e2;have hs:= @amk X q;have:=aek (D:=List.replicate q 0++X) (q:=q) (len:=n) (cap:=c) (ad:=ad) (h.perm hp) (by rw[hn];exact aml e3) (λ_=>e1) (by rw[aF,dR];omega) I (by rw[hn,hs];exact hN);rw[hn,hs]at this;rw[hn];exact this.mono (λe w' W=>⟨W.1,W.2▸h⟩)
theorem aDS(h:H r w F)(hX:aP F (.slice ad n c) X)(hb:(af b0 l0 T0)∈F)(hl:X.length<=140737488355328):Calls PP 21 #[.slice ad n c] w λe w'=>e= .returned (cy (lD X))/\H r w' F:=by
 have hn:=hX.len.1;have hc:=hX.len.2;by_cases h0:0<n
 obtain⟨b,q,l,T,e1,e2,e3⟩:=hX.eH h0;obtain⟨F0,hp⟩:=Fl e2;have hs:= @amk X q;have:=Wz (D:=List.replicate q 0++X) (q:=q) (len:=n) (cap:=c) (ad:=ad) (h.perm hp) (by rw[hn];exact aml e3) (λ_=>e1) (by rw[aF,dR];omega) hc I;rw[hn,hs]at this;rw[hn];exact this.mono (λe w' W=>⟨W.1,W.2.perm hp.symm⟩)
 have hx:X=[]:=List.eq_nil_of_length_eq_zero I;subst hx;have ke:n=0:=hn;subst ke;obtain⟨F0,hp⟩:=Fl hb;have:=Wz (D:=[]) (q:=0) (len:=0) (cap:=c) (ad:=ad) (h.perm hp) (λi W h2=>absurd h2 I) (λW=>absurd W I) (aR _) hc I;exact this.mono (λe w' W=>⟨W.1,W.2.perm hp.symm⟩)
theorem aDT(h:H r w F)(hX:aP F (.slice ad n c) X)(hb:(af b0 l0 T0)∈F)(hl:X.length<=140737488355328):Calls PP 15 #[.slice ad n c] w λe w'=>e= .returned (aZ (lD X % 4294967296))/\H r w' F:=by
 refine gD Tryz.func15 Tryz.ntmps15 [2] ?_;refine V 7 ?_;refine dJ J J (aA (aDS h hX hb hl) ?_);rintro e w1 ⟨rfl,h⟩;refine ah (CL J J) ?_;refine V 3 ?_;exact⟨J,h⟩
variable {i j s:Nat}{ord:Ot}{p:Prop}{x:Wr}
section
variable {P:Program}{n i:Nat}{K:gw}{ρ:Env}{w:World}{ops:Array Oper}{r:dQ}{L:List aD}{d:Option Nat}{ty:TypeId}{pos:String}{aN:Array Edge}{T kt et:TypeId}{x y z:Operand}{mb B:Nat}{o:Obj}{k:Int}
theorem UE{v:Nat}[hu:bO P T (.map kt et)] [ly:bO P kt (.int .i64)](hj:ops[j]? =some {dst:=d,op:= .mapUpdate T x y z,type:=ty,pos:=pos,after:=aN,guard:=none})(h:H r w L)(i:Nat)(hi:L[i]? =some (some mb,o))(ho:ou B o)(hx:Env.ev ρ x= .map (some mb))(hy:Env.ev ρ y= .int .i64 k)(hz:Env.ev ρ z=R v)(hv:v<=B)(hd:aV n d=true)(hk: ∀w' o',ou B o'->H r w' (L.set i (some mb,o'))->D P n ops ord K (Env.put ρ d undef) w'):D P n ops (.cons (j,.h) ord) K ρ w:=by
 obtain⟨o',w',W,h2,h3⟩:=aBi (P:=P) (ty:=ty) (kt:=kt) (et:=et) (T:=T) h hi ho hx hy hz hv;exact V2 hj h3 hd (hk w' o' W h2)
theorem amm[hu:bO P T (.map kt et)] [ly:bO P kt (.int .i64)](hj:ops[j]? =some {dst:=d,op:= .lookup T x y true,type:=ty,pos:=pos,after:=aN,guard:=none})(h:H r w L)(i:Nat)(hi:L[i]? =some (some mb,o))(ho:ou B o)(hz:(zeroValue et).run P w= .ok (R 0) w)(hx:Env.ev ρ x= .map (some mb))(hy:Env.ev ρ y= .int .i64 k)(hd:aV n d=true)(hk: ∀v ok,v<=B->D P n ops ord K (Env.put ρ d (.tuple #[R v,.bool ok])) w):D P n ops (.cons (j,.h) ord) K ρ w:=by
 obtain⟨v,ok,W,h2⟩:=aBf (P:=P) (ty:=ty) (kt:=kt) (et:=et) (T:=T) h hi ho hz hx hy;exact Le hj h2 hd (hk v ok W)
end
def rp(x:Wr)(s:Nat):Wr:={x with seen:=s}
theorem aDU:(aT (rp x s)).set 12 (R n)=aT (rp x n):=rfl
theorem UF:(aT (rp x s))[0+1]? =some (.slice x.ta x.tn x.tc):=rfl
theorem aDV:(aT (rp x s))[0+3]? =some (R x.cJ):=rfl
theorem amn:(aT (rp x s))[0+8+0]? =some (R x.a):=rfl
theorem aDW:(aT (rp x s))[0+8+1]? =some (R x.b):=rfl
theorem aDX:(aT (rp x s))[0+8+2]? =some (R x.c):=rfl
theorem KJ:(aT (rp x s))[0+11]? =some (.map (some x.mb)):=rfl
theorem EI:(aT (rp x s))[0+12]? =some (R s):=rfl
theorem amo(h:X.length=3):num X<=9223372036854775807:=by
 have W:=Dd X 3;rw[jf I]at W;omega
theorem amp{ta:Option Addr}{tn tc k:Nat}(hT:aP F (.slice ta tn tc) X)(h:k+3<=X.length):aP F (.slice (cut ta tc k 1) 3 (tc-k)) ((X.drop k).take 3)/\((X.drop k).take 3).length=3:=by
 have hn:=hT.len.1;subst hn;exact⟨(hT.drop I).take (m:=3) I,by rw[gk,bV];omega⟩
def TR(x:Wr):List Int:=[(x.a:Int),(x.b:Int),(x.c:Int),(x.a:Int) -1,1,2]
theorem aDY{ob:Option Nat}(h:ob=none->c=0)(h0:0<c): ∃b,ob=some b:=by
 cases ob with
 |none=>exact absurd (h J) I
 |some b=>exact⟨b,J⟩
def Co(l:List Int):Prop:= ∀j,-4398046511104<=l.getD j 0/\l.getD j 0<=4398046511104
theorem Co.tr(W:x.a<=1099511627776)(h2:x.b<=1099511627776)(h3:x.c<=1099511627776):Co (TR x):=λj=>by
 match j with
 |0=>show-4398046511104<=(x.a:Int)/\(x.a:Int)<=4398046511104;omega
 |1=>show-4398046511104<=(x.b:Int)/\(x.b:Int)<=4398046511104;omega
 |2=>show-4398046511104<=(x.c:Int)/\(x.c:Int)<=4398046511104;omega
 |3=>show-4398046511104<=(x.a:Int) -1/\(x.a:Int) -1<=4398046511104;omega
 |4=>show-4398046511104<=(1:Int)/\(1:Int)<=4398046511104;omega
 |5=>show-4398046511104<=(2:Int)/\(2:Int)<=4398046511104;omega
 |j+6=>show-4398046511104<=(0:Int)/\(0:Int)<=4398046511104;omega
theorem Co.snoc{l:List Int}{v:Int}(h:Co l)(hv: -4398046511104<=v/\v<=4398046511104):Co (l++[v]):=λj=>by
 rcases dh j l.length with e|e
 rw[bS,ir e,<-bS];exact h j
 rw[bS,nN e]
 match j-l.length with
 |0=>exact hv
 |k+1=>show-4398046511104<=(0:Int)/\(0:Int)<=4398046511104;omega
theorem aDZ{D:List Int}{sp:List Value}(h:i<D.length):(D.map i64++sp)[i]? =some (i64 (D.getD i 0)):=by
 rw[ir (by rw[bX];exact h)];exact xO h
theorem aD0{e wn n' o:Nat}(h:0<n->1<=o/\o<=i/\o<=wn/\i+n<=e/\ ∀k,k<n->X.getD (i+k) 0=X.getD (i+k-o) 0)(hn:n'<=n):0<n'->1<=o/\o<=i/\o<=wn/\i+n'<=e/\ ∀k,k<n'->X.getD (i+k) 0=X.getD (i+k-o) 0:=λh0=>by
 obtain⟨W,h2,h3,h4,h5⟩:=h I;exact⟨W,h2,h3,I,λk hk=>h5 k I⟩
theorem UG(h:p:=by intro w xr BV h;dsimp only[List.set]at h;refine cm ?_;refine V 4 ?_;refine aO h J EI ?_;refine V 3 ?_;refine gU (R (s+1)) ?_;intro w h;rw[aDU]at h;exact aC ⟨aH 39,(s+1,xr),cw,aq,h,I,BV⟩):p:=h
theorem amq(h:p:=by refine V 4 ?_;refine ah (oH J J I I) (kX J (lB _) h ?_);intro bz w h;refine kW (List.map i64 (TR x)) [] [i64 ((i:Int) - (v9:Int))] h 1 J J J ⟨J,J,aR _,λe=>by cases e⟩ (Src.slice (j:=0) (q2:=0) J ⟨J,trivial⟩ J) (by intro y hy;simp at hy;subst hy;rfl) I aj J ?_;intro w cr c2 cG h aJf aJg aD1;dsimp only[List.set]at h;refine(aDY aD1 I).elim λtb2 e0=>?_;rw[e0]at h;replace h:=h.tail;exact dI (aC ⟨aH 31,tb2,(TR x++[(i:Int) - (v9:Int)]),c2,cG,Kn.mk ⟨(iJ (b8 aB e0) J J),trivial⟩,h,aR _,(Co.tr B6 mE HC).snoc I⟩)):p:=h
theorem amr(h:p:=by rintro e w1 ⟨rfl,h⟩;refine UE (o:=jA) (B:=2147483647) (v:=s) J h 2 J s_ J J J I J ?_;exact UG):p:=h
theorem ams(h:p:=by refine V 6 ?_;exact⟨aM,q,o9,Kn.mk ⟨J,(int_eq eG),trivial⟩,h,(λ_=>⟨pD,oU.1,oU.2,hqe,EJ⟩)⟩):p:=h
theorem amt(h:p:=by exact aQ ⟨aH 24,bt,TR x,6,[],aq,h,ff J,Co.tr B6 mE HC⟩):p:=h
theorem aD2{L:List aD}{wb e sn:Nat}{mo:Obj}{nn nc at_:Nat}{na:Option Addr}{N:List Int}(h:H r w ((af wb (aT (rp x sn)) 49)::(some x.cb,C [.slice na nn nc,R at_] 38)::(some x.mb,mo)::L))(hN:nG L (.slice na nn nc) N)(jg:at_<=4611686018427387000)(oP:ou 2147483647 mo)(hT:aP L (.slice x.ta x.tn x.tc) X)(hX:X.length<=1048577)(Mv:i<=e)(he:e<=X.length)(hsn:sn<=1048577)(vx:x.cJ<=1099511627776)(B6:x.a<=1099511627776)(mE:x.b<=1099511627776)(HC:x.c<=1099511627776):Calls PP 26 #[aW wb,R i,R e] w λen w'=> ∃at' EK KK n o,en= .returned (.tuple #[R n,R o])/\at'<=at_+2/\ou 2147483647 EK/\KK<=1048577/\n<=60000/\(0<n->1<=o/\o<=i/\o<=x.cJ/\i+n<=e/\ ∀k,k<n->X.getD (i+k) 0=X.getD (i+k-o) 0)/\H r w' ((af wb (aT (rp x KK)) 49)::(some x.cb,C [.slice na nn nc,R at'] 38)::(some x.mb,EK)::L):=by
 have IU:=hT.len.1;have Oi:=hT.len.2;refine mW Tryz.func26 Tryz.ntmps26 [6,7] ?_;refine V 7 ?_;refine bQ (σ:=Nat×Obj) [(16,52)] (λ⟨s,jA⟩ ρ w=>Kn ρ []/\H r w ((af wb (aT (rp x s)) 49)::(some x.cb,C [.slice na nn nc,R at_] 38)::(some x.mb,jA)::L)/\(s<=1048577)/\(ou 2147483647 jA)) (λ⟨s,jA⟩=>i-s) (sn,mo) ⟨aq,h,I,oP⟩ ?_;rintro⟨s,jA⟩ ρ w ⟨⟨KE,rfl⟩,h,hs,s_⟩;refine V 6 ?_;refine aO h J EI ?_;refine V 4 ?_;refine an J ?_ ?_<;>intro Dc
 . have h3:=amp (k:=s) hT I;have tW:=amo h3.2;refine V 3 ?_;refine wk h (cL [0,4,8,16,20,24,32,36,40,48,52,56,76,80,84,29,45,61,64,68] (.fork (cL [13] (.fork (cL [75,89,95] .nil) (cL [89,75,95] .nil))) (.fork (cL [75,13,89,95] .nil) (cL [89] (.fork (cL [13,75,95] .nil) (cL [75,13,95] .nil)))))) ?_;intro w h;refine av 15 ?_;refine aK J h J UF (aK J h J EI (aK J h J EI ?_));refine av 1 ?_;refine aw J (yu s 3 J J J I) (gg ?_ ?_)
   . refine aK J h J KJ (gg ?_ ?_)
     . refine pY J J J (aA (HB h (h3.1.sub aJ) I I tW) ?_);rintro e w1 ⟨rfl,h⟩;refine aK J h J EI (UE (o:=jA) (B:=2147483647) (v:=s) J h 2 J s_ J J J I J ?_);exact UG
     refine aK J h J EI (pY J J J (aA (HB h (h3.1.sub aJ) I I tW) ?_));exact amr
   refine gg ?_ ?_
   . refine pY J J J (aA (HB h (h3.1.sub aJ) I I tW) ?_);rintro e w1 ⟨rfl,h⟩;refine aK J h J KJ (aK J h J EI (UE (o:=jA) (B:=2147483647) (v:=s) J h 2 J s_ J J J I J ?_));exact UG
   refine aK J h J EI (gg ?_ ?_)
   . refine aK J h J KJ (pY J J J (aA (HB h (h3.1.sub aJ) I I tW) ?_));exact amr
   refine pY J J J (aA (HB h (h3.1.sub aJ) I I tW) ?_);rintro e w1 ⟨rfl,h⟩;refine aK J h J KJ (UE (o:=jA) (B:=2147483647) (v:=s) J h 2 J s_ J J J I J ?_);exact UG
 refine V 7 ?_;refine bL h [0,4,8,12,20,24,28,32,40,44,48,52,60,64,68,72,17,37,57,77,80,86,88] ?_;intro w h;refine av 16 ?_;refine aK J h J amn (aK J h J aDW (aK J h J aDX (aK J h J amn (aw J (oH (v:=1) J J I I) (Px (v:=λb=>cf b 6 6) J (λw=>ao1 (u:=λb=>cf b 6 6) (apu _ _ _ _ _ _) J J J J J J) h J ?_)))));intro bt w h;refine eY J (cm (cD [(10,12),(75,102)] (λρ w=> ∃KL:Nat,∃Ts:List Int,∃tcp:Nat,∃KM:List Value,Kn ρ [(10,cf KL Ts.length tcp)]/\H r w ((af KL (List.map i64 Ts++KM) 3)::(af wb (aT (rp x s)) 49)::(some x.cb,C [.slice na nn nc,R at_] 38)::(some x.mb,jA)::L)/\(Ts.length<=7)/\(Co Ts)) ?_ ?_))
 refine V 7 ?_;refine an J ?_ ?_<;>intro Qd
 . have h4:=amp (k:=i) hT I;have tW:=amo h4.2;refine a9 (wk h (cL [0,4,8,16,20,24,32,36,40,29,44] (.fork (cL [13,51,55,56,60,64,68,72] .nil) (cL [51,13,55,56,60,64,68,72] .nil))) ?_);intro w h;refine av 9 ?_;refine aK J h J UF (aw J (yu i 3 J J J I) (gg ?_ ?_))
   . refine aK J h J KJ (pY J J J (aA (HB h (h4.1.sub aJ) I I tW) ?_));rintro e w1 ⟨rfl,h⟩;refine amm (o:=jA) (B:=2147483647) J h 3 J s_ (by kernel_rfl) J J J ?_;intro v9 ok9 hv9;refine av 6 ?_;refine V 4 ?_;refine eA J ?_ ?_<;>intro UD
     exact amq
     exact amt
   refine pY J J J (aA (HB h (h4.1.sub aJ) I I tW) ?_);rintro e w1 ⟨rfl,h⟩;refine aK J h J KJ (amm (o:=jA) (B:=2147483647) J h 3 J s_ (by kernel_rfl) J J J ?_);intro v9 ok9 hv9;refine av 6 ?_;refine V 4 ?_;refine eA J ?_ ?_<;>intro UD
   exact amq
   exact amt
 exact aQ ⟨aH 4,bt,TR x,6,[],aq,h,ff J,Co.tr B6 mE HC⟩
 rintro ρ w ⟨KL,Ts,tcp,KM,⟨KF,rfl⟩,h,NX,xt⟩;refine V 8 ?_;refine bQ (σ:=Nat×Nat×Nat) [(8,9),(14,15),(105,156)] (λ⟨j,bs,fr⟩ ρ w=>Kn ρ [(105,R j),(8,R bs),(9,R fr)]/\H r w ((af KL (List.map i64 Ts++KM) 3)::(af wb (aT (rp x s)) 49)::(some x.cb,C [.slice na nn nc,R at_] 38)::(some x.mb,jA)::L)/\(j<=Ts.length)/\(0<bs->1<=fr/\fr<=i/\fr<=x.cJ/\i+bs<=e/\ ∀k,k<bs->X.getD (i+k) 0=X.getD (i+k-fr) 0)) (λ⟨j,bs,fr⟩=>Ts.length-j) (0,0,0) ⟨aq,h,I,(λe=>absurd e (xC _))⟩ ?_;rintro⟨j,bs,fr⟩ ρ w ⟨⟨KG,rfl⟩,h,hj,hv⟩;refine V 5 ?_;refine an J ?_ ?_<;>intro aJh
 have htj:=xt j;refine cg (Ts.getD j 0) λov me=>?_;have mL:=aDZ (D:=Ts) (sp:=KM) (i:=j) I;rw[me]at htj mL;refine aQ (a9 (jB [(8,9),(14,15),(107,155)] (λρ w=> ∃yE HE:Nat,Kn ρ [(8,R yE),(9,R HE)]/\H r w ((af KL (List.map i64 Ts++KM) 3)::(af wb (aT (rp x s)) 49)::(some x.cb,C [.slice na nn nc,R at_] 38)::(some x.mb,jA)::L)/\(0<yE->1<=HE/\HE<=i/\HE<=x.cJ/\i+yE<=e/\ ∀k,k<yE->X.getD (i+k) 0=X.getD (i+k-HE) 0)) ?_ ?_))
 refine V 3 ?_;refine aO h J mL ?_;refine V 6 ?_;refine ah (qL (v:=1) J J) (cM (d' (t:=111) J (λaD3=>?_) (λaD3=>?_)))
 refine V 10 ?_;exact iI J (iy ⟨aM,bs,fr,Kn.mk ⟨J,(gy J),trivial⟩,h,hv⟩)
 refine V 5 ?_;refine dn J J J (run_load h J aDV) J (dn J J J (zh J J) J (dn J J J (VS J J) J ?_));refine V 2 ?_;refine an J ?_ ?_<;>intro aD4
 exact iy ⟨aM,bs,fr,Kn.mk ⟨J,(gy J),trivial⟩,h,hv⟩
 refine(Int.eq_ofNat_of_zero_le (I:0<=ov)).elim λo9 eG=>?_;haveI hio:ao ov o9:=⟨eG⟩;have pD:1<=o9:=I;have oU:o9<=i/\o9<=x.cJ:=I;refine V 7 ?_;refine bQ (σ:=Nat) [(15,15),(121,150)] (λq ρ w=>Kn ρ [(15,R q)]/\H r w ((af KL (List.map i64 Ts++KM) 3)::(af wb (aT (rp x s)) 49)::(some x.cb,C [.slice na nn nc,R at_] 38)::(some x.mb,jA)::L)/\(i+q<=e)/\(∀k,k<q->X.getD (i+k) 0=X.getD (i+k-o9) 0)) (λq=>e-i-q) (0) ⟨aq,h,I,(λk hk=>absurd hk (nP _))⟩ ?_;rintro q ρ w ⟨⟨Ou,rfl⟩,h,hqe,EJ⟩;refine a9 (a9 (bL h [0,4,8,12,16,20,24,28,32,40,44,48,60,64,68,76,80,84,88,92,37,52,57,73,96,101,104,108] ?_));intro w h;refine av 2 ?_;refine aw J (d_ (a:=i) (b:=q) J J az) ?_;refine av 3 ?_;refine AN (t:=126) J (λUt=>?_) (λUt=>?_)
 refine cZ J J J J (λw=>run_move) J ?_;refine kC (hT.eH I) λpb pq lp Tp q1=>?_;refine fx q1.2.1 λip qC=>(cZ J J J J (λw=>uR J) J (cZ J J J J (λw=>nS J) J (cZ J J J J (λw=>run_move) J (cZ J J J J (λw=>run_move) J (cZ J J J J (λw=>d_ (a:=i) (b:=q) J J az) J (cZ J J J J (λw=>run_move) J (cZ J J J J (λw=>uR J) J (cZ J J J J (λw=>nS J) J (cZ J J J J (λw=>run_move) J (cZ J J J J (λw=>run_move) J (cZ J J J J (λw=>d_ (a:=i) (b:=q) J J az) J (cZ J J J J (λw=>run_move) J (cZ J J J J (λw=>iz (a:=i+q) (b:=o9) J J I az) J ?_)))))))))))));refine oZ J J J J (λw hk=>run_load (h.keeps hk) J UF) J (cZ J J J J (λw=>cI (a:=i+q) J J q1.1 I) J (oZ J J J J (λw hk=>run_load (h.keeps hk) J (jy q1.2.2 I)) J (oZ J J J J (λw hk=>run_load (h.keeps hk) J UF) J (cZ J J J J (λw=>cI (a:=i+q-o9) J J q1.1 I) J (oZ J J J J (λw hk=>run_load (h.keeps hk) J (jy q1.2.2 I)) J (cZ J J J J (λw=>Pl J J) J ?_))))));refine av 2 ?_;refine an J ?_ ?_<;>intro aD5
 refine V 7 ?_;exact⟨aM,q+1,cw,aq,h,I,(λk hk=>by rcases vY.1 hk with hh|rfl;exact EJ k hh;exact K8.1 aD5)⟩
 refine V 7 ?_;refine an J ?_ ?_<;>intro TJ
 exact ams
 exact aQ ⟨aM,bs,fr,Kn.mk ⟨J,(gy J),trivial⟩,h,hv⟩
 refine av 23 ?_;refine fV J ?_;refine V 7 ?_;refine an J ?_ ?_<;>intro TJ
 exact ams
 exact aQ ⟨aM,bs,fr,Kn.mk ⟨J,(gy J),trivial⟩,h,hv⟩
 rintro ρ w ⟨yE,HE,⟨KH,rfl⟩,h,k4⟩;refine V 4 ?_;exact⟨aH 4,(j+1,yE,HE),cw,aq,h,I,k4⟩
 refine iy (cD [(8,8),(157,174)] (λρ w=> ∃MF at9:Nat,Kn ρ [(8,R MF)]/\H r w ((af wb (aT (rp x s)) 49)::(some x.cb,C [.slice na nn nc,R at9] 38)::(some x.mb,jA)::L)/\(MF<=bs)/\(at9<=at_+2)) ?_ ?_)
 refine V 5 ?_;refine d' (t:=159) J (λaD6=>?_) (λaD6=>?_)
 . refine V 4 ?_;replace h:=h.zz [1,2] 0;refine yT (v1:=R 6) J J J J J J (aA (kI (n:=6) (at_:=at_) h (hN.sub aJ) I aj) ?_);rintro e w1 ⟨ov,iX,rfl,me,sT,h⟩;refine V 3 ?_;refine an J ?_ ?_<;>intro aJi
   . refine V 7 ?_;replace h:=h.zz [1,1] 0;refine b_ J J J (aA (kI (n:=bs-3) (at_:=iX) h (hN.sub aJ) I (by have:=Mv;have:=he;have:=(hv I).2.2.2.1;omega)) ?_);rintro e w1 ⟨ov,fU,rfl,me,uD,h⟩;refine V 3 ?_;replace h:=h.zz [3,1,2,3] 1;exact⟨aM,3+ov,fU,aq,h,I,I⟩
   refine aQ ?_;replace h:=h.zz [3,1,2,3] 1;exact⟨aM,bs,iX,aq,h,I,I⟩
 refine V 8 ?_;refine fV J (aQ ?_);replace h:=h.tail;(try dsimp only[dB]at h);exact⟨aM,bs,at_,aq,h,I,I⟩
 rintro ρ w ⟨MF,at9,⟨ab3,rfl⟩,h,rG,amu⟩;refine V 3 ?_;refine ah (zh (b:=60000) (h2:=ao.lit _) J J) ?_;refine V 5 ?_;exact⟨at9,jA,s,min MF 60000,fr,J,amu,s_,hs,Vu _ _,aD0 hv (aI (O6 _ _) rG),h⟩
variable {k:Nat}
def G3(f:Nat->aD):List aD:=[f 0,f 1,f 2]
def xu(f:Nat->aD):Nat->List aD
 |0=> [f 1,f 2]
 |1=> [f 0,f 2]
 |_=> [f 0,f 1]
def ik{α:Type}(f:Nat->α)(k:Nat)(e:α):Nat->α:=λj=>if j=k then e else f j
theorem r_{α:Type}{f:Nat->α}{e:α}:ik f k e k=e:=ai J
theorem xy{α:Type}{f:Nat->α}{e:α}(h:j≠k):ik f k e j=f j:=ag h
def V3(v:Nat->Value):List Value:=[v 0,v 1,v 2]
theorem uH{v:Nat->Value}(hk:k<=2):(V3 v)[k]? =some (v k):=by
 rcases(I:k=0\/k=1\/k=2)with rfl|rfl|rfl<;>rfl
theorem UH{v:Nat->Value}{e:Value}(hk:k<=2):(V3 v).set k e=V3 (ik v k e):=by
 rcases(I:k=0\/k=1\/k=2)with rfl|rfl|rfl<;>rfl
theorem aD7{f:Nat->aD}{L:List aD}{k:Nat}(hk:k<=2):f k∈G3 f++L:=by
 rcases(I:k=0\/k=1\/k=2)with rfl|rfl|rfl
 exact e_ ..
 exact ar bF
 exact ar (ar bF)
structure NS where
 ob:Option Nat
 l:List Nat
 c:Nat
 sp:List Value
def NS.e(s:NS):aD:=(s.ob,C (s.l.map R++s.sp) 3)
def NS.v(s:NS):Value:= .slice (aB s.ob) s.l.length s.c
structure NS.ok(s:NS):Prop where
 len:(s.l.map R++s.sp).length=s.c
 le:s.l.length<=s.c
 nn:s.ob=none->s.c=0
def NS.nil:NS:=⟨none,[],0,[]⟩
theorem NS.ab4:NS.nil.ok:=⟨J,aR _,λ_=>rfl⟩
theorem NS.sl{s:NS}(h:s.ok){F:List aD}(hm:s.e∈F):gO F s.v (s.l.map R):=
 ⟨_,_,_,J,by rw[bX],h.le,λh0=>by
   obtain⟨ob,l,c,sp⟩:=s
   cases ob with
   |none=>have W:=h.nn J;have h2:=h.le;simp only at W h2;simp only at h0;omega
   |some b=>exact⟨b,0,_,_,J,hm,Rd.left _ _⟩⟩
variable {Q:List (Nat×Nat×Nat)}
def uI(q:Nat×Nat×Nat):Nat->Nat
 |0=>q.1
 |1=>q.2.1
 |_=>q.2.2
def yX(q:Nat×Nat×Nat):List Value:=[R q.1,R q.2.1,R q.2.2]
def mq(Q:List (Nat×Nat×Nat)):List Value:=Q.flatMap yX
theorem amv(Q:List (Nat×Nat×Nat)):(mq Q).length=3*Q.length:=by
 induction Q with
 |nil=>rfl
 |cons q Q ih=>simp only[mq,E0,aF,ek]at*;rw[ih];simp[yX];omega
def EL(F:List aD)(v:Value)(Q:List (Nat×Nat×Nat)):Prop:= ∃ad n c,v= .slice ad n c/\n=Q.length/\n<=c/\(0<n-> ∃b q l T,ad=some ⟨b,q,none⟩/\(some b,C l T)∈F/\Rd l q (mq Q))
theorem EL.len(h:EL F (.slice ad n c) Q):n=Q.length/\n<=c:=by
 obtain⟨_,_,_,e1,e2,e3,_⟩:=h;cases e1;exact⟨e2,e3⟩
theorem EL.eH(h:EL F (.slice ad n c) Q)(h0:0<n): ∃b q l T,ad=some ⟨b,q,none⟩/\(af b l T)∈F/\Rd l q (mq Q):=by
 obtain⟨_,_,_,e1,_,_,h4⟩:=h;cases e1;exact h4 h0
def Ov(kind n c:Nat):Prop:=c<=(cj kind).1/\(codeF kind c).1<=n/\(c<(cj kind).1->n<(codeF kind (c+1)).1)
def r'(Q:List (Nat×Nat×Nat))(k j:Nat)(cl ml vR:List Nat):Prop:=cl.length=j/\ml.length=j/\vR.length=j/\ ∀i,i<j->Ov k (uI (Q.getD i default) k) (cl.getD i 0)/\ml.getD i 0=uI (Q.getD i default) k- (codeF k (cl.getD i 0)).1/\vR.getD i 0=(codeF k (cl.getD i 0)).2
theorem r'.nil:r' Q k 0 [] [] []:=⟨J,J,J,λi hi=>absurd hi (nP _)⟩
theorem ab5{l:List Nat}{x:Nat}:(l++[x]).getD i 0=if i=l.length then x else l.getD i 0:=by
 rw[bS];rcases Nat.lt_trichotomy i l.length with h|h|h
 rw[ir h,ag I,<-bS]
 rw[nN I,ai h,h,AE];rfl
 rw[nN I,ag I,bS,gP (by simp;omega),gP I]
theorem r'.snoc{cl ml vR:List Nat}(h:r' Q k j cl ml vR)(hc:Ov k (uI (Q.getD j default) k) c):r' Q k (j+1) (cl++[c]) (ml++[uI (Q.getD j default) k- (codeF k c).1]) (vR++[(codeF k c).2]):=by
 obtain⟨W,h2,h3,h4⟩:=h;refine⟨by rw[aF,W];rfl,by rw[aF,h2];rfl,by rw[aF,h3];rfl,λi hi=>?_⟩;rw[ab5,ab5,ab5,W,h2,h3];by_cases e:i=j
 subst e;rw[ai J,ai J,ai J];exact⟨hc,J,J⟩
 rw[ag e,ag e,ag e];exact h4 i I
theorem Ov.sm(h:Ov k n c)(hk:k<=2)(hn:n<=400000000):c<=KI k:=by
 have W:=h.1;have h2:=h.2.1;rcases(I:k=0\/k=1\/k=2)with rfl|rfl|rfl
 exact W
 have h3:c<=31:=W;rcases dh 28 c with e|e
 rcases(I:c=29\/c=30\/c=31)with rfl|rfl|rfl
 exact absurd (aI h2 hn) aj
 exact absurd (aI h2 hn) aj
 exact absurd (aI h2 hn) aj
 exact e
 exact W
end Go.Z
namespace Go.Z
open Go
variable {listed:Array Bool}{ds:List (Nat×Nat)}{l:List Oper}{i id:Nat}{S:Nat->Bool}
section
variable {P:Program}{ops:Array Oper}{Q:Exit->Act->World->Prop}
def ab6(ops:Array Oper):Bool:=(List.range ops.size).all λi=>match ops[i]? with
 |some o=>o.after.all λe=>!Region.binds .any e||Nat.blt e.on i
 |none=>true
def xz(S:Nat->Bool)(i:Nat):Nat->Bool:=λj=>bif Nat.beq j i then true else S j
def EM(l:List Bool):Nat:=l.countP (!·)
theorem ab7{l:List Bool}(h:l[i]? =some false):EM (l.set i true)+1=EM l:=by
 induction l generalizing i with
 |nil=>simp at h
 | cons x l ih=>
   cases i with
   |zero=>simp at h;subst h;simp[EM]
   |succ i=>simp at h;have:=ih h;cases x<;>simp[EM]at* <;>omega
theorem ab8(h:listed.getD i true=false):listed.toList[i]? =some false:=by
 rcases dh i listed.size with h'|h'
 simp[h']at h ⊢;exact h
 simp[h']at h
theorem aD8(hi:i<listed.size):(λj=>(listed.setIfInBounds i true).getD j false)=xz (λj=>listed.getD j false) i:=by
 funext j;unfold xz;by_cases e:j=i
 subst e;simp[hi]
 rw[H8 e];simp[Array.getElem?_setIfInBounds_ne (Ne.symm e)]
theorem aD9{l:List Bool}(h: ∀i,i<l.length->l[i]? =some true):EM l=0:=by
 refine List.countP_eq_zero.2 λx hx=>?_;obtain⟨i,hi⟩:=HP hx;have cP:i<l.length:=(sf.1 hi).1;rw[h i cP]at hi;cases hi;simp
theorem aD_(h:0<EM listed.toList): ∃i,i<listed.size/\listed.getD i true=false/\ ∀j,j<i->listed.getD j false=true:=by
 have key: ∀m,m<=listed.size->(∀j,j<m->listed.getD j false=true)\/ ∃i,i<listed.size/\listed.getD i true=false/\ ∀j,j<i->listed.getD j false=true:=by
  intro m
  induction m with
  |zero=>exact λ_=> .inl λj hj=>absurd hj (nP _)
  | succ m ih=>
    intro hm
    rcases ih I with q|q
    . rcases getD_or (listed:=listed) (i:=m) I with e|e
      . refine .inl λj hj=>?_
        rcases dh j m with h'|h'
        . exact q j h'
        . rw[show j=m by omega];exact e
      . exact .inr ⟨m,I,e,q⟩
    . exact .inr q
 rcases key listed.size (aR _)with q|q
 exfalso;have:=aD9 (l:=listed.toList) λi hi=>(by have GD:i<listed.size:=(by simpa using hi);have:=q i GD;simp[GD]at this ⊢;exact this);omega
 exact q
theorem amw(hb:ab6 ops=true)(Z7:(Nat->Bool)->Act->World->Prop)(hs: ∀S a w i o,ops[i]? =some o->S i=false->(∀e∈o.after,Region.binds .any e=true->S e.on=true)->Z7 S a w->xI P ops .h o (Z7 (xz S i)) a w)(he: ∀S a w,(∀i,i<ops.size->S i=true)->Z7 S a w->Q .normal a w): ∀(n:Nat) (listed:Array Bool) (a:Act) (w:World),listed.size=ops.size->EM listed.toList=n->Z7 (λi=>listed.getD i false) a w->wpAny P .any ops Q n listed a w
 | 0,listed,a,w,W,h2,h=>by
  have jr: ∀i,i<ops.size->listed.getD i false=true:=λi hi=>by
   rcases getD_or (listed:=listed) (i:=i) I with e|e
   exact e
   have:=ab7 (ab8 e);omega
  refine⟨Vj.2 λj hj=>?_,he _ a w jr h⟩;obtain⟨h0,oj,xM,_⟩:=mem_ready.1 hj;have cP:=(OP.1 xM).1;have h3:=ab7 (ab8 h0);omega
 | n+1,listed,a,w,W,h2,h=>by
  constructor
  intro hr;exfalso;obtain⟨i,hi,h3,h4⟩:=aD_ (listed:=listed) I;have GD:i<ops.size:=I;have UI:ops[i]? =some ops[i]:=(by simp[GD]);have:i∈Region.ready .any ops listed:=(by refine mem_ready.2 ⟨h3,ops[i],UI,λe hem eT=>h4 _ ?_⟩;have:=uL.1 hb i (oX.2 GD);simp only[UI]at this;have:=Vk.1 this e hem;simpa [eT,ES] using this);rw[hr]at this;cases this
  intro j hj;obtain⟨h0,oj,xM,jr⟩:=mem_ready.1 hj;have zg:j<listed.size:=(by rw[W];exact(OP.1 xM).1);have h00:listed.getD j false=false:=(by have:=h0;simp[zg]at this ⊢;exact this);refine acL xM (Pm (hs _ a w j oj xM h00 jr h) λv w1 _ hc=>?_);refine amw hb Z7 hs he n _ _ _ (by simp[W]) ?_ ?_
  have:=ab7 (ab8 h0);rw[Array.toList_setIfInBounds];omega
  rw[aD8 zg];exact hc
def KN(P:Program)(n:Nat)(o:Oper)(Z6:Env->World->Prop)(ρ:Env)(w:World):Prop:=
 o.guard=none/\aV n o.dst=true/\((∃v w1,run P ρ o.op o.type w= .ok (.value v) w1/\Z6 (Env.put ρ o.dst v) w1)\/(∃w1,run P ρ o.op o.type w= .ok .skip w1/\Z6 (Env.put ρ o.dst undef) w1)\/
   (∃f args w0,run P ρ o.op o.type w= .ok (.enter f args) w0/\Calls P f args w0 λe w1=> ∃v,e= .returned v/\Z6 (Env.put ρ o.dst v) w1))
def ab9(S:Nat->Bool)(o:Oper):Prop:= ∀e∈o.after,Region.binds .any e=true->S e.on=true
def Cp(P:Program)(n:Nat)(Z7:(Nat->Bool)->Env->World->Prop):Nat->List Oper->Prop
 |_,[]=>True
 |i,o::l=>(∀S ρ w,S i=false->ab9 S o->Z7 S ρ w->KN P n o (Z7 (xz S i)) ρ w)/\Cp P n Z7 (i+1) l
theorem Cp.get{n:Nat}{Z7:(Nat->Bool)->Env->World->Prop}: ∀{l:List Oper} {i j:Nat} {o:Oper},Cp P n Z7 i l->l[j]? =some o-> ∀S ρ w,S (i+j)=false->ab9 S o->Z7 S ρ w->KN P n o (Z7 (xz S (i+j))) ρ w
 | [],_,_,_,_,h=>by simp at h
 |x::l,i,0,o,hs,h=>by simp at h;subst h;exact hs.1
 |x::l,i,j+1,o,hs,h=>by simp at h;have:=Cp.get hs.2 h;rw[show i+1+j=i+(j+1) by omega]at this;exact this
theorem Cq{n:Nat}{Z6:Env->World->Prop}{ρ:Env}{w w1:World}{o:Oper}{v:Value}(hr:run P ρ o.op o.type w= .ok (.value v) w1)(hg:o.guard=none)(hd:aV n o.dst=true)(h:Z6 (Env.put ρ o.dst v) w1):KN P n o Z6 ρ w:=⟨hg,hd,.inl ⟨v,w1,hr,h⟩⟩
variable {n:Nat}{K:gw}{ρ:Env}{w:World}
theorem aD'(Z7:(Nat->Bool)->Env->World->Prop)(hm:P.follows .mixedOrders=true)(hb:ab6 l.toArray=true)(h:Z7 (λ_=>false) ρ {w with drawn:=w.drawn+1})(hs:Cp P n Z7 0 l)(he: ∀S ρ w,(∀i,i<l.toArray.size->S i=true)->Z7 S ρ w->K .normal ρ w):Z_ P n (.region id l.toArray true) K ρ w:=by
 unfold Z_;intro a W h2 h3;refine wp_region_any hm (amw hb (λS a w=>a.tmps.size=n/\a.defers=[]/\Z7 S (lx a) w) ?_ ?_ _ _ _ _ (by simp) ?_ ?_)
 rintro S a w i o UI hS aEa ⟨q1,q2,q3⟩;have:=Cp.get hs (i:=0) (j:=i) (o:=o) (by simpa using UI) S _ w (by simpa using hS) aEa q3;rw[im]at this;obtain⟨hg,hd,h⟩:=this;have hw:Region.wanted o (yielded l.toArray a.tmps)=true:=(by simp[Region.wanted,hg]);have Uq:aV a.tmps.size o.dst=true:=(by rw[q1];exact hd);refine .inl ⟨hw,?_⟩;have put: ∀v w1,Z7 (xz S i) (Env.put (lx a) o.dst v) w1->(a.put o.dst v).tmps.size=n/\(a.put o.dst v).defers=[]/\Z7 (xz S i) (lx (a.put o.dst v)) w1:=λv w1 h=>⟨by rw[size_put,q1],by rw[nQ,q2],by rw[nR a o.dst v Uq];exact h⟩;have er: ∀w,run P (lx a) o.op o.type w=(execOp a.eval o).run P w:=λw=>(by rw[pW,qK]);rcases h with⟨v,w1,W,h2⟩| ⟨w1,W,h2⟩| ⟨f,args,w0,W,h2⟩
 exact .inl ⟨v,w1,by rw[<-er];exact W,λe=>absurd J e,put v w1 h2⟩
 exact .inr (.inl ⟨w1,by rw[<-er];exact W,λe=>absurd J e,put undef w1 h2⟩)
 exact .inr (.inr ⟨f,args,w0,by rw[<-er];exact W,h2.mono λe w1 ⟨v,e1,e2⟩=>⟨v,e1,λe=>absurd J e,put v w1 e2⟩⟩)
 rintro S a w jr ⟨q1,q2,q3⟩;exact⟨q1,q2,he S _ w jr q3⟩
 simp only[EM,Vl,Array.toList_replicate,List.countP_replicate];rfl
 refine⟨W,h2,?_⟩;have:(λi=>(Array.replicate l.toArray.size false).getD i false)=λ_=>false:=(by funext i;rcases dh i l.toArray.size with h'|h'<;>simp at h'<;>simp[h']);rw[this,h3];exact h
def mP(S:Nat->Bool)(ρ:Env):List (Nat×Nat×Value)->Prop
 | []=>True
 | (j,t,v)::l=>(S j=true->ρ t=v)/\mP S ρ l
def ab_(i d:Nat):List (Nat×Nat×Value)->Bool
 | []=>true
 | (j,t,_)::l=>(if j=i then t==d else !(Nat.beq t d))&&ab_ i d l
def amx(i:Nat)(v:Value):List (Nat×Nat×Value)->Prop
 | []=>True
 | (j,_,u)::l=>(if j=i then u=v else True)/\amx i v l
theorem mP.put{S:Nat->Bool}{ρ:Env}{i d:Nat}{v:Value}: ∀{l:List (Nat×Nat×Value)},mP S ρ l->ab_ i d l=true->amx i v l->mP (xz S i) (Env.put ρ (some d) v) l
 | [],_,_,_=>trivial
 | (j,t,u)::l,h,W,h2=>by
  simp only[ab_,nM]at W;refine⟨λhj=>?_,mP.put h.2 W.2 h2.2⟩;have h3:=W.1;have h4:=h2.1;by_cases e:j=i
  rw[ai e]at h3 h4;have:t=d:=(by simpa using h3);subst this;simp only[Env.put,Env.set,Nat.beq_refl,cond_true];exact h4.symm
  rw[ag e]at h3;simp only[xz,H8 e,OL]at hj;have h5:Nat.beq t d=false:=(by simpa using h3);simp only[Env.put,Env.set,h5,OL];exact h.1 hj
theorem mP.amy{ρ:Env}: ∀{l:List (Nat×Nat×Value)},mP (λ_=>false) ρ l
 | []=>trivial
 | (_,_,_)::_=>⟨λh=>Bool.noConfusion h,mP.amy⟩
theorem mP.get{S:Nat->Bool}{ρ:Env}{j t:Nat}{v:Value}: ∀{l:List (Nat×Nat×Value)} (k:Nat),mP S ρ l->l[k]? =some (j,t,v)->S j=true->ρ t=v
 | [],_,_,h,_=>by simp at h
 |x::l,0,h,e,hs=>by simp at e;subst e;exact h.1 hs
 |x::l,k+1,h,e,hs=>by simp at e;exact mP.get k h.2 e hs
theorem mP.mQ{ρ bj:Env}{j t:Nat}{v:Value}{l:List (Nat×Nat×Value)}(h:mP S (pd ds bj ρ) l)(k:Nat)(e:l[k]? =some (j,t,v))(hs:S j=true)(hi:rC ds t=true):bj t=v:=by
 have:=mP.get k h e hs;simpa only[pd,hi,cond_true] using this
def amz(S:Nat->Bool):List (Nat×Nat×Value)->List (Nat×Nat×Value)->Prop
 | [],[]=>True
 | (j,t,v)::l,(j',t',v')::l'=>j=j'/\t=t'/\(S j=true->v=v')/\amz S l l'
 |_,_=>False
theorem mP.same{S:Nat->Bool}{ρ:Env}: ∀{l l':List (Nat×Nat×Value)},mP S ρ l->amz S l l'->mP S ρ l'
 | [],[],_,_=>trivial
 | [],_::_,_,e=>e.elim
 |_::_,[],_,e=>e.elim
 | (j,t,v)::l,(j',t',v')::l',h,e=>by obtain⟨rfl,rfl,e1,e2⟩:=e;exact⟨λhj=>(h.1 hj).trans (e1 hj),mP.same h.2 e2⟩
theorem mP.up{S:Nat->Bool}{ρ:Env}{i:Nat}: ∀{l:List (Nat×Nat×Value)},mP S ρ l->(l.all λx=>!Nat.beq x.1 i)=true->mP (xz S i) ρ l
 | [],_,_=>trivial
 | (j,t,u)::l,h,W=>by simp only[Vm,nM,HQ]at W;exact⟨λhj=>h.1 (by simpa only[xz,W.1,OL] using hj),mP.up h.2 W.2⟩
def ab'(o:Oper)(k:Nat):Bool:=o.after.toList.any λe=>Region.binds .any e&&Nat.beq e.on k
theorem aEb{o:Oper}(h:ab9 S o){k:Nat}(hk:ab' o k=true):S k=true:=by
 simp only[ab',KS,nM]at hk;obtain⟨e,he,W,h2⟩:=hk;rw[<-Ve h2];exact h e (Array.mem_toList_iff.1 he) W
theorem lr.cons{Z7:(Nat->Bool)->Env->World->Prop}{o:Oper}(W: ∀S bj w,S i=false->(∀k,ab' o k=true->S k=true)->Z7 S (pd ds bj ρ) w->KN P n o (λzj w'=>du zj ρ ds/\Z7 (xz S i) zj w') (pd ds bj ρ) w)(h2:Cp P n (λS bj w'=>du bj ρ ds/\Z7 S bj w') (i+1) l):Cp P n (λS bj w'=>du bj ρ ds/\Z7 S bj w') i (o::l):=
 ⟨λS bj w hS hd ⟨ha,hI⟩=>by
   have h3:=W S bj w hS (λk hk=>aEb hd hk)
   rw[ha.Ij]at h3
   exact h3 hI,h2⟩
theorem aEc(ds:List (Nat×Nat))(Z7:(Nat->Bool)->Env->World->Prop)(hm:P.follows .mixedOrders=true)(hb:ab6 l.toArray=true)(h:Z7 (λ_=>false) ρ {w with drawn:=w.drawn+1})(hs:Cp P n (λS bj w'=>du bj ρ ds/\Z7 S bj w') 0 l)(he: ∀S bj w,(∀i,i<l.length->S i=true)->Z7 S (pd ds bj ρ) w->K .normal (pd ds bj ρ) w):Z_ P n (.region id l.toArray true) K ρ w:=by
 refine aD' (λS bj w'=>du bj ρ ds/\Z7 S bj w') hm hb ⟨du.refl _ _,h⟩ hs λS bj w' jr ⟨ha,hI⟩=>?_;have h3:=he S bj w' (λi hi=>jr i (by simpa using hi));rw[ha.Ij]at h3;exact h3 hI
end
end Go.Z
namespace Go.Z
open Go Go.Proofs
variable {ρ:Env}{L:List aD}{s:NS}{b i k:Nat}{f fb fc fm:Nat->aD}{x y:Operand}{r:dQ}{w:World}
theorem KO(hk:k<=2):(G3 f).Perm (f k::xu f k):=by
 rcases(I:k=0\/k=1\/k=2)with rfl|rfl|rfl
 exact .refl _
 . exact .swap _ _ _
 exact((List.Perm.swap (f 2) (f 1) []).cons (f 0)).trans (.swap _ _ _)
theorem aca{e:aD}(hk:k<=2):xu (ik f k e) k=xu f k:=by
 rcases(I:k=0\/k=1\/k=2)with rfl|rfl|rfl<;>rfl
theorem amA{A R1 R2 R3:List aD}{c m b:aD}:(A++((c::R1)++((m::R2)++((b::R3)++L)))).Perm (c::m::b::(A++(R1++(R2++(R3++L))))):=by
 have p1:(A++(c::(R1++(m::(R2++(b::(R3++L))))))).Perm (c::(A++(R1++(m::(R2++(b::(R3++L))))))):=si;have p2:((A++R1)++(m::(R2++(b::(R3++L))))).Perm (m::((A++R1)++(R2++(b::(R3++L))))):=si;have p3:((A++R1++R2)++(b::(R3++L))).Perm (b::((A++R1++R2)++(R3++L))):=si;simp only[cF]at p2 p3;exact p1.trans ((p2.trans (p3.cons m)).cons c)
theorem H.aEd(A:List aD){L:List aD}{k:Nat}(h:H r w (A++(G3 fc++(G3 fm++(G3 fb++L)))))(hk:k<=2):H r w (fc k::fm k::fb k::(A++(xu fc k++(xu fm k++(xu fb k++L))))):=
 h.perm ((VB A ((KO hk).append ((KO hk).append ((KO hk).append (.refl L))))).trans amA)
theorem H.aEe(A:List aD){L:List aD}{k:Nat}{c m b:aD}(h:H r w (c::m::b::(A++(xu fc k++(xu fm k++(xu fb k++L))))))(hk:k<=2):H r w (A++(G3 (ik fc k c)++(G3 (ik fm k m)++(G3 (ik fb k b)++L)))):=by
 have p:=(VB A ((KO (f:=ik fc k c) hk).append ((KO (f:=ik fm k m) hk).append ((KO (f:=ik fb k b) hk).append (.refl L))))).trans amA;rw[aca hk,aca hk,aca hk,r_,r_,r_]at p;exact h.perm p.symm
theorem HF{α β:Type}{g:α->β}{f:Nat->α}{e:α}:(λj=>g (ik f k e j))=ik (λj=>g (f j)) k (g e):=by
 funext j;unfold ik;split<;>rfl
theorem H.newAt{o:Obj}{e:aD}(h:H r w L)(hi:L[i]? =some e):H r (w.alloc o) (L.set i (some w.heap.size,o)):=by
 have hs: ∀x:aD,L.set i x=L.take i++x::L.drop (i+1):=λx=>(by have cP:=(sf.1 hi).1;rw[List.set_eq_take_append_cons_drop,ai cP]);have hL:L=L.take i++e::L.drop (i+1):=(by rw[<-hs e];exact(Ip hi).symm);have hp:(((some w.heap.size,o):aD)::L).Perm (e::L.set i (some w.heap.size,o)):=(by rw[hs];refine((hL▸List.Perm.refl L:L.Perm (L.take i++e::L.drop (i+1))).trans si).cons _|>.trans ((List.Perm.swap ..).trans (List.perm_middle.symm.cons _)));exact((h.alloc o).perm hp).tail
theorem aEf{v:Nat}{j:Nat}(h:H r w L)(hi:L[i]? =some s.e)(hj:L[j]? =some (af b [R v] 3))(cS:s.ok)(hl:s.l.length<=1099511627776)(hx:Env.ev ρ x=s.v)(hy:Env.ev ρ y=cf b 1 1): ∃(s':NS) (w1:World),run PP ρ (.call {callee:= .builtin .append,args:= #[x,y],argTypes:= #[23,23]}) 23 w= .ok (.value s'.v) w1/\s'.ok/\s'.l=s.l++[v]/\H r w1 (L.set i s'.e):=by
 obtain⟨ob,l,c,sp⟩:=s;obtain⟨w1,bH,c',dm,q1,q2,q3,q4,q5⟩:=Wd (P:=PP) (ty:=23) (T:=23) (T2:=23) (ob:=ob) (nn:=l.length) (c:=c) (m:=1) (size:=1) (xs:=l.map R) (sp:=sp) (ys:=[R v]) J h hi (by simp) (by have:=cS.len;simp only at this;rw[this];omega) cS.le cS.nn aj (Src.slice (j:=j) (q2:=0) hj ⟨J,trivial⟩ J) (by intro x hx;simp at hx;subst hx;rfl) (by simp only at hl;omega) (by simp only at hl;omega);refine⟨⟨bH,l++[v],c',dm⟩,w1,?_,⟨?_,?_,q5⟩,J,?_⟩
 have:=CV (P:=PP) (T:=23) (T2:=23) hx hy q1;rw[this];simp only[NS.v,aF,ek,fE]
 simp only[f_,EW,E4];rw[q3];omega
 simp only[aF,ek,fE];exact q4
 simp only[NS.e,f_,EW,E4];exact q2
theorem acb{v n:Nat}{d:Option Nat}{pos:String}{aN:Array Edge}{Z6:Env->World->Prop}(h:H r w L)(i j:Nat)(hi:L[i]? =some s.e)(hj:L[j]? =some (af b [R v] 3))(cS:s.ok)(hl:s.l.length<=1099511627776)(hx:Env.ev ρ x=s.v)(hy:Env.ev ρ y=cf b 1 1)(hd:aV n d=true)(hk: ∀(s':NS) (w1:World),s'.ok->s'.l=s.l++[v]->H r w1 (L.set i s'.e)->Z6 (Env.put ρ d s'.v) w1):KN PP n {dst:=d,op:= .call {callee:= .builtin .append,args:= #[x,y],argTypes:= #[23,23]},type:=23,pos:=pos,after:=aN,guard:=none} Z6 ρ w:=by
 obtain⟨s',w1,W,h2,h3,h4⟩:=aEf h hi hj cS hl hx hy;exact Cq W J hd (hk s' w1 h2 h3 h4)
variable {a:aD}{Q:List (Nat×Nat×Nat)}{F:List aD}{bs cl ml st:List Nat}{B:List UInt8}{kk m n:Nat}{fl:Nat->List Nat}{md:Nat->Nat}{tO:Nat->Option Tb}{ts:Nat->Tb}{p:Nat->Value}{t:Tb}{x:Wr}
def W3(x:Wr)(p:Nat->Value):Wr:={x with p0:=p 0,p1:=p 1,p2:=p 2}
theorem UJ(hk:k<=2):PK (W3 x p) k=p k:=by
 rcases(I:k=0\/k=1\/k=2)with rfl|rfl|rfl<;>rfl
theorem aEg{v:Value}(hk:k<=2):WP (W3 x p) k v=W3 x (ik p k v):=by
 rcases(I:k=0\/k=1\/k=2)with rfl|rfl|rfl<;>rfl
def yY(md:Nat->Nat):Nat->Nat
 |0=>0
 |1=>md 0*64
 |2=>md 0*64+md 1*16
 |_=>md 0*64+md 1*16+md 2*4
theorem aEh(hk:kk<=2)(h: ∀k,k<kk->md k<=3)(hm:m<=3):yY md kk|||m*2^(6-2*kk)=yY (ik md kk m) (kk+1):=by
 rcases(I:kk=0\/kk=1\/kk=2)with rfl|rfl|rfl
 show 0|||m*64=m*64;exact Nat.zero_or _
 have h0:=h 0 aj;show md 0*64|||m*16=md 0*64+m*16;generalize md 0=a at h0;exact(show ∀a,a<4-> ∀m,m<4->a*64|||m*16=a*64+m*16 by decide) a I m I
 have h0:=h 0 aj;have W:=h 1 aj;show(md 0*64+md 1*16)|||m*4=md 0*64+md 1*16+m*4;generalize md 0=a at h0;generalize md 1=b at W;exact(show ∀a,a<4-> ∀b,b<4-> ∀m,m<4->(a*64+b*16)|||m*4=a*64+b*16+m*4 by decide) a I b I m I
theorem amB(hk:kk<=3)(h: ∀k,k<kk->md k<=3):yY md kk<=252:=by
 rcases(I:kk=0\/kk=1\/kk=2\/kk=3)with rfl|rfl|rfl|rfl
 exact bP _
 have:=h 0 aj;show md 0*64<=252;omega
 have:=h 0 aj;have:=h 1 aj;show md 0*64+md 1*16<=252;omega
 have:=h 0 aj;have:=h 1 aj;have:=h 2 aj;show md 0*64+md 1*16+md 2*4<=252;omega
theorem aEi(hm:m<=3)(hk:kk<=2):m*2^(6-2*kk)<=192:=by
 rcases(I:kk=0\/kk=1\/kk=2)with rfl|rfl|rfl
 show m*64<=192;omega
 show m*16<=192;omega
 show m*4<=192;omega
def lu(Bs:Nat->List UInt8):Nat->List UInt8
 |0=> []
 |k+1=>lu Bs k++Bs k
theorem amC{Bs Bs':Nat->List UInt8}: ∀{k:Nat},(∀j,j<k->Bs j=Bs' j)->lu Bs k=lu Bs' k
 |0,_=>rfl
 |k+1,h=>by simp only[lu];rw[amC λj hj=>h j (Nat.lt_succ_of_lt hj),h k (E7 _)]
theorem amD{Bs:Nat->List UInt8}:lu (ik Bs k B) (k+1)=lu Bs k++B:=by
 simp only[lu];rw[r_,amC λj hj=>xy (Vh hj)]
theorem acd{Bs:Nat->List UInt8}: ∀{k:Nat},(∀j,j<k->(Bs j).length<=1000)->(lu Bs k).length<=1000*k
 |0,_=>aR _
 |k+1,h=>by have W:=acd λj hj=>h j (Nat.lt_succ_of_lt hj);have h2:=h k (E7 _);simp only[lu,aF];omega
def HG(F:List aD)(x:Wr)(tO:Nat->Option Tb)(fl:Nat->List Nat)(kk:Nat)(p:Nat->Value)(ts:Nat->Tb)(Bs:Nat->List UInt8)(md:Nat->Nat):Prop:=
 ∀k,k<=2->(k<kk->lI F (p k) (ts k)/\mO k (ts k)/\(∀s,s∈fl k->Av (ts k) s)/\Oq (tO k) k (md k) (fl k) (ts k) (Bs k)/\md k<=3)/\(kk<=k->p k=PK x k)
theorem HG.zero{Bs:Nat->List UInt8}:HG F x tO fl 0 (PK x) ts Bs md:=λ_ _=>⟨λh=>absurd h (nP _),λ_=>rfl⟩
theorem HG.step{F':List aD}{Bs:Nat->List UInt8}{v:Value}(h:HG F x tO fl kk p ts Bs md)(hs:Sub F F')(W:lI F' v t)(h2:mO kk t)(h3: ∀s,s∈fl kk->Av t s)(h4:Oq (tO kk) kk m (fl kk) t B)(h5:m<=3):HG F' x tO fl (kk+1) (ik p kk v) (ik ts kk t) (ik Bs kk B) (ik md kk m):=λk hk=>by
 by_cases e:k=kk
 subst e;rw[r_,r_,r_,r_];exact⟨λ_=>⟨W,h2,h3,h4,h5⟩,λhh=>absurd hh I⟩
 rw[xy e,xy e,xy e,xy e];exact⟨λhh=>let ⟨a,b⟩:=(h k hk).1 I;⟨a.sub hs,b⟩,λhh=>(h k hk).2 I⟩
def xA(n i:Nat)(st:List Nat):Int:=if i<n then((st.getD i 0:Nat):Int)else-1
def StR(t:Tb)(cl:List Nat)(n:Nat)(st:List Nat)(k:Nat):Prop:=
 st.getD k 0<t.cells.length/\(t.cells.getD (st.getD k 0) default).sym=cl.getD k 0/\(k+1<n->(t.cells.getD (st.getD k 0) default).base<=st.getD (k+1) 0/\st.getD (k+1) 0<(t.cells.getD (st.getD k 0) default).base+2^(t.cells.getD (st.getD k 0) default).bits)
def EN(t:Tb)(cl:List Nat)(n i:Nat)(st:List Nat):Prop:=st.length=n/\ ∀k,i<=k->k<n->StR t cl n st k
theorem Ow{l:List Nat}{j v:Nat}(h:i<l.length):(l.set i v).getD j 0=if i=j then v else l.getD j 0:=by
 simp only[bS,uK];by_cases e:i=j
 subst e;rw[ai J,ai J,ai h];rfl
 rw[ag e,ag e]
theorem EN.step(h:EN t cl n i st)(h0:0<i)(p_:i<=n)(W:m<t.cells.length)(h2:(t.cells.getD m default).sym=cl.getD (i-1) 0)(h3:0<=xA n i st->s8 (t.cells.getD m default) (xA n i st)):EN t cl n (i-1) (st.set (i-1) m)/\xA n (i-1) (st.set (i-1) m)=((m:Nat):Int):=by
 have hl:=h.1;have cP:i-1<st.length:=I;refine⟨⟨by rw[dD];exact hl,λk hk B4=>?_⟩,?_⟩
 unfold StR;by_cases e:i-1=k
 rw[Ow cP,ai e,Ow cP,ag I];refine⟨W,by rw[h2,e],λeF=>?_⟩;have h4:xA n i st=((st.getD (k+1) 0:Nat):Int):=(by unfold xA;rw[show i=k+1 by omega,ai eF]);have h5:=h3 (by rw[h4];omega);rw[h4]at h5;unfold s8 at h5;omega
 rw[Ow cP,ag e,Ow cP,ag I];exact h.2 k I B4
 unfold xA;rw[ai I,Ow cP,ai J]
theorem aEj(h:EN t cl n i st)(hl:t.cells.length=2^t.log): -1<=xA n i st/\xA n i st<((2^t.log:Nat):Int):=by
 unfold xA;split
 rename_i hi;have:=(h.2 i (aR _) hi).1;omega
 have:=ep t.log;omega
def EO(ts:Nat->Tb)(st:Nat->List Nat):Nat->List Bool
 |0=> []
 |k+1=>EO ts st k++dG ((st k).getD 0 0) (ts k).log
def mr(ml bs:Nat->List Nat)(i:Nat):Nat->List Bool
 |0=> []
 |j+1=>mr ml bs i j++dG ((ml ([1,2,0].getD j 0)).getD i 0) ((bs ([1,2,0].getD j 0)).getD i 0)
def amE(t:Tb)(st:List Nat)(i:Nat):List Bool:=dG (st.getD (i+1) 0- (t.cells.getD (st.getD i 0) default).base) (t.cells.getD (st.getD i 0) default).bits
def yZ(ts:Nat->Tb)(st:Nat->List Nat)(i:Nat):Nat->List Bool
 |0=> []
 |j+1=>yZ ts st i j++amE (ts ([0,2,1].getD j 0)) (st ([0,2,1].getD j 0)) i
def jS(ml bs:Nat->List Nat)(ts:Nat->Tb)(st:Nat->List Nat):Nat->List Bool
 |0=>EO ts st 3
 |i+1=>jS ml bs ts st i++mr ml bs i 3++yZ ts st i 3
theorem amF{ml bs:Nat->List Nat}{i:Nat}(h: ∀k,k<=2->(bs k).getD i 0<=31): ∀{j:Nat},(mr ml bs i j).length<=31*j
 |0=>aR _
 | j+1=>by
  have W:= @amF ml bs i h j
  have h2:[1,2,0].getD j 0<=2:=by
   rcases(I:j=0\/j=1\/j=2\/3<=j)with rfl|rfl|rfl|e
   decide
   decide
   decide
   rw[bS,gP (by simpa using e)];decide
  have h3:=h _ h2;simp only[mr,aF,yU];omega
theorem amG{ts:Nat->Tb}{st:Nat->List Nat}{i:Nat}(h: ∀k,k<=2->((ts k).cells.getD ((st k).getD i 0) default).bits<=9): ∀{j:Nat},(yZ ts st i j).length<=9*j
 |0=>aR _
 | j+1=>by
  have W:= @amG ts st i h j
  have h2:[0,2,1].getD j 0<=2:=by
   rcases(I:j=0\/j=1\/j=2\/3<=j)with rfl|rfl|rfl|e
   decide
   decide
   decide
   rw[bS,gP (by simpa using e)];decide
  have h3:=h _ h2;simp only[yZ,amE,aF,yU];omega
theorem ace{ts:Nat->Tb}{st:Nat->List Nat}(h: ∀k,k<=2->(ts k).log<=9): ∀{k:Nat},k<=3->(EO ts st k).length<=9*k
 |0,_=>aR _
 |k+1,hk=>by have W:= @ace ts st h k I;have h2:=h k I;simp only[EO,aF,yU];omega
def amH(tO:Nat->Option Tb)(ts:Nat->Tb)(Q:List (Nat×Nat×Nat))(B:List UInt8):Prop:=
 ∃(md:Nat->Nat) (Bs:Nat->List UInt8) (cl ml bs st:Nat->List Nat),(∀k,k<=2->r' Q k Q.length (cl k) (ml k) (bs k)/\Oq (tO k) k (md k) (cl k) (ts k) (Bs k)/\md k<=3/\EN (ts k) (cl k) Q.length 0 (st k))/\
   B=(UInt8.ofNat (yY md 3)::lu Bs 3)++qD (jS ml bs ts st (Q.length-1)++mr ml bs (Q.length-1) 3)
theorem r'.get(h:r' Q k Q.length cl ml bs)(hk:k<=2)(hb: ∀i,i<Q.length->uI (Q.getD i default) k<=400000000){i:Nat}(hi:i<Q.length):cl.getD i 0<=KI k/\ml.getD i 0<=400000000/\bs.getD i 0<=31:=by
 obtain⟨W,h2,h3⟩:=h.2.2.2 i hi;have h4:=hb i hi;refine⟨W.sm hk h4,I,?_⟩;rw[h3];exact(afd I W.1).1
theorem r'.sm(h:r' Q k Q.length cl ml bs)(hk:k<=2)(hb: ∀i,i<Q.length->uI (Q.getD i default) k<=400000000): ∀s,s∈cl->s<=KI k:=λs hs=>by
 obtain⟨i,hi⟩:=HP hs;have hl:=(sf.1 hi).1;have:=(h.get hk hb (i:=i) (by rw[<-h.1];exact hl)).1;rw[bS,hi]at this;exact this
theorem lI.HH{G:List aD}{ob:Option Nat}{X S:List UInt8}{p:Value}(h:lI (G++(EB ob X S::F)) p t):lI (G++F) p t:=by
 have key: ∀(b:Nat) (l:List Value) (T:TypeId),T≠5->(af b l T)∈G++(EB ob X S::F)->(af b l T)∈G++F:=λb l T hT hm=>by
  rcases nL.1 hm with q|q
  exact ni _ q
  rcases mR.1 q with q|q
  simp only[EB,pS,C,Obj.cells.injEq]at q;exact absurd q.2.2.1 hT
  exact fe _ q
 obtain⟨tb,cb,W,h2,h3⟩:=h;exact⟨tb,cb,W,key _ _ _ aj h2,key _ _ _ aj h3⟩
theorem q6.bd{kind:Nat}(h:q6 kind t):t.cells.length<=512/\ ∀i,i<t.cells.length->(t.cells.getD i default).bits<=9/\(t.cells.getD i default).base<=65536:=by
 have W:2^t.log<=2^9:=dp aj h.log;have h2:=h.len;refine⟨I,λi hi=>?_⟩;have h3:=h.cell i I;exact⟨h3.1,aI (aI (mS _ _) h3.2.1) I⟩
def UK(F:List aD)(ts:Nat->Tb)(cl:Nat->List Nat)(n k2:Nat)(fs:Nat->NS):Prop:= ∀k,k<=2->k<k2->(fs k).e∈F/\(fs k).ok/\EN (ts k) (cl k) n 0 (fs k).l
theorem UK.step{cl:Nat->List Nat}{k2:Nat}{fs:Nat->NS}(h:UK F ts cl n k2 fs)(hs:EN (ts k2) (cl k2) n 0 st):UK ((af b (List.map R st) 3)::F) ts cl n (k2+1) (ik fs k2 ⟨some b,st,n,[]⟩):=λk hk cP=>by
 by_cases e:k=k2
 subst e;rw[r_];refine⟨by simp[NS.e],⟨by simp[hs.1],by simp[hs.1],λe=>by cases e⟩,hs⟩
 rw[xy e];have:=h k hk I;exact⟨ar this.1,this.2⟩
theorem aEk{e1 e2 e3 e4 e5:aD}(h:H r w (e1::e2::e3::e4::e5::(G3 fc++(G3 fm++(G3 fb++L))))): ∃G,H r w (e4::e5::(G++L))/\e1∈G++L/\e2∈G++L/\e3∈G++L/\ ∀k,k<=2->fc k∈G++L/\fm k∈G++L/\fb k∈G++L:=by
 have h2:=(h.mv 4).mv 4;refine⟨e1::e2::e3::(G3 fc++(G3 fm++G3 fb)),by simp only[dB,List.cons_append,cF]at h2 ⊢;exact h2,by simp,by simp,by simp,λk hk=>?_⟩;have hm: ∀f:Nat->aD,f k∈G3 f:=λf=>(by have:= @aD7 f [] k hk;simpa using this);refine⟨?_,?_,?_⟩
 have:=hm fc;simp[this]
 have:=hm fm;simp[this]
 have:=hm fb;simp[this]
theorem H.aEl{b e:aD}{G:List aD}(h:H r w (a::b::(G++(e::F)))):H r w (a::b::e::(G++F)):=
 h.perm ((List.perm_middle.cons b).cons a)
theorem aEm{G:List aD}{b e e':aD}(he:e=e'):Sub (G++(e::F)) (a::b::e'::(G++F)):=λx hx=>by
 subst he;rcases nL.1 hx with h|h
 simp[h]
 rcases mR.1 h with rfl|h
 simp
 simp[h]
variable {b:Bool}{b' c' m':NS}{gb gc gm:Nat->NS}{p:Prop}
theorem H.gh9{e1 e2 e3 e4 e5:aD}(h:H r w (e1::e2::e3::e4::e5::L)):H r w (e1::e2::e3::e4::e5::(G3 (λ_=>NS.nil.e)++(G3 (λ_=>NS.nil.e)++(G3 (λ_=>NS.nil.e)++L)))):=by
 have o:=C (List.map R []++[]) 3;have h9:=((((((((h.ghost (C (List.map R []++[]) 3)).ghost (C (List.map R []++[]) 3)).ghost (C (List.map R []++[]) 3)).ghost (C (List.map R []++[]) 3)).ghost (C (List.map R []++[]) 3)).ghost (C (List.map R []++[]) 3)).ghost (C (List.map R []++[]) 3)).ghost (C (List.map R []++[]) 3)).ghost (C (List.map R []++[]) 3);exact((((h9.mv 13).mv 13).mv 13).mv 13).mv 13
theorem aEn{l:List Value}{q:Nat}(h:Rd l q (mq Q))(hi:i<Q.length):Rd l (q+i*3) (yX (Q.getD i default)):=by
 have W:=WL yX 3 (λ_=>rfl) default Q i hi;exact Rd.of λj hj=>(by have h2:=W.get j hj;have h3:i*3+j<(mq Q).length:=(by rw[amv];have:j<3:=hj;omega);have h4:=h.get (i*3+j) h3;rw[show q+i*3+j=q+(i*3+j) by omega,h4];exact h2)
theorem aEo{q:Nat×Nat×Nat}(hk:k<=2):(yX q)[k]? =some (R (uI q k)):=by
 rcases(I:k=0\/k=1\/k=2)with rfl|rfl|rfl<;>rfl
theorem LB(h:b=true)(h':b=false):False:=by rw[h]at h';cases h'
theorem acf{a:Bool}{Q:Prop}(s:a=true->b=true/\Q)(h:b=false):a=false:=by
 cases a with
 |false=>rfl
 |true=>exact(LB (s J).1 h).elim
theorem acg{P:Program}{Z6:Env->World->Prop}{w1:World}{o:Oper}(hr:run P ρ o.op o.type w= .ok .skip w1)(hg:o.guard=none)(hd:aV n o.dst=true)(h:Z6 (Env.put ρ o.dst undef) w1):KN P n o Z6 ρ w:=⟨hg,hd,.inr (.inl ⟨w1,hr,h⟩)⟩
theorem aEp(h: ∀k,k<=2->(gc k).ok/\(gm k).ok/\(gb k).ok)(W:c'.ok)(h2:m'.ok)(h3:b'.ok): ∀k,k<=2->(ik gc kk c' k).ok/\(ik gm kk m' k).ok/\(ik gb kk b' k).ok:=λk hk=>by
 by_cases e:k=kk
 subst e;rw[r_,r_,r_];exact⟨W,h2,h3⟩
 rw[xy e,xy e,xy e];exact h k hk
theorem aEq{j cd nk:Nat}(h: ∀k,k<=2->r' Q k (if k<kk then j+1 else j) (gc k).l (gm k).l (gb k).l)(hc:Ov kk nk cd)(cK:kk<=2)(hn:uI (Q.getD j default) kk=nk)(W:c'.l=(gc kk).l++[cd])(h2:m'.l=(gm kk).l++[nk- (codeF kk cd).1])(h3:b'.l=(gb kk).l++[(codeF kk cd).2]): ∀k,k<=2->r' Q k (if k<kk+1 then j+1 else j) (ik gc kk c' k).l (ik gm kk m' k).l (ik gb kk b' k).l:=λk hk=>by
 by_cases e:k=kk
 subst e;rw[r_,r_,r_,ai (E7 _),W,h2,h3];have h4:=h k hk;rw[ag (xC _)]at h4;subst hn;exact h4.snoc hc
 rw[xy e,xy e,xy e];have h4:=h k hk;by_cases e2:k<kk
 rw[ai e2]at h4;rw[ai I];exact h4
 rw[ag e2]at h4;rw[ag I];exact h4
theorem Cr(h:p:=by obtain⟨c',m',b',o7,gj,il,lp,lq,ls,hK,p0,q0,f0,n0,s0,p1,q1,f1,n1,s1,p2,q2,f2,n2,s2,h⟩:=hI;exact Cq run_move J J ⟨du.put J (du.mix _ _ _),c',m',b',o7,gj,il,lp,lq,ls,hK.put J gJ,p0,q0,f0,n0,s0,p1,q1,f1,n1,s1,p2,q2,f2,n2,s2,h⟩):p:=h
theorem KP(h:p:=by subst e1;exact Cq (Lk J J I) J J ⟨du.put J (du.mix _ _ _),c',m',b',o7,gj,il,lp,lq,ls,hK.put J gJ,p0,q0,f0,n0,s0,p1,q1,f1,n1,s1,p2,q2,f2,n2,s2,h⟩):p:=h
theorem aEr{wb qc:Nat}{qa:Option Addr}{nn nc at_:Nat}{na:Option Addr}{N:List Int}(h:H r w ((af wb (aT x) 49)::(some x.cb,C [.slice na nn nc,R at_] 38)::L))(hN:nG L (.slice na nn nc) N)(jg:at_<=1152921504605000000)(hQ:EL L (.slice qa Q.length qc) Q)(EP:0<Q.length)(hQ2:Q.length<=131072)(HI: ∀k,k<=2->sP L (PK x k) (tO k)/\ ∀t,tO k=some t->mO k t)(UL: ∀i,i<Q.length-> ∀k,k<=2->(codeF k 0).1<=uI (Q.getD i default) k/\uI (Q.getD i default) k<=400000000):Calls PP 29 #[aW wb,.slice qa Q.length qc] w λe w'=> ∃at' G' p ts ob B S c,e= .returned (.slice (aB ob) (List.length B) c)/\BB ob B S c/\at'<=at_+800/\amH tO ts Q B/\(∀k,k<=2->lI (G'++L) (p k) (ts k)/\mO k (ts k))/\List.length B<=10000000/\H r w' (EB ob B S::(af wb (aT (W3 x p)) 49)::(some x.cb,C [.slice na nn nc,R at'] 38)::(G'++L)):=by
 have hQc:=hQ.len.2;refine kC (hQ.eH EP) λpb pq lp Tp q1=>?_;refine gS Tryz.func29 Tryz.ntmps29 [4] ?_;refine V 6 ?_;refine eh h J ?_;intro bp w h;refine eh h J ?_;intro bq w h;refine eh h J ?_;intro bs w h;refine V 7 ?_;have h0:=h.gh9;refine aC (ze (bQ (σ:=Nat×(Nat->NS)×(Nat->NS)×(Nat->NS)) [(9,14),(34,83)] (λ⟨j,fc,fm,fb⟩ ρ w=>Kn ρ [(34,R j)]/\H r w ((af bs (V3 (λk=>(fb k).v)) 112)::(af bq (V3 (λk=>(fm k).v)) 112)::(af bp (V3 (λk=>(fc k).v)) 112)::(af wb (aT x) 49)::(some x.cb,C [.slice na nn nc,R at_] 38)::(G3 (λk=>(fc k).e)++(G3 (λk=>(fm k).e)++(G3 (λk=>(fb k).e)++L))))/\(j<=Q.length)/\(∀k,k<=2->(fc k).ok/\(fm k).ok/\(fb k).ok)/\(∀k,k<=2->r' Q k (j) (fc k).l (fm k).l (fb k).l)) (λ⟨j,fc,fm,fb⟩=>Q.length-j) (0,(λ_=>NS.nil),(λ_=>NS.nil),(λ_=>NS.nil)) ⟨aq,h0,I,(λ_ _=>⟨NS.ab4,NS.ab4,NS.ab4⟩),(λ_ _=>r'.nil)⟩ ?_));rintro⟨j,fc,fm,fb⟩ ρ w ⟨⟨KE,rfl⟩,h,hj,cS,vB⟩;refine V 5 ?_;refine an J ?_ ?_<;>intro iP
 refine fx (fe (G3 (λk=>(fc k).e)) (fe (G3 (λk=>(fm k).e)) (fe (G3 (λk=>(fb k).e)) q1.2.1))) λip qC=>(cg (Q.getD j default) λqd hqd=>?_);have qi:=aEn q1.2.2 (i:=j) I;have hqb:=UL j I;rw[hqd]at qi hqb;refine V 5 ?_;refine ah (Pq J J q1.1 I) (ah (iK (yX qd) h J qi J) (eh h J ?_));intro bd w h;refine b7 ?_;intro w h;refine V 9 ?_;refine AX J J J (kM _ _ _) h ?_;intro bz w h;refine V 4 ?_;refine bQ (σ:=Nat×(Nat->NS)×(Nat->NS)×(Nat->NS)) [(10,14),(46,82)] (λ⟨kk,gc,gm,gb⟩ ρ w=>Kn ρ [(46,R kk)]/\H r w ((af bz (yX qd) 3)::(af bs (V3 (λk=>(gb k).v)) 112)::(af bq (V3 (λk=>(gm k).v)) 112)::(af bp (V3 (λk=>(gc k).v)) 112)::(af wb (aT x) 49)::(some x.cb,C [.slice na nn nc,R at_] 38)::(G3 (λk=>(gc k).e)++(G3 (λk=>(gm k).e)++(G3 (λk=>(gb k).e)++L))))/\(kk<=3)/\(∀k,k<=2->(gc k).ok/\(gm k).ok/\(gb k).ok)/\(∀k,k<=2->r' Q k (if k<kk then j+1 else j) (gc k).l (gm k).l (gb k).l)) (λ⟨kk,gc,gm,gb⟩=>3-kk) (0,fc,fm,fb) ⟨aq,(h.mv 1).tail,I,cS,vB⟩ ?_;rintro⟨kk,gc,gm,gb⟩ ρ w ⟨⟨KF,rfl⟩,h,dA,fB,Ox⟩;refine V 5 ?_;refine an J ?_ ?_<;>intro tN
 have cK:kk<=2:=I;have EJ:=hqb kk cK;refine cg (uI qd kk) λnk F3=>?_;have mL:=aEo (q:=qd) cK;rw[F3]at EJ mL;refine V 7 ?_;refine aO h J mL ?_;refine V 7 ?_;refine b_ J J J (aA (aBE (kind:=kk) (n:=nk) h cK EJ.1 I) ?_);rintro e w1 ⟨cd,rfl,aEs,aEt,aEu,h⟩;refine V 8 ?_;refine aEc [(58,81)] (λS bj w'=> ∃(c' m' b':NS) (o7 gj il:Option Nat) (lp lq ls:List Value),mP S bj [(0,58,R kk),(1,59,R kk),(2,60,R kk),(3,61,R kk),(4,62,.pointer (some ⟨bp,kk,none⟩)),(5,63,(gc kk).v),(6,64,R cd),(7,65,.slice (aB o7) 1 1),(8,66,c'.v),(9,67,R kk),(10,68,.pointer (some ⟨bq,kk,none⟩)),(11,69,(gm kk).v),(12,70,R (nk- (codeF kk cd).1)),(13,71,.slice (aB gj) 1 1),(14,72,m'.v),(15,73,R kk),(16,74,.pointer (some ⟨bs,kk,none⟩)),(17,75,(gb kk).v),(18,76,R (codeF kk cd).2),(19,77,.slice (aB il) 1 1),(20,78,b'.v),(21,79,.pointer (some ⟨bp,kk,none⟩)),(23,80,.pointer (some ⟨bq,kk,none⟩)),(25,81,.pointer (some ⟨bs,kk,none⟩))]/\(S 8=false->c'=gc kk)/\(c'.ok/\c'.l=if S 8=true then(gc kk).l++[cd]else(gc kk).l)/\(S 7=true-> ∃b,o7=some b)/\(S 22=false->lp=V3 (λk=>(gc k).v))/\(S 22=true->S 5=true/\S 8=true/\lp=(V3 (λk=>(gc k).v)).set kk c'.v)/\(S 14=false->m'=gm kk)/\(m'.ok/\m'.l=if S 14=true then(gm kk).l++[(nk- (codeF kk cd).1)]else(gm kk).l)/\(S 13=true-> ∃b,gj=some b)/\(S 24=false->lq=V3 (λk=>(gm k).v))/\(S 24=true->S 11=true/\S 14=true/\lq=(V3 (λk=>(gm k).v)).set kk m'.v)/\(S 20=false->b'=gb kk)/\(b'.ok/\b'.l=if S 20=true then(gb kk).l++[(codeF kk cd).2]else(gb kk).l)/\(S 19=true-> ∃b,il=some b)/\(S 26=false->ls=V3 (λk=>(gb k).v))/\(S 26=true->S 17=true/\S 20=true/\ls=(V3 (λk=>(gb k).v)).set kk b'.v)/\H r w' ((o7,C [R cd] 3)::(gj,C [R (nk- (codeF kk cd).1)] 3)::(il,C [R (codeF kk cd).2] 3)::c'.e::m'.e::b'.e::(af bz (yX qd) 3)::(af bs ls 112)::(af bq lq 112)::(af bp lp 112)::(af wb (aT x) 49)::(some x.cb,C [.slice na nn nc,R at_] 38)::(xu (λk=>(gc k).e) kk++(xu (λk=>(gm k).e) kk++(xu (λk=>(gb k).e) kk++L))))) Wi (by decide+kernel) ?_ ?_ ?_
 exact⟨gc kk,gm kk,gb kk,none,none,none,_,_,_,mP.amy,λ_=>rfl,⟨(fB kk cK).1,J⟩,λe=>Bool.noConfusion e,λ_=>rfl,λe=>Bool.noConfusion e,λ_=>rfl,⟨(fB kk cK).2.1,J⟩,λe=>Bool.noConfusion e,λ_=>rfl,λe=>Bool.noConfusion e,λ_=>rfl,⟨(fB kk cK).2.2,J⟩,λe=>Bool.noConfusion e,λ_=>rfl,λe=>Bool.noConfusion e,((((h.aEd (fc:=λk=>(gc k).e) (fm:=λk=>(gm k).e) (fb:=λk=>(gb k).e) (L:=L) (k:=kk) [_,_,_,_,_,_] cK).drew).ghost _).ghost _).ghost _⟩
 refine lr.cons (λS bj w hS hd hI=>?_) ?_
 exact Cr
 refine lr.cons (λS bj w hS hd hI=>?_) ?_
 exact Cr
 refine lr.cons (λS bj w hS hd hI=>?_) ?_
 exact Cr
 refine lr.cons (λS bj w hS hd hI=>?_) ?_
 exact Cr
 refine lr.cons (λS bj w hS hd hI=>?_) ?_
 obtain⟨c',m',b',o7,gj,il,lp,lq,ls,hK,p0,q0,f0,n0,s0,p1,q1,f1,n1,s1,p2,q2,f2,n2,s2,h⟩:=hI;refine(Kn.mk (ρ:=bj) (l:=[(61,_)]) ⟨hK.mQ 3 J (hd 3 J) J,trivial⟩).elim λlW e1=>?_;exact KP
 refine lr.cons (λS bj w hS hd hI=>?_) ?_
 obtain⟨c',m',b',o7,gj,il,lp,lq,ls,hK,p0,q0,f0,n0,s0,p1,q1,f1,n1,s1,p2,q2,f2,n2,s2,h⟩:=hI;refine(Kn.mk (ρ:=bj) (l:=[(62,_)]) ⟨hK.mQ 4 J (hd 4 J) J,trivial⟩).elim λlW e1=>?_;subst e1;have hu:=(n0 (acf s0 hS)).symm▸uH (v:=λk=>(gc k).v) cK;exact Cq (run_load h J hu) J J ⟨du.put J (du.mix _ _ _),c',m',b',o7,gj,il,lp,lq,ls,hK.put J gJ,p0,q0,f0,n0,λe=>⟨J,(s0 e).2⟩,p1,q1,f1,n1,s1,p2,q2,f2,n2,s2,h⟩
 refine lr.cons (λS bj w hS hd hI=>?_) ?_
 exact Cr
 refine lr.cons (λS bj w hS hd hI=>?_) ?_
 obtain⟨c',m',b',o7,gj,il,lp,lq,ls,hK,p0,q0,f0,n0,s0,p1,q1,f1,n1,s1,p2,q2,f2,n2,s2,h⟩:=hI;refine(Kn.mk (ρ:=bj) (l:=[(64,_)]) ⟨hK.mQ 6 J (hd 6 J) J,trivial⟩).elim λlW e1=>?_;subst e1;exact Cq (Ln (u:=λb=>cf b 1 1) (lB _) J) J J ⟨du.put J (du.mix _ _ _),c',m',b',some w.heap.size,gj,il,lp,lq,ls,(hK.same (l':=[(0,58,R kk),(1,59,R kk),(2,60,R kk),(3,61,R kk),(4,62,.pointer (some ⟨bp,kk,none⟩)),(5,63,(gc kk).v),(6,64,R cd),(7,65,.slice (aB (some w.heap.size)) 1 1),(8,66,c'.v),(9,67,R kk),(10,68,.pointer (some ⟨bq,kk,none⟩)),(11,69,(gm kk).v),(12,70,R (nk- (codeF kk cd).1)),(13,71,.slice (aB gj) 1 1),(14,72,m'.v),(15,73,R kk),(16,74,.pointer (some ⟨bs,kk,none⟩)),(17,75,(gb kk).v),(18,76,R (codeF kk cd).2),(19,77,.slice (aB il) 1 1),(20,78,b'.v),(21,79,.pointer (some ⟨bp,kk,none⟩)),(23,80,.pointer (some ⟨bq,kk,none⟩)),(25,81,.pointer (some ⟨bs,kk,none⟩))]) Is).put J gJ,p0,q0,λ_=>⟨_,J⟩,n0,s0,p1,q1,f1,n1,s1,p2,q2,f2,n2,s2,h.newAt (i:=0) J⟩
 refine lr.cons (λS bj w hS hd hI=>?_) ?_
 obtain⟨c',m',b',o7,gj,il,lp,lq,ls,hK,p0,q0,f0,n0,s0,p1,q1,f1,n1,s1,p2,q2,f2,n2,s2,h⟩:=hI;refine(f0 (hd 7 J)).elim λb hb=>?_;have e8:=p0 hS;subst hb;subst e8;refine(Kn.mk (ρ:=bj) (l:=[(63,_),(65,_)]) ⟨hK.mQ 5 J (hd 5 J) J,hK.mQ 7 J (hd 7 J) J,trivial⟩).elim λlW e1=>?_;subst e1;exact acb (s:=gc kk) h 3 0 J J q0.1 (by have:=(Ox kk cK).1;rw[this];split<;>omega) J J J (λs' w1 e1 e2 h=>⟨du.put J (du.mix _ _ _),s',m',b',some b,gj,il,lp,lq,ls,(hK.same (l':=[(0,58,R kk),(1,59,R kk),(2,60,R kk),(3,61,R kk),(4,62,.pointer (some ⟨bp,kk,none⟩)),(5,63,(gc kk).v),(6,64,R cd),(7,65,.slice (aB (some b)) 1 1),(8,66,s'.v),(9,67,R kk),(10,68,.pointer (some ⟨bq,kk,none⟩)),(11,69,(gm kk).v),(12,70,R (nk- (codeF kk cd).1)),(13,71,.slice (aB gj) 1 1),(14,72,m'.v),(15,73,R kk),(16,74,.pointer (some ⟨bs,kk,none⟩)),(17,75,(gb kk).v),(18,76,R (codeF kk cd).2),(19,77,.slice (aB il) 1 1),(20,78,b'.v),(21,79,.pointer (some ⟨bp,kk,none⟩)),(23,80,.pointer (some ⟨bq,kk,none⟩)),(25,81,.pointer (some ⟨bs,kk,none⟩))]) Is).put J gJ,λe=>Bool.noConfusion e,⟨e1,e2.trans (ai J).symm⟩,λ_=>⟨_,J⟩,n0,λe=>(LB (s0 e).2.1 hS).elim,p1,q1,f1,n1,s1,p2,q2,f2,n2,s2,h⟩)
 refine lr.cons (λS bj w hS hd hI=>?_) ?_
 exact Cr
 refine lr.cons (λS bj w hS hd hI=>?_) ?_
 obtain⟨c',m',b',o7,gj,il,lp,lq,ls,hK,p0,q0,f0,n0,s0,p1,q1,f1,n1,s1,p2,q2,f2,n2,s2,h⟩:=hI;refine(Kn.mk (ρ:=bj) (l:=[(67,_)]) ⟨hK.mQ 9 J (hd 9 J) J,trivial⟩).elim λlW e1=>?_;exact KP
 refine lr.cons (λS bj w hS hd hI=>?_) ?_
 obtain⟨c',m',b',o7,gj,il,lp,lq,ls,hK,p0,q0,f0,n0,s0,p1,q1,f1,n1,s1,p2,q2,f2,n2,s2,h⟩:=hI;refine(Kn.mk (ρ:=bj) (l:=[(68,_)]) ⟨hK.mQ 10 J (hd 10 J) J,trivial⟩).elim λlW e1=>?_;subst e1;have hu:=(n1 (acf s1 hS)).symm▸uH (v:=λk=>(gm k).v) cK;exact Cq (run_load h J hu) J J ⟨du.put J (du.mix _ _ _),c',m',b',o7,gj,il,lp,lq,ls,hK.put J gJ,p0,q0,f0,n0,s0,p1,q1,f1,n1,λe=>⟨J,(s1 e).2⟩,p2,q2,f2,n2,s2,h⟩
 refine lr.cons (λS bj w hS hd hI=>?_) ?_
 exact Cr
 refine lr.cons (λS bj w hS hd hI=>?_) ?_
 obtain⟨c',m',b',o7,gj,il,lp,lq,ls,hK,p0,q0,f0,n0,s0,p1,q1,f1,n1,s1,p2,q2,f2,n2,s2,h⟩:=hI;refine(Kn.mk (ρ:=bj) (l:=[(70,_)]) ⟨hK.mQ 12 J (hd 12 J) J,trivial⟩).elim λlW e1=>?_;subst e1;exact Cq (Ln (u:=λb=>cf b 1 1) (lB _) J) J J ⟨du.put J (du.mix _ _ _),c',m',b',o7,some w.heap.size,il,lp,lq,ls,(hK.same (l':=[(0,58,R kk),(1,59,R kk),(2,60,R kk),(3,61,R kk),(4,62,.pointer (some ⟨bp,kk,none⟩)),(5,63,(gc kk).v),(6,64,R cd),(7,65,.slice (aB o7) 1 1),(8,66,c'.v),(9,67,R kk),(10,68,.pointer (some ⟨bq,kk,none⟩)),(11,69,(gm kk).v),(12,70,R (nk- (codeF kk cd).1)),(13,71,.slice (aB (some w.heap.size)) 1 1),(14,72,m'.v),(15,73,R kk),(16,74,.pointer (some ⟨bs,kk,none⟩)),(17,75,(gb kk).v),(18,76,R (codeF kk cd).2),(19,77,.slice (aB il) 1 1),(20,78,b'.v),(21,79,.pointer (some ⟨bp,kk,none⟩)),(23,80,.pointer (some ⟨bq,kk,none⟩)),(25,81,.pointer (some ⟨bs,kk,none⟩))]) Is).put J gJ,p0,q0,f0,n0,s0,p1,q1,λ_=>⟨_,J⟩,n1,s1,p2,q2,f2,n2,s2,h.newAt (i:=1) J⟩
 refine lr.cons (λS bj w hS hd hI=>?_) ?_
 obtain⟨c',m',b',o7,gj,il,lp,lq,ls,hK,p0,q0,f0,n0,s0,p1,q1,f1,n1,s1,p2,q2,f2,n2,s2,h⟩:=hI;refine(f1 (hd 13 J)).elim λb hb=>?_;have e8:=p1 hS;subst hb;subst e8;refine(Kn.mk (ρ:=bj) (l:=[(69,_),(71,_)]) ⟨hK.mQ 11 J (hd 11 J) J,hK.mQ 13 J (hd 13 J) J,trivial⟩).elim λlW e1=>?_;subst e1;exact acb (s:=gm kk) h 4 1 J J q1.1 (by have:=(Ox kk cK).2.1;rw[this];split<;>omega) J J J (λs' w1 e1 e2 h=>⟨du.put J (du.mix _ _ _),c',s',b',o7,some b,il,lp,lq,ls,(hK.same (l':=[(0,58,R kk),(1,59,R kk),(2,60,R kk),(3,61,R kk),(4,62,.pointer (some ⟨bp,kk,none⟩)),(5,63,(gc kk).v),(6,64,R cd),(7,65,.slice (aB o7) 1 1),(8,66,c'.v),(9,67,R kk),(10,68,.pointer (some ⟨bq,kk,none⟩)),(11,69,(gm kk).v),(12,70,R (nk- (codeF kk cd).1)),(13,71,.slice (aB (some b)) 1 1),(14,72,s'.v),(15,73,R kk),(16,74,.pointer (some ⟨bs,kk,none⟩)),(17,75,(gb kk).v),(18,76,R (codeF kk cd).2),(19,77,.slice (aB il) 1 1),(20,78,b'.v),(21,79,.pointer (some ⟨bp,kk,none⟩)),(23,80,.pointer (some ⟨bq,kk,none⟩)),(25,81,.pointer (some ⟨bs,kk,none⟩))]) Is).put J gJ,p0,q0,f0,n0,s0,λe=>Bool.noConfusion e,⟨e1,e2.trans (ai J).symm⟩,λ_=>⟨_,J⟩,n1,λe=>(LB (s1 e).2.1 hS).elim,p2,q2,f2,n2,s2,h⟩)
 refine lr.cons (λS bj w hS hd hI=>?_) ?_
 exact Cr
 refine lr.cons (λS bj w hS hd hI=>?_) ?_
 obtain⟨c',m',b',o7,gj,il,lp,lq,ls,hK,p0,q0,f0,n0,s0,p1,q1,f1,n1,s1,p2,q2,f2,n2,s2,h⟩:=hI;refine(Kn.mk (ρ:=bj) (l:=[(73,_)]) ⟨hK.mQ 15 J (hd 15 J) J,trivial⟩).elim λlW e1=>?_;exact KP
 refine lr.cons (λS bj w hS hd hI=>?_) ?_
 obtain⟨c',m',b',o7,gj,il,lp,lq,ls,hK,p0,q0,f0,n0,s0,p1,q1,f1,n1,s1,p2,q2,f2,n2,s2,h⟩:=hI;refine(Kn.mk (ρ:=bj) (l:=[(74,_)]) ⟨hK.mQ 16 J (hd 16 J) J,trivial⟩).elim λlW e1=>?_;subst e1;have hu:=(n2 (acf s2 hS)).symm▸uH (v:=λk=>(gb k).v) cK;exact Cq (run_load h J hu) J J ⟨du.put J (du.mix _ _ _),c',m',b',o7,gj,il,lp,lq,ls,hK.put J gJ,p0,q0,f0,n0,s0,p1,q1,f1,n1,s1,p2,q2,f2,n2,λe=>⟨J,(s2 e).2⟩,h⟩
 refine lr.cons (λS bj w hS hd hI=>?_) ?_
 exact Cr
 refine lr.cons (λS bj w hS hd hI=>?_) ?_
 obtain⟨c',m',b',o7,gj,il,lp,lq,ls,hK,p0,q0,f0,n0,s0,p1,q1,f1,n1,s1,p2,q2,f2,n2,s2,h⟩:=hI;refine(Kn.mk (ρ:=bj) (l:=[(76,_)]) ⟨hK.mQ 18 J (hd 18 J) J,trivial⟩).elim λlW e1=>?_;subst e1;exact Cq (Ln (u:=λb=>cf b 1 1) (lB _) J) J J ⟨du.put J (du.mix _ _ _),c',m',b',o7,gj,some w.heap.size,lp,lq,ls,(hK.same (l':=[(0,58,R kk),(1,59,R kk),(2,60,R kk),(3,61,R kk),(4,62,.pointer (some ⟨bp,kk,none⟩)),(5,63,(gc kk).v),(6,64,R cd),(7,65,.slice (aB o7) 1 1),(8,66,c'.v),(9,67,R kk),(10,68,.pointer (some ⟨bq,kk,none⟩)),(11,69,(gm kk).v),(12,70,R (nk- (codeF kk cd).1)),(13,71,.slice (aB gj) 1 1),(14,72,m'.v),(15,73,R kk),(16,74,.pointer (some ⟨bs,kk,none⟩)),(17,75,(gb kk).v),(18,76,R (codeF kk cd).2),(19,77,.slice (aB (some w.heap.size)) 1 1),(20,78,b'.v),(21,79,.pointer (some ⟨bp,kk,none⟩)),(23,80,.pointer (some ⟨bq,kk,none⟩)),(25,81,.pointer (some ⟨bs,kk,none⟩))]) Is).put J gJ,p0,q0,f0,n0,s0,p1,q1,f1,n1,s1,p2,q2,λ_=>⟨_,J⟩,n2,s2,h.newAt (i:=2) J⟩
 refine lr.cons (λS bj w hS hd hI=>?_) ?_
 obtain⟨c',m',b',o7,gj,il,lp,lq,ls,hK,p0,q0,f0,n0,s0,p1,q1,f1,n1,s1,p2,q2,f2,n2,s2,h⟩:=hI;refine(f2 (hd 19 J)).elim λb hb=>?_;have e8:=p2 hS;subst hb;subst e8;refine(Kn.mk (ρ:=bj) (l:=[(75,_),(77,_)]) ⟨hK.mQ 17 J (hd 17 J) J,hK.mQ 19 J (hd 19 J) J,trivial⟩).elim λlW e1=>?_;subst e1;exact acb (s:=gb kk) h 5 2 J J q2.1 (by have:=(Ox kk cK).2.2.1;rw[this];split<;>omega) J J J (λs' w1 e1 e2 h=>⟨du.put J (du.mix _ _ _),c',m',s',o7,gj,some b,lp,lq,ls,(hK.same (l':=[(0,58,R kk),(1,59,R kk),(2,60,R kk),(3,61,R kk),(4,62,.pointer (some ⟨bp,kk,none⟩)),(5,63,(gc kk).v),(6,64,R cd),(7,65,.slice (aB o7) 1 1),(8,66,c'.v),(9,67,R kk),(10,68,.pointer (some ⟨bq,kk,none⟩)),(11,69,(gm kk).v),(12,70,R (nk- (codeF kk cd).1)),(13,71,.slice (aB gj) 1 1),(14,72,m'.v),(15,73,R kk),(16,74,.pointer (some ⟨bs,kk,none⟩)),(17,75,(gb kk).v),(18,76,R (codeF kk cd).2),(19,77,.slice (aB (some b)) 1 1),(20,78,s'.v),(21,79,.pointer (some ⟨bp,kk,none⟩)),(23,80,.pointer (some ⟨bq,kk,none⟩)),(25,81,.pointer (some ⟨bs,kk,none⟩))]) Is).put J gJ,p0,q0,f0,n0,s0,p1,q1,f1,n1,s1,λe=>Bool.noConfusion e,⟨e1,e2.trans (ai J).symm⟩,λ_=>⟨_,J⟩,n2,λe=>(LB (s2 e).2.1 hS).elim,h⟩)
 refine lr.cons (λS bj w hS hd hI=>?_) ?_
 obtain⟨c',m',b',o7,gj,il,lp,lq,ls,hK,p0,q0,f0,n0,s0,p1,q1,f1,n1,s1,p2,q2,f2,n2,s2,h⟩:=hI;refine(Kn.mk (ρ:=bj) (l:=[(58,_)]) ⟨hK.mQ 0 J (hd 0 J) J,trivial⟩).elim λlW e1=>?_;exact KP
 refine lr.cons (λS bj w hS hd hI=>?_) ?_
 obtain⟨c',m',b',o7,gj,il,lp,lq,ls,hK,p0,q0,f0,n0,s0,p1,q1,f1,n1,s1,p2,q2,f2,n2,s2,h⟩:=hI;refine(Kn.mk (ρ:=bj) (l:=[(66,_),(79,_)]) ⟨hK.mQ 8 J (hd 8 J) J,hK.mQ 21 J (hd 21 J) J,trivial⟩).elim λlW e1=>?_;subst e1;have hu:=(n0 hS).symm▸uH (v:=λk=>(gc k).v) cK;exact acg (run_store h J hu J J) J J ⟨du.Pr (du.mix _ _ _),c',m',b',o7,gj,il,lp.set kk c'.v,lq,ls,hK.up J,p0,q0,f0,λe=>Bool.noConfusion e,λ_=>⟨hd 5 J,hd 8 J,by rw[n0 hS]⟩,p1,q1,f1,n1,s1,p2,q2,f2,n2,s2,h.store (i:=9) J _⟩
 refine lr.cons (λS bj w hS hd hI=>?_) ?_
 obtain⟨c',m',b',o7,gj,il,lp,lq,ls,hK,p0,q0,f0,n0,s0,p1,q1,f1,n1,s1,p2,q2,f2,n2,s2,h⟩:=hI;refine(Kn.mk (ρ:=bj) (l:=[(59,_)]) ⟨hK.mQ 1 J (hd 1 J) J,trivial⟩).elim λlW e1=>?_;exact KP
 refine lr.cons (λS bj w hS hd hI=>?_) ?_
 obtain⟨c',m',b',o7,gj,il,lp,lq,ls,hK,p0,q0,f0,n0,s0,p1,q1,f1,n1,s1,p2,q2,f2,n2,s2,h⟩:=hI;refine(Kn.mk (ρ:=bj) (l:=[(72,_),(80,_)]) ⟨hK.mQ 14 J (hd 14 J) J,hK.mQ 22 J (hd 23 J) J,trivial⟩).elim λlW e1=>?_;subst e1;have hu:=(n1 hS).symm▸uH (v:=λk=>(gm k).v) cK;exact acg (run_store h J hu J J) J J ⟨du.Pr (du.mix _ _ _),c',m',b',o7,gj,il,lp,lq.set kk m'.v,ls,hK.up J,p0,q0,f0,n0,s0,p1,q1,f1,λe=>Bool.noConfusion e,λ_=>⟨hd 11 J,hd 14 J,by rw[n1 hS]⟩,p2,q2,f2,n2,s2,h.store (i:=8) J _⟩
 refine lr.cons (λS bj w hS hd hI=>?_) ?_
 obtain⟨c',m',b',o7,gj,il,lp,lq,ls,hK,p0,q0,f0,n0,s0,p1,q1,f1,n1,s1,p2,q2,f2,n2,s2,h⟩:=hI;refine(Kn.mk (ρ:=bj) (l:=[(60,_)]) ⟨hK.mQ 2 J (hd 2 J) J,trivial⟩).elim λlW e1=>?_;exact KP
 refine lr.cons (λS bj w hS hd hI=>?_) ?_
 obtain⟨c',m',b',o7,gj,il,lp,lq,ls,hK,p0,q0,f0,n0,s0,p1,q1,f1,n1,s1,p2,q2,f2,n2,s2,h⟩:=hI;refine(Kn.mk (ρ:=bj) (l:=[(78,_),(81,_)]) ⟨hK.mQ 20 J (hd 20 J) J,hK.mQ 23 J (hd 25 J) J,trivial⟩).elim λlW e1=>?_;subst e1;have hu:=(n2 hS).symm▸uH (v:=λk=>(gb k).v) cK;exact acg (run_store h J hu J J) J J ⟨du.Pr (du.mix _ _ _),c',m',b',o7,gj,il,lp,lq,ls.set kk b'.v,hK.up J,p0,q0,f0,n0,s0,p1,q1,f1,n1,s1,p2,q2,f2,λe=>Bool.noConfusion e,λ_=>⟨hd 17 J,hd 20 J,by rw[n2 hS]⟩,h.store (i:=7) J _⟩
 exact trivial
 rintro S ρ w jr ⟨c',m',b',o7,gj,il,lp,lq,ls,hK,p0,q0,f0,n0,s0,p1,q1,f1,n1,s1,p2,q2,f2,n2,s2,h⟩;rw[ai (jr 8 aj)]at q0;rw[ai (jr 14 aj)]at q1;rw[ai (jr 20 aj)]at q2;rw[(s0 (jr 22 aj)).2.2,(s1 (jr 24 aj)).2.2,(s2 (jr 26 aj)).2.2,UH cK,UH cK,UH cK]at h;replace h:=h.tail.tail.tail.aEe [_,_,_,_,_,_] cK;rw[<-HF,<-HF,<-HF,<-HF,<-HF,<-HF]at h;have nB:=aEp fB q0.1 q1.1 q2.1 (kk:=kk);have amI:=aEq (kk:=kk) (nk:=nk) Ox ⟨aEs,aEt,aEu⟩ cK (by rw[hqd];exact F3) q0.2 q1.2 q2.2;refine cg (ik gc kk c') λhc ehc=>(cg (ik gm kk m') λhm ehm=>(cg (ik gb kk b') λhb ehb=>?_));rw[ehc,ehm,ehb]at h nB amI;refine V 4 ?_;exact⟨aH 19,(kk+1,hc,hm,hb),cw,aq,h,I,nB,amI⟩
 have ekk:kk=3:=I;have aEv: ∀k,k<=2->r' Q k (j+1) (gc k).l (gm k).l (gb k).l:=λk hk=>(by have:=Ox k hk;rw[ai I]at this;exact this);refine V 4 ?_;have h0:=h.gh9;refine aC ?_;replace h:=h.tail;(try dsimp only[dB]at h);exact⟨aH 18,(j+1,gc,gm,gb),cw,aq,h,I,fB,aEv⟩
 have ej:j=Q.length:=I;rw[ej]at vB;have wQ:=aEk h;clear h;refine wQ.elim λG wQ=>?_;have h:=wQ.1.ghost (C (List.map u8 ([]++[])) 5);replace h:=h.zz [2,2] 0;have UM:=wQ.2.2.2.2;have hmp:=wQ.2.2.2.1;have hmq:=wQ.2.2.1;have BG:=wQ.2.1;have EJ: ∀k,k<=2-> ∀i,i<Q.length->uI (Q.getD i default) k<=400000000:=λk hk i hi=>(UL i hi k hk).2;have aEw:=λk (hk:k<=2)=>(vB k hk).sm hk (EJ k hk);have Dx:=λk (hk:k<=2) i (hi:i<Q.length)=>(vB k hk).get hk (EJ k hk) hi;refine V 15 ?_;refine bQ (σ:=Nat×Nat×List aD×(Nat->Value)×(Nat->Tb)×(Nat->List UInt8)×(Nat->Nat)×Option Nat×List UInt8×Nat) [(15,19),(84,106)] (λ⟨kk,dX,Gb,p,ts,Bs,md,oh,Sh,ch⟩ ρ w=>Kn ρ [(84,R kk),(15,R (yY md kk)),(16,.slice (aB oh) (List.length (lu Bs kk)) ch)]/\H r w ((af wb (aT (W3 x p)) 49)::(some x.cb,C [.slice na nn nc,R dX] 38)::EB oh (lu Bs kk) Sh::(Gb++L))/\(kk<=3)/\(dX<=at_+262*kk)/\(Sub (G++L) (Gb++L))/\(BB oh (lu Bs kk) Sh ch)/\(HG (Gb++L) x tO (λk=>(fc k).l) kk p ts Bs md)) (λ⟨kk,dX,Gb,p,ts,Bs,md,oh,Sh,ch⟩=>3-kk) (0,at_,G,PK x,λ_=>po 0,λ_=> [],λ_=>0,none,[],0) ⟨aq,h,I,I,aJ,⟨J,λ_=>rfl⟩,HG.zero⟩ ?_;rintro⟨kk,dX,Gb,p,ts,Bs,md,oh,Sh,ch⟩ ρ w ⟨⟨KG,rfl⟩,h,dA,yV,fH,Kx,xt⟩;refine V 5 ?_;refine an J ?_ ?_<;>intro D1
 have cK:kk<=2:=I;have jv:=(vB kk cK).1;have aEx:=uH (v:=λk=>(fc k).v) cK;have UN: ∀k,k<kk->md k<=3:=λk hk=>((xt k I).1 hk).2.2.2.2;have Qc:=acd (Bs:=Bs) (k:=kk) λk hk=>ab1 ((xt k I).1 hk).2.2.2.1 I;have UO:=amB I UN;refine fx (fH _ hmp) λibp aEy=>?_;refine V 14 ?_;refine aO h J aEx (ee J J J J (aA (aDP (S:=(fc kk).l) (gY:=tO kk) h (hN.sub (λe he=>ar (fe _ he))) I cK (NS.sl (cS kk cK).1 (ar (fH _ (UM kk cK).1))) (by rw[jv];exact EP) (by rw[jv];omega) (aEw kk cK) (by rw[UJ cK,(xt kk cK).2 (aR _)];exact(HI kk cK).1.sub (λe he=>ar (fe _ he))) (HI kk cK).2) ?_));rintro e w1 ⟨iX,mode,v,B,Gn,t,p3,rfl,sT,hv,L6,hTA,hTT,kF,IS,h⟩;rw[aEg cK]at h;replace h:=h.aEl;rw[<-cF Gn Gb L]at h;have hs5:Sub (Gb++L) ((Gn++Gb)++L):=λz hz=>(by rw[cF];exact fe _ hz);have hs6:Sub (G++L) ((Gn++Gb)++L):=λz hz=>hs5 _ (fH _ hz);have aEz:=xt.step hs5 (by rw[cF];exact hTA.HH) hTT kF IS L6;have GA:=ab1 IS cK;have My:=aEi L6 cK;have aEA:=aEh cK UN L6;refine V 13 ?_;refine ah (dN J J dw (aI My aj)) ?_;refine ah (bZ (eI J J (aI UO aj) (aI My aj)) aEA) ?_;refine V 5 ?_;refine lk (X:=lu Bs kk) (Y:=B) (F:=Gn++(EB oh (lu Bs kk) Sh::(Gb++L))) h 2 J J J Kx hv (by rw[cF];exact aEm J) I J ?_;intro w oh5 ch5 Sh5 h amJ;dsimp only[List.set]at h;rw[<-amD (Bs:=Bs) (k:=kk) (B:=B)]at h amJ;refine V 6 ?_;exact⟨aH 28,(kk+1,iX,Gn++Gb,ik p kk p3,ik ts kk t,ik Bs kk B,ik md kk mode,oh5,Sh5,ch5),cw,Kn.mk ⟨J,J,(gi J (by rw[amD])),trivial⟩,h,I,I,hs6,amJ,aEz⟩
 have q': ∀k,k<=2->_:=λk hk=>(xt k hk).1 I;have aEB:kk=3:=I;refine V 3 ?_;refine ah (Iq apb) (eh h J ?_);intro bu w h;refine b7 ?_;intro w h;refine V 7 ?_;refine bQ (σ:=Nat×(Nat->NS)×List aD) [(21,23),(108,145)] (λ⟨k2,fs,Gc⟩ ρ w=>Kn ρ [(108,R k2)]/\H r w ((af bu (V3 (λk=>(fs k).v)) 112)::(af wb (aT (W3 x p)) 49)::(some x.cb,C [.slice na nn nc,R dX] 38)::EB oh (lu Bs kk) Sh::(Gc++L))/\(k2<=3)/\(Sub (Gb++L) (Gc++L))/\(UK (Gc++L) ts (λk=>(fc k).l) Q.length k2 fs)) (λ⟨k2,fs,Gc⟩=>3-k2) (0,λ_=>NS.nil,Gb) ⟨aq,h,I,aJ,(λ_ _ hh=>absurd hh (nP _))⟩ ?_;rintro⟨k2,fs,Gc⟩ ρ w ⟨⟨KH,rfl⟩,h,cK,i_,dd⟩;refine V 5 ?_;refine an J ?_ ?_<;>intro avS
 have fS:k2<=2:=I;refine AV (q' k2 fS).1 λtb cb qt=>?_;have mL:(aT (W3 x p))[0+5+k2]? =some (aW tb):=(by rw[show 0+5+k2=5+k2 by omega,Hz fS,UJ fS,qt.1]);have rh:=(q' k2 fS).2.1.ok;have kG:=rh.bd;have Ui:=uH (v:=λk=>(fc k).v) fS;have aEC:gO (Gc++L) (.slice (aB (fc k2).ob) (fc k2).l.length (fc k2).c) ((fc k2).l.map R):=NS.sl (cS k2 fS).1 (i_ _ (fH _ (UM k2 fS).1));have amK:(fc k2).l.length=Q.length:=(vB k2 fS).1;refine aY (aEC.eH (by rw[bX,amK];exact EP)) (λaJj Ct=>aY Ct (λaJk Ct=>aY Ct (λaJl Ct=>aY Ct (λaJm Ct=>?_))));refine fx Ct.2.1 λaJn aJo=>(fx (i_ _ (fH _ hmp)) λibp aEy=>(fx (i_ _ qt.2.1) λitb amL=>?_));refine V 13 ?_;refine tu h J J J I I I J ?_;intro bm w h;rw[Ub]at h;refine V 1 ?_;refine cV (cf bm Q.length Q.length) (uH fS) ?_;intro w h;rw[UH fS]at h;refine V 9 ?_;refine ah (Ch (show(((Q.length:Nat):Int) -1)=((Q.length:Nat):Int) -1 from J) (oH (v:=1) J J I I)) ?_;refine V 3 ?_;refine bQ (σ:=Nat×List Nat) [(22,23),(119,144)] (λ⟨i,st⟩ ρ w=>Kn ρ [(23,.int .i64 (((i:Nat):Int) -1)),(22,.int .i64 (xA Q.length i st))]/\H r w ((af bm (List.map R st) 3)::(af bu (V3 (ik (λk=>(fs k).v) k2 (cf bm Q.length Q.length))) 112)::(af wb (aT (W3 x p)) 49)::(some x.cb,C [.slice na nn nc,R dX] 38)::EB oh (lu Bs kk) Sh::(Gc++L))/\(i<=Q.length)/\(EN (ts k2) (fc k2).l Q.length i st)) (λ⟨i,st⟩=>i) (Q.length,List.replicate Q.length 0) ⟨(Kn.mk ⟨J,(int_eq (show(-1:Int)=xA _ _ _ by unfold xA;rw[ag (xC _)])),trivial⟩),h,(aR _),dR,λk W h2=>absurd h2 I⟩ ?_;rintro⟨i,st⟩ ρ w ⟨⟨Ou,rfl⟩,h,hi,pR⟩;refine V 4 ?_;refine ah (zf (v:=0) J J) (aC (an J ?_ ?_))<;>intro aD4
 have rV:0<i:=I;have kg:=aEj pR rh.len;have aJp:=rh.len;refine V 4 ?_;refine bL h [0,4,8,12,16,32,36,44,56,21,24,29,41,48,53,63,64] ?_;intro w h;refine av 9 ?_;refine aK J h J mL (ac1 J J (xN J (λw hk=>iK [_,_] (h.keeps hk) J ⟨J,J,trivial⟩ J) J (aK J h J Ui (aw J (cI (a:=i-1) (W:=⟨I⟩) J J Ct.1 I) ?_))));refine aK J h J (nd Ct.2.2 I) (zk J (v0:= .agg #[cf cb (ts k2).cells.length (ts k2).cells.length,R (ts k2).log]) (v1:=R ((fc k2).l.getD (i-1) 0)) J J J J ((abm h (ar (ar (ar (ar (ar (i_ _ qt.2.2)))))) (aI kG.1 aj) kG.2 I).mono ?_));rintro e w1 ⟨kz,rfl,mF,h⟩;refine aY (alw mF ((q' k2 fS).2.1.aDy _ ((q' k2 fS).2.2.1 _ (abL (i:=i-1) (by rw[amK];omega))) _ kg.2)) (λm hm=>?_);refine⟨R m,(by rw[hm.1]),?_⟩;have Uj:=pR.step rV hi hm.2.1 hm.2.2.1 hm.2.2.2.1;refine eY J (cm ?_);refine V 3 ?_;refine aO h J ((uH fS).trans (b8 some r_)) (cM (cM (ah (js (a:=i-1) (W:=⟨I⟩) J J J I) ?_)));refine gC (v:=R m) h J (jC (by rw[pR.1];omega)) J J J ?_;intro w h;dsimp only[List.set]at h;rw[Ks]at h;refine V 3 ?_;exact ah (oH (v:=1) J J I I) (dI (aC ⟨aH 29,(i-1,st.set (i-1) m),cw,Kn.mk ⟨(int_eq I),(int_eq Uj.2.symm),trivial⟩,h,I,Uj.1⟩))
 have ei:i=0:=I;rw[ei]at pR;replace h:=h.zz [4,4,4,4] 0;have eV:ik (λk=>(fs k).v) k2 (Value.slice (some ⟨bm,0,none⟩) Q.length Q.length)=λk=>(ik fs k2 ⟨some bm,st,Q.length,[]⟩ k).v:=(by rw[HF (g:=NS.v)];show _=ik _ _ (Value.slice (some ⟨bm,0,none⟩) st.length Q.length);rw[pR.1]);rw[eV]at h;have jn:=dd.step (b:=bm) pR;refine V 5 ?_;exact⟨aH 19,(k2+1,ik fs k2 ⟨some bm,st,Q.length,[]⟩,(af bm (List.map R st) 3)::Gc),cw,aq,h,I,(λz hz=>ar (i_ _ hz)),jn⟩
 have y_: ∀k,k<=2->_:=λk hk=>dd k hk I;have ach: ∀k,k<=2->(ts k).log<=9:=λk hk=>(q' k hk).2.1.ok.log;replace h:=h.ghost (C (List.map bl []++[]) 4);refine V 3 ?_;refine ah (Iq Wf) (sB h J J J ?_);intro bb w h;refine V 8 ?_;refine bQ (σ:=Nat×Option Nat×Nat×List Value) [(25,25),(148,167)] (λ⟨k3,ob,c,sp⟩ ρ w=>Kn ρ [(148,R k3)]/\H r w ((af bb [.slice (aB ob) (List.length (EO ts (λk=>(fs k).l) (k3))) c] 120)::(ob,C (List.map bl (EO ts (λk=>(fs k).l) (k3))++sp) 4)::(af bu (V3 (λk=>(fs k).v)) 112)::(af wb (aT (W3 x p)) 49)::(some x.cb,C [.slice na nn nc,R dX] 38)::EB oh (lu Bs kk) Sh::(Gc++L))/\(k3<=3)/\(bG ob (List.length (EO ts (λk=>(fs k).l) (k3))) c (List.map bl (EO ts (λk=>(fs k).l) (k3))) sp 1)) (λ⟨k3,ob,c,sp⟩=>3-k3) (0,none,0,[]) ⟨aq,h,I,J,J,aR _,λ_=>rfl⟩ ?_;rintro⟨k3,ob,c,sp⟩ ρ w ⟨⟨ab3,rfl⟩,h,lK,hk⟩;refine V 5 ?_;refine an J ?_ ?_<;>intro aJq
 have fS:k3<=2:=I;refine AV (q' k3 fS).1 λtb cb qt=>?_;have mL:(aT (W3 x p))[0+5+k3]? =some (aW tb):=(by rw[show 0+5+k3=5+k3 by omega,Hz fS,UJ fS,qt.1]);have rh:=(q' k3 fS).2.1.ok;have kG:=rh.bd;have UP:=uH (v:=λk=>(fs k).v) fS;have aci:gO (Gc++L) (.slice (aB (fs k3).ob) (fs k3).l.length (fs k3).c) ((fs k3).l.map R):=NS.sl (y_ k3 fS).2.1 (y_ k3 fS).1;have acj:(fs k3).l.length=Q.length:=(y_ k3 fS).2.2.1;refine aY (aci.eH (by rw[bX,acj];exact EP)) (λaED oD=>aY oD (λaEE oD=>aY oD (λaEF oD=>aY oD (λaEG oD=>?_))));refine fx oD.2.1 λaEH aEI=>(fx (i_ _ qt.2.1) λitb amL=>?_);have zH:=((y_ k3 fS).2.2.2 0 (aR _) EP).1;have Hx:=ace (ts:=ts) (st:=(λk=>(fs k).l)) ach (k:=k3) I;have df:=ach k3 fS;refine V 8 ?_;refine bL h [0,4,8,24,28,32,36,40,13,16,21,45,48,52,57,63] ?_;intro w h;refine av 8 ?_;refine aK J h J UP (aw J (cI (a:=0) (W:=ao.lit _) J J oD.1 I) (aK J h J (nd oD.2.2 I) (aK J h J mL ?_)));refine av 3 ?_;refine zk J J J J J (aA (Hp h hk I I I) ?_);rintro e w1 ⟨m9,c5,pL,rfl,sS,h⟩;refine cm ?_;refine V 4 ?_;exact⟨aH 21,(k3+1,m9,c5,pL),cw,aq,h,I,sS⟩
 have ek3:k3=3:=I;rw[ek3]at h hk;have Hx:=ace (ts:=ts) (st:=(λk=>(fs k).l)) ach (k:=3) (aR _);refine V 9 ?_;refine bQ (σ:=Nat×Option Nat×Nat×List Value) [(26,26),(28,28),(30,31),(170,237)] (λ⟨i,ob,c,sp⟩ ρ w=>Kn ρ [(170,R i)]/\H r w ((af bb [.slice (aB ob) (List.length (jS (λk=>(fm k).l) (λk=>(fb k).l) ts (λk=>(fs k).l) (i))) c] 120)::(ob,C (List.map bl (jS (λk=>(fm k).l) (λk=>(fb k).l) ts (λk=>(fs k).l) (i))++sp) 4)::(af bu (V3 (λk=>(fs k).v)) 112)::(af wb (aT (W3 x p)) 49)::(some x.cb,C [.slice na nn nc,R dX] 38)::EB oh (lu Bs kk) Sh::(Gc++L))/\(i<Q.length)/\(bG ob (List.length (jS (λk=>(fm k).l) (λk=>(fb k).l) ts (λk=>(fs k).l) (i))) c (List.map bl (jS (λk=>(fm k).l) (λk=>(fb k).l) ts (λk=>(fs k).l) (i))) sp 1)/\(List.length (jS (λk=>(fm k).l) (λk=>(fb k).l) ts (λk=>(fs k).l) (i))<=27+120*i)) (λ⟨i,ob,c,sp⟩=>Q.length-i) (0,ob,c,sp) ⟨aq,h,I,hk,Hx⟩ ?_;rintro⟨i,ob,c,sp⟩ ρ w ⟨⟨aEJ,rfl⟩,h,hi,hk,jG⟩;refine V 5 ?_;refine an J ?_ ?_<;>intro ah3
 have pA:=λz=>amF (ml:=(λk=>(fm k).l)) (bs:=(λk=>(fb k).l)) (i:=i) (λk hk=>(Dx k hk i hi).2.2) (j:=z);have amM:=λz=>amG (ts:=ts) (st:=(λk=>(fs k).l)) (i:=i) (λk hk=>((q' k hk).2.1.ok.bd.2 _ ((y_ k hk).2.2.2 i (bP _) hi).1).1) (j:=z);have aJr:=pA 3;have aJs:=amM 3;refine V 11 ?_;refine AX J J J (kM _ _ _) h ?_;intro be w h;refine V 1 ?_;replace h:=h.zz [6,6,6,6,4,6,6] 0;refine V 3 ?_;refine bQ (σ:=Nat×Option Nat×Nat×List Value) [(28,28),(175,193)] (λ⟨j,bI,c1,bJ⟩ ρ w=>Kn ρ [(175,R j)]/\H r w ((af bb [.slice (aB bI) (List.length (jS (λk=>(fm k).l) (λk=>(fb k).l) ts (λk=>(fs k).l) (i)++mr (λk=>(fm k).l) (λk=>(fb k).l) (i) (j))) c1] 120)::(bI,C (List.map bl (jS (λk=>(fm k).l) (λk=>(fb k).l) ts (λk=>(fs k).l) (i)++mr (λk=>(fm k).l) (λk=>(fb k).l) (i) (j))++bJ) 4)::(af be [R 1,R 2,R 0] 3)::(af bu (V3 (λk=>(fs k).v)) 112)::(af wb (aT (W3 x p)) 49)::(some x.cb,C [.slice na nn nc,R dX] 38)::EB oh (lu Bs kk) Sh::(Gc++L))/\(j<=3)/\(bG bI (List.length (jS (λk=>(fm k).l) (λk=>(fb k).l) ts (λk=>(fs k).l) (i)++mr (λk=>(fm k).l) (λk=>(fb k).l) (i) (j))) c1 (List.map bl (jS (λk=>(fm k).l) (λk=>(fb k).l) ts (λk=>(fs k).l) (i)++mr (λk=>(fm k).l) (λk=>(fb k).l) (i) (j))) bJ 1)) (λ⟨j,bI,c1,bJ⟩=>3-j) (0,ob,c,sp) ⟨aq,(by show H r _ ((af bb [.slice (aB ob) (List.length (jS (λk=>(fm k).l) (λk=>(fb k).l) ts (λk=>(fs k).l) (i)++[])) c] 120)::(ob,C (List.map bl (jS (λk=>(fm k).l) (λk=>(fb k).l) ts (λk=>(fs k).l) (i)++[])++sp) 4)::(af be [R 1,R 2,R 0] 3)::(af bu (V3 (λk=>(fs k).v)) 112)::(af wb (aT (W3 x p)) 49)::(some x.cb,C [.slice na nn nc,R dX] 38)::EB oh (lu Bs kk) Sh::(Gc++L));rw[dP];exact h),I,(by show bG _ (List.length (_++[])) _ (List.map bl (_++[])) _ 1;rw[dP];exact hk)⟩ ?_;rintro⟨j,bI,c1,bJ⟩ ρ w ⟨⟨aEK,rfl⟩,h,hj,eF⟩;refine V 5 ?_;refine an J ?_ ?_<;>intro aJt
 refine cg ([1,2,0].getD j 0) λkx HJ=>?_;have fS:kx<=2:=(by rw[<-HJ];rcases(I:j=0\/j=1\/j=2)with rfl|rfl|rfl<;>decide);have Oy:=l9 (a:=1) (b:=2) (c:=0) (f:=j) I;rw[HJ]at Oy;have Oa:=uH (v:=λk=>(fm k).v) fS;have aEL:=uH (v:=λk=>(fb k).v) fS;have aEM:gO (Gc++L) (.slice (aB (fm kx).ob) (fm kx).l.length (fm kx).c) ((fm kx).l.map R):=NS.sl (cS kx fS).2.1 (i_ _ (fH _ (UM kx fS).2.1));have aEN:(fm kx).l.length=Q.length:=(vB kx fS).2.1;refine aY (aEM.eH (by rw[bX,aEN];exact EP)) (λaJu Cu=>aY Cu (λaJv Cu=>aY Cu (λaJw Cu=>aY Cu (λaJx Cu=>?_))));refine fx Cu.2.1 λaJy aJz=>?_;have aEO:gO (Gc++L) (.slice (aB (fb kx).ob) (fb kx).l.length (fb kx).c) ((fb kx).l.map R):=NS.sl (cS kx fS).2.2 (i_ _ (fH _ (UM kx fS).2.2));have aEP:(fb kx).l.length=Q.length:=(vB kx fS).2.2.1;refine aY (aEO.eH (by rw[bX,aEP];exact EP)) (λaJA Cv=>aY Cv (λaJB Cv=>aY Cv (λaJC Cv=>aY Cv (λaJD Cv=>?_))));refine fx Cv.2.1 λaJE aJF=>(fx (i_ _ (fH _ hmq)) λibq aJG=>(fx (i_ _ (fH _ BG)) λibs aJH=>?_));have hgx:=Dx kx fS i hi;have aJI:=pA j;have lh:(jS (λk=>(fm k).l) (λk=>(fb k).l) ts (λk=>(fs k).l) (i)++mr (λk=>(fm k).l) (λk=>(fb k).l) (i) (j))++dG ((fm kx).l.getD i 0) ((fb kx).l.getD i 0)=jS (λk=>(fm k).l) (λk=>(fb k).l) ts (λk=>(fs k).l) (i)++mr (λk=>(fm k).l) (λk=>(fb k).l) (i) (j+1):=(by rw[cF];subst HJ;rfl);refine V 6 ?_;refine aO h J Oy (dI (aC (bL h [0,4,8,16,28,32,40,13,20,25,37,44,49,55] ?_)));intro w h;refine av 7 ?_;refine aK J h J Oa (aw J (cI J J Cu.1 I) (aK J h J (nd Cu.2.2 I) (aK J h J aEL (aw J (cI J J Cv.1 I) (aK J h J (nd Cv.2.2 I) (zk J J J J J (aA (Hp h eF I I (by rw[aF];omega)) ?_)))))));rintro e w1 ⟨m9,c5,pL,rfl,sS,h⟩;rw[lh]at h sS;refine cm ?_;refine V 2 ?_;replace h:=h.zz [6,6,6,6,6,6,6] 0;exact cM (aC ⟨aH 20,(j+1,m9,c5,pL),cw,aq,h,I,sS⟩)
 have ej3:j=3:=I;rw[ej3]at h eF;refine V 10 ?_;refine an J ?_ ?_<;>intro aJJ
 . have UN: ∀k,k<kk->md k<=3:=λk hk=>((xt k I).1 hk).2.2.2.2;have UO:=amB I UN;have Qc:=acd (Bs:=Bs) (k:=kk) λk hk=>ab1 ((xt k I).1 hk).2.2.2.1 I;have aJK:List.length (jS (λk=>(fm k).l) (λk=>(fb k).l) ts (λk=>(fs k).l) (i)++mr (λk=>(fm k).l) (λk=>(fb k).l) (i) (3))<=200+120*i:=(by rw[aF];omega);have nW:=NY (jS (λk=>(fm k).l) (λk=>(fb k).l) ts (λk=>(fs k).l) (i)++mr (λk=>(fm k).l) (λk=>(fb k).l) (i) (3));refine V 4 ?_;refine ah (eB J (aI UO aj)) ?_;refine kX J (kB _) h ?_;intro bh w h;refine cM ?_;have hz:C [Value.int .u8 ((yY md kk:Nat):Int)] 5=C (List.map u8 ([UInt8.ofNat (yY md kk)]++[])) 5:=(by show C [_] 5=C [u8 (UInt8.ofNat (yY md kk))] 5;rw[xp,mw (Vr UO aj)]);rw[hz]at h;refine lk (ob:=some bh) (c:=1) (X:=[UInt8.ofNat (yY md kk)]) (S:=[]) (Y:=lu Bs kk) (F:=[EB oh (lu Bs kk) Sh]) h 0 J J J ⟨J,λe=>by cases e⟩ Kx.sl wi (by simp only[ek,fE];omega) J ?_;intro w EC c6 S6 h Kv;dsimp only[List.set]at h;have hl6:([UInt8.ofNat (yY md kk)]++lu Bs kk).length<=4000:=(by rw[aF];simp only[ek,fE];omega);refine cM ?_;replace h:=h.zz [7,7,7,7,7,5,7,7] 0;refine dJ J J (aA (abj h eF I) ?_);rintro e w1 ⟨bD,rfl,h⟩;refine lk (ob:=EC) (c:=c6) (X:=[UInt8.ofNat (yY md kk)]++lu Bs kk) (S:=S6) (Y:=qD (jS (λk=>(fm k).l) (λk=>(fb k).l) ts (λk=>(fs k).l) (i)++mr (λk=>(fm k).l) (λk=>(fb k).l) (i) (3))) (F:=[EB (some bD) (qD (jS (λk=>(fm k).l) (λk=>(fb k).l) ts (λk=>(fs k).l) (i)++mr (λk=>(fm k).l) (λk=>(fb k).l) (i) (3))) []]) h 1 J J J Kv (BB.sl ⟨by rw[dP],λe=>by cases e⟩) (λe he=>by rcases je.1 he with rfl;exact e_ ..) I J ?_;intro w ob7 c7 S7 h hB7;dsimp only[List.set]at h;refine V 3 ?_;replace h:=h.zz [5,5,3,6,6,6,6] 4;have ei:Q.length-1=i:=I;refine⟨dX,Gc,p,ts,ob7,_,S7,c7,J,hB7,I,⟨md,Bs,(λk=>(fc k).l),(λk=>(fm k).l),(λk=>(fb k).l),(λk=>(fs k).l),λk hk=>⟨vB k hk,(q' k hk).2.2.2.1,(q' k hk).2.2.2.2,(y_ k hk).2.2⟩,?_⟩,λk hk=>⟨(q' k hk).1.sub i_,(q' k hk).2.1⟩,?_,h⟩
   rw[ei,<-aEB];rfl
   rw[aF];omega
 replace h:=h.zz [2] 1;refine V 3 ?_;refine AX J J J (kM _ _ _) h ?_;intro bf w h;refine V 1 ?_;replace h:=h.zz [6,6,6,6,4,6,6] 0;refine V 3 ?_;refine bQ (σ:=Nat×Option Nat×Nat×List Value) [(30,31),(201,236)] (λ⟨j2,cr,c2,cG⟩ ρ w=>Kn ρ [(201,R j2)]/\H r w ((af bb [.slice (aB cr) (List.length (jS (λk=>(fm k).l) (λk=>(fb k).l) ts (λk=>(fs k).l) (i)++mr (λk=>(fm k).l) (λk=>(fb k).l) (i) (3)++yZ ts (λk=>(fs k).l) (i) (j2))) c2] 120)::(cr,C (List.map bl (jS (λk=>(fm k).l) (λk=>(fb k).l) ts (λk=>(fs k).l) (i)++mr (λk=>(fm k).l) (λk=>(fb k).l) (i) (3)++yZ ts (λk=>(fs k).l) (i) (j2))++cG) 4)::(af bf [R 0,R 2,R 1] 3)::(af bu (V3 (λk=>(fs k).v)) 112)::(af wb (aT (W3 x p)) 49)::(some x.cb,C [.slice na nn nc,R dX] 38)::EB oh (lu Bs kk) Sh::(Gc++L))/\(j2<=3)/\(bG cr (List.length (jS (λk=>(fm k).l) (λk=>(fb k).l) ts (λk=>(fs k).l) (i)++mr (λk=>(fm k).l) (λk=>(fb k).l) (i) (3)++yZ ts (λk=>(fs k).l) (i) (j2))) c2 (List.map bl (jS (λk=>(fm k).l) (λk=>(fb k).l) ts (λk=>(fs k).l) (i)++mr (λk=>(fm k).l) (λk=>(fb k).l) (i) (3)++yZ ts (λk=>(fs k).l) (i) (j2))) cG 1)) (λ⟨j2,cr,c2,cG⟩=>3-j2) (0,bI,c1,bJ) ⟨aq,(by show H r _ ((af bb [.slice (aB bI) (List.length (jS (λk=>(fm k).l) (λk=>(fb k).l) ts (λk=>(fs k).l) (i)++mr (λk=>(fm k).l) (λk=>(fb k).l) (i) (3)++[])) c1] 120)::(bI,C (List.map bl (jS (λk=>(fm k).l) (λk=>(fb k).l) ts (λk=>(fs k).l) (i)++mr (λk=>(fm k).l) (λk=>(fb k).l) (i) (3)++[])++bJ) 4)::(af bf [R 0,R 2,R 1] 3)::(af bu (V3 (λk=>(fs k).v)) 112)::(af wb (aT (W3 x p)) 49)::(some x.cb,C [.slice na nn nc,R dX] 38)::EB oh (lu Bs kk) Sh::(Gc++L));rw[dP];exact h),I,(by show bG _ (List.length (_++[])) _ (List.map bl (_++[])) _ 1;rw[dP];exact eF)⟩ ?_;rintro⟨j2,cr,c2,cG⟩ ρ w ⟨⟨aEQ,rfl⟩,h,MH,ack⟩;refine V 5 ?_;refine an J ?_ ?_<;>intro aJL
 refine cg ([0,2,1].getD j2 0) λkx HJ=>?_;have fS:kx<=2:=(by rw[<-HJ];rcases(I:j2=0\/j2=1\/j2=2)with rfl|rfl|rfl<;>decide);have Oy:=l9 (a:=0) (b:=2) (c:=1) (f:=j2) I;rw[HJ]at Oy;refine AV (q' kx fS).1 λtb cb qt=>?_;have mL:(aT (W3 x p))[0+5+kx]? =some (aW tb):=(by rw[show 0+5+kx=5+kx by omega,Hz fS,UJ fS,qt.1]);have rh:=(q' kx fS).2.1.ok;have kG:=rh.bd;have UP:=uH (v:=λk=>(fs k).v) fS;have aci:gO (Gc++L) (.slice (aB (fs kx).ob) (fs kx).l.length (fs kx).c) ((fs kx).l.map R):=NS.sl (y_ kx fS).2.1 (y_ kx fS).1;have acj:(fs kx).l.length=Q.length:=(y_ kx fS).2.2.1;refine aY (aci.eH (by rw[bX,acj];exact EP)) (λaED oD=>aY oD (λaEE oD=>aY oD (λaEF oD=>aY oD (λaEG oD=>?_))));refine fx oD.2.1 λaEH aEI=>(fx (i_ _ qt.2.1) λitb amL=>(fx (i_ _ qt.2.2) λicb aJM=>?_));have n7:i+1<Q.length:=I;have tm:=(y_ kx fS).2.2.2 i (bP _) hi;have hsn:=tm.2.2 n7;have eZ:=((y_ kx fS).2.2.2 (i+1) (bP _) n7).1;have aJN:=kG.2 _ tm.1;have aJO:=amM j2;have lh:(jS (λk=>(fm k).l) (λk=>(fb k).l) ts (λk=>(fs k).l) (i)++mr (λk=>(fm k).l) (λk=>(fb k).l) (i) (3)++yZ ts (λk=>(fs k).l) (i) (j2))++dG ((fs kx).l.getD (i+1) 0- ((ts kx).cells.getD ((fs kx).l.getD i 0) default).base) ((ts kx).cells.getD ((fs kx).l.getD i 0) default).bits=jS (λk=>(fm k).l) (λk=>(fb k).l) ts (λk=>(fs k).l) (i)++mr (λk=>(fm k).l) (λk=>(fb k).l) (i) (3)++yZ ts (λk=>(fs k).l) (i) (j2+1):=(by rw[cF (jS (λk=>(fm k).l) (λk=>(fb k).l) ts (λk=>(fs k).l) (i)++mr (λk=>(fm k).l) (λk=>(fb k).l) (i) (3))];subst HJ;rfl);refine V 6 ?_;refine aO h J Oy ?_;refine V 3 ?_;refine bL h [0,4,8,12,16,36,40,48,21,24,28,33,45,52,57,60,65,70,75] ?_;intro w h;refine av 8 ?_;refine aK J h J mL ?_;refine av 3 ?_;refine aK J h J UP (aw J (cI J J oD.1 I) (aK J h J (nd oD.2.2 I) (aw J (ky J J J tm.1) (xN J (λw hk=>iK (u9 ((ts kx).cells.getD ((fs kx).l.getD i 0) default)) (h.keeps hk) J (PY tm.1) J) J (ada J h J ?_)))));intro bg w h;refine Lo J h J J J J (by first|decide|exact aR _|exact ff J| (simp;done)|omega) J ?_;intro w h;(try dsimp only[cT,List.set]at h);refine cm (bL h [0,4,8,16,20,32,44,13,24,29,37,40,49,55] ?_);intro w h;refine av 7 ?_;refine aK J h J UP (aw J (cI J J oD.1 I) (aK J h J (nd oD.2.2 I) ?_));refine av 1 ?_;refine aw J (iz J J hsn.1 az) ?_;refine av 1 ?_;replace h:=h.zz [7,7,7,7,7,5,7,7] 0;refine zk J J J J J (aA (Hp h ack I I (by rw[aF,aF];omega)) ?_);rintro e w1 ⟨m9,c5,pL,rfl,sS,h⟩;rw[lh]at h sS;replace h:=h.zz [2] 1;refine cm ?_;refine V 2 ?_;replace h:=h.zz [6,6,6,6,6,6,6] 0;exact cM (aC ⟨aH 39,(j2+1,m9,c5,pL),cw,aq,h,I,sS⟩)
 have ej4:j2=3:=I;rw[ej4]at h ack;replace h:=h.zz [2] 1;have hk7:bG cr (List.length (jS (λk=>(fm k).l) (λk=>(fb k).l) ts (λk=>(fs k).l) (i+1))) c2 (List.map bl (jS (λk=>(fm k).l) (λk=>(fb k).l) ts (λk=>(fs k).l) (i+1))) cG 1:=ack;have aER:List.length (jS (λk=>(fm k).l) (λk=>(fb k).l) ts (λk=>(fs k).l) (i+1))<=27+120*(i+1):=(by show List.length (jS (λk=>(fm k).l) (λk=>(fb k).l) ts (λk=>(fs k).l) (i)++mr (λk=>(fm k).l) (λk=>(fb k).l) (i) (3)++yZ ts (λk=>(fs k).l) (i) (3))<=_;rw[aF,aF];omega);refine V 5 ?_;exact⟨aH 20,(i+1,cr,c2,cG),cw,aq,h,I,hk7,aER⟩
 exact absurd hi ah3
variable {T X:List UInt8}{A B a a0 b b0 c c0 mb s cJ:Nat}{q:Nat×Nat×Nat}{p:Nat->Value}{mo:Obj}{lo:Option (List Nat)}
def WU(x:Wr)(la:Option Addr)(ln lc:Nat)(p:Nat->Value)(a b c s:Nat):Wr:={x with la:=la,ln:=ln,lc:=lc,p0:=p 0,p1:=p 1,p2:=p 2,a:=a,b:=b,c:=c,seen:=s}
inductive vT(X:List UInt8)(cJ A a0 b0 c0:Nat):Nat->List UInt8->List (Nat×Nat×Nat)->Nat->Nat->Nat->Nat->Prop
 |nil:vT X cJ A a0 b0 c0 A [] [] 0 a0 b0 c0
 |lit {i run a b c:Nat} {T:List UInt8} {Q:List (Nat×Nat×Nat)}:vT X cJ A a0 b0 c0 i T Q run a b c->vT X cJ A a0 b0 c0 (i+1) (T++[X.getD i 0]) Q (run+1) a b c
 |seq {i run a b c v n o b' c':Nat} {T:List UInt8} {Q:List (Nat×Nat×Nat)}:vT X cJ A a0 b0 c0 i T Q run a b c->qW v (decide (run=0)) a b c=(o,b',c')->1<=v->v<=o+3->3<=n->n<=60000->1<=o->o<=i->o<=cJ->
     (∀k,k<n->X.getD (i+k) 0=X.getD (i+k-o) 0)->vT X cJ A a0 b0 c0 (i+n) T (Q++[(run,v,n)]) 0 o b' c'
theorem vT.bd{run:Nat}(h:vT X cJ A a0 b0 c0 i T Q run a b c)(W:1<=a0)(ha:a0<=m)(hb:b0<=m)(hc:c0<=m)(hm:i+3<=m):A<=i/\T.length+3*Q.length<=i-A/\run<=T.length/\1<=a/\a<=m/\b<=m/\c<=m:=by
 induction h with
 |nil=>exact⟨aR _,by simp,bP _,W,ha,hb,hc⟩
 | lit h ih=>
   obtain⟨e1,e2,e3,e4,e5⟩:=ih I
   refine⟨I,?_,?_,e4,e5⟩<;>(rw[aF];simp only[ek,fE];omega)
 | @seq i run a b c v n o b' c' T Q h ho hv k4 hn fW pD oU hw hk ih=>
   obtain⟨e1,e2,e3,e4,e5,e6,e7⟩:=ih I
   have eT:=afe (v:=v) (n:=decide (run=0)) e5 e6 e7 I
   rw[ho]at eT
   refine⟨I,?_,bP _,pD,eT⟩
   rw[aF];simp only[ek,fE];omega
theorem aES(h:q.1<=m/\1<=q.2.1/\q.2.1<=m/\3<=q.2.2/\q.2.2<=m)(hm:m<=400000000): ∀k,k<=2->(codeF k 0).1<=uI q k/\uI q k<=400000000:=λk hk=>by
 rcases(I:k=0\/k=1\/k=2)with rfl|rfl|rfl
 exact⟨bP _,aI h.1 hm⟩
 exact⟨h.2.1,aI h.2.2.1 hm⟩
 exact⟨h.2.2.2.1,aI h.2.2.2.2 hm⟩
theorem vT.each{run m0:Nat}(h:vT X cJ A a0 b0 c0 i T Q run a b c)(W:1<=a0)(ha:a0<=m0)(hb:b0<=m0)(hc:c0<=m0)(fk:i+3<=m0)(hm:i+3<=m)(hm6:60000<=m): ∀j,j<Q.length->(Q.getD j default).1<=m/\1<=(Q.getD j default).2.1/\(Q.getD j default).2.1<=m/\3<=(Q.getD j default).2.2/\(Q.getD j default).2.2<=m:=by
 induction h with
 |nil=>exact λj hj=>absurd hj (nP _)
 |lit h ih=>exact ih I I
 | @seq i run a b c v n o b' c' T Q h ho hv k4 hn fW pD oU hw hk ih=>
   intro j hj
   have eT:=h.bd W ha hb hc I
   rw[aF]at hj
   simp only[ek,fE]at hj
   rcases dh j Q.length with e|e
   . have:=ih I I j e
     rw[bS,ir e,<-bS];exact this
   . have:(Q++[(run,v,n)]).getD j default=(run,v,n):=by
       rw[bS,nN e,show j-Q.length=0 by omega];rfl
     rw[this]
     exact⟨(I:run<=m),hv,(I:v<=m),hn,(I:n<=m)⟩
def UQ(n:Nat)(hd:List UInt8):Prop:=(32512<=n/\hd=255::cu (n-32512) 2)\/(n<128/\hd=[UInt8.ofNat n])\/(n<32512/\hd=[UInt8.ofNat (128+n/256),UInt8.ofNat n])
theorem UQ.len{hd:List UInt8}(h:UQ n hd):hd.length<=3:=by
 rcases h with⟨_,rfl⟩| ⟨_,rfl⟩| ⟨_,rfl⟩
 rw[ek,eP];decide
 exact ff J
 exact ff J
def amN(X:List UInt8)(cJ A e:Nat)(lo oC:Option (List Nat))(tO rq:Nat->Option Tb)(a0 b0 c0 a b c:Nat)(B:List UInt8):Prop:=
 ∃T Q run Bl,vT X cJ A a0 b0 c0 e T Q run a b c/\al9 lo oC T Bl/\
   ((Q=[]/\rq=tO/\B=Bl++[0])\/(0<Q.length/\ ∃ts Bq hd,rq=(λk=>some (ts k))/\amH tO ts Q Bq/\UQ Q.length hd/\B=(Bl++hd)++Bq))
theorem acm{G:List aD}(hm:ou B mo){b:Nat}{l:List Value}{T:TT}(h:(af b l T)∈G++((some mb,mo)::F)):(af b l T)∈G++F:=by
 rcases nL.1 h with q|q
 exact ni _ q
 rcases mR.1 q with q|q
 obtain⟨es,ck,e,_⟩:=hm;rw[e]at q;simp only[pS,C]at q;exact absurd q.2 (by intro e;cases e)
 exact fe _ q
theorem mN.noM{G:List aD}(hm:ou B mo)(h:mN (G++((some mb,mo)::F)) x lo):mN (G++F) x lo:=by
 cases lo with
 |none=>exact h
 | some l=>
   obtain⟨W,h2,⟨ad,n,c,e1,e2,e3,e4⟩,h4⟩:=h
   exact⟨W,h2,⟨ad,n,c,e1,e2,e3,λh0=>by obtain⟨b,q,l',T,f1,f2,f3⟩:=e4 h0;exact⟨b,q,l',T,f1,acm hm f2,f3⟩⟩,h4⟩
theorem lI.noM{G:List aD}{p:Value}(hm:ou B mo)(h:lI (G++((some mb,mo)::F)) p t):lI (G++F) p t:=by
 obtain⟨tb,cb,W,h2,h3⟩:=h;exact⟨tb,cb,W,acm hm h2,acm hm h3⟩
theorem H.asm{a b c e1 e2 m:aD}{G:List aD}(h:H r w (a::b::c::(G++(e1::e2::m::L)))):H r w (a::b::c::m::((G++[e1,e2])++L)):=by
 refine h.perm (((List.Perm.cons c ?_).cons b).cons a);have W:(G++[e1,e2]++(m::L)).Perm (m::((G++[e1,e2])++L)):=si;simpa using W
theorem H.aET{q a b e m:aD}{G:List aD}(h:H r w (q::a::b::(G++(e::m::L)))):H r w (q::a::b::m::e::(G++L)):=by
 refine h.perm (((List.Perm.cons b ?_).cons a).cons q);have W:(G++(e::m::L)).Perm (e::(G++(m::L))):=si;have h2:(G++(m::L)).Perm (m::(G++L)):=si;exact W.trans ((h2.cons e).trans (.swap _ _ _))
theorem aEU(h:mN F x lo):mN F (WU x x.la x.ln x.lc p a b c s) lo:=by
 cases lo<;>exact h
theorem amO{p':Nat->Value}{la:Option Addr}{ln lc a' b' c' s':Nat}(h:mN F (WU x la ln lc p a b c s) lo):mN F (WU x la ln lc p' a' b' c' s') lo:=by
 cases lo<;>exact h
theorem EL.own{oq:Option Nat}{cq:Nat}{sq:List Value}(hk:bG oq Q.length cq (mq Q) sq 3)(hm:(oq,C (mq Q++sq) 90)∈F):EL F (.slice (aB oq) Q.length cq) Q:=
 ⟨_,_,_,J,J,hk.2.2.1,λh0=>by
   cases oq with
   |none=>have:=hk.2.2.2 J;have:=hk.2.2.1;omega
   |some b=>exact⟨b,0,_,_,J,hm,Rd.left _ _⟩⟩
theorem aEV:mq Q++yX q=mq (Q++[q]):=by simp[mq]
section
variable {x:Wr}{la:Option Addr}{ln lc a b c s:Nat}{p:Nat->Value}
theorem acn:(aT (WU x la ln lc p a b c s))[0]? =some (.pointer (some ⟨x.cb,0,none⟩)):=rfl
theorem aEW:(aT (WU x la ln lc p a b c s))[0+1]? =some (.slice x.ta x.tn x.tc):=rfl
end
theorem aEX{wb pn pc:Nat}{pa:Option Addr}{nn nc at_:Nat}{na:Option Addr}{N:List Int}(h:H r w ((af wb (aT x) 49)::(some x.cb,C [.slice na nn nc,R at_] 38)::(some x.mb,mo)::L))(hN:nG L (.slice na nn nc) N)(jg:at_<=1152921504000000000)(oP:ou 2147483647 mo)(hT:aP L (.slice x.ta x.tn x.tc) X)(hX:X.length<=1048577)(NZ:x.at_+pn<=X.length)(amP:pn<=131072)(hsn:x.seen<=1048577)(vx:x.cJ<=1099511627776)(aco:1<=x.a)(B6:x.a<=1099511627776)(mE:x.b<=1099511627776)(HC:x.c<=1099511627776)(qG:mN L x lo)(HI: ∀k,k<=2->sP L (PK x k) (tO k)/\ ∀t,tO k=some t->mO k t):Calls PP 20 #[aW wb,.slice pa pn pc] w λe w'=> ∃at' EK KK G ob B S c la' ln' lc' p' a' b' c' oC rq,e= .returned (.slice (aB ob) (List.length B) c)/\BB ob B S c/\at'<=at_+20*pn+2000/\ou 2147483647 EK/\KK<=1048577/\mN (G++L) (WU x la' ln' lc' p' a' b' c' KK) oC/\(∀k,k<=2->sP (G++L) (p' k) (rq k)/\ ∀t,rq k=some t->mO k t)/\(1<=a'/\a'<=1099511627776/\b'<=1099511627776/\c'<=1099511627776)/\List.length B<=20000000/\amN X x.cJ x.at_ (x.at_+pn) lo oC tO rq x.a x.b x.c a' b' c' B/\H r w' (EB ob B S::(af wb (aT (WU x la' ln' lc' p' a' b' c' KK)) 49)::(some x.cb,C [.slice na nn nc,R at'] 38)::(some x.mb,EK)::(G++L)):=by
 have IU:=hT.len.1;have Oi:=hT.len.2;replace h:=(h.ghost (C (mq []++[]) 90)).ghost (C (List.map u8 ([]++[])) 5);replace h:=h.zz [4,4,4] 0;refine gS Tryz.func20 Tryz.ntmps20 [4] ?_;refine V 37 ?_;refine bQ (σ:=Nat×Nat×List UInt8×(List (Nat×Nat×Nat))×Nat×Nat×Nat×Nat×Nat×Obj×Option Nat×List UInt8×Nat×Option Nat×List Value×Nat) [(5,6),(8,11),(25,72)] (λ⟨i,run,T,Q,a,b,c,sn,dX,jA,ot,St,ct,oq,sq,cq⟩ ρ w=>Kn ρ [(9,R i),(8,R run),(5,.slice (aB ot) (List.length T) ct),(6,.slice (aB oq) (List.length Q) cq)]/\H r w ((af wb (aT (WU x x.la x.ln x.lc (PK x) a b c sn)) 49)::(some x.cb,C [.slice na nn nc,R dX] 38)::(some x.mb,jA)::EB ot (T) St::(oq,C (mq (Q)++sq) 90)::L)/\(i<=x.at_+pn)/\(vT X x.cJ x.at_ x.a x.b x.c i T Q run a b c)/\(dX<=at_+20*(i-x.at_))/\(ou 2147483647 jA)/\(sn<=1048577)/\(BB ot T St ct)/\(bG oq (List.length Q) cq (mq Q) sq 3)) (λ⟨i,run,T,Q,a,b,c,sn,dX,jA,ot,St,ct,oq,sq,cq⟩=>x.at_+pn-i) (x.at_,0,[],[],x.a,x.b,x.c,x.seen,at_,mo,none,[],0,none,[],0) ⟨aq,h,(mS _ _),vT.nil,I,oP,I,⟨J,λ_=>rfl⟩,J,J,aR _,λ_=>rfl⟩ ?_;rintro⟨i,run,T,Q,a,b,c,sn,dX,jA,ot,St,ct,oq,sq,cq⟩ ρ w ⟨⟨KE,rfl⟩,h,hi,hR,yV,s_,acp,Hu,hkQ⟩;refine V 7 ?_;refine an J ?_ ?_<;>intro rH
 have eT:=hR.bd (m:=1099511627776) aco B6 mE HC I;have hbT:T.length<=131072/\Q.length<=131072/\run<=131072:=I;refine aQ (jB [(5,6),(8,11),(28,72)] (λρ w=> ∃i5 UR:Nat,∃T5:List UInt8,∃Q5:List (Nat×Nat×Nat),∃a5 b5 c5 US jL:Nat,∃UT:Obj,∃Oz:Option Nat,∃UU:List UInt8,∃UW:Nat,∃OA:Option Nat,∃UX:List Value,∃UY:Nat,Kn ρ [(9,R i5),(8,R UR),(5,.slice (aB Oz) (List.length T5) UW),(6,.slice (aB OA) (List.length Q5) UY)]/\H r w ((af wb (aT (WU x x.la x.ln x.lc (PK x) a5 b5 c5 US)) 49)::(some x.cb,C [.slice na nn nc,R jL] 38)::(some x.mb,UT)::EB Oz (T5) UU::(OA,C (mq (Q5)++UX) 90)::L)/\(i<i5)/\(i5<=x.at_+pn)/\(vT X x.cJ x.at_ x.a x.b x.c i5 T5 Q5 UR a5 b5 c5)/\(jL<=at_+20*(i5-x.at_))/\(ou 2147483647 UT)/\(US<=1048577)/\(BB Oz T5 UU UW)/\(bG OA (List.length Q5) UY (mq Q5) UX 3)) ?_ ?_)
 . refine V 5 ?_;refine ee J J J J (aA (aD2 (x:=WU x x.la x.ln x.lc (PK x) a b c sn) (sn:=sn) (X:=X) h (hN.sub (Sub.Xa _ _ _)) I s_ (hT.sub (Sub.Xa _ _ _)) hX hi I acp vx eT.2.2.2.2.1 eT.2.2.2.2.2.1 eT.2.2.2.2.2.2) ?_);rintro e w1 ⟨iX,xr,Cw,n,o,rfl,sT,BV,UZ,hn6,hv3,h⟩;replace h:H r _ ((af wb (aT (WU x x.la x.ln x.lc (PK x) a b c Cw)) 49)::(some x.cb,C [.slice na nn nc,R iX] 38)::(some x.mb,xr)::EB ot (T) St::(oq,C (mq (Q)++sq) 90)::L):=h;refine V 7 ?_;refine cD [(35,44)] (λρ w=> ∃fU:Nat,∃bv:Bool,Kn ρ [(44,.bool bv)]/\H r w ((af wb (aT (WU x x.la x.ln x.lc (PK x) a b c Cw)) 49)::(some x.cb,C [.slice na nn nc,R fU] 38)::(some x.mb,xr)::EB ot (T) St::(oq,C (mq (Q)++sq) 90)::L)/\(fU<=dX+3)/\(bv=false->3<=n)) ?_ ?_
   . refine V 4 ?_;refine d' (t:=37) J (λaEY=>?_) (λaEY=>?_)
     refine V 8 ?_;exact⟨aM,iX,true,aq,h,I,(λe=>by cases e)⟩
     refine V 3 ?_;refine dn J J J (run_load h J acn) J ?_;replace h:=h.zz [4,4,4,3,4] 0;refine yT (v1:=R 5) J J J J J J (aA (kI (n:=5) (at_:=iX) h (hN.sub aJ) I aj) ?_);rintro e w1 ⟨ov,fU,rfl,me,uD,h⟩;refine V 3 ?_;replace h:=h.zz [4,4,4,3,4] 0;exact⟨aM,fU,decide (ov=0),aq,h,I,(λ_=>I)⟩
   rintro ρ w ⟨fU,bv,⟨KG,rfl⟩,h,uD,qX⟩;refine eA J ?_ ?_<;>intro zN
   refine V 6 ?_;refine aO h J aEW ?_;refine kC (hT.eH I) λpb pq lp Tp q1=>?_;refine fx q1.2.1 λip qC=>(cM (ah (cI J J q1.1 I) (aO h J (jy q1.2.2 I) (kX J (kB _) h ?_))));intro bz w h;refine lk (X:=T) (Y:=[X.getD i 0]) (F:=[(af bz [u8 (X.getD i 0)] 5)]) h 4 J J J Hu ⟨_,_,_,J,J,aR _,λ_=>⟨bz,0,_,_,J,e_ ..,J,trivial⟩⟩ (λe he=>by rcases je.1 he with rfl;exact(by repeat first|exact e_ .. |apply mu)) (by simp only[ek,fE];omega) J ?_;intro w o9 c9 S9 h oW;dsimp only[List.set]at h;replace h:=h.tail;refine V 12 ?_;exact⟨aH 27,i+1,run+1,T++[X.getD i 0],Q,a,b,c,Cw,fU,xr,o9,S9,c9,oq,sq,cq,aq,h,I,I,hR.lit,I,BV,UZ,oW,hkQ⟩
   have tW:=qX zN;have pg:=hv3 I;have hAi:=eT.1;have Mv:=pg.2.2.2.1;refine V 9 ?_;refine ee J J J J (aA (aBJ (x:=WU x x.la x.ln x.lc (PK x) a b c Cw) (bR:=o) (none:=decide (run=0)) h (hN.sub aJ) I pg.1 I eT.2.2.2.1 eT.2.2.2.2.1) ?_);rintro e w1 ⟨v,lV,b9,c9,rfl,gr,k4,nZ,Om,h⟩;replace h:H r _ ((af wb (aT (WU x x.la x.ln x.lc (PK x) o b9 c9 Cw)) 49)::(some x.cb,C [.slice na nn nc,R lV] 38)::(some x.mb,xr)::EB ot (T) St::(oq,C (mq (Q)++sq) 90)::L):=h;have hR9:=hR.seq nZ gr k4 (qX zN) hn6 pg.1 pg.2.1 pg.2.2.1 pg.2.2.2.2;refine cM (ah (wg (ao9 _ _ _) J J J) (kX J (apB _ _ _) h ?_));intro bg w h;refine kW (mq Q) sq (yX (run,v,n)) h 5 J J J hkQ (Src.slice (j:=0) (q2:=0) J ⟨J,J,J,trivial⟩ J) (by intro z hz;simp only[yX,mR,List.not_mem_nil,or_false]at hz;rcases hz with rfl|rfl|rfl<;>rfl) I aj J ?_;intro w oq9 cq9 sq9 h dE hJ kZ;dsimp only[List.set]at h;rw[aEV]at h dE;have yh:bG oq9 (List.length (Q++[(run,v,n)])) cq9 (mq (Q++[(run,v,n)])) sq9 3:=⟨by rw[amv];omega,dE,by rw[aF];exact hJ,kZ⟩;replace h:=h.tail;refine V 9 ?_;exact⟨aH 27,i+n,0,T,Q++[(run,v,n)],o,b9,c9,Cw,lV,xr,ot,St,ct,oq9,sq9,cq9,Kn.mk ⟨J,J,J,(gi J (by rw[aF];rfl)),trivial⟩,h,I,I,hR9,I,BV,UZ,Hu,yh⟩
 rintro ρ w ⟨i5,UR,T5,Q5,a5,b5,c5,US,jL,UT,Oz,UU,UW,OA,UX,UY,⟨KF,rfl⟩,h,aiH,hi5,hR5,Hw,aEZ,aE0,aE1,aE2⟩;exact⟨aH 4,(i5,UR,T5,Q5,a5,b5,c5,US,jL,UT,Oz,UU,UW,OA,UX,UY),cw,aq,h,hi5,hR5,Hw,aEZ,aE0,aE1,aE2⟩
 have ei:i=x.at_+pn:=I;rw[ei]at hR yV;have eT:=hR.bd (m:=1099511627776) aco B6 mE HC I;have hbT:T.length<=131072/\Q.length<=131072:=I;have UL:=λj hj=>aES (hR.each (m:=200000000) (m0:=1099511627776) aco B6 mE HC I I aj j hj) aj;refine V 5 ?_;replace h:=h.zz [2,4,4,4,4] 0;refine b_ J J J (aA (aDw (x:=WU x x.la x.ln x.lc (PK x) a b c sn) (lo:=lo) (T:=T) h (hN.sub aJ) I Hu.sl hbT.1 (aEU (qG.sub aJ))) ?_);rintro e w1 ⟨lV,fZ,mi,fD,lo2,G9,ox,Bl,Sx,cx,rfl,Om,OB,aE3,Ru,aJP,h⟩;replace h:=h.asm;have OC:mN ((G9++[EB ot T St,(oq,C (mq Q++sq) 90)])++L) (WU x fZ mi fD (PK x) a b c sn) lo2:=mN.noM s_ (by have:=aE3;simp only[cF,List.cons_append,List.nil_append]at this ⊢;exact amO (p:=PK x) (a:=a) (b:=b) (c:=c) (s:=sn) this);have hQm:(oq,C (mq Q++sq) 90)∈(G9++[EB ot T St,(oq,C (mq Q++sq) 90)])++L:=(by simp);refine cg (G9++[EB ot T St,(oq,C (mq Q++sq) 90)]) λG2 hG2=>?_;rw[hG2]at OC hQm h;replace h:H r _ (EB ox (Bl) Sx::(af wb (aT (WU x fZ mi fD (PK x) a b c sn)) 49)::(some x.cb,C [.slice na nn nc,R lV] 38)::(some x.mb,jA)::(G2++L)):=h;refine V 9 ?_;refine jB [(4,4),(12,12),(78,138)] (λρ w=> ∃at9:Nat,∃hd:List UInt8,∃o9:Option Nat,∃S9:List UInt8,∃c9:Nat,Kn ρ [(12,.slice (aB o9) (List.length (Bl++hd)) c9)]/\H r w (EB o9 (Bl++hd) S9::(af wb (aT (WU x fZ mi fD (PK x) a b c sn)) 49)::(some x.cb,C [.slice na nn nc,R at9] 38)::(some x.mb,jA)::(G2++L))/\(at9<=lV+2)/\(UQ Q.length hd)/\(BB o9 (Bl++hd) S9 c9)/\(0<Q.length)) ?_ ?_
 refine V 6 ?_;refine an J ?_ ?_<;>intro IG
 refine V 3 ?_;refine kX J (kB _) h ?_;intro bz w h;refine lk (X:=Bl) (Y:=[0]) (F:=[(af bz [gR 0] 5)]) h 1 J J J OB ⟨_,_,_,J,J,aR _,λ_=>⟨bz,0,_,_,J,e_ ..,J,trivial⟩⟩ (λe he=>by rcases je.1 he with rfl;exact(by repeat first|exact e_ .. |apply mu)) (by simp only[ek,fE];omega) J ?_;intro w o9 c9 S9 h oW;dsimp only[List.set]at h;replace h:=h.tail;refine V 3 ?_;have eQ:Q=[]:=kq.1 IG;exact⟨lV,jA,sn,G2,o9,_,S9,c9,fZ,mi,fD,PK x,a,b,c,lo2,tO,J,oW,I,s_,acp,OC,λk hk=>⟨(HI k hk).1.sub aJ,(HI k hk).2⟩,eT.2.2.2,by rw[aF];simp only[ek,fE];omega,⟨T,Q,run,Bl,hR,Ru,Or.inl ⟨eQ,J,J⟩⟩,h⟩
 refine cD [(92,102)] (λρ w=> ∃ru:Nat,∃bv:Bool,Kn ρ [(92,.bool bv)]/\H r w (EB ox (Bl) Sx::(af wb (aT (WU x fZ mi fD (PK x) a b c sn)) 49)::(some x.cb,C [.slice na nn nc,R ru] 38)::(some x.mb,jA)::(G2++L))/\(ru<=lV+1)/\(bv=true->32512<=Q.length)) ?_ ?_
 refine V 4 ?_;refine d' (t:=95) J (λamQ=>?_) (λamQ=>?_)
 refine V 3 ?_;refine dn J J J (run_load h J acn) J ?_;replace h:=h.zz [3,2,2,3] 0;refine yT (v1:=R 2) J J J J J J (aA (kI (n:=2) (at_:=lV) h (hN.sub aJ) I aj) ?_);rintro e w1 ⟨ov,ru,rfl,me,acq,h⟩;refine V 4 ?_;replace h:=h.zz [3,1,3,3] 0;exact⟨aM,ru,decide (ov=0),aq,h,I,(λ_=>amQ)⟩
 refine V 9 ?_;exact⟨aM,lV,false,aq,h,I,(λe=>by cases e)⟩
 rintro ρ w ⟨ru,bv,⟨KH,rfl⟩,h,acq,qX⟩;refine eA J ?_ ?_<;>intro FC
 refine eS (cM (kX J (kB _) h ?_));intro bz w h;refine lk (X:=Bl) (Y:=[255]) (F:=[(af bz [gR 255] 5)]) h 1 J J J OB ⟨_,_,_,J,J,aR _,λ_=>⟨bz,0,_,_,J,e_ ..,J,trivial⟩⟩ (λe he=>by rcases je.1 he with rfl;exact(by repeat first|exact e_ .. |apply mu)) (by simp only[ek,fE];omega) J ?_;intro w o8 c8 S8 h OD;dsimp only[List.set]at h;replace h:=h.tail;refine cM (ah (iz (b:=32512) (h2:=ao.lit _) J J (by have:=qX FC;omega) az) ?_);refine V 1 ?_;refine b_ (v1:=R 2) J J J (aA (qE (x:=Q.length-32512) (k:=2) h I aj) ?_);rintro e w1 ⟨nK,lS,lc,rfl,j4,h⟩;refine lk (X:=Bl++[255]) (Y:=cu (Q.length-32512) 2) (F:=[EB nK (cu (Q.length-32512) 2) lS]) h 1 J (gi J (eP _ 2).symm) J OD (j4.sl) (λe he=>by rcases je.1 he with rfl;exact e_ ..) (by rw[aF,eP];simp only[ek,fE];omega) J ?_;intro w o9 c9 S9 h oW;dsimp only[List.set]at h;replace h:=h.tail;have e9:Bl++[255]++cu (Q.length-32512) 2=Bl++(255::cu (Q.length-32512) 2):=(by rw[cF];rfl);rw[e9]at h oW;exact dI (aC ⟨aH 13,ru,255::cu (Q.length-32512) 2,o9,S9,c9,Kn.mk ⟨(gi J (by rw[e9])),trivial⟩,h,I,Or.inl ⟨qX FC,J⟩,oW,I⟩)
 refine cD [(111,121)] (λρ w=> ∃at8:Nat,∃bw:Bool,Kn ρ [(111,.bool bw)]/\H r w (EB ox (Bl) Sx::(af wb (aT (WU x fZ mi fD (PK x) a b c sn)) 49)::(some x.cb,C [.slice na nn nc,R at8] 38)::(some x.mb,jA)::(G2++L))/\(at8<=ru+1)/\(bw=true->Q.length<128)) ?_ ?_
 refine V 4 ?_;refine d' (t:=114) J (λamR=>?_) (λamR=>?_)
 refine V 3 ?_;refine dn J J J (run_load h J acn) J ?_;replace h:=h.zz [3,2,2,3] 0;refine yT (v1:=R 4) J J J J J J (aA (kI (n:=4) (at_:=ru) h (hN.sub aJ) I aj) ?_);rintro e w1 ⟨ov,at8,rfl,me,acr,h⟩;refine V 4 ?_;replace h:=h.zz [3,1,3,3] 0;exact⟨aM,at8,decide (0<ov),aq,h,I,(λ_=>amR)⟩
 refine V 9 ?_;exact⟨aM,ru,false,aq,h,I,(λe=>by cases e)⟩
 rintro ρ w ⟨at8,bw,⟨Ou,rfl⟩,h,acr,hbw⟩;refine eA J ?_ ?_<;>intro yF
 refine V 3 ?_;refine ah (eB J (by have:=hbw yF;simp only[aG];omega)) ?_;refine kX J (kB _) h ?_;intro bz w h;refine lk (X:=Bl) (Y:=[UInt8.ofNat Q.length]) (F:=[(af bz [gR Q.length] 5)]) h 1 J J J OB ⟨_,_,_,J,J,aR _,λ_=>⟨bz,0,_,_,J,e_ ..,by rw[xp,mw (by have:=hbw yF;simp only[aG];omega)];rfl,trivial⟩⟩ (λe he=>by rcases je.1 he with rfl;exact(by repeat first|exact e_ .. |apply mu)) (by simp only[ek,fE];omega) J ?_;intro w o9 c9 S9 h oW;dsimp only[List.set]at h;replace h:=h.tail;exact dI (aC ⟨aH 11,at8,[UInt8.ofNat Q.length],o9,S9,c9,aq,h,I,Or.inr (Or.inl ⟨hbw yF,J⟩),oW,I⟩)
 refine V 6 ?_;refine an J ?_ ?_<;>intro ajv
 refine V 3 ?_;refine ah (bZ (pX (b:=8) (h2:=ao.lit _) J J az) (show Q.length/2^8=Q.length/256 from J)) ?_;refine V 3 ?_;refine ah (CL J J) (tq (v:=λb=>cf b 2 2) (λw=>aoZ (u:=λb=>cf b 2 2) (aps _ _) J J) h J ?_);intro bz w h;refine lk (X:=Bl) (Y:=[UInt8.ofNat (128+Q.length/256),UInt8.ofNat Q.length]) (F:=[(af bz [gR (128+Q.length/256),gR (Q.length % (aG .u8+1))] 5)]) h 1 J J J OB ⟨_,_,_,J,J,aR _,λ_=>⟨bz,0,_,_,J,e_ ..,by rw[xp,mw (show 128+Q.length/256<aG .u8+1 by simp only[aG];omega)];rfl,by rw[xp];rfl,trivial⟩⟩ (λe he=>by rcases je.1 he with rfl;exact(by repeat first|exact e_ .. |apply mu)) (by simp only[ek,fE];omega) J ?_;intro w o9 c9 S9 h oW;dsimp only[List.set]at h;replace h:=h.tail;exact dI (aC ⟨aH 18,at8,[UInt8.ofNat (128+Q.length/256),UInt8.ofNat Q.length],o9,S9,c9,aq,h,I,Or.inr (Or.inr ⟨I,J⟩),oW,I⟩)
 refine eS (cM (kX J (kB _) h ?_));intro bz w h;refine lk (X:=Bl) (Y:=[255]) (F:=[(af bz [gR 255] 5)]) h 1 J J J OB ⟨_,_,_,J,J,aR _,λ_=>⟨bz,0,_,_,J,e_ ..,J,trivial⟩⟩ (λe he=>by rcases je.1 he with rfl;exact(by repeat first|exact e_ .. |apply mu)) (by simp only[ek,fE];omega) J ?_;intro w o8 c8 S8 h OD;dsimp only[List.set]at h;replace h:=h.tail;refine V 3 ?_;refine b_ (v1:=R 2) J J J (aA (qE (x:=Q.length-32512) (k:=2) h I aj) ?_);rintro e w1 ⟨nK,lS,lc,rfl,j4,h⟩;refine lk (X:=Bl++[255]) (Y:=cu (Q.length-32512) 2) (F:=[EB nK (cu (Q.length-32512) 2) lS]) h 1 J (gi J (eP _ 2).symm) J OD (j4.sl) (λe he=>by rcases je.1 he with rfl;exact e_ ..) (by rw[aF,eP];simp only[ek,fE];omega) J ?_;intro w o9 c9 S9 h oW;dsimp only[List.set]at h;replace h:=h.tail;have e9:Bl++[255]++cu (Q.length-32512) 2=Bl++(255::cu (Q.length-32512) 2):=(by rw[cF];rfl);rw[e9]at h oW;exact dI (aC ⟨aH 17,at8,255::cu (Q.length-32512) 2,o9,S9,c9,Kn.mk ⟨(gi J (by rw[e9])),trivial⟩,h,I,Or.inl ⟨I,J⟩,oW,I⟩)
 rintro ρ w ⟨at9,hd,o9,S9,c9,⟨ab3,rfl⟩,h,amu,rI,oW,hQ0⟩;refine V 5 ?_;replace h:=h.zz [3,1,3,3] 0;refine b_ J J J (aA (aEr (x:=WU x fZ mi fD (PK x) a b c sn) (tO:=tO) h (hN.sub aJ) I (EL.own hkQ (ar (ar hQm))) hQ0 hbT.2 (λk hk=>⟨(HI k hk).1.sub aJ,(HI k hk).2⟩) UL) ?_);rintro e w1 ⟨HK,Cx,p10,ts,uv,Bq,HL,OE,rfl,U0,aJQ,hSq,xt,aJR,h⟩;replace h:=h.aET;rw[<-cF Cx G2 L]at h;have jv:=rI.len;refine lk (X:=Bl++hd) (Y:=Bq) (F:=[EB uv Bq HL]) h 4 J J J oW (U0.sl) (λe he=>by rcases je.1 he with rfl;exact e_ ..) (by rw[aF];omega) J ?_;intro w o11 c11 S11 h U1;dsimp only[List.set]at h;refine V 3 ?_;replace h:=h.zz [3,3,3,4,4] 1
 have hT9: ∀k,k<=2->lI ((Cx++G2)++L) (p10 k) (ts k)/\mO k (ts k):=λk hk=>⟨by
   have:=((xt k hk).1.HH).noM s_
   rw[cF];exact this,(xt k hk).2⟩
 exact⟨HK,jA,sn,Cx++G2,o11,_,S11,c11,fZ,mi,fD,p10,a,b,c,lo2,(λk=>some (ts k)),J,U1,I,s_,acp,amO (OC.sub (λz hz=>by rw[cF];exact fe _ hz)),λk hk=>⟨(hT9 k hk).1,λt ht=>by cases ht;exact(hT9 k hk).2⟩,eT.2.2.2,by rw[aF,aF];omega,⟨T,Q,run,Bl,hR,Ru,Or.inr ⟨hQ0,ts,Bq,hd,J,hSq,rI,J⟩⟩,h⟩
def HM(x:Wr)(n:Nat):Wr:={x with at_:=n}
structure xB(F:List aD)(x:Wr)(X:List UInt8)(lo:Option (List Nat))(tO:Nat->Option Tb):Prop where
 txt:aP F (.slice x.ta x.tn x.tc) X
 ln:mN F x lo
 tb: ∀k,k<=2->sP F (PK x k) (tO k)/\ ∀t,tO k=some t->mO k t
 seen:x.seen<=1048577
 cJ:x.cJ<=1099511627776
 a1:1<=x.a
 a:x.a<=1099511627776
 b:x.b<=1099511627776
 c:x.c<=1099511627776
theorem amS(h:mN F x lo):mN F (HM x n) lo:=by cases lo<;>exact h
theorem xB.at_{F':List aD}(h:xB F x X lo tO)(hs:Sub F F'):xB F' (HM x n) X lo tO:=
 ⟨h.txt.sub hs,amS (h.ln.sub hs),λk hk=>⟨(h.tb k hk).1.sub hs,(h.tb k hk).2⟩,h.seen,h.cJ,h.a1,h.a,h.b,h.c⟩
theorem acs{p:Value}{o:Option Tb}(h:sP F p o):plain p=true:=by
 cases o with
 |none=>rw[show p= .pointer none from h];rfl
 |some t=>obtain⟨tb,cb,e,_⟩:=h;rw[e];rfl
theorem xB.pl(h:xB F x X lo tO):(aT x).all plain=true:=by
 have h0:plain x.p0=true:=acs (h.tb 0 aj).1;have W:plain x.p1=true:=acs (h.tb 1 aj).1;have h2:plain x.p2=true:=acs (h.tb 2 aj).1;simp only[aT,Vm,h0,W,h2,Bool.true_and,List.all_nil];rfl
theorem U2{t:Nat}(h:t<=7):n*2^3|||t=n*8+t:=by
 have:=v7 (i:=3) (b:=t) (I:t<2^3) n;rw[iu n (2^3),<-this,iu]
theorem amT{e:Nat}(h:e<=1)(c:Nat)(hc:c % 2=0)(WG:c<=6):n*8+c|||e=n*8+c+e:=by
 have:=v7 (i:=1) (b:=e) (I:e<2^1) (n*4+c/2);rw[show n*8+c=2^1*(n*4+c/2) by omega,<-this]
def ER(X:List UInt8)(cJ A n en:Nat)(lo oC:Option (List Nat))(tO rq:Nat->Option Tb)(a0 b0 c0 a b c:Nat)(B:List UInt8):Prop:=
 (oC=lo/\rq=tO/\a=a0/\b=b0/\c=c0/\(B=cu (n*8+0+en) 3++(X.drop A).take n\/(0<n/\(∀i,i<n->((X.drop A).take n).getD i 0=((X.drop A).take n).getD 0 0)/\B=cu (n*8+2+en) 3++[((X.drop A).take n).getD 0 0])))\/
 (∃Bc,amN X cJ A (A+n) lo oC tO rq a0 b0 c0 a b c Bc/\Bc.length<=min 131072 cJ/\B=cu (Bc.length*8+4+en) 3++Bc)
theorem aE4{x y:UInt8}(h:x.toNat=y.toNat):x=y:=K8.1 h
end Go.Z
