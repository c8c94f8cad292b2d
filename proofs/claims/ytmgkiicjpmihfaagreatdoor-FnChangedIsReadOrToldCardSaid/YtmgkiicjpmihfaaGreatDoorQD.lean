/- Part 4 of the proof. -/
import Derived.KernelRfl
import Derived.Laws.Pointers
import Derived.Test.YtmgkiicjpmihfaaGreatDoorQC
set_option linter.all false
set_option maxRecDepth 20000
set_option maxHeartbeats 400000000
namespace Go.Z
open Go
section
variable {P:Program}{E:TypeId}{ρ:Env}{T T' ty:TypeId}{w:World}{x y:Operand}{p:Option Addr}
theorem aqk [hu:bO P T (.pointer E)](hx:Env.ev ρ x= .pointer p)(hy:Env.ev ρ y= .pointer none):run P ρ (.binOp .neq T x y T') ty w= .ok (.value (.bool p.isSome)) w:=by
 have h:=run_neq_pointer_nil (P:=P) w T p (by have:=hu.eq;simp[Program.pointee,this]);have e:(!p.isNone)=p.isSome:=(by cases p<;>rfl);rw[e]at h;simp only[run,execOp,hx,hy];simp[eqGuard,h]
theorem W_ [hu:bO P T (.pointer E)](hx:Env.ev ρ x= .pointer p)(hy:Env.ev ρ y= .pointer none):run P ρ (.binOp .eql T x y T') ty w= .ok (.value (.bool p.isNone)) w:=by
 have h:=run_eql_pointer_nil (P:=P) w T p (by have:=hu.eq;simp[Program.pointee,this]);simp only[run,execOp,hx,hy];simp[eqGuard,h]
end
end Go.Z
namespace Go.Z
open Go Go.Proofs
variable {F F':List aD}{cap db kind q:Nat}{ad:Option Addr}{r:dQ}{T:TT}{p:Value}{w:World}
def Sub(F F':List aD):Prop:= ∀e,e∈F->e∈F'
theorem Sub.refl(F:List aD):Sub F F:=λ_ h=>h
theorem Sub.trans{F'':List aD}(h:Sub F F')(h':Sub F' F''):Sub F F'':=λe m=>h' e (h e m)
theorem Sub.left(G F:List aD):Sub G (G++F):=λ_ h=>ni _ h
theorem Sub.right(G F:List aD):Sub F (G++F):=λ_ h=>fe _ h
theorem H.grow{G:List aD}{e:aD}(h:H r w (G++e::F)):H r w (e::(G++F)):=h.perm si
theorem Sub.cons(e:aD)(F:List aD):Sub F (e::F):=λ_ h=>ar h
theorem Sub.Xa(e e':aD)(F:List aD):Sub F (e::e'::F):=λ_ h=>ar (ar h)
def lI(F:List aD)(p:Value)(t:Tb):Prop:= ∃tb cb,p= .pointer (some ⟨tb,0,none⟩)/\(some tb,C [.slice (some ⟨cb,0,none⟩) t.cells.length t.cells.length,R t.log] 124)∈F/\(some cb,C (fQ t.cells) 126)∈F
theorem lI.sub{t:Tb}(h:lI F p t)(hs:Sub F F'):lI F' p t:=by
 obtain⟨tb,cb,W,h2,h3⟩:=h;exact⟨tb,cb,W,hs _ h2,hs _ h3⟩
def sP(F:List aD)(p:Value):Option Tb->Prop
 |none=>p= .pointer none
 |some t=>lI F p t
theorem sP.sub{o:Option Tb}(h:sP F p o)(hs:Sub F F'):sP F' p o:=by
 cases o with
 |none=>exact h
 |some t=>exact lI.sub h hs
theorem Xb{e e':aD}(h:e=e'):e'∈e::F:=by rw[h];exact e_ ..
theorem aql(b:Nat):((af b [R 4,R 3,R 2,R 2,R 2,R 2,R 2,R 2,R 2,R 2,R 2,R 2,R 2,R 1,R 1,R 1,R 2,R 2,R 2,R 2,R 2,R 2,R 2,R 2,R 2,R 3,R 2,R 1,R 1,R 1,R 1,R 1,.int .i64 (-1),.int .i64 (-1),.int .i64 (-1),.int .i64 (-1)] 3):aD)=(af b ((vi 0).map i64++[]) 3):=by kernel_rfl
theorem aqm(b:Nat):((af b [R 1,R 1,R 1,R 1,R 1,R 1,R 2,R 2,R 2,R 1,R 1,R 1,R 1,R 1,R 1,R 1,R 1,R 1,R 1,R 1,R 1,R 1,R 1,R 1,.int .i64 (-1),.int .i64 (-1),.int .i64 (-1),.int .i64 (-1),.int .i64 (-1)] 3):aD)=(af b ((vi 1).map i64++[]) 3):=by kernel_rfl
theorem aqn(b:Nat):((af b [R 1,R 4,R 3,R 2,R 2,R 2,R 2,R 2,R 2,R 1,R 1,R 1,R 1,R 1,R 1,R 1,R 1,R 1,R 1,R 1,R 1,R 1,R 1,R 1,R 1,R 1,R 1,R 1,R 1,R 1,R 1,R 1,R 1,R 1,R 1,R 1,R 1,R 1,R 1,R 1,R 1,R 1,R 1,R 1,R 1,R 1,.int .i64 (-1),.int .i64 (-1),.int .i64 (-1),.int .i64 (-1),.int .i64 (-1),.int .i64 (-1),.int .i64 (-1)] 3):aD)=(af b ((vi 2).map i64++[]) 3):=by kernel_rfl
theorem Xc{p:Prop}(h:p:=by rintro e w1 ⟨cb,rfl,h⟩;refine eh h J ?_;intro bt w h;refine b7 ?_;intro w h;refine V 6 ?_;refine⟨bt,cb,J,?_⟩;unfold ji;rw[zu];exact(h.mv 2).tail):p:=h
theorem Xd(h:H r w F)(hk:kind<=2):Calls PP 57 #[R kind] w λe w'=> ∃tb cb,e= .returned (aW tb)/\H r w' ((af tb [cf cb (ji kind).cells.length (ji kind).cells.length,R (ji kind).log] 124)::(af cb (fQ (ji kind).cells) 126)::F):=by
 refine gD Tryz.func57 Tryz.ntmps57 [2] ?_;refine V 23 ?_;refine an J ?_ ?_<;>intro WG
 obtain rfl:kind=0:=WG;refine eS (tq (v:=λb=>cf b 36 36) (λw=>AU (u:=λb=>cf b 36 36) (λw=>apy (4) (3) (2) (2) (2) (2) (2) (2) (2) (2) (2) (2) (2) (1) (1) (1) (2) (2) (2) (2) (2) (2) (2) (2) (2) (3) (2) (1) (1) (1) (1) (1) (-1) (-1) (-1) (-1) w) J) h J ?_);intro L4 w h;refine V 6 ?_;refine b_ J J J (aA (Fw (sb:=L4) (shares:=vi 0) (sp:=[]) (log:=Du 0) h (Xb (aql _)) (II 0) aj) ?_);exact Xc
 refine V 5 ?_;refine an J ?_ ?_<;>intro sF
 obtain rfl:kind=1:=sF;refine a9 (eS (tq (v:=λb=>cf b 29 29) (λw=>AU (u:=λb=>cf b 29 29) (λw=>apx (1) (1) (1) (1) (1) (1) (2) (2) (2) (1) (1) (1) (1) (1) (1) (1) (1) (1) (1) (1) (1) (1) (1) (1) (-1) (-1) (-1) (-1) (-1) w) J) h J ?_));intro L4 w h;refine V 9 ?_;refine b_ J J J (aA (Fw (sb:=L4) (shares:=vi 1) (sp:=[]) (log:=Du 1) h (Xb (aqm _)) (II 1) aj) ?_);exact Xc
 refine V 5 ?_;refine an J ?_ ?_<;>intro L5
 obtain rfl:kind=2:=L5;refine eS (tq (v:=λb=>cf b 53 53) (λw=>AU (u:=λb=>cf b 53 53) (λw=>apz (1) (4) (3) (2) (2) (2) (2) (2) (2) (1) (1) (1) (1) (1) (1) (1) (1) (1) (1) (1) (1) (1) (1) (1) (1) (1) (1) (1) (1) (1) (1) (1) (1) (1) (1) (1) (1) (1) (1) (1) (1) (1) (1) (1) (1) (1) (-1) (-1) (-1) (-1) (-1) (-1) (-1) w) J) h J ?_);intro L4 w h;refine V 6 ?_;refine b_ J J J (aA (Fw (sb:=L4) (shares:=vi 2) (sp:=[]) (log:=Du 2) h (Xb (aqn _)) (II 2) aj) ?_);exact Xc
 exfalso;omega
theorem aeM{D:List UInt8}{len:Nat}{lG symbols:Nat}(h:H r w F)(hm:(af db (D.map u8) T)∈F)(a8:0<len->ad=some ⟨db,q,none⟩)(hq:q+len<=D.length)(hlen:len<=281474976710656)(lH:lG<=9)(kF:symbols<=256):Calls PP 63 #[.slice ad len cap,.int .i64 (lG:Int),.int .i64 (symbols:Int)] w λe w'=> ∃ok out lg size ob cp sp,e= .returned (.tuple #[.slice (aB ob) out.length cp,R lg,R size,.bool ok])/\ft (num (aa D q len)) len lG symbols=(if ok=true then some (out,lg,size)else none)/\bG ob out.length cp (out.map i64) sp 1/\H r w' ((ob,C (out.map i64++sp) 3)::F):=by
 refine(ap6 h hm a8 hq hlen lH kF).mono ?_;rintro e w1 ⟨W,h2⟩
 cases hP:ft (num (aa D q len)) len lG symbols with
 | none=>
   obtain⟨rfl,h⟩:=W hP
   exact⟨false,[],0,0,none,0,[],J,J,bG.nil,h.ghost _⟩
 | some x=>
   obtain⟨out,lg,size⟩:=x
   obtain⟨ob,cp,sp,rfl,h3,h4⟩:=h2 _ _ _ hP
   exact⟨true,out,lg,size,ob,cp,sp,J,J,h3,h4⟩
theorem Xe{D:List UInt8}{len:Nat}(h:H r w F)(hm:(af db (D.map u8) T)∈F)(a8:0<len->ad=some ⟨db,q,none⟩)(hq:q+len<=D.length)(hlen:len<=140737488355328):Calls PP 64 #[.slice ad len cap] w λe w'=> ∃ok bo left,e= .returned (.tuple #[.pointer (aB bo),.bool ok])/\iV (aa D q len)=(if ok=true then some left else none)/\(ok=true-> ∃b,bo=some b)/\(ok=false->bo=none)/\H r w' ((bo,C [.slice ad len cap,R left] 155)::F):=by
 refine(ap0 h hm a8 hq hlen).mono ?_;rintro e w1 ⟨W,h2⟩
 cases hP:iV (aa D q len)with
 | none=>
   obtain⟨rfl,h⟩:=W hP
   exact⟨false,none,0,J,J,(by intro e;cases e),λ_=>rfl,h.ghost _⟩
 | some x=>
   obtain⟨b,rfl,h3⟩:=h2 _ hP
   exact⟨true,some b,x,J,J,λ_=>⟨b,J⟩,(by intro e;cases e),h3⟩
theorem aqo{D:List UInt8}{len:Nat}{L:List aD}{sb:Nat}{x0 x1 x2 x3 p0 p1 p2:Value}{a b c mode:Nat}{gY:Option Tb}(h:H r w ((af sb [x0,x1,x2,x3,p0,p1,p2,R a,R b,R c] 101)::L))(g8:Sub F L)(hm:(af db (D.map u8) T)∈F)(a8:0<len->ad=some ⟨db,q,none⟩)(hq:q+len<=D.length)(hlen:len<=281474976710656)(hk:kind<=2)(L6:mode<=3)(hold:sP F ([p0,p1,p2].getD kind undef) gY):Calls PP 46 #[aW sb,R kind,R mode,.slice ad len cap] w λe w'=> ∃ok t size G p',e= .returned (.tuple #[R size,.bool ok])/\kf gY kind mode (aa D q len)=(if ok=true then some (t,size)else none)/\(ok=true->lI (G++F) p' t)/\H r w' ((af sb ([x0,x1,x2,x3,p0,p1,p2,R a,R b,R c].set (4+kind) p') 101)::(G++L)):=by
 obtain⟨vd,ve⟩:=cX (g8 _ hm);have dK:=dx hq;have mZ:0<len->byte (aa D q len) 0=(D.getD (q+0) 0).toNat:=(by intro h0;rw[byte,kN h0]);have oP:(cj kind).1<=52/\(cj kind).2<=9/\5<=(cj kind).2:=(by unfold cj;split<;>(try split)<;>decide);have Dx:([x0,x1,x2,x3,p0,p1,p2,R a,R b,R c]:List Value)[4+kind]? =some ([p0,p1,p2].getD kind undef):=(by rcases(I:kind=0\/kind=1\/kind=2)with rfl|rfl|rfl<;>simp);have wD:([x0,x1,x2,x3,p0,p1,p2,R a,R b,R c]:List Value).set (4+kind) ([p0,p1,p2].getD kind undef)=[x0,x1,x2,x3,p0,p1,p2,R a,R b,R c]:=vg Dx;refine wj Tryz.func46 Tryz.ntmps46 [8,9] ?_;refine V 8 ?_;refine dJ J J (aA (PV hk) ?_);rintro e w1 ⟨rfl,rfl⟩;refine V 17 ?_;refine an J ?_ ?_<;>intro IA
 obtain rfl:mode=0:=IA;refine a9 (bL h [0,4,8,16,20,15,24,31] ?_);intro w h;refine av 5 ?_;refine pY J J J (aA (Xd h hk) ?_);rintro e w1 ⟨tb,cb,rfl,h⟩;refine av 1 ?_;refine cV (.pointer _) Dx ?_;intro w h;refine cm ?_;refine V 6 ?_;exact⟨true,ji kind,0,[(af tb [cf cb (ji kind).cells.length (ji kind).cells.length,R (ji kind).log] 124),(af cb (fQ (ji kind).cells) 126)],_,J,(by unfold kf;rw[ai J];rfl),λ_=>⟨tb,cb,J,e_ ..,ar bF⟩,h.mv 2⟩
 refine V 5 ?_;refine an J ?_ ?_<;>intro Bd
 obtain rfl:mode=1:=Bd;refine V 7 ?_;refine d' (t:=38) J (λaqp=>?_) (λaqp=>?_)
 refine V 8 ?_;refine iI J ?_;refine V 6 ?_;exact⟨false,po 0,0,[],_,J,(by unfold kf;rw[ag I,ai J,ai (Or.inl I)];rfl),(by intro e;cases e),(by rw[wD];exact h)⟩
 refine V 1 ?_;refine dn J J J (cI (a:=0) (W:=ao.lit _) J J (a8 I) I) J (dn J J J (run_load h J (gl I)) J ?_);refine V 5 ?_;refine an J ?_ ?_<;>intro Dy
 refine V 6 ?_;exact⟨false,po 0,0,[],_,J,(by unfold kf;rw[ag I,ai J,ai (Or.inr (by rw[mZ I];exact Dy))];rfl),(by intro e;cases e),(by rw[wD];exact h)⟩
 refine V 4 ?_;refine ah (cI (a:=0) (W:=ao.lit _) J J (a8 I) I) (aO h J (gl I) ?_);refine V 1 ?_;refine dJ J J (aA (aeD (sym:=(D.getD (q+0) 0).toNat) h) ?_);rintro e w1 ⟨cb,rfl,h⟩;refine eh h J ?_;intro bt w h;refine b7 ?_;intro w h;refine V 8 ?_;refine cV (.pointer _) Dx ?_;intro w h;refine V 7 ?_;exact⟨true,po (D.getD (q+0) 0).toNat,1,[(af bt [cf cb 1 1,R 0] 124),(af cb (fQ [⟨(D.getD (q+0) 0).toNat,0,0⟩]) 126)],_,J,(by unfold kf;rw[ag I,ai J,ag (by rw[mZ I];intro h';rcases h' with h'|h'<;>omega),mZ I];rfl),λ_=>⟨bt,cb,J,e_ ..,ar bF⟩,h.mv 2⟩
 refine V 5 ?_;refine an J ?_ ?_<;>intro FA
 obtain rfl:mode=2:=FA;refine V 6 ?_;refine ee J J J J (aA (aeM (lG:=(cj kind).2) (symbols:=(cj kind).1+1) h (ar (g8 _ hm)) a8 hq hlen oP.2.1 I) ?_);rintro e w1 ⟨ok,out,lg,size,ob,cp,sp,rfl,hP,fu,h⟩;refine V 14 ?_;refine ah (j8 J) (aC (eA J ?_ ?_))<;>intro IL
 (have tL:ok=false:=by cases ok<;>first|rfl| (exfalso;revert IL;decide));refine V 6 ?_;subst tL;exact⟨false,po 0,0,[],_,J,(by unfold kf;rw[ag I,ag I,ai J,dK,hP];rfl),(by intro e;cases e),(by rw[wD];exact h.tail)⟩
 (obtain rfl:ok=true:=by cases ok<;>first|rfl| (exfalso;revert IL;decide));rw[ai J]at hP;have cS:=Dt hP oP.2.1 I
 obtain⟨bH,rfl⟩: ∃bH,ob=some bH:=by
  cases ob with
  |none=>have:=fu.2.2.2 J;have:=cS.1.IC;have:=fu.2.2.1;omega
  |some bH=>exact⟨bH,J⟩
 refine V 5 ?_;refine b_ J J J (aA (Fw (sb:=bH) (shares:=out) (sp:=sp) (log:=lg) h bF cS.1 fu.2.2.1) ?_);rintro e w1 ⟨cb,rfl,h⟩;refine eh h J ?_;intro bt w h;refine b7 ?_;intro w h;refine V 8 ?_;refine cV (.pointer _) Dx ?_;intro w h;refine V 8 ?_;exact⟨true,⟨cY out lg,lg⟩,size,[(af bt [cf cb (2^lg) (2^lg),R lg] 124),(af cb (fQ (cY out lg)) 126)],_,J,(by unfold kf;rw[ag I,ag I,ai J,dK,hP];rfl),λ_=>⟨bt,cb,J,(by rw[zu];exact e_ ..),ar bF⟩,(h.mv 2).tail.mv 2⟩
 obtain rfl:mode=3:=I
 obtain⟨pp,Be,hpo⟩: ∃pp:Option Addr,[p0,p1,p2].getD kind undef= .pointer pp/\pp.isSome=gY.isSome:=by
  cases gY with
  |none=>exact⟨none,hold,J⟩
  |some t=>obtain⟨tb,cb,e,_⟩:=hold;exact⟨_,e,J⟩
 refine aQ (a9 (bL h [0,4,8,12,16,28,21,24,32] ?_));intro w h;refine av 5 ?_;refine aw J (zl 0 J (ao.lit _).eq) (aK J h J (Dx.trans (b8 some Be)) (aw J (aqk J J) (eY J (cm (iG ?_)))))
 cases gY with
 |none=>exact⟨false,po 0,0,[],_,by rw[hpo];rfl,(by unfold kf;rw[ag I,ag I,ag I];rfl),(by intro e;cases e),(by rw[wD];exact h)⟩
 |some t=>exact⟨true,t,0,[],_,by rw[hpo];rfl,(by unfold kf;rw[ag I,ag I,ag I];rfl),λ_=>hold,(by rw[wD];exact h)⟩
variable {many:Nat}{P:Program}{t:Tr}
def tM(F:List aD)(p:Value)(t:Tr):Prop:= ∃tb sy bi c1 c2 bJ cG,p= .pointer (some ⟨tb,0,none⟩)/\(some tb,C [.slice (some ⟨sy,0,none⟩) t.syms.length c1,.slice (some ⟨bi,0,none⟩) t.bits.length c2,R t.ak] 146)∈F/\
 (some sy,C (t.syms.map R++bJ) 3)∈F/\(some bi,C (t.bits.map R++cG) 3)∈F
theorem tM.sub(h:tM F p t)(hs:Sub F F'):tM F' p t:=by
 obtain⟨tb,sy,bi,c1,c2,bJ,cG,W,h2,h3,h4⟩:=h;exact⟨tb,sy,bi,c1,c2,bJ,cG,W,hs _ h2,hs _ h3,hs _ h4⟩
def vo(F:List aD)(p:Value):Option Tr->Prop
 |none=>p= .pointer none
 |some t=>tM F p t
theorem vo.sub{o:Option Tr}(h:vo F p o)(hs:Sub F F'):vo F' p o:=by
 cases o with
 |none=>exact h
 |some t=>exact tM.sub h hs
structure wE(t:Tr):Prop where
 syms:t.syms.length=2^t.ak
 bits:t.bits.length=2^t.ak
 ak:t.ak<=11
 aqq:1<=t.ak
 le: ∀i,t.bits.getD i 0<=11
theorem Xf{N left:Nat}{t:Tr}(ht:wE t): ∀i:Nat,(left:Int) -11*i<=(fi N t left i).1/\(fi N t left i).1<=left
 |0=>by simp[fi]
 |i+1=>by have ih:=Xf (N:=N) (left:=left) ht i;have:=ht.le (dS N (fi N t left i).1 t.ak);simp only[fi];omega
theorem Xg(l:List UInt8)(x:UInt8):List.map u8 l++[u8 x]=List.map u8 (l++[x]):=by simp
theorem aqr{ρ:Env}{A B ty:TypeId}{x:Operand}{v:Int}{n:Nat}{k:IntKind}[hA:bO P A (.int k)] [hB:bO P B (.int .u8)](hx:Env.ev ρ x= .int k v) [W:ao v n]:run P ρ (.convert A B x) ty w= .ok (.value (u8 (UInt8.ofNat n))) w:=by
 rw[CL hx J];simp[aG]
theorem Xh{E:List UInt8}{left:Nat}(h:iV E=some left):left<8*E.length:=by
 unfold iV at h;split at h
 cases h
 rename_i hn;cases h;have W:zw E<256:=(E.getD (E.length-1) 0).toNat_lt;have h2:(zw E).log2<8:=(qI I).2 I;omega
theorem aeN{D:List UInt8}{len:Nat}(h:H r w F)(hm:(af db (D.map u8) T)∈F)(a8:0<len->ad=some ⟨db,q,none⟩)(hq:q+len<=D.length)(hlen:len<=140737488355328)(ht:tM F p t)(kg:wE t)(Dz:many<=1048576):Calls PP 72 #[p,.slice ad len cap,R many] w λe w'=> ∃v out ob c sp,gz (aa D q len) t many=(v,out)/\e= .returned (.tuple #[.slice (aB ob) out.length c,R v])/\bG ob out.length c (out.map u8) sp 1/\H r w' ((ob,C (out.map u8++sp) 5)::F):=by
 obtain⟨vd,ve⟩:=cX hm;obtain⟨tb,sy,bi,c1,c2,bJ,cG,rfl,m4,zE,Qe⟩:=ht;obtain⟨Qf,Qg⟩:=cX m4;obtain⟨Xi,Xj⟩:=cX zE;obtain⟨it3,aqs⟩:=cX Qe;have dK:=dx hq;have jG: ∀N l,dS N l t.ak<2^t.ak:=λN l=>u6 N l _;have yi:=kg.syms;have kG:=kg.bits;have htm:=kg.ak;refine mW Tryz.func72 Tryz.ntmps72 [6,7] ?_;refine V 12 ?_;refine an J ?_ ?_<;>intro IM
 refine V 6 ?_;exact⟨0,[],none,0,[],(by unfold gz;rw[ai I]),J,bG.nil,h.ghost _⟩
 refine V 4 ?_;refine dJ J J (aA (Xe h hm a8 hq hlen) ?_);rintro e w1 ⟨ok,bo,left,rfl,eM,Bf,iW,h⟩;refine V 10 ?_;refine ah (j8 J) (aC (eA J ?_ ?_))<;>intro Dc
 (obtain rfl:ok=false:=by cases ok<;>first|rfl| (exfalso;revert Dc;decide));obtain rfl:=iW J;refine V 6 ?_;exact⟨2,[],none,0,[],(by unfold gz;rw[ag I,eM];rfl),J,bG.nil,h.tail.ghost _⟩
 (obtain rfl:ok=true:=by cases ok<;>first|rfl| (exfalso;revert Dc;decide));obtain⟨bb,rfl⟩:=Bf J;rw[ai J]at eM;have vl:left<=8*len:=(by have:=Xh eM;omega);have gp:gz (aa D q len) t many=if(fi (num (aa D q len)) t left many).1≠0 then(0,[])else(1,(fi (num (aa D q len)) t left many).2):=(by unfold gz;rw[ag I,eM]);replace h:=(h.ghost (C (List.map u8 []++[]) 5)).mv 1;dsimp only[dB]at h;refine V 12 ?_;refine bQ (σ:=Nat×Option Nat×Nat×List Value) [(10,12),(24,59)] (λ⟨i,ob,c,sp⟩ ρ w=>Kn ρ [(24,R i),(10,.slice (aB ob) i c)]/\H r w ((af bb [.slice ad len cap,.int .i64 (fi (num (aa D q len)) t left i).1] 155)::(ob,C (List.map u8 (fi (num (aa D q len)) t left i).2++sp) 5)::F)/\(bG ob i c (List.map u8 (fi (num (aa D q len)) t left i).2) sp 1)/\(i<=many)) (λ⟨i,ob,c,sp⟩=>many-i) (0,none,0,[]) ⟨aq,h,bG.nil,bP _⟩ ?_;rintro⟨i,ob,c,sp⟩ ρ w ⟨⟨mC,rfl⟩,h,fu,hi⟩;have eT:=Xf (N:=num (aa D q len)) (left:=left) kg i;refine V 5 ?_;refine an J ?_ ?_<;>intro wq
 refine V 7 ?_;refine ah (iK [_,_] h J ⟨J,J,trivial⟩ J) (eh h J ?_);intro ba w h;refine b7 ?_;intro w h;refine V 7 ?_;refine b_ J J J (aA (Fm (left:=(fi (num (aa D q len)) t left i).1) (n:=t.ak) h (ar (ar hm)) a8 hq I I I I) ?_);rintro e w1 ⟨rfl,h⟩;replace h:=h.tail;have hk:=jG (num (aa D q len)) (fi (num (aa D q len)) t left i).1;refine V 3 ?_;refine bL h [0,4,8,16,20,24,32,13,29,36,41,44,48,52,59] ?_;intro w h;refine av 10 ?_;refine aK J h J (LU I) (aw J (oH J J (by have:=kg.le (dS (num (aa D q len)) (fi (num (aa D q len)) t left i).1 t.ak);omega) I) ?_);refine av 2 ?_;refine b7 ?_;intro w h;refine cm ?_;refine V 8 ?_;refine aO h J (LU I) (ah (aqr J) (kX J (kB _) h ?_));intro bz w h;refine kW (List.map u8 (fi (num (aa D q len)) t left i).2) sp [u8 (UInt8.ofNat (t.syms.getD (dS (num (aa D q len)) (fi (num (aa D q len)) t left i).1 t.ak) 0))] h 2 J J J fu (Src.slice (j:=0) (q2:=0) J ⟨J,trivial⟩ J) (by intro x hx;simp at hx;subst hx;rfl) I aj J ?_;intro w dy c9 dL h df fG eG;dsimp only[List.set]at h;rw[Xg]at h df;replace h:=h.tail;(try dsimp only[dB]at h);refine V 6 ?_;exact⟨aM,(i+1,dy,c9,dL),cw,aq,h,⟨by rw[bX,A9];omega,df,fG,eG⟩,I⟩
 obtain rfl:i=many:=I;refine V 8 ?_;refine ah (VT (v:=0) J J) (aC (an J ?_ ?_))<;>intro sQ
 refine V 6 ?_;exact⟨0,[],none,0,[],(by rw[gp,ai sQ]),J,bG.nil,h.tail.tail.ghost _⟩
 refine V 8 ?_;refine⟨1,(fi (num (aa D q len)) t left i).2,ob,c,sp,(by rw[gp,ag sQ]),?_,?_,h.tail⟩
 rw[A9];rfl
 rw[A9];exact fu
theorem aeO{L:List aD}{j size m c:Nat}{ob:Option Nat}{xs sp:List Value}(hj:L[j]? =some (ob,C (xs++sp) T))(hs:bG ob m c xs sp size):Src P r L size m (.slice (aB ob) m c) xs:=by
 cases ob with
 | none=>
   have W:=hs.2.2.2 J
   have h2:=hs.2.2.1
   obtain rfl:m=0:=I
   have h3:=hs.1
   obtain rfl:xs=[]:=kq.1 I
   exact Src.nil
 |some b=>exact Src.slice hj (Rd.left _ _) hs.1
theorem Qh(D:List UInt8)(q:Nat):num (aa D q 2)<=9223372036854775807:=by
 have:= @ph D q 2;omega
theorem aqt{D:List UInt8}{len:Nat}{four:Bool}(h:H r w F)(hm:(af db (D.map u8) T)∈F)(a8:0<len->ad=some ⟨db,q,none⟩)(hq:q+len<=D.length)(jt:len<=cap)(hlen:len<=140737488355328)(ht:tM F p t)(kg:wE t)(Dz:many<=1048576):Calls PP 62 #[p,.slice ad len cap,R many,.bool four] w λe w'=> ∃v out ob c sp,gZ (aa D q len) t many four=(v,out)/\e= .returned (.tuple #[.slice (aB ob) out.length c,R v])/\bG ob out.length c (out.map u8) sp 1/\H r w' ((ob,C (out.map u8++sp) 5)::F):=by
 obtain⟨vd,ve⟩:=cX hm;have dK:=dx hq;have eZ: ∀a b,a+b<=len->aa (aa D q len) a b=aa D (q+a) b:=λa b hab=>iL hab;refine wj Tryz.func62 Tryz.ntmps62 [8,9] ?_;refine V 9 ?_;refine ah (j8 J) (aC (eA J ?_ ?_))<;>intro L7
 (obtain rfl:four=false:=by cases four<;>first|rfl| (exfalso;revert L7;decide));refine V 5 ?_;refine ee J J J J (aA (aeN h hm a8 hq hlen ht kg Dz) ?_);rintro e w1 ⟨v,out,ob,c,sp,gp,rfl,fu,h⟩;refine V 6 ?_;exact⟨v,out,ob,c,sp,gp,J,fu,h⟩
 (obtain rfl:four=true:=by cases four<;>first|rfl| (exfalso;revert L7;decide));refine V 7 ?_;refine an J ?_ ?_<;>intro rH
 refine V 6 ?_;exact⟨0,[],none,0,[],(by unfold gZ;rw[ag aj,ai rH]),J,bG.nil,h.ghost _⟩
 refine V 8 ?_;refine an J ?_ ?_<;>intro Bg
 refine V 6 ?_;exact⟨2,[],none,0,[],(by unfold gZ;rw[ag aj,ag rH,ai I]),J,bG.nil,h.ghost _⟩
 have Qi:gZ (aa D q len) t many true=((fP (aa D q len) t many 4).1,(fP (aa D q len) t many 4).2.1):=(by unfold gZ;rw[ag aj,ag I,ag I]);refine aQ (a9 (bL h [0,4,12,16,24,28,11,23,35,38,40] ?_));intro w h;refine kA J (aw J (lX (c:=2) (W:=ao.lit _) J J I) (kA J (aw J (uX (a:=2) (W:=ao.lit _) (c:=4) (h2:=ao.lit _) J J J I I) (kA J (aw J (uX (a:=4) (W:=ao.lit _) (c:=6) (h2:=ao.lit _) J J J I I) (pY J J J ?_))))));have g9:=sK (ad:=ad) (q:=q+0) (len:=2) (cap:=cap-0) h hm (λ_=>a8 I) I I (Qh _ _);rw[<-eZ 0 2 I]at g9;refine g9.mono ?_;clear g9;rintro e w1 ⟨rfl,rfl⟩;refine⟨_,J,?_⟩;refine pY J J J ?_;have g9:=sK (ad:=cut ad cap 2 1) (q:=q+2) (len:=2) (cap:=cap-2) h hm (λ_=>eg (a8 I) I) I I (Qh _ _);rw[<-eZ 2 2 I]at g9;refine g9.mono ?_;clear g9;rintro e w1 ⟨rfl,rfl⟩;refine⟨_,J,?_⟩;refine pY J J J ?_;have g9:=sK (ad:=cut ad cap 4 1) (q:=q+4) (len:=2) (cap:=cap-4) h hm (λ_=>eg (a8 I) I) I I (Qh _ _);rw[<-eZ 4 2 I]at g9;refine g9.mono ?_;clear g9;rintro e w1 ⟨rfl,rfl⟩;refine⟨_,J,?_⟩;refine pf J J J J (kM _ _ _) h ?_;intro bs w h;refine eY J (cm ?_);refine V 3 ?_;refine ah (iY (a:=6) (W:=ao.lit _) J J I I) ?_;refine V 6 ?_;refine ah (mT (b:=4) (h2:=ao.lit _) J J I k_) ?_;refine V 12 ?_;replace h:=h.ghost (C (List.map u8 []++[]) 5);refine bQ (σ:=Nat×List UInt8×Nat×Option Addr×Option Nat×Nat×List Value) [(1,1),(8,9),(12,17),(46,86)] (λ⟨i,out,ps,nU,ob,c,sp⟩ ρ w=>Kn ρ [(46,R i),(12,.slice (aB ob) out.length c),(1,.slice nU (len-ps) (cap-ps))]/\H r w ((ob,C (List.map u8 out++sp) 5)::(af bs [R (num (aa (aa D q len) 0 2)),R (num (aa (aa D q len) 2 2)),R (num (aa (aa D q len) 4 2))] 3)::F)/\(bG ob out.length c (List.map u8 out) sp 1)/\(i<=4)/\(fP (aa D q len) t many i=(1,out,ps))/\(ps<=len)/\(0<len-ps->nU=some ⟨db,q+ps,none⟩)/\(out.length<=1048576*i)) (λ⟨i,out,ps,nU,ob,c,sp⟩=>4-i) (0,[],6,cut ad cap 6 1,none,0,[]) ⟨aq,h,bG.nil,I,J,I,(λh0=>eg (a8 I) I),(by simp)⟩ ?_;rintro⟨i,out,ps,nU,ob,c,sp⟩ ρ w ⟨⟨mD,rfl⟩,h,fu,hi,DA,p8,LC,zC⟩;refine V 5 ?_;refine an J ?_ ?_<;>intro tN
 have Xk:i≠3->([R (num (aa (aa D q len) 0 2)),R (num (aa (aa D q len) 2 2)),R (num (aa (aa D q len) 4 2))]:List Value)[i]? =some (R (num (aa (aa D q len) (2*i) 2))):=(by intro h3;rcases(I:i=0\/i=1\/i=2)with rfl|rfl|rfl<;>rfl);refine V 16 ?_;refine cD [(14,15),(52,61)] (λρ w=> ∃n size:Nat,Kn ρ [(14,R n),(15,R size)]/\H r w ((ob,C (List.map u8 out++sp) 5)::(af bs [R (num (aa (aa D q len) 0 2)),R (num (aa (aa D q len) 2 2)),R (num (aa (aa D q len) 4 2))] 3)::F)/\(n=(if i=3 then many-3*((many+3)/4)else(many+3)/4))/\(size=(if i=3 then len-ps else num (aa (aa D q len) (2*i) 2)))) ?_ ?_
 refine V 5 ?_;refine an J ?_ ?_<;>intro DC
 refine V 7 ?_;exact⟨aM,many-3*((many+3)/4),len-ps,aq,h,(by rw[ai DC]),(by rw[ai DC])⟩
 replace Xk:=Xk DC;refine V 4 ?_;exact aO h J Xk (dI (aC ⟨aM,(many+3)/4,num (aa (aa D q len) (2*i) 2),aq,h,(by rw[ag DC]),(by rw[ag DC])⟩))
 rintro ρ w ⟨n,size,⟨k5,rfl⟩,h,hn,ia⟩;have L3:n<=many:=(by rw[hn];split<;>omega);refine V 8 ?_;refine an J ?_ ?_<;>intro Df
 refine V 6 ?_;have dd:fP (aa D q len) t many (i+1)=(2,[],0):=(by rw[fP];dsimp only;rw[DA,ag (λe=>e J),<-hn,dK,<-ia];rw[ai I]);have Dv:=LY (i:=i+1) (E:=(aa D q len)) (t:=t) (many:=many) (by rw[dd];decide) (I:i+1<=4);exact⟨2,[],none,0,[],(by rw[Qi,Dv,dd]),J,bG.nil,h.tail.tail.ghost _⟩
 refine V 7 ?_;refine an J ?_ ?_<;>intro IN
 refine V 6 ?_;have dd:fP (aa D q len) t many (i+1)=(0,[],0):=(by rw[fP];dsimp only;rw[DA,ag (λe=>e J),<-hn,dK,<-ia];rw[ag I,ai IN]);have Dv:=LY (i:=i+1) (E:=(aa D q len)) (t:=t) (many:=many) (by rw[dd];decide) (I:i+1<=4);exact⟨0,[],none,0,[],(by rw[Qi,Dv,dd]),J,bG.nil,h.tail.tail.ghost _⟩
 refine V 6 ?_;refine ah (lX J J I) (cM (ee J J J J (aA (aeN (ad:=nU) (q:=q+ps) (len:=size) h (ar (ar hm)) (λh0=>LC I) I I (ht.sub (Sub.Xa _ _ _)) kg I) ?_)));rintro e w1 ⟨v1,part,bI,c1,bJ,gp,rfl,zF,h⟩;have yj:=W6 (aa D (q+ps) size) t n;rw[gp]at yj;dsimp only at yj;rw[<-eZ ps size I]at gp;refine V 12 ?_;refine an J ?_ ?_<;>intro Qd
 refine V 7 ?_;have dd:fP (aa D q len) t many (i+1)=(v1,[],0):=(by rw[fP];dsimp only;rw[DA,ag (λe=>e J),<-hn,dK,<-ia];rw[ag I,ag IN,gp];dsimp only;rw[ai I]);have Dv:=LY (i:=i+1) (E:=(aa D q len)) (t:=t) (many:=many) (by rw[dd];dsimp only;omega) (I:i+1<=4);exact⟨v1,[],none,0,[],(by rw[Qi,Dv,dd]),J,bG.nil,h.tail.tail.tail.ghost _⟩
 refine aQ (bL h [0,4,12,16,20,11,24,28] ?_);intro w h;refine av 4 ?_;refine aw J (iY J J I I) (mV (List.map u8 out) sp (part.map u8) J h 1 J J J fu (aeO (j:=0) J zF) (by intro x hx;obtain⟨y,_,rfl⟩:=jd.1 hx;rfl) I aj J ?_);intro w dy c9 dL h df fG eG;dsimp only[List.set]at h;rw[<-f_]at h df;refine av 3 ?_;refine V 4 ?_;replace h:=h.tail;(try dsimp only[dB]at h);refine⟨aM,?_⟩;have gr:v1=1:=I;have fF:part.length=n:=I;have dd:fP (aa D q len) t many (i+1)=(1,out++part,ps+size):=(by rw[fP];dsimp only;rw[DA,ag (λe=>e J),<-hn,dK,<-ia,ag I,ag I,gp];dsimp only;rw[ag I]);refine⟨(i+1,out++part,ps+size,cut nU (cap-ps) size 1,dy,c9,dL),cw,?_⟩;refine⟨Kn.mk ⟨J,iJ J (by rw[aF]) J,iJ J I I,trivial⟩,?_⟩;refine⟨h,⟨by rw[bX,aF,eC],by rw[df],by rw[aF];exact fG,eG⟩,?_⟩;refine⟨I,dd,I,?_,(by rw[aF];omega)⟩;intro h0;rw[<-gQ];exact eg (LC I) I
 obtain rfl:i=4:=I;refine V 8 ?_;exact⟨1,out,ob,c,sp,(by rw[Qi,DA]),J,fu,(h.mv 1).tail⟩
end Go.Z
namespace Go.Z
variable {ws:List Nat}{l m rest sum:Nat}
def w2(w:Nat):Nat:=if 0<w then 2^(w-1)else 0
def fj(ws:List Nat):Nat->Nat
 |0=>0
 |i+1=>fj ws i+w2 (ws.getD i 0)
def l5(sum:Nat):Nat:=sum.log2+1
def rJ(rest:Nat):Nat:=if rest<=1 then 1 else(rest-1).log2+2
def eW(al:List Nat)(ak w:Nat):Nat->List (Nat×Nat)
 |0=> []
 |i+1=>eW al ak w i++(if al.getD i 0=w then List.replicate (2^(w-1)) (i,ak+1-w)else [])
def cW(al:List Nat)(ak:Nat):Nat->List (Nat×Nat)
 |0=> []
 |w+1=>cW al ak w++eW al ak (w+1) al.length
def l6(al:List Nat)(ak:Nat):Tr:=⟨(cW al ak ak).map (·.1),(cW al ak ak).map (·.2),ak⟩
def gL(ws:List Nat):Option Tr:=
 if ws.any (λw=>decide (11<w))=true then none
 else
   let sum:=fj ws ws.length
   if sum=0 then none
   else
     let ak:=l5 sum
     let last:=rJ (2^ak-sum)
     if 11<ak\/2^(last-1)≠2^ak-sum then none else some (l6 (ws++[last]) ak)
theorem aeP{w:Nat}(h:w<=11):w2 w<=1024:=by
 unfold w2;split
 exact aI (dp I (I:w-1<=10)) aj
 omega
theorem aeQ{ws:List Nat}: ∀{i:Nat},(∀j,j<i->ws.getD j 0<=11)->fj ws i<=1024*i
 |0,_=>by simp[fj]
 |i+1,h=>by have:=aeQ (ws:=ws) (i:=i) (λj hj=>h j I);have:=aeP (h i I);rw[fj];omega
theorem any_false(h: ∀j,j<ws.length->ws.getD j 0<=11):ws.any (λw=>decide (11<w))=false:=by
 rw[List.any_eq_false];intro x hx;obtain⟨j,hj,rfl⟩:=CD hx;have:=h j hj;simp[hj]at this;simpa using this
theorem any_true{j:Nat}(hj:j<ws.length)(h:11<ws.getD j 0):ws.any (λw=>decide (11<w))=true:=by
 rw[KS];refine⟨ws[j],za hj,?_⟩;simp[hj]at h;simpa using h
theorem aqu(hs:sum≠0)(h:2^m<=sum):m+1<=l5 sum:=by
 unfold l5;rcases dh sum.log2 m with h'|h'
 have:=(qI hs).1 h';omega
 omega
theorem aqv(h: ¬2^m<=sum)(hm:m<=l5 sum)(W:1<=m):m=l5 sum:=by
 unfold l5 at*;by_cases hs:sum=0
 subst hs;have:Nat.log2 0=0:=aj;omega
 have:=(qI hs).2 (I:sum<2^m);omega
theorem aqw(hl:1<=l)(h:2^(l-1)<rest):l+1<=rJ rest:=by
 unfold rJ;have h0:=ep (l-1);rw[ag I];rcases dh (rest-1).log2 (l-1)with h'|h'
 have:=(qI (I:rest-1≠0)).1 h';omega
 omega
theorem aqx(hl:1<=l)(h: ¬2^(l-1)<rest)(hm:l<=rJ rest):l=rJ rest:=by
 unfold rJ at*;by_cases hr:rest<=1
 rw[ai hr]at*;omega
 rw[ag hr]at*;have:=(qI (I:rest-1≠0)).2 (I:rest-1<2^(l-1));omega
theorem aqy(h:rest<=2^m):rJ rest<=m+1:=by
 unfold rJ;split
 omega
 have:=(qI (I:rest-1≠0)).2 (I:rest-1<2^m);omega
theorem Qj{al:List Nat}{ak w:Nat}: ∀{i:Nat} {x:Nat×Nat},x∈eW al ak w i->x.2=ak+1-w/\x.1<i/\al.getD x.1 0=w
 | i+1,x,h=>by
  rw[eW,nL]at h;rcases h with h|h
  have:=Qj h;exact⟨this.1,I,this.2.2⟩
  split at h
  rename_i e;rw[OY]at h;rw[h.2];exact⟨J,by simp,e⟩
  cases h
theorem Qk{al:List Nat}{ak:Nat}: ∀{w:Nat} {x:Nat×Nat},x∈cW al ak w->ak+1-w<=x.2/\x.2<=ak/\x.1<al.length
 | w+1,x,h=>by
  rw[cW,nL]at h;rcases h with h|h
  have:=Qk h;exact⟨I,this.2⟩
  have:=Qj h;omega
def vp(al:List Nat)(w:Nat):Nat->Nat
 |0=>0
 |i+1=>vp al w i+(if al.getD i 0<=w then w2 (al.getD i 0)else 0)
theorem Xl(al:List Nat)(ak w:Nat): ∀i,vp al (w+1) i=vp al w i+(eW al ak (w+1) i).length
 |0=>rfl
 | i+1=>by
  rw[vp,vp,eW,Xl al ak w i,aF];by_cases h:al.getD i 0=w+1
  rw[ai h,ai I,ag I,dR,h];simp[w2];omega
  rw[ag h];by_cases h':al.getD i 0<=w
  rw[ai I,ai h'];simp;omega
  rw[ag I,ag h'];simp
theorem aeR(al:List Nat): ∀i,vp al 0 i=0
 |0=>rfl
 | i+1=>by
  rw[vp,aeR al i];split
  rename_i h;have:al.getD i 0=0:=I;rw[this];rfl
  rfl
theorem Xm(al:List Nat)(ak:Nat): ∀w,(cW al ak w).length=vp al w al.length
 |0=>by rw[aeR];rfl
 |w+1=>by rw[cW,aF,Xm al ak w,Xl al ak w]
theorem aeS{al:List Nat}{w:Nat}: ∀{i},(∀j,j<i->al.getD j 0<=w)->vp al w i=fj al i
 |0,_=>rfl
 |i+1,h=>by rw[vp,fj,aeS (λj hj=>h j I),ai (h i I)]
theorem aeT{ws m:List Nat}: ∀{i},i<=ws.length->fj (ws++m) i=fj ws i
 |0,_=>rfl
 |i+1,h=>by rw[fj,fj,aeT I];congr 2;simp only[bS];rw[ir I]
theorem aeU{ws:List Nat}: ∀{i j:Nat},j<i->w2 (ws.getD j 0)<=fj ws i
 | i+1,j,h=>by
  rw[fj];by_cases e:j=i
  subst e;omega
  have:=aeU (ws:=ws) (I:j<i);omega
theorem L8{t:Tr}(h:gL ws=some t):wE t/\ ∀s∈t.syms,s<ws.length+1:=by
 unfold gL at h;split at h
 cases h
 rename_i IP;dsimp only at h;split at h
 cases h
 rename_i hs;split at h
 cases h
 rename_i hm;cases h;obtain⟨sum,vj⟩: ∃sum,fj ws ws.length=sum:=⟨_,J⟩;obtain⟨ak,oQ⟩: ∃ak,l5 sum=ak:=⟨_,J⟩;obtain⟨last,yk⟩: ∃last,rJ (2^ak-sum)=last:=⟨_,J⟩;rw[vj]at hs hm ⊢;rw[oQ]at hm ⊢;rw[yk]at hm ⊢;have jE:ak<=11:=I
 have kE:2^(last-1)=2^ak-sum:=by
  rcases Nat.decEq (2^(last-1)) (2^ak-sum)with e|e
  exact absurd (Or.inr e) hm
  exact e
 have cP:sum<2^ak:=(by rw[<-oQ];unfold l5;exact zb);have dE:1<=last:=(by rw[<-yk];unfold rJ;split<;>omega);have FB:last<=ak:=(by have h2:2^(last-1)<2^ak:=I;have:=(K0 (I:1<2)).1 h2;omega)
 have jr: ∀j,j<(ws++[last]).length->(ws++[last]).getD j 0<=ak:=by
  intro j hj;rw[aF,HZ]at hj;rcases dh j ws.length with h'|h'
  have e:(ws++[last]).getD j 0=ws.getD j 0:=(by simp only[bS];rw[ir h']);rw[e];have h3:=aeU (ws:=ws) h';rw[vj]at h3;rcases nO (ws.getD j 0)with h0|h0
  omega
  rw[w2,ai h0]at h3;have h4:2^(ws.getD j 0-1)<2^ak:=I;have:=(K0 (I:1<2)).1 h4;omega
  obtain rfl:j=ws.length:=I;simp;exact FB
 have hlen:(cW (ws++[last]) ak ak).length=2^ak:=(by rw[Xm,aeS jr,aF,HZ,fj,aeT (aR _),vj];have:(ws++[last]).getD ws.length 0=last:=(by simp);rw[this,w2,ai I,kE];omega);refine⟨⟨by simp[l6,hlen],by simp[l6,hlen],jE,?_,?_⟩,?_⟩
 show 1<=ak;rw[<-oQ];unfold l5;omega
 intro i;show((cW (ws++[last]) ak ak).map (·.2)).getD i 0<=11;rw[bS,kK]
 cases hx:(cW (ws++[last]) ak ak)[i]? with
 |none=>simp
 | some x=>
   have:=Qk (uJ hx)
   simp;omega
 intro s hs;simp only[l6,jd]at hs;obtain⟨x,hx,rfl⟩:=hs;have:=(Qk hx).2.2;rwa [aF,HZ]at this
end Go.Z
namespace Go.Z
open Go Go.Proofs
variable {al ws:List Nat}{sp:List Value}{c ak:Nat}{p:Prop}
theorem Ql(l:List Nat)(x:Nat):List.map R l++[R x]=List.map R (l++[x]):=by simp
def rS(l:List (Nat×Nat)):List Nat:=l.map (·.1)
def rB(l:List (Nat×Nat)):List Nat:=l.map (·.2)
theorem IQ(b:Nat)(l:List (Nat×Nat))(a:Nat):List.map R (rS l)++[R a]=List.map R (rS (l++[(a,b)])):=by simp[rS]
theorem aqz(a:Nat)(l:List (Nat×Nat))(b:Nat):List.map R (rB l)++[R b]=List.map R (rB (l++[(a,b)])):=by simp[rB]
theorem aqA(l:List (Nat×Nat)):(rS l).length=l.length:=by simp[rS]
theorem aqB(l:List (Nat×Nat)):(rB l).length=l.length:=by simp[rB]
theorem Xn(al:List Nat)(w:Nat)(hw:w<=11): ∀i,vp al w i<=1024*i
 |0=>by simp[vp]
 | i+1=>by
  have ih:=Xn al w hw i;rw[vp];split
  have:=aeP (I:al.getD i 0<=11);omega
  omega
theorem aqC{w0 i k:Nat}(hw:w0+1<=11)(ha:al.length<=257)(hi:i<=al.length)(hk:k<=2^(w0+1-1))(x:Nat×Nat):(cW al ak w0++eW al ak (w0+1) i++List.replicate k x).length<=1000000:=by
 have W:=Xm al ak w0;have h2:=Xl al ak w0 i;have h3:=Xn al w0 I al.length;have h4:=Xn al (w0+1) hw i;have h5:2^(w0+1-1)<=2^10:=dp I I;rw[aF,aF,dR];omega
theorem aqD(h:gL ws=some (l6 al ak)):(cW al ak ak).length=2^ak:=by
 have:=(L8 h).1.syms;simpa [l6] using this
theorem bG.some{ob:Option Nat}{nn size:Nat}{xs:List Value}(h:bG ob nn c xs sp size)(h0:0<nn): ∃s,ob=some s:=by
 cases ob with
 |none=>have:=h.2.2.2 J;have:=h.2.2.1;omega
 |some s=>exact⟨s,J⟩
theorem Bh{n m:Nat}(h:n<=m):2^n<=2^m:=dp I h
theorem Xo(h:p:=by intro w Xp Xq Xr h L9 FC Xs;dsimp only[List.set]at h;rw[aqz i]at h L9;refine av 2 ?_;refine b7 ?_;intro w h;refine av 2 ?_;refine b7 ?_;intro w h;refine cm ?_;refine V 4 ?_;replace h:=h.tail.tail;(try dsimp only[dB]at h);refine⟨aM,?_⟩;have ym:rows++[(i,ak+1- (w0+1))]=cW al ak w0++eW al ak (w0+1) i++List.replicate (k+1) (i,ak+1- (w0+1)):=(by rw[qZ,cF,<-CE]);have aqE:(rows++[(i,ak+1- (w0+1))]).length=rows.length+1:=(by simp);rw[<-aqE]at h tP FC;refine⟨(k+1,rows++[(i,ak+1- (w0+1))],DG,DH,Bi,Xp,Xq,Xr),cw,aq,h,⟨by rw[bX,aqA,eC],rK,tP,Bj⟩,⟨by rw[bX,aqB,eC],L9,FC,Xs⟩,I,ym⟩):p:=h
theorem Qm(h:p:=by refine mV (List.map R (rB rows)) cG [R (ak+1- (w0+1))] J h 4 J J J fH (Src.slice (j:=0) (q2:=0) J ⟨J,trivial⟩ J) (by intro x hx;simp at hx;subst hx;rfl) I aj J ?_;exact Xo):p:=h
theorem Xt(h:p:=by refine mV (List.map R (rS rows)) bJ [R i] J h 3 J J J eZ (Src.slice (j:=0) (q2:=0) J ⟨J,trivial⟩ J) (by intro x hx;simp at hx;subst hx;rfl) I aj J ?_;intro w DG DH Bi h rK tP Bj;dsimp only[List.set]at h;rw[IQ (ak+1- (w0+1))]at h rK;refine mV (List.map R (rB rows)) cG [R (ak+1- (w0+1))] J h 4 J J J fH (Src.slice (j:=1) (q2:=0) J ⟨J,trivial⟩ J) (by intro x hx;simp at hx;subst hx;rfl) I aj J ?_;exact Xo):p:=h
theorem Xu(h:p:=by refine mV (List.map R (rS rows)) bJ [R i] J h 3 J J J eZ (Src.slice (j:=1) (q2:=0) J ⟨J,trivial⟩ J) (by intro x hx;simp at hx;subst hx;rfl) I aj J ?_;intro w DG DH Bi h rK tP Bj;dsimp only[List.set]at h;rw[IQ (ak+1- (w0+1))]at h rK;exact Qm):p:=h
theorem aeV(h:p:=by refine mV (List.map R (rS rows)) bJ [R i] J h 2 J J J eZ (Src.slice (j:=0) (q2:=0) J ⟨J,trivial⟩ J) (by intro x hx;simp at hx;subst hx;rfl) I aj J ?_;intro w DG DH Bi h rK tP Bj;dsimp only[List.set]at h;rw[IQ (ak+1- (w0+1))]at h rK;refine ka J J (lB _) h ?_;intro bx w h;exact Qm):p:=h
theorem aqF{r:dQ}{w:World}{F:List aD}{wb:Nat}{T:TT}(h:H r w F)(hm:(af wb (ws.map R++sp) T)∈F)(hlen:ws.length<=256)(hc:ws.length<=c):Calls PP 71 #[cf wb ws.length c] w λe w'=> ∃ok t p G,e= .returned (.tuple #[p,.bool ok])/\gL ws=(if ok=true then some t else none)/\(ok=true->tM G p t)/\(ok=false->p= .pointer none)/\H r w' (G++F):=by
 obtain⟨vd,ve⟩:=cX hm;refine gD Tryz.func71 Tryz.ntmps71 [2,3] ?_;refine V 17 ?_;refine bQ (σ:=Nat) [(2,4),(6,6),(16,29)] (λi ρ w=>Kn ρ [(16,R i),(4,R (fj ws i))]/\H r w (F)/\(i<=ws.length)/\(∀j,j<i->ws.getD j 0<=11)) (λi=>ws.length-i) (0) ⟨aq,h,bP _,(by intro j hj;omega)⟩ ?_;rintro i ρ w ⟨⟨mC,rfl⟩,h,hi,hw⟩;have a8:=aeQ hw;refine V 5 ?_;refine an J ?_ ?_<;>intro mz
 refine V 5 ?_;refine ah (js J J (by first|rfl|assumption|exact sx J I|exact eg J I|exact eg (by assumption) I) I) ?_;refine aO h J (LU I) ?_;refine V 8 ?_;refine an J ?_ ?_<;>intro oR
 refine V 6 ?_;exact⟨false,⟨[],[],0⟩,.pointer none,[],J,(by unfold gL;rw[ai (any_true mz oR)];rfl),(by intro e;cases e),λ_=>rfl,h⟩
 refine V 6 ?_;refine an J ?_ ?_<;>intro tQ
 refine V 4 ?_;refine ah (gn J J dw (by have:=Bh (I:ws.getD i 0-1<=10);simp only[aG];omega)) ?_;refine ah (d_ J J (by have:=Bh (I:ws.getD i 0-1<=10);simp only[aG];omega)) ?_;refine V 6 ?_;refine⟨aM,?_⟩
 have xK: ∀j,j<i+1->ws.getD j 0<=11:=by
  intro j hj;rcases dh j i with h'|h'
  exact hw j h'
  obtain rfl:j=i:=I;omega
 exact⟨i+1,I,Kn.mk ⟨J,gy (by rw[fj,w2,ai tQ]),trivial⟩,h,I,xK⟩
 refine V 5 ?_;refine⟨aM,?_⟩
 have xK: ∀j,j<i+1->ws.getD j 0<=11:=by
  intro j hj;rcases dh j i with h'|h'
  exact hw j h'
  obtain rfl:j=i:=I;omega
 exact⟨i+1,I,Kn.mk ⟨J,gy (by rw[fj,w2,ag tQ];rfl),trivial⟩,h,I,xK⟩
 obtain rfl:i=ws.length:=I;have IP:=any_false hw;refine V 7 ?_;refine an J ?_ ?_<;>intro sJ
 refine V 6 ?_;exact⟨false,⟨[],[],0⟩,.pointer none,[],J,(by unfold gL;rw[ag (by rw[IP];decide),ai sJ];rfl),(by intro e;cases e),λ_=>rfl,h⟩
 have wG:(l5 (fj ws ws.length))<=19:=(by unfold l5;have:=(qI sJ).2 (I:fj ws ws.length<2^19);omega);have zG:fj ws ws.length<2^(l5 (fj ws ws.length)):=(by unfold l5;exact zb);refine V 7 ?_;refine bQ (σ:=Nat) [(7,7),(32,37)] (λm ρ w=>Kn ρ [(7,R m)]/\H r w (F)/\(1<=m)/\(m<=(l5 (fj ws ws.length)))) (λm=>(l5 (fj ws ws.length)) -m) (1) ⟨aq,h,I,(by unfold l5;omega)⟩ ?_;rintro m ρ w ⟨⟨k5,rfl⟩,h,jE,kE⟩;refine V 4 ?_;refine ah (gn J J dw (by have:=Bh (I:m<=20);simp only[aG];omega)) ?_;refine V 3 ?_;refine an J ?_ ?_<;>intro iP
 refine V 7 ?_;refine⟨aM,?_⟩;have lH:=aqu sJ iP;exact⟨m+1,I,aq,h,I,lH⟩
 have L_:=aqv iP kE jE;clear kE;obtain⟨ak,oQ⟩: ∃ak,ak=m:=⟨_,J⟩;rw[<-L_,<-oQ]at wG zG;subst oQ;have aqG:=Bh (I:ak<=20);have DI:rJ (2^ak-fj ws ws.length)<=ak+1:=aqy (vV _ _);refine V 7 ?_;refine bQ (σ:=Nat) [(8,8),(38,47)] (λl ρ w=>Kn ρ [(8,R l)]/\H r w (F)/\(1<=l)/\(l<=rJ (2^ak-fj ws ws.length))) (λl=>rJ (2^ak-fj ws ws.length) -l) (1) ⟨aq,h,I,(by unfold rJ;split<;>omega)⟩ ?_;rintro l ρ w ⟨⟨mD,rfl⟩,h,dE,hJ⟩;refine a9 (a9 (bL h [0,4,8,12,16,20,24,28] ?_));intro w h;refine av 2 ?_;refine aw J (gn J J dw (by have:=Bh (I:l-1<=20);simp only[aG];omega)) ?_;refine kA J (aw J (gn J J dw az) ?_);refine av 4 ?_;refine an J ?_ ?_<;>intro Dy
 refine V 7 ?_;refine⟨aM,?_⟩;have lH:=aqw dE Dy;exact⟨l+1,I,aq,h,I,lH⟩
 have hle:=aqx dE Dy hJ;clear hJ;obtain⟨last,yk⟩: ∃last,last=l:=⟨_,J⟩;subst yk;refine V 3 ?_;refine bL h [0,4,8,12,16,20,24,28,32,36,40,44] ?_;intro w h;refine av 3 ?_;refine AN (t:=50) J (λaqH=>?_) (λaqH=>?_)
 refine av 10 ?_;refine iI J ?_;refine V 6 ?_;exact⟨false,⟨[],[],0⟩,.pointer none,[],J,(by unfold gL;rw[ag (by rw[IP];decide)];dsimp only;rw[ag sJ,<-L_,<-hle,ai (Or.inl I)];rfl),(by intro e;cases e),λ_=>rfl,h⟩
 refine cZ J J J J (λw=>run_move) J (cZ J J J J (λw=>iz (b:=1) (h2:=ao.lit _) J J I k_) J (cZ J J J J (λw=>gn J J dw (by have:=Bh (I:last-1<=20);simp only[aG];omega)) J ?_));refine cZ J J J J (λw=>run_move) J (cZ J J J J (λw=>gn J J dw az) J ?_);refine cZ J J J J (λw=>run_move) J (cZ J J J J (λw=>iz J J I az) J (cZ J J J J (λw=>Ia J J) J ?_));refine av 2 ?_;refine an J ?_ ?_<;>intro rL
 refine V 6 ?_;exact⟨false,⟨[],[],0⟩,.pointer none,[],J,(by unfold gL;rw[ag (by rw[IP];decide)];dsimp only;rw[ag sJ,<-L_,<-hle,ai (Or.inr rL)];rfl),(by intro e;cases e),λ_=>rfl,h⟩
 have IS:gL ws=some (l6 (ws++[last]) ak):=(by unfold gL;rw[ag (by rw[IP];decide)];dsimp only;rw[ag sJ,<-L_,<-hle,ag (by intro h';rcases h' with h'|h';omega;exact rL h')]);have aGl:ak<=11:=I;clear IP sJ wG zG iP L_ aqG DI Dy hle hw a8 mz rL jE;refine V 4 ?_;replace h:=h.ghost (C ([]++[]) 3);refine kW (ob:=none) [] [] (ws.map R) h 0 J J J bG.nil (Src.slice (q2:=0) (Has.at_ (b:=wb)) (Rd.left _ _) (by simp)) (by intro x hx;obtain⟨y,_,rfl⟩:=jd.1 hx;rfl) I aj J ?_;intro w ob8 c8 sp8 h p9 xY ho8;dsimp only[List.set]at h;rw[List.nil_append]at h p9;refine cM (kX J (lB _) h ?_);intro bz w h;refine kW (ws.map R) sp8 [R last] h 1 J J J ⟨by simp,p9,xY,ho8⟩ (Src.slice (j:=0) (q2:=0) J ⟨J,trivial⟩ J) (by intro x hx;simp at hx;subst hx;rfl) I aj J ?_;intro w dy c9 dL h df fG eG;dsimp only[List.set]at h;rw[Ql]at h df
 obtain⟨ab,rfl⟩: ∃ab,dy=some ab:=by
  cases dy with
  |none=>have:=eG J;omega
  |some ab=>exact⟨ab,J⟩
 replace h:=h.tail;obtain⟨al,lJ⟩: ∃al,al=ws++[last]:=⟨_,J⟩;rw[<-lJ]at h;have jr:al.length=ws.length+1:=(by rw[lJ];simp);refine V 5 ?_;refine ah (Fe (ape _) J) (sB h J J J ?_);intro bt w h;refine V 8 ?_;replace h:=((h.ghost (C (List.map R []++[]) 3)).ghost (C (List.map R []++[]) 3)).mv 2;dsimp only[dB]at h;refine bQ (σ:=Nat×(List (Nat×Nat))×Option Nat×Nat×List Value×Option Nat×Nat×List Value) [(11,13),(68,112)] (λ⟨w0,rows,bI,c1,bJ,cr,c2,cG⟩ ρ w=>Kn ρ [(11,R (w0+1))]/\H r w ((af bt [.slice (aB bI) rows.length c1,.slice (aB cr) rows.length c2,R ak] 146)::(bI,C (List.map R (rS rows)++bJ) 3)::(cr,C (List.map R (rB rows)++cG) 3)::(af ab (List.map R al++dL) 3)::F)/\(bG bI rows.length c1 (List.map R (rS rows)) bJ 1)/\(bG cr rows.length c2 (List.map R (rB rows)) cG 1)/\(w0<=ak)/\(rows=cW al ak w0)) (λ⟨w0,rows,bI,c1,bJ,cr,c2,cG⟩=>ak-w0) (0,[],none,0,[],none,0,[]) ⟨aq,h,bG.nil,bG.nil,bP _,J⟩ ?_;rintro⟨w0,rows,bI,c1,bJ,cr,c2,cG⟩ ρ w ⟨⟨qY,rfl⟩,h,eZ,fH,nr,qZ⟩;refine V 7 ?_;refine an J ?_ ?_<;>intro Fv
 have aeW:=Bh (I:w0+1-1<=20);refine V 10 ?_;refine bQ (σ:=Nat×(List (Nat×Nat))×Option Nat×Nat×List Value×Option Nat×Nat×List Value) [(12,13),(75,112)] (λ⟨i,rows,bI,c1,bJ,cr,c2,cG⟩ ρ w=>Kn ρ [(75,R i)]/\H r w ((af bt [.slice (aB bI) rows.length c1,.slice (aB cr) rows.length c2,R ak] 146)::(bI,C (List.map R (rS rows)++bJ) 3)::(cr,C (List.map R (rB rows)++cG) 3)::(af ab (List.map R al++dL) 3)::F)/\(bG bI rows.length c1 (List.map R (rS rows)) bJ 1)/\(bG cr rows.length c2 (List.map R (rB rows)) cG 1)/\(i<=al.length)/\(rows=cW al ak w0++eW al ak (w0+1) i)) (λ⟨i,rows,bI,c1,bJ,cr,c2,cG⟩=>al.length-i) (0,rows,bI,c1,bJ,cr,c2,cG) ⟨aq,h,eZ,fH,bP _,(by rw[qZ,eW,dP])⟩ ?_;rintro⟨i,rows,bI,c1,bJ,cr,c2,cG⟩ ρ w ⟨⟨sO,rfl⟩,h,eZ,fH,hi,qZ⟩;refine V 5 ?_;refine an J ?_ ?_<;>intro aGm
 refine V 7 ?_;refine aO h J (LU I) ?_;refine V 10 ?_;refine an J ?_ ?_<;>intro Ma
 refine V 5 ?_;refine⟨aM,?_⟩
 first
   | (have ym:rows=cW al ak w0++eW al ak (w0+1) (i+1):=by rw[qZ,eW,ag Ma,dP]
      exact Exists.intro (i+1,rows,bI,c1,bJ,cr,c2,cG) ⟨cw,aq,h,eZ,fH,I,ym⟩)
   | (have cK:k=2^(w0+1-1):=I
      have ym:rows=cW al ak w0++eW al ak (w0+1) (i+1):=by rw[qZ,eW,ai aeX,cF,cK]
      have lK:=Bh (I:w0+1-1<=10)
      exact Exists.intro (i+1,rows,bI,c1,bJ,cr,c2,cG) ⟨cw,aq,h,eZ,fH,I,ym⟩)
 have aeX:al.getD i 0=w0+1:=I;refine V 5 ?_;refine ah (gn J J dw az) ?_;refine V 3 ?_;refine bQ (σ:=Nat×(List (Nat×Nat))×Option Nat×Nat×List Value×Option Nat×Nat×List Value) [(86,111)] (λ⟨k,rows,bI,c1,bJ,cr,c2,cG⟩ ρ w=>Kn ρ [(86,R k)]/\H r w ((af bt [.slice (aB bI) rows.length c1,.slice (aB cr) rows.length c2,R ak] 146)::(bI,C (List.map R (rS rows)++bJ) 3)::(cr,C (List.map R (rB rows)++cG) 3)::(af ab (List.map R al++dL) 3)::F)/\(bG bI rows.length c1 (List.map R (rS rows)) bJ 1)/\(bG cr rows.length c2 (List.map R (rB rows)) cG 1)/\(k<=2^(w0+1-1))/\(rows=cW al ak w0++eW al ak (w0+1) i++List.replicate k (i,ak+1- (w0+1)))) (λ⟨k,rows,bI,c1,bJ,cr,c2,cG⟩=>2^(w0+1-1) -k) (0,rows,bI,c1,bJ,cr,c2,cG) ⟨aq,h,eZ,fH,bP _,(by rw[qZ,H0,dP])⟩ ?_;rintro⟨k,rows,bI,c1,bJ,cr,c2,cG⟩ ρ w ⟨⟨vk,rfl⟩,h,eZ,fH,hk,qZ⟩;refine V 5 ?_;refine an J ?_ ?_<;>intro FD
 have Bk:=aqC (al:=al) (ak:=ak) (I:w0+1<=11) (I:al.length<=257) hi hk (i,ak+1- (w0+1));rw[<-qZ]at Bk;refine V 3 ?_;refine wk h (cL [0,4,8,12,16,24,36,40,44,52,56,60,64,21] (.fork (cL [30] (.fork (cL [35,49,70,75,76,80,87,88,92,99] .nil) (.fork (cL [49] (.fork (cL [35,70,75,76,80,87,88,92,99] .nil) (cL [70,35,75,76,80,87,88,92,99] .nil))) (cL [70] (.fork (cL [35,49,75,76,80,87,88,92,99] .nil) (cL [49,35,75,76,80,87,88,92,99] .nil)))))) (.fork (cL [49] (.fork (cL [30] (.fork (cL [35,70,75,76,80,87,88,92,99] .nil) (cL [70,35,75,76,80,87,88,92,99] .nil))) (cL [70,30,35,75,76,80,87,88,92,99] .nil))) (cL [70] (.fork (cL [30] (.fork (cL [35,49,75,76,80,87,88,92,99] .nil) (cL [49,35,75,76,80,87,88,92,99] .nil))) (cL [49,30,35,75,76,80,87,88,92,99] .nil)))))) ?_;intro w h;refine av 14 ?_;refine gg ?_ ?_
 refine ka J J (lB _) h ?_;intro bz w h;refine gg ?_ ?_
 refine mV (List.map R (rS rows)) bJ [R i] J h 2 J J J eZ (Src.slice (j:=0) (q2:=0) J ⟨J,trivial⟩ J) (by intro x hx;simp at hx;subst hx;rfl) I aj J ?_;intro w DG DH Bi h rK tP Bj;dsimp only[List.set]at h;rw[IQ (ak+1- (w0+1))]at h rK;refine av 1 ?_;refine ka J J (lB _) h ?_;intro bx w h;exact Qm
 refine gg ?_ ?_
 refine av 1 ?_;refine gg ?_ ?_
 exact aeV
 refine ka J J (lB _) h ?_;intro bx w h;exact Xu
 refine ka J J (lB _) h ?_;intro bx w h;refine gg ?_ ?_
 refine mV (List.map R (rS rows)) bJ [R i] J h 3 J J J eZ (Src.slice (j:=1) (q2:=0) J ⟨J,trivial⟩ J) (by intro x hx;simp at hx;subst hx;rfl) I aj J ?_;intro w DG DH Bi h rK tP Bj;dsimp only[List.set]at h;rw[IQ (ak+1- (w0+1))]at h rK;refine av 1 ?_;exact Qm
 refine av 1 ?_;exact Xu
 refine gg ?_ ?_
 refine av 1 ?_;refine gg ?_ ?_
 refine ka J J (lB _) h ?_;intro bz w h;refine gg ?_ ?_
 exact aeV
 refine ka J J (lB _) h ?_;intro bx w h;exact Xu
 refine ka J J (lB _) h ?_;intro bx w h;refine ka J J (lB _) h ?_;intro bz w h;exact Xt
 refine ka J J (lB _) h ?_;intro bx w h;refine gg ?_ ?_
 refine ka J J (lB _) h ?_;intro bz w h;refine gg ?_ ?_
 refine mV (List.map R (rS rows)) bJ [R i] J h 3 J J J eZ (Src.slice (j:=0) (q2:=0) J ⟨J,trivial⟩ J) (by intro x hx;simp at hx;subst hx;rfl) I aj J ?_;intro w DG DH Bi h rK tP Bj;dsimp only[List.set]at h;rw[IQ (ak+1- (w0+1))]at h rK;refine av 1 ?_;refine mV (List.map R (rB rows)) cG [R (ak+1- (w0+1))] J h 4 J J J fH (Src.slice (j:=1) (q2:=0) J ⟨J,trivial⟩ J) (by intro x hx;simp at hx;subst hx;rfl) I aj J ?_;exact Xo
 refine av 1 ?_;exact Xt
 refine av 1 ?_;refine ka J J (lB _) h ?_;intro bz w h;exact Xt
 refine V 5 ?_;refine⟨aM,?_⟩
 first
   | (have ym:rows=cW al ak w0++eW al ak (w0+1) (i+1):=by rw[qZ,eW,ag Ma,dP]
      exact Exists.intro (i+1,rows,bI,c1,bJ,cr,c2,cG) ⟨cw,aq,h,eZ,fH,I,ym⟩)
   | (have cK:k=2^(w0+1-1):=I
      have ym:rows=cW al ak w0++eW al ak (w0+1) (i+1):=by rw[qZ,eW,ai aeX,cF,cK]
      have lK:=Bh (I:w0+1-1<=10)
      exact Exists.intro (i+1,rows,bI,c1,bJ,cr,c2,cG) ⟨cw,aq,h,eZ,fH,I,ym⟩)
 have hiE:i=al.length:=I;refine V 6 ?_;refine⟨aM,?_⟩;have ym:rows=cW al ak (w0+1):=(by rw[qZ,hiE,cW]);refine⟨(w0+1,rows,bI,c1,bJ,cr,c2,cG),?_⟩;refine⟨cw,?_⟩;refine⟨aq,?_⟩;refine⟨h,?_⟩;exact⟨eZ,fH,I,ym⟩
 have wH:w0=ak:=Nat.le_antisymm nr (K2 (vW Fv));rw[wH]at qZ;refine V 8 ?_;rw[lJ]at qZ;have zA:=aqD IS;rw[<-qZ]at zA;have kP:0<rows.length:=(by rw[zA];exact ep _);refine(bG.some eZ kP).elim λs1 es1=>?_;rw[es1]at h;refine(bG.some fH kP).elim λs2 es2=>?_;rw[es2]at h;refine⟨true,_,_,[(af bt [.slice (aB (some s1)) rows.length c1,.slice (aB (some s2)) rows.length c2,R ak] 146),(af s1 (List.map R (rS rows)++bJ) 3),(af s2 (List.map R (rB rows)++cG) 3)],J,by rw[IS];rfl,λ_=>?_,(by intro e;cases e),((h.mv 3).tail)⟩;refine⟨bt,s1,s2,c1,c2,bJ,cG,J,?_,?_,?_⟩
 show _∈(_::_);unfold l6;rw[<-qZ,bX,bX];exact e_ ..
 unfold l6;rw[<-qZ];exact ar bF
 unfold l6;rw[<-qZ];exact ar (ar bF)
end Go.Z
namespace Go.Z
theorem Xv{size log:Nat}{shares:List Int}{cs:List de}(hc:cs.length=size): ∀{n x:Nat},neg shares n<=size->size-neg shares n<=x->x<size-> ∃s,s<n/\(top size log shares cs n).getD x default=⟨s,log,0⟩/\shares.getD s 0= -1
 |0,x,_,W,h2=>by simp[neg]at W;omega
 | n+1,x,h0,W,h2=>by
  have hm:= @zq shares n (n+1) I;by_cases h:shares.getD n 0= -1
  have hn:neg shares (n+1)=neg shares n+1:=(by rw[neg,ai h]);rw[top,ai h];by_cases e:size-neg shares (n+1)=x
  refine⟨n,I,?_,h⟩;rw[eE,ai ⟨e,by rw[yg];omega⟩]
  obtain⟨s,hs,e2,e3⟩:=Xv (log:=log) (shares:=shares) (cs:=cs) hc (n:=n) (x:=x) I I h2;refine⟨s,I,?_,e3⟩;rw[eE,ag I,e2]
  have hn:neg shares (n+1)=neg shares n:=(by rw[neg,ag h];omega);obtain⟨s,hs,e2,e3⟩:=Xv (log:=log) (shares:=shares) (cs:=cs) hc (n:=n) (x:=x) I I h2;exact⟨s,I,by rw[top,ag h,e2],e3⟩
theorem Xw{log:Nat}{shares:List Int}{cs:List de}{i:Nat}(hi:i<cs.length): ∀{j:Nat},i<j->(fin log shares cs j).2.getD i default=⟨(cs.getD i default).sym,gK log ((fin log shares cs i).1.getD (cs.getD i default).sym 0).toNat,((fin log shares cs i).1.getD (cs.getD i default).sym 0).toNat*2^gK log ((fin log shares cs i).1.getD (cs.getD i default).sym 0).toNat-2^log⟩
 | j+1,h=>by
  rw[fin];simp only;by_cases e:i=j
  subst e;rw[eE,ai ⟨J,by rw[(zr _ _ _ _).2];exact hi⟩,zt (aR _)]
  rw[eE,ag I,Xw hi I]
theorem aeY{log n:Nat}(W:1<=n)(h2:n<2^(log+1)):gK log n<=log/\2^log<=n*2^gK log n/\n*2^gK log n+2^gK log n<=2*2^log:=by
 have hn:n≠0:=I;have hl:n.log2<=log:=(by have:=(qI hn).2 h2;omega);have ha:=HU hn;have hb:= @zb n;have e1:2^n.log2*2^gK log n=2^log:=(by rw[<-ks];congr 1;unfold gK;omega);have e2:2^(n.log2+1)*2^gK log n=2*2^log:=(by rw[jT,iu _ 2,tg,e1]);refine⟨by unfold gK;omega,?_,?_⟩
 rw[<-e1];exact sj _ ha
 rw[<-e2];have:=sj (2^gK log n) (show n+1<=2^(n.log2+1)from hb);rw[vU]at this;exact this
theorem FE{shares:List Int}{log:Nat}(h:gW shares log){i:Nat}(hi:i<2^log):((cY shares log).getD i default).bits<=log/\((cY shares log).getD i default).base+2^((cY shares log).getD i default).bits<=2^log/\((cY shares log).getD i default).sym<shares.length/\shares.getD ((cY shares log).getD i default).sym 0≠0:=by
 unfold cY;rcases dh i (high shares log)with W|W
 obtain⟨s,e,h2,h3⟩:=ID h W;rw[Xw (by rw[LQ];exact hi) W,e];simp only;obtain⟨n,hn⟩: ∃n,n=(fin log shares (spread shares log) i).1.getD s 0:=⟨_,J⟩;have h4:= @WS log shares (spread shares log) s i;rw[<-hn]at h4 ⊢;have h5:=h.hi s;have e2:((2:Int)^log)=((2^log:Nat):Int):=(by simp);have h6:=h.wz;have h7:2^(log+1)=2*2^log:=(by rw[jT];omega);have:= @aeY log n.toNat I I;exact⟨this.1,I,h2,I⟩
 rw[zt W];unfold spread;rw[LP W];have hs:=h.sum;obtain⟨s,h2,h3,h4⟩:=Xv (log:=log) (shares:=shares) (cs:=List.replicate (2^log) (default:de)) (size:=2^log) (by simp) (n:=shares.length) (x:=i) I W hi;rw[h3];refine⟨aR _,?_,h2,by simp only;omega⟩;simp only;omega
def rM(N:Nat)(cs:List de):Nat->Nat->Nat->Int->List Nat->Option (List Nat)
 |0,_,_,_,_=>none
 | f+1,cur,tR,left,out=>
   let c:=cs.getD cur default
   if left-c.bits<0 then(if out.length+2<=255 then some (out++[c.sym]++[(cs.getD tR default).sym])else none)
   else if 255<out.length+1 then none
   else rM N cs f tR (c.base+dS N left c.bits) (left-c.bits) (out++[c.sym])
def wF(E:List UInt8):Option (List Nat):=
 match ft (num E) E.length 6 256 with
 |none=>none
 | some x=>
   let E2:=E.drop (min x.2.2 E.length)
   match iV E2 with
   |none=>none
   | some left=>
     let lg:=x.2.1
     let cs:=cY x.1 lg
     if(left:Int) -lg-lg<0 then none
     else rM (num E2) cs 257 (dS (num E2) left lg) (dS (num E2) ((left:Int) -lg) lg) ((left:Int) -lg-lg) []
theorem aeZ{N:Nat}{cs:List de}: ∀{f cur tR:Nat} {left:Int} {out ws:List Nat},rM N cs f cur tR left out=some ws->ws.length<=255/\2<=ws.length
 | f+1,cur,tR,left,out,ws,h=>by
  rw[rM]at h;split at h
  split at h
  cases h;simp;omega
  cases h
  split at h
  cases h
  exact aeZ h
theorem Xx(N:Nat)(cs:List de)(f cur tR:Nat)(left:Int)(out:List Nat):rM N cs (f+1) cur tR left out=
 if left- (cs.getD cur default).bits<0 then(if out.length+2<=255 then some (out++[(cs.getD cur default).sym]++[(cs.getD tR default).sym])else none)
 else if 255<out.length+1 then none
 else rM N cs f tR ((cs.getD cur default).base+dS N left (cs.getD cur default).bits) (left- (cs.getD cur default).bits) (out++[(cs.getD cur default).sym]):=rfl
attribute [irreducible] rM
theorem Qn(c:de): ∃x y z,c=⟨x,y,z⟩:=⟨_,_,_,J⟩
theorem aGn{α:Type}(a:α): ∃b,a=b:=⟨a,J⟩
def gA(E:List UInt8):Option (Tr×Nat):=
 if E.length=0 then none
 else
   let b:=byte E 0
   let size:=if 128<=b then(b-127+1)/2 else b
   if E.length<1+size then none
   else if 128<=b then(gL ((List.range (b-127)).map λi=>byte E (1+i/2)/2^(4-i % 2*4) % 16)).map λt=>(t,1+size)
   else(wF (aa E 1 size)).bind λws=>(gL ws).map λt=>(t,1+size)
end Go.Z
namespace Go.Z
open Go Go.Proofs
variable {i q x0 x1 y:Nat}
theorem aqI{D:List UInt8}{len size:Nat}:(aa D q len).drop (min size len)=aa D (q+min size len) (len-min size len):=sI
theorem Xy(hi:i=0\/i=1):([R x0,R x1]:List Value)[i]? =some (R (if i=0 then x0 else x1)):=by
 rcases hi with rfl|rfl<;>rfl
theorem aqJ(hi:i=0\/i=1):([R x0,R x1]:List Value).set i (R y)=[R (if i=0 then y else x0),R (if i=0 then x1 else y)]:=by
 rcases hi with rfl|rfl<;>rfl
theorem aqK(hi:i=0\/i=1):([R (if i=0 then y else x0),R (if i=0 then x1 else y)]:List Value)[1-i]? =some (R (if i=0 then x1 else x0)):=by
 rcases hi with rfl|rfl<;>rfl
theorem aqL{a a' b b':Value}(h:a=a')(h':b=b'):Ending.returned (.tuple #[a,b])= .returned (.tuple #[a',b']):=by rw[h,h']
theorem aqM{r:dQ}{w:World}{F:List aD}{db:Nat}{ad:Option Addr}{D:List UInt8}{len cap:Nat}{T:TT}(h:H r w F)(hm:(af db (D.map u8) T)∈F)(a8:0<len->ad=some ⟨db,q,none⟩)(hq:q+len<=D.length)(jt:len<=cap)(hlen:len<=140737488355328):Calls PP 70 #[.slice ad len cap] w λe w'=> ∃ok out ob c sp,e= .returned (.tuple #[.slice (aB ob) out.length c,.bool ok])/\wF (aa D q len)=(if ok=true then some out else none)/\bG ob out.length c (out.map R) sp 1/\H r w' ((ob,C (out.map R++sp) 3)::F):=by
 obtain⟨vd,ve⟩:=cX hm;have dK:=dx hq
 have hwf: ∀shares lg size,ft (num (aa D q len)) len 6 256=some (shares,lg,size)->wF (aa D q len)=match iV ((aa D q len).drop (min size len))with
     |none=>none
     |some left=>if(left:Int) -lg-lg<0 then none else rM (num ((aa D q len).drop (min size len))) (cY shares lg) 257 (dS (num ((aa D q len).drop (min size len))) left lg) (dS (num ((aa D q len).drop (min size len))) ((left:Int) -lg) lg) ((left:Int) -lg-lg) []:=by
   intro shares lg size hp
   unfold wF;rw[dK,hp];try rfl
 refine gD Tryz.func70 Tryz.ntmps70 [2,3] ?_;refine V 8 ?_;refine ee (v1:=R 6) (v2:=R 256) J J J J (aA (aeM (lG:=6) (symbols:=256) h hm a8 hq I I I) ?_);rintro e w1 ⟨ok,shares,lg,size,ob,cp,sp,rfl,hP,fu,h⟩;refine V 14 ?_;refine ah (j8 J) (aC (eA J ?_ ?_))<;>intro oR
 (have tL:ok=false:=by cases ok<;>first|rfl| (exfalso;revert oR;decide));rw[tL]at hP;refine V 6 ?_;exact⟨false,[],none,0,[],J,(by unfold wF;rw[dK,hP];rfl),bG.nil,h.tail.ghost _⟩
 (obtain rfl:ok=true:=by cases ok<;>first|rfl| (exfalso;revert oR;decide));rw[ai J]at hP;have cS:=Dt hP I I;obtain⟨bH,rfl⟩:=fu.some cS.1.IC;have FF:=hwf _ _ _ hP;rw[aqI]at FF;refine V 7 ?_;refine ah (zh J J) (ah (iY (a:=min size len) J J I I) (dJ J J (aA (Xe (ad:=cut ad cap (min size len) 1) (q:=q+min size len) h (ar hm) (λh0=>eg (a8 I) I) I I) ?_)));rintro e w1 ⟨IT,bo,left,rfl,eM,Bf,iW,h⟩;refine V 10 ?_;refine ah (j8 J) (aC (eA J ?_ ?_))<;>intro Bd
 (have tL:IT=false:=by cases IT<;>first|rfl| (exfalso;revert Bd;decide));rw[tL]at eM;obtain rfl:=iW tL;refine V 6 ?_;exact⟨false,[],none,0,[],J,(by rw[FF,eM];rfl),bG.nil,h.tail.tail.ghost _⟩
 (obtain rfl:IT=true:=by cases IT<;>first|rfl| (exfalso;revert Bd;decide));obtain⟨bb,rfl⟩:=Bf J;rw[ai J]at eM;rw[eM]at FF;dsimp only at FF;have vl:=Xh eM;rw[dx I]at vl;have LZ:=vh cS.1.lZ.2;have Bm:=cS.2.1;have eo:=zu shares lg;have eF:=u6 (num (aa D (q+min size len) (len-min size len))) (left:Int) lg;have cK:=u6 (num (aa D (q+min size len) (len-min size len))) ((left:Int) -lg) lg;have tJ:0<len-min size len->cut ad cap (min size len) 1=some ⟨db,q+min size len,none⟩:=λh0=>eg (a8 I) I;refine V 5 ?_;refine b_ J J J (aA (Fw (sb:=bH) (shares:=shares) (sp:=sp) (log:=lg) (h.mv 0) (ar bF) cS.1 fu.2.2.1) ?_);rintro e w1 ⟨cb,rfl,h⟩;refine eh h J ?_;intro bt w h;refine b7 ?_;intro w h;refine V 5 ?_;replace h:=h.zz [2] 0;refine b_ J J J (aA (Fm (ad:=cut ad cap (min size len) 1) (q:=q+min size len) (len:=len-min size len) (left:=(left:Int)) (n:=lg) h (ar (ar (ar (hm)))) tJ I I I I I) ?_);rintro e w1 ⟨rfl,h⟩;refine cM (cM (b_ J J J (aA (Fm (ad:=cut ad cap (min size len) 1) (q:=q+min size len) (len:=len-min size len) (left:=((left:Int) -lg)) (n:=lg) h (ar (ar (ar (hm)))) tJ I I I I I) ?_)));rintro e w1 ⟨rfl,h⟩;refine ah (zm (api _ _) J J) (eh h J ?_);intro bs w h;refine b7 ?_;intro w h;refine V 8 ?_;refine ah (qL (v:=0) J J) (aC (an J ?_ ?_))<;>intro Xz
 refine V 6 ?_;exact⟨false,[],none,0,[],J,(by rw[FF,ai Xz];rfl),bG.nil,h.tail.tail.tail.tail.tail.ghost _⟩
 refine V 10 ?_;refine cg (rM (num (aa D (q+min size len) (len-min size len))) (cY shares lg) 257 (dS (num (aa D (q+min size len) (len-min size len))) (left:Int) lg) (dS (num (aa D (q+min size len) (len-min size len))) ((left:Int) -lg) lg) ((left:Int) -lg-lg) []) λZ9 mA=>?_;have ae0:wF (aa D q len)=Z9:=(by rw[FF,ag Xz];exact mA);clear FF;replace h:=((((h.mv 4).tail).ghost (C (List.map R []++[]) 3)).mv 1).mv 2;dsimp only[dB]at h;refine bQ (σ:=Nat×Nat×Nat×Nat×Int×List Nat×Option Nat×Nat×List Value) [(2,3),(11,12),(49,93)] (λ⟨f,i,s0,s1,left,out,ob,c,sp⟩ ρ w=>Kn ρ [(12,R i),(11,.slice (aB ob) out.length c)]/\H r w ((af bb [.slice (cut ad cap (min size len) 1) (len-min size len) (cap-min size len),.int .i64 left] 155)::(af bs [R s0,R s1] 170)::(ob,C (List.map R out++sp) 3)::(af bt [cf cb (2^lg) (2^lg),R lg] 124)::(af cb (fQ (cY shares lg)) 126)::F)/\(i=0\/i=1)/\(s0<2^lg)/\(s1<2^lg)/\(0<=left)/\(left<=8*(len-min size len:Nat))/\(out.length<=255)/\(257<=f+out.length)/\(bG ob out.length c (List.map R out) sp 1)/\(rM (num (aa D (q+min size len) (len-min size len))) (cY shares lg) f (if i=0 then s0 else s1) (if i=0 then s1 else s0) left out=Z9)) (λ⟨f,i,s0,s1,left,out,ob,c,sp⟩=>257-out.length) (257,0,(dS (num (aa D (q+min size len) (len-min size len))) (left:Int) lg),(dS (num (aa D (q+min size len) (len-min size len))) ((left:Int) -lg) lg),((left:Int) -lg-lg),[],none,0,[]) ⟨aq,h,(Or.inl J),eF,cK,I,I,(bP _),(by simp),bG.nil,mA⟩ ?_;rintro⟨f,i,s0,s1,left,out,ob,c,sp⟩ ρ w ⟨⟨mC,rfl⟩,h,hi,zH,eZ,kY,p9,zC,hf,fu,hR⟩;refine aY (Qn ((cY shares lg).getD (if i=0 then s0 else s1) default)) (λsy W=>aY W (λbi h2=>aY h2 (λba jN=>?_)));refine AW (Qn ((cY shares lg).getD (if i=0 then s1 else s0) default)) λXA nu ba2 Bn=>?_;have XB:(if i=0 then s0 else s1)<2^lg:=(by split<;>assumption);have ae1:(if i=0 then s1 else s0)<2^lg:=(by split<;>assumption);have XC:(if i=0 then s0 else s1)<(cY shares lg).length:=(by rw[eo];exact XB);have IE:(if i=0 then s1 else s0)<(cY shares lg).length:=(by rw[eo];exact ae1);have yn:=FE cS.1 XB;rw[jN]at yn;dsimp only at yn;have hpb:=ep bi;have Mb:((cY shares lg).getD (if i=0 then s0 else s1) default).bits<=32:=(by rw[jN];dsimp only;omega);have DJ:((cY shares lg).getD (if i=0 then s0 else s1) default).base<=1099511627776:=(by rw[jN];dsimp only;omega);have qX:=u6 (num (aa D (q+min size len) (len-min size len))) left bi;refine aY (show ∃f1,f=f1+1 from⟨f-1,I⟩) (λf1 p6=>?_);have fI:=hR;rw[p6,Xx,jN,Bn]at fI;dsimp only at fI;refine V 3 ?_;refine bL h [0,4,12,16,9,21,24,28,33,38,43,44] ?_;intro w h;refine av 5 ?_;refine aK J h J (Xy hi) (aw J (ky J J J XB) (Wb J J (aK J h J (Dq XC jN) (ka J J (lB _) h ?_))));intro bz w h;refine mV (List.map R out) sp [R sy] J h 3 J J J fu (Src.slice (j:=0) (q2:=0) J ⟨J,trivial⟩ J) (by intro x hx;simp at hx;subst hx;rfl) I aj J ?_;intro w DG DH Bi h rK tP Bj;dsimp only[List.set]at h;rw[Ql]at h rK;replace h:=h.tail;(try dsimp only[dB]at h);refine eY J (cm (a9 (bL h [0,8,12,16,5,21,27,28,35] ?_)));intro w h;refine av 4 ?_;refine xN J (λw hk=>iK [_,_] (h.keeps hk) J ⟨J,J,trivial⟩ J) J (aK J h J (Xy hi) (zk J J J J J ?_));have px:=aeE (ad:=cut ad cap (min size len) 1) (q:=q+min size len) (len:=len-min size len) (lg:=R lg) (cs:=(cY shares lg)) (cl:=2^lg) (i:=(if i=0 then s0 else s1)) h (ar (ar (ar (ar (hm))))) tJ I (ar (ar (ar bF))) I I I XC eo.symm Mb DJ;rw[jN]at px;dsimp only at px;refine px.mono ?_;clear px;rintro e w1 ⟨rfl,h⟩;refine⟨_,J,?_⟩;refine av 1 ?_;refine cV (R (ba+dS (num (aa D (q+min size len) (len-min size len))) left bi)) (Xy hi) ?_;intro w h;rw[aqJ hi]at h;refine cm ?_;refine V 7 ?_;refine ah (qL (v:=0) J J) (aC (an J ?_ ?_))<;>intro Mc
 refine a9 (bL h [0,4,12,16,20,9,25,28,32,37,42,47,48] ?_);intro w h;refine av 6 ?_;refine aK J h J (aqK hi) (aw J (ky J J J ae1) (Wb J J (aK J h J (Dq IE Bn) (ka J J (lB _) h ?_))));intro bz w h;refine mV (List.map R (out++[sy])) Bi [R XA] J h 3 J J J ⟨by rw[bX,aF,HZ,eC],rK,tP,Bj⟩ (Src.slice (j:=0) (q2:=0) J ⟨J,trivial⟩ J) (by intro x hx;simp at hx;subst hx;rfl) I aj J ?_;intro w Xp Xq Xr h L9 FC Xs;dsimp only[List.set]at h;rw[Ql]at h L9;replace h:=h.tail;(try dsimp only[dB]at h);refine eY J (cm ?_);refine V 10 ?_;have XD:(out++[sy]++[XA]).length=out.length+2:=(by simp);rw[ai Mc]at fI;refine⟨decide (out.length+1+1<=255),out++[sy]++[XA],Xp,Xq,Xr,?_⟩;refine⟨aqL (iJ J XD.symm J) J,(by rw[ae0,<-fI];by_cases e:out.length+1+1<=255<;>simp[e]),?_,?_⟩
 rw[XD];exact⟨by rw[bX,XD,eC],L9,FC,Xs⟩
 exact((h.mv 4).tail.mv 3).tail.tail.tail
 refine V 7 ?_;refine an J ?_ ?_<;>intro qU
 refine V 6 ?_;rw[ag Mc,ai I]at fI;exact⟨false,[],none,0,[],J,(by rw[ae0,<-fI];rfl),bG.nil,h.tail.tail.tail.tail.tail.ghost _⟩
 refine V 6 ?_;refine⟨aM,?_⟩;have aqN:(if 1-i=0 then(if i=0 then(ba+dS (num (aa D (q+min size len) (len-min size len))) left bi)else s0)else(if i=0 then s1 else(ba+dS (num (aa D (q+min size len) (len-min size len))) left bi)))=(if i=0 then s1 else s0):=(by clear h;rcases hi with hi|hi<;>rw[hi]<;>rfl);have aqO:(if 1-i=0 then(if i=0 then s1 else(ba+dS (num (aa D (q+min size len) (len-min size len))) left bi))else(if i=0 then(ba+dS (num (aa D (q+min size len) (len-min size len))) left bi)else s0))=(ba+dS (num (aa D (q+min size len) (len-min size len))) left bi):=(by clear h;rcases hi with hi|hi<;>rw[hi]<;>rfl);have IF:(out++[sy]).length=out.length+1:=(by simp);rw[ag Mc,ag I]at fI;refine⟨(f1,1-i,(if i=0 then(ba+dS (num (aa D (q+min size len) (len-min size len))) left bi)else s0),(if i=0 then s1 else(ba+dS (num (aa D (q+min size len) (len-min size len))) left bi)),left-bi,out++[sy],DG,DH,Bi),cw,?_⟩;refine⟨Kn.mk ⟨J,iJ J IF.symm J,trivial⟩,h,?_⟩;refine⟨I,(by split<;>omega),(by split<;>omega),I,I,I,I,⟨by rw[bX,eC],rK,I,Bj⟩,?_⟩;rw[aqN,aqO];exact fI
variable {F:List aD}{cap db:Nat}{ad:Option Addr}{r:dQ}{T:TT}{w:World}
theorem aqP{P:Program}{ρ:Env}{T T' ty:TypeId}{x y:Operand}{k:IntKind}{u:Int}{a:Nat}(hx:Env.ev ρ x= .int k u)(hy:Env.ev ρ y= .int k ((15:Nat):Int)) [W:ao u a](ha:a<=aG k):run P ρ (.binOp .and T x y T') ty w= .ok (.value (.int k ((a % 16:Nat):Int))) w:=by
 rw[xH (b:=15) hx hy ha (by cases k<;>simp[aG])];have:a&&&15=a % 16:=E5 a 4;rw[this]
theorem ae2{ob:Option Nat}{b:Nat}(h:ob=some b):aB ob=some ⟨b,0,none⟩:=by rw[h];rfl
theorem zI{D:List UInt8}{len:Nat}(h:i<len):byte (aa D q len) i=(D.getD (q+i) 0).toNat:=by rw[byte,kN h]
theorem XE{E:List UInt8}{ws:List Nat}(h:wF E=some ws):ws.length<=255/\2<=ws.length:=by
 unfold wF at h;split at h
 cases h
 dsimp only at h;split at h
 cases h
 split at h
 cases h
 exact aeZ h
theorem aqQ{D:List UInt8}{len:Nat}(h:H r w F)(hm:(some db,C (D.map u8) T)∈F)(a8:0<len->ad=some ⟨db,q,none⟩)(hq:q+len<=D.length)(jt:len<=cap)(hlen:len<=140737488355328):Calls PP 61 #[.slice ad len cap] w λe w'=> ∃ok t n p G,e= .returned (.tuple #[p,R n,.bool ok])/\gA (aa D q len)=(if ok=true then some (t,n)else none)/\(ok=true->tM G p t)/\(ok=false->p= .pointer none)/\H r w' (G++F):=by
 obtain⟨vd,ve⟩:=cX hm;have dK:=dx hq;have jG:=toNat_le (D.getD (q+0) 0);refine gD Tryz.func61 Tryz.ntmps61 [2,3,4] ?_;refine V 13 ?_;refine an J ?_ ?_<;>intro FG
 refine V 7 ?_;exact⟨false,⟨[],[],0⟩,0,.pointer none,[],J,(by unfold gA;rw[ai I];rfl),(by intro e;cases e),λ_=>rfl,h⟩
 refine V 8 ?_;refine ah (cI (a:=0) (W:=ao.lit _) J J (a8 I) I) (aO h J (gl I) ?_);refine V 8 ?_;refine cD [(6,7),(20,26)] (λρ w=> ∃n size:Nat,Kn ρ [(6,R n),(7,R size)]/\H r w (F)/\(n=(if 128<=(D.getD (q+0) 0).toNat then(D.getD (q+0) 0).toNat-127 else(D.getD (q+0) 0).toNat))/\(size=(if 128<=(D.getD (q+0) 0).toNat then((D.getD (q+0) 0).toNat-127+1)/2 else(D.getD (q+0) 0).toNat))) ?_ ?_
 refine V 5 ?_;refine an J ?_ ?_<;>intro oR
 refine V 9 ?_;exact ah (mT (b:=2) (h2:=ao.lit _) J J I k_) (dI (aC ⟨aM,(D.getD (q+0) 0).toNat-127,((D.getD (q+0) 0).toNat-127+1)/2,aq,h,(by rw[ai oR]),(by rw[ai oR])⟩))
 exact aQ ⟨aM,(D.getD (q+0) 0).toNat,(D.getD (q+0) 0).toNat,aq,h,(by rw[ag oR]),(by rw[ag oR])⟩
 rintro ρ w ⟨n,size,⟨mC,rfl⟩,h,hn,ia⟩;have XF:size<=255:=(by rw[ia];split<;>omega);have fW:n<=255:=(by rw[hn];split<;>omega);have mZ:=zI (D:=D) (q:=q) (len:=len) (i:=0) I
 have wI:gA (aa D q len)=if len<1+size then none else if 128<=(D.getD (q+0) 0).toNat then(gL ((List.range ((D.getD (q+0) 0).toNat-127)).map λi=>byte (aa D q len) (1+i/2)/2^(4-i % 2*4) % 16)).map λt=>(t,1+size)
     else(wF (aa (aa D q len) 1 size)).bind λws=>(gL ws).map λt=>(t,1+size):=by
   unfold gA;rw[dK,ag I];dsimp only;rw[mZ,<-ia]
 refine V 9 ?_;refine an J ?_ ?_<;>intro sJ
 refine V 7 ?_;exact⟨false,⟨[],[],0⟩,0,.pointer none,[],J,(by rw[wI,ai I];rfl),(by intro e;cases e),λ_=>rfl,h⟩
 refine aQ (cD [(2,5),(8,9),(32,66)] (λρ w=> ∃ws:List Nat,∃wb c:Nat,∃sp:List Value,Kn ρ [(5,cf wb ws.length c)]/\H r w ((some wb,C (List.map R ws++sp) 3)::F)/\(ws.length<=c)/\(ws.length<=256)/\(gA (aa D q len)=(gL ws).map λt=>(t,1+size))) ?_ ?_)
 refine V 3 ?_;refine ah (cI (a:=0) (W:=ao.lit _) J J (a8 I) I) (aO h J (gl I) ?_);refine V 2 ?_;refine an J ?_ ?_<;>intro iP
 refine V 6 ?_;replace h:=h.ghost (C (List.map R []++[]) 3);rw[ai iP]at hn ia;refine bQ (σ:=Nat×Option Nat×Nat×List Value) [(5,5),(8,8),(37,56)] (λ⟨i,ob,c,sp⟩ ρ w=>Kn ρ [(37,R i),(5,.slice (aB ob) i c)]/\H r w ((ob,C (List.map R ((List.range i).map λi=>byte (aa D q len) (1+i/2)/2^(4-i % 2*4) % 16)++sp) 3)::F)/\(i<=n)/\(bG ob i c (List.map R ((List.range i).map λi=>byte (aa D q len) (1+i/2)/2^(4-i % 2*4) % 16)) sp 1)) (λ⟨i,ob,c,sp⟩=>n-i) (0,none,0,[]) ⟨aq,h,bP _,bG.nil⟩ ?_;rintro⟨i,ob,c,sp⟩ ρ w ⟨⟨mD,rfl⟩,h,hi,fu⟩
 have XG:((List.range i).map λi=>byte (aa D q len) (1+i/2)/2^(4-i % 2*4) % 16)++[(D.getD (q+(1+i/2)) 0).toNat/2^(4-i % 2*4) % 16]=((List.range (i+1)).map λi=>byte (aa D q len) (1+i/2)/2^(4-i % 2*4) % 16)\/n<=i:=by
  rcases dh i n with p_|p_
  left;rw[pU,f_,EW,E4,zI I]
  exact Or.inr p_
 refine V 5 ?_;refine an J ?_ ?_<;>intro rN
 replace XG:=XG.resolve_right I;refine V 12 ?_;refine ah (mT (b:=2) (h2:=ao.lit _) J J I k_) ?_;refine V 1 ?_;refine ah (cI J J (a8 I) I) (aO h J (gl I) (cM (ah (AK (b:=2) (h2:=ao.lit _) J J I) ?_)));refine V 3 ?_;refine ah (aqP J J (aI (j6 _ _) (dz _ aj))) ?_;refine V 1 ?_;refine kX J (lB _) h ?_;intro bz w h;refine kW (List.map R ((List.range i).map λi=>byte (aa D q len) (1+i/2)/2^(4-i % 2*4) % 16)) sp [R ((D.getD (q+(1+i/2)) 0).toNat/2^(4-i % 2*4) % 16)] h 1 J J J fu (Src.slice (j:=0) (q2:=0) J ⟨J,trivial⟩ J) (by intro x hx;simp at hx;subst hx;rfl) I aj J ?_;intro w dy c9 dL h df fG eG;dsimp only[List.set]at h;rw[Ql,XG]at h df;replace h:=h.tail;(try dsimp only[dB]at h);refine V 6 ?_;exact⟨aM,(i+1,dy,c9,dL),cw,aq,h,I,by simp,df,I,eG⟩
 have p_:i=n:=I;have XH:((List.range i).map λi=>byte (aa D q len) (1+i/2)/2^(4-i % 2*4) % 16).length=i:=(by simp);have aqR:bG ob ((List.range i).map λi=>byte (aa D q len) (1+i/2)/2^(4-i % 2*4) % 16).length c (List.map R ((List.range i).map λi=>byte (aa D q len) (1+i/2)/2^(4-i % 2*4) % 16)) sp 1:=(by rw[XH];exact fu);refine(fu.some I).elim λwb Md=>?_;exact iy ⟨aM,((List.range i).map λi=>byte (aa D q len) (1+i/2)/2^(4-i % 2*4) % 16),wb,c,sp,Kn.mk ⟨iJ (ae2 Md) XH.symm J,trivial⟩,(by rw[<-Md];exact h),aqR.2.2.1,(by rw[XH];omega),(by rw[wI,ag I,ai iP,p_,hn])⟩
 refine V 9 ?_;refine ah (uX (a:=1) (W:=ao.lit _) J J J I I) (dJ J J (aA (aqM (ad:=cut ad cap 1 1) (q:=q+1) (len:=1+size-1) h hm (λh0=>eg (a8 I) I) I I I) ?_));rintro e w1 ⟨ok,ws,ob,c,sp,rfl,hW,fu,h⟩;rw[show 1+size-1=size from by omega,<-iL (D:=D) (q:=q) (n:=len) (a:=1) (b:=size) I]at hW;refine V 9 ?_;refine ah (j8 J) (aC (eA J ?_ ?_))<;>intro wJ
 (have tL:ok=false:=by cases ok<;>first|rfl| (exfalso;revert wJ;decide));rw[tL]at hW;refine V 7 ?_;exact⟨false,⟨[],[],0⟩,0,.pointer none,[],J,(by rw[wI,ag I,ag iP,hW];rfl),(by intro e;cases e),λ_=>rfl,h.tail⟩
 (obtain rfl:ok=true:=by cases ok<;>first|rfl| (exfalso;revert wJ;decide));rw[ai J]at hW;refine aY (fu.some (by have:=XE hW;omega)) (λwb Md=>?_);exact aQ ⟨aM,ws,wb,c,sp,Kn.mk ⟨iJ (ae2 Md) J J,trivial⟩,(by rw[<-Md];exact h),fu.2.2.1,(by have:=XE hW;omega),(by rw[wI,ag I,ag iP,hW,ss])⟩
 rintro ρ w ⟨ws,wb,c,sp,⟨k5,rfl⟩,h,Bo,kh,DK⟩;refine V 3 ?_;refine dJ J J (aA (aqF (wb:=wb) (ws:=ws) (sp:=sp) (c:=c) h bF kh Bo) ?_);rintro e w1 ⟨ok,t,p,G,rfl,hT,Qo,IU,h⟩;refine V 17 ?_;exact⟨ok,t,1+size,p,G,J,(by rw[DK,hT];cases ok<;>rfl),Qo,IU,h.grow.tail⟩
theorem aqS{D:List UInt8}{len:Nat}(h:H r w F)(hm:(af db (D.map u8) T)∈F)(a8:0<len->ad=some ⟨db,q,none⟩)(hq:q+len<=D.length)(jt:len<=cap)(hlen:len<=140737488355328):Calls PP 61 #[.slice ad len cap] w λe w'=> ∃ok t n pp G,e= .returned (.tuple #[.pointer pp,R n,.bool ok])/\gA (aa D q len)=(if ok=true then some (t,n)else none)/\(ok=true-> ∃tb,pp=some ⟨tb,0,none⟩/\tM G (aW tb) t)/\H r w' (G++F):=by
 refine(aqQ h hm a8 hq jt hlen).mono ?_;rintro e w1 ⟨ok,t,n,p,G,rfl,W,h3,h4,h5⟩
 cases ok with
 | true=>
   have h6:=h3 J
   obtain⟨tb,a,b,c,d,e,f,rfl,h7⟩:=h6
   exact⟨true,t,n,_,G,J,W,λ_=>⟨tb,J,h3 J⟩,h5⟩
 | false=>
   obtain rfl:=h4 J
   exact⟨false,t,n,_,G,J,W,(by intro e;cases e),h5⟩
end Go.Z
namespace Go.Z
variable {E:List UInt8}{many n:Nat}{vu:Option Tr}{t:Tr}
abbrev ae3:=Nat×List UInt8×Nat×Option Tr
def nY(many:Nat)(four:Bool)(yo:Nat)(tr:Option Tr)(data:List UInt8):ae3:=
 match tr with
 |none=>(2,[],0,none)
 | some t=>
   if 131072<many\/many=0 then(0,[],0,none)
   else if(gZ data t many four).1=1 then(1,(gZ data t many four).2,yo,some t)else((gZ data t many four).1,[],0,none)
def dT(tr:Option Tr)(E:List UInt8):ae3:=
 if E.length=0 then(2,[],0,none)
 else if byte E 0 % 4<2 then
   let head:=[1,2,1,3].getD (byte E 0/4 % 4) 0
   if E.length<head then(2,[],0,none)
   else
     let n:=num (aa E 0 head)/2^ [3,4,3,4].getD (byte E 0/4 % 4) 0
     if 131072<n then(0,[],0,none)
     else if byte E 0 % 4=1 then(if E.length<head+1 then(2,[],0,none)else(1,List.replicate n (E.getD head 0),head+1,tr))
     else if E.length<head+n then(2,[],0,none)else(1,aa E head n,head+n,tr)
 else
   let head:=[3,3,4,5].getD (byte E 0/4 % 4) 0
   let wide:=[10,10,14,18].getD (byte E 0/4 % 4) 0
   if E.length<head then(2,[],0,none)
   else
     let v:=num (aa E 0 head)/16
     let many:=v % 2^wide
     let size:=v/2^wide
     let four:=decide (¬byte E 0/4 % 4=0)
     if E.length<head+size then(2,[],0,none)
     else if byte E 0 % 4=2 then
       match gA (aa E head size)with
       |none=>(2,[],0,none)
       |some x=>if x.1.bits.getD 0 0<x.1.ak then(0,[],0,none)else nY many four (head+size) (some x.1) ((aa E head size).drop x.2)
     else nY many four (head+size) tr (aa E head size)
theorem XJ(h:gA E=some (t,n)):wE t/\n<=E.length/\ ∀s∈t.syms,s<257:=by
 unfold gA at h;split at h
 cases h
 dsimp only at h;obtain⟨size,hs⟩: ∃s,(if 128<=byte E 0 then(byte E 0-127+1)/2 else byte E 0)=s:=⟨_,J⟩;rw[hs]at h;by_cases hn:E.length<1+size
 rw[ai hn]at h;cases h
 rw[ag hn]at h;split at h
 cases hx:gL ((List.range (byte E 0-127)).map λi=>byte E (1+i/2)/2^(4-i % 2*4) % 16)with
 |none=>rw[hx]at h;cases h
 | some t'=>
   rw[hx]at h;cases h
   have:=L8 hx
   refine⟨this.1,I,λs hs=>?_⟩
   have h2:=this.2 s hs
   rw[bX,AG]at h2
   have:byte E 0<=255:=toNat_le _
   omega
 cases hw:wF (aa E 1 size)with
 |none=>rw[hw]at h;cases h
 | some ws=>
   rw[hw,ss]at h
   cases hx:gL ws with
   |none=>rw[hx]at h;cases h
   | some t'=>
     rw[hx]at h;cases h
     have W:=L8 hx
     have h3:=XE hw
     exact⟨W.1,I,λs hs=>by have:=W.2 s hs;omega⟩
theorem ae4{E:List UInt8}{t:Tr}{many:Nat}(hm:6<=many): ∀i,i<=4->(fP E t many i).1=1->(fP E t many i).2.1.length=(if i=4 then many else i*((many+3)/4))
 |0,_,_=>by simp[fP]
 | i+1,hi,he=>by
  rw[fP]at he ⊢;dsimp only at he ⊢;obtain⟨nn,qb⟩: ∃x,(if i=3 then many-3*((many+3)/4)else(many+3)/4)=x:=⟨_,J⟩;obtain⟨sz,ia⟩: ∃x,(if i=3 then E.length- (fP E t many i).2.2 else num (aa E (2*i) 2))=x:=⟨_,J⟩;rw[qb,ia]at he ⊢;by_cases W:(fP E t many i).1≠1
  rw[ai W]at he;exact absurd he W
  rw[ag W]at he ⊢;have ih:=ae4 (E:=E) (t:=t) hm i I I;rw[ag I]at ih;by_cases h2:E.length- (fP E t many i).2.2<sz
  rw[ai h2]at he;cases he
  rw[ag h2]at he ⊢;by_cases h3:nn=0
  rw[ai h3]at he;cases he
  rw[ag h3]at he ⊢;by_cases h4:(gz (aa E (fP E t many i).2.2 sz) t nn).1≠1
  rw[ai h4]at he;exact absurd he h4
  rw[ag h4];dsimp only;rcases W6 (aa E (fP E t many i).2.2 sz) t nn with h5|h5|h5
  omega
  omega
  rw[aF,ih,h5.2,<-qb];by_cases h6:i=3
  subst h6;simp;omega
  rw[ag h6,ag I,vU]
theorem aqT{four:Bool}(h:(gZ E t many four).1=1):(gZ E t many four).2.length=many:=by
 unfold gZ at*;by_cases h0:four=false
 rw[ai h0]at h ⊢;rcases W6 E t many with W|W|W
 omega
 omega
 exact W.2
 rw[ag h0]at h ⊢;by_cases W:many<6
 rw[ai W]at h;cases h
 rw[ag W]at h ⊢;by_cases h2:E.length<6
 rw[ai h2]at h;cases h
 rw[ag h2]at h ⊢;exact ae4 I 4 (aR _) h
theorem ae5{yo:Nat}{four:Bool}{tr:Option Tr}{data out:List UInt8}(h:nY many four yo tr data=(1,out,n,vu)):out.length<=131072/\n=yo/\vu=tr/\ ∃t,tr=some t:=by
 unfold nY at h;split at h
 cases h
 rename_i t;split at h
 cases h
 rename_i hm;split at h
 rename_i W;cases h;exact⟨by rw[aqT W];omega,J,J,t,J⟩
 rename_i W;have:=b8 Prod.fst h;exact absurd this W
theorem ae6{tr:Option Tr}{out:List UInt8}(h:dT tr E=(1,out,n,vu))(ht: ∀t,tr=some t->wE t):out.length<=131072/\n<=E.length/\(∀t,vu=some t->wE t):=by
 unfold dT at h;split at h
 cases h
 split at h
 dsimp only at h;split at h
 cases h
 split at h
 cases h
 rename_i hn;split at h
 split at h
 cases h
 cases h;refine⟨by simp only[dR];omega,I,ht⟩
 split at h
 cases h
 cases h;refine⟨?_,I,ht⟩;rw[dx I];omega
 dsimp only at h;split at h
 cases h
 split at h
 cases h
 split at h
 split at h
 cases h
 rename_i x hx;split at h
 cases h
 have:=ae5 h;refine⟨this.1,I,λt e=>?_⟩;rw[this.2.2.1]at e;cases e;exact(XJ (t:=x.1) (n:=x.2) hx).1
 have:=ae5 h;refine⟨this.1,I,λt e=>?_⟩;rw[this.2.2.1]at e;exact ht t e
end Go.Z
namespace Go.Z
open Go Go.Proofs
variable {ρ:Env}{u:Int}{k:IntKind}{F L:List aD}{X:List UInt8}{a b c d db f m n q:Nat}{x y:Operand}{ad p:Option Addr}{P:Program}{T:TT}{T' ty:TypeId}{w:World}
def aP(F:List aD)(v:Value)(X:List UInt8):Prop:= ∃ad n c,v= .slice ad n c/\n=X.length/\n<=c/\(0<n-> ∃b q l T,ad=some ⟨b,q,none⟩/\(some b,C l T)∈F/\Rd l q (X.map u8))
theorem aP.nil(F:List aD):aP F (.slice none 0 0) []:=⟨none,0,0,J,J,aR _,λh=>by omega⟩
theorem aP.sub{F':List aD}{v:Value}(h:aP F v X)(hs:Sub F F'):aP F' v X:=by
 obtain⟨ad,n,c,W,h2,h3,h4⟩:=h;exact⟨ad,n,c,W,h2,h3,λh0=>by obtain⟨b,q,l,T,e1,e2,e3⟩:=h4 h0;exact⟨b,q,l,T,e1,hs _ e2,e3⟩⟩
theorem aqU{D:List UInt8}(h:q+n<=D.length):Rd (D.map u8) q ((aa D q n).map u8):=by
 have:= @Rd.slice q (D.map u8) n (by simpa using h);simpa [aa,Vs,Vt] using this
theorem aP.aa{D:List UInt8}(hm:(af db (D.map u8) T)∈F)(a8:0<n->ad=some ⟨db,q,none⟩)(hq:q+n<=D.length)(hc:n<=c):aP F (.slice ad n c) (aa D q n):=
 ⟨ad,n,c,J,(dx hq).symm,hc,λh0=>⟨db,q,_,T,a8 h0,hm,aqU hq⟩⟩
theorem aP.own{ob:Option Nat}{sp:List Value}(h:bG ob X.length c (X.map u8) sp 1):aP ((ob,C (X.map u8++sp) T)::F) (.slice (aB ob) X.length c) X:=
 ⟨_,_,_,J,J,h.2.2.1,λh0=>by
   obtain⟨s,rfl⟩:=h.some h0
   exact⟨s,0,_,T,J,e_ ..,Rd.left _ _⟩⟩
theorem vv{T:TypeId}(hx:Env.ev ρ x= .int k u)(hy:Env.ev ρ y= .int k ((3:Nat):Int)) [W:ao u a](ha:a<=aG k):run P ρ (.binOp .and T x y T') ty w= .ok (.value (.int k ((a % 4:Nat):Int))) w:=by
 rw[xH (b:=3) hx hy ha (by cases k<;>simp[aG])];have:a&&&3=a % 4:=E5 a 2;rw[this]
theorem jO{T:TypeId}(hx:Env.ev ρ x= .int k u)(hy:Env.ev ρ y= .int k ((2^n-1:Nat):Int)) [W:ao u a](ha:a<=aG k)(hn:2^n-1<=aG k):run P ρ (.binOp .and T x y T') ty w= .ok (.value (.int k ((a % 2^n:Nat):Int))) w:=by
 rw[xH (b:=2^n-1) hx hy ha hn];rw[E5]
theorem sR(h:f<4):([R a,R b,R c,R d]:List Value)[f]? =some (R ([a,b,c,d].getD f 0)):=by
 rcases(I:f=0\/f=1\/f=2\/f=3)with rfl|rfl|rfl|rfl<;>rfl
theorem FH(f:Nat)(h:a<=m/\b<=m/\c<=m/\d<=m):[a,b,c,d].getD f 0<=m:=by
 match f with
 |0=>exact h.1
 |1=>exact h.2.1
 |2=>exact h.2.2.1
 |3=>exact h.2.2.2
 |f+4=>exact bP _
theorem ae7(hf:f<4)(h:m<=a/\m<=b/\m<=c/\m<=d):m<= [a,b,c,d].getD f 0:=by
 match f,hf with
 |0,_=>exact h.1
 |1,_=>exact h.2.1
 |2,_=>exact h.2.2.1
 |3,_=>exact h.2.2.2
theorem IV{D:List UInt8}{q n:Nat}(h:n<=5):num (aa D q n)<1099511627776:=
 ry ph (aI (dp I (I:8*n<=40)) aj)
theorem aqV{α:Type}(x z:α){i n:Nat}(h:i<n):(List.replicate i x++List.replicate (n-i) z).set i x=List.replicate (i+1) x++List.replicate (n- (i+1)) z:=by
 rw[HT _ _ (by simp),dR,AE];have:n-i=(n- (i+1))+1:=I;rw[this,HW,List.set_cons_zero,CE,cF];rfl
theorem vo.some{o:Option Tr}(h:vo F (.pointer p) o)(hp:p.isNone=false): ∃t,o=some t:=by
 cases o with
 |none=>cases h;cases hp
 |some t=>exact⟨t,J⟩
theorem vo.none{o:Option Tr}(h:vo F (.pointer p) o)(hp:p.isNone=true):o=none:=by
 cases o with
 |none=>rfl
 |some t=>obtain⟨tb,_,_,_,_,_,_,e,_⟩:=h;cases e;cases hp
theorem tM.parts{tb:Nat}{t:Tr}(h:tM F (aW tb) t): ∃sy bi c1 c2 bJ cG,(af tb [cf sy t.syms.length c1,cf bi t.bits.length c2,R t.ak] 146)∈F/\(af sy (t.syms.map R++bJ) 3)∈F/\(af bi (t.bits.map R++cG) 3)∈F:=by
 obtain⟨tb',sy,bi,c1,c2,bJ,cG,e,W,h2,h3⟩:=h;cases e;exact⟨sy,bi,c1,c2,bJ,cG,W,h2,h3⟩
theorem Sub.app(h:Sub F L)(G:List aD):Sub (G++F) (G++L):=λe he=>by
 rcases nL.1 he with W|W
 exact ni _ W
 exact fe _ (h e W)
theorem ae8(n:Nat):dj [gR 0] n=(List.replicate n (0:UInt8)).map u8:=by
 rw[CT,vX];rfl
theorem Me{p:Prop}(h:p:=by replace h:=h.tail.tail;(try dsimp only[dB]at h);exact⟨aM,aq,h⟩):p:=h
theorem aqW{r:dQ}{D:List UInt8}{len cap:Nat}{sb:Nat}{x0 x1 x2 y0 y1 y2 z0 z1 z2:Value}{DL:Option Addr}{tr:Option Tr}(h:H r w ((af sb [x0,x1,x2,.pointer DL,y0,y1,y2,z0,z1,z2] 101)::L))(g8:Sub F L)(hm:(af db (D.map u8) T)∈F)(a8:0<len->ad=some ⟨db,q,none⟩)(hq:q+len<=D.length)(jt:len<=cap)(hlen:len<=140737488355328)(IW:vo F (.pointer DL) tr)(jH: ∀t,tr=some t->wE t):Calls PP 45 #[aW sb,.slice ad len cap] w λe w'=> ∃v lL nv cv n G pp,e= .returned (.tuple #[.slice lL nv cv,R n,R v])/\(dT tr (aa D q len)).1=v/\(v=1-> ∃out vu,dT tr (aa D q len)=(1,out,n,vu)/\aP (G++F) (.slice lL nv cv) out/\vo (G++F) (.pointer pp) vu)/\H r w' ((af sb [x0,x1,x2,.pointer pp,y0,y1,y2,z0,z1,z2] 101)::(G++L)):=by
 obtain⟨vd,ve⟩:=cX (g8 _ hm);have yp:=g8 _ hm;have dK:=dx hq;have jG:=toNat_le (D.getD (q+0) 0);have l7:((D.getD (q+0) 0).toNat/2^2 % 4)<4:=I;have zH: ∀b,b<=len->aa (aa D q len) 0 b=aa D q b:=λb hb=>(by rw[iL I];rfl);have eF:=FH (a:=1) (b:=2) (c:=1) (d:=3) (m:=3) ((D.getD (q+0) 0).toNat/2^2 % 4) I;have cK:=ae7 (a:=1) (b:=2) (c:=1) (d:=3) (m:=1) l7 I;have lK:=FH (a:=3) (b:=3) (c:=4) (d:=5) (m:=5) ((D.getD (q+0) 0).toNat/2^2 % 4) I;have rO:=ae7 (a:=3) (b:=3) (c:=4) (d:=5) (m:=3) l7 I;have sS:=FH (a:=10) (b:=10) (c:=14) (d:=18) (m:=18) ((D.getD (q+0) 0).toNat/2^2 % 4) I;have mZ:0<len->byte (aa D q len) 0=(D.getD (q+0) 0).toNat:=λh0=>zI h0;refine gS Tryz.func45 Tryz.ntmps45 [4,5,6] ?_;refine V 13 ?_;refine an J ?_ ?_<;>intro DM
 refine V 7 ?_;exact⟨2,none,0,0,0,[],_,J,(by unfold dT;rw[ai I]<;>rfl),(by intro e;cases e),h⟩
 refine aQ (a9 (bL h [0,4,20,24,9,12,16,44,29,32,36,40,48] ?_));intro w h;refine kA J (aw J (cI (a:=0) (W:=ao.lit _) J J (a8 I) I) (kA J (aw J (cI (a:=0) (W:=ao.lit _) J J (a8 I) I) (aK J h J (gl I) ?_))));refine av 1 ?_;refine aw J (vv J J az) (eY J (aK J h J (gl I) ?_));refine av 2 ?_;refine aw J (vv J J az) (eY J (cm ?_));refine V 6 ?_;refine an J ?_ ?_<;>intro nV
 have u7:num (aa (aa D q len) 0 ([1,2,1,3].getD ((D.getD (q+0) 0).toNat/2^2 % 4) 0))<1099511627776:= @IV (aa D q len) 0 ([1,2,1,3].getD ((D.getD (q+0) 0).toNat/2^2 % 4) 0) I;have gr:=j6 (num (aa (aa D q len) 0 ([1,2,1,3].getD ((D.getD (q+0) 0).toNat/2^2 % 4) 0))) (2^([3,4,3,4].getD ((D.getD (q+0) 0).toNat/2^2 % 4) 0));refine a9 (eS (Iu J J J J (tw _ _ _ _) h ?_));intro bk w h;refine cM (ah (js J J J l7) (aO h J (sR (a:=1) (b:=2) (c:=1) (d:=3) l7) ?_));refine V 10 ?_;refine an J ?_ ?_<;>intro tN
 refine V 7 ?_;exact⟨2,none,0,0,0,[],_,J,(by unfold dT;rw[dK,ag I,mZ I];rw[ai nV];dsimp only;rw[ai tN]<;>rfl),(by intro e;cases e),h.tail⟩
 refine aQ (cD [(10,10),(48,56)] (λρ w=>Kn ρ [(10,R (num (aa (aa D q len) 0 ([1,2,1,3].getD ((D.getD (q+0) 0).toNat/2^2 % 4) 0))/2^([3,4,3,4].getD ((D.getD (q+0) 0).toNat/2^2 % 4) 0)))]/\H r w ((af sb [x0,x1,x2,.pointer DL,y0,y1,y2,z0,z1,z2] 101)::L)) ?_ ?_)
 refine wk h (cL [0,4,8,20] (.fork (cL [15,18,24,29,32,36] .nil) (cL [18,24] (.fork (cL [15,29,32,36] .nil) (cL [29,15,32,36] .nil))))) ?_;intro w h;refine av 2 ?_;refine aw J (lX J J I) (kA J (gg ?_ ?_))
 refine pY J J J ?_;have g9:=sK (ad:=ad) (q:=q) (len:=([1,2,1,3].getD ((D.getD (q+0) 0).toNat/2^2 % 4) 0)) (cap:=cap) h (ar (ar yp)) (λ_=>a8 I) I I (AB (O0 (IV I) I));rw[<-zH ([1,2,1,3].getD ((D.getD (q+0) 0).toNat/2^2 % 4) 0) I]at g9;refine g9.mono ?_;clear g9;rintro e w1 ⟨rfl,rfl⟩;refine⟨_,J,?_⟩;refine C' J J J J J (tw _ _ _ _) h ?_;intro bl w h;refine aw J (js J J J l7) (aK J h J (sR (a:=3) (b:=4) (c:=3) (d:=4) l7) ?_);refine av 3 ?_;exact Me
 refine C' J J J J J (tw _ _ _ _) h ?_;intro bl w h;refine aw J (js J J J l7) (gg ?_ ?_)
 refine pY J J J ?_;have g9:=sK (ad:=ad) (q:=q) (len:=([1,2,1,3].getD ((D.getD (q+0) 0).toNat/2^2 % 4) 0)) (cap:=cap) h (ar (ar (ar yp))) (λ_=>a8 I) I I (AB (O0 (IV I) I));rw[<-zH ([1,2,1,3].getD ((D.getD (q+0) 0).toNat/2^2 % 4) 0) I]at g9;refine g9.mono ?_;clear g9;rintro e w1 ⟨rfl,rfl⟩;refine⟨_,J,?_⟩;refine aK J h J (sR (a:=3) (b:=4) (c:=3) (d:=4) l7) ?_;refine av 3 ?_;exact Me
 refine aK J h J (sR (a:=3) (b:=4) (c:=3) (d:=4) l7) (pY J J J ?_);have g9:=sK (ad:=ad) (q:=q) (len:=([1,2,1,3].getD ((D.getD (q+0) 0).toNat/2^2 % 4) 0)) (cap:=cap) h (ar (ar (ar yp))) (λ_=>a8 I) I I (AB (O0 (IV I) I));rw[<-zH ([1,2,1,3].getD ((D.getD (q+0) 0).toNat/2^2 % 4) 0) I]at g9;refine g9.mono ?_;clear g9;rintro e w1 ⟨rfl,rfl⟩;refine⟨_,J,?_⟩;refine av 3 ?_;exact Me
 rintro ρ w ⟨⟨k5,rfl⟩,h⟩;refine V 6 ?_;refine an J ?_ ?_<;>intro DN
 refine V 7 ?_;exact⟨0,none,0,0,0,[],_,J,(by unfold dT;rw[dK,ag I,mZ I];rw[ai nV];dsimp only;rw[ag tN,ai DN]<;>rfl),(by intro e;cases e),h⟩
 refine V 7 ?_;refine an J ?_ ?_<;>intro Qp
 refine V 9 ?_;refine an J ?_ ?_<;>intro Df
 refine V 7 ?_;exact⟨2,none,0,0,0,[],_,J,(by unfold dT;rw[dK,ag I,mZ I];rw[ai nV];dsimp only;rw[ag tN,ag DN,ai Qp,ai Df]<;>rfl),(by intro e;cases e),h⟩
 refine V 4 ?_;refine tu h J J J I I I J ?_;intro bo w h;rw[ae8]at h;refine V 10 ?_;refine bQ (σ:=Nat) [(12,12),(70,80)] (λi ρ w=>Kn ρ [(70,R i)]/\H r w ((af bo (List.map u8 (List.replicate i (D.getD (q+([1,2,1,3].getD ((D.getD (q+0) 0).toNat/2^2 % 4) 0)) 0)++List.replicate ((num (aa (aa D q len) 0 ([1,2,1,3].getD ((D.getD (q+0) 0).toNat/2^2 % 4) 0))/2^([3,4,3,4].getD ((D.getD (q+0) 0).toNat/2^2 % 4) 0)) -i) 0)) 5)::(af sb [x0,x1,x2,.pointer DL,y0,y1,y2,z0,z1,z2] 101)::L)/\(i<=(num (aa (aa D q len) 0 ([1,2,1,3].getD ((D.getD (q+0) 0).toNat/2^2 % 4) 0))/2^([3,4,3,4].getD ((D.getD (q+0) 0).toNat/2^2 % 4) 0)))) (λi=>(num (aa (aa D q len) 0 ([1,2,1,3].getD ((D.getD (q+0) 0).toNat/2^2 % 4) 0))/2^([3,4,3,4].getD ((D.getD (q+0) 0).toNat/2^2 % 4) 0)) -i) (0) ⟨aq,(by rw[H0,List.nil_append,KX];exact h),(bP _)⟩ ?_;rintro i ρ w ⟨⟨mC,rfl⟩,h,hi⟩;refine V 5 ?_;refine an J ?_ ?_<;>intro Fx
 refine V 13 ?_;refine ah (cI (a:=([1,2,1,3].getD ((D.getD (q+0) 0).toNat/2^2 % 4) 0)) J J (a8 I) I) (aO h J (gl I) ?_);refine V 1 ?_;refine gC (v:=u8 (D.getD (q+([1,2,1,3].getD ((D.getD (q+0) 0).toNat/2^2 % 4) 0)) 0)) h J (gl (by rw[aF,dR,dR];omega)) J J J ?_;intro w h;dsimp only[List.set]at h;rw[<-jM,aqV _ _ I]at h;refine V 5 ?_;exact⟨aM,i+1,cw,aq,h,I⟩
 refine V 11 ?_;have hL:dT tr (aa D q len)=(1,List.replicate (num (aa (aa D q len) 0 ([1,2,1,3].getD ((D.getD (q+0) 0).toNat/2^2 % 4) 0))/2^([3,4,3,4].getD ((D.getD (q+0) 0).toNat/2^2 % 4) 0)) (D.getD (q+([1,2,1,3].getD ((D.getD (q+0) 0).toNat/2^2 % 4) 0)) 0),([1,2,1,3].getD ((D.getD (q+0) 0).toNat/2^2 % 4) 0)+1,tr):=(by unfold dT;rw[dK,ag I,mZ I];rw[ai nV];dsimp only;rw[ag tN,ag DN,ai Qp,ag Df,show(aa D q len).getD ([1,2,1,3].getD ((D.getD (q+0) 0).toNat/4 % 4) 0) 0=(D.getD (q+([1,2,1,3].getD ((D.getD (q+0) 0).toNat/2^2 % 4) 0)) 0)from kN (i:=([1,2,1,3].getD ((D.getD (q+0) 0).toNat/2^2 % 4) 0)) (n:=len) I]);have hiN:i=(num (aa (aa D q len) 0 ([1,2,1,3].getD ((D.getD (q+0) 0).toNat/2^2 % 4) 0))/2^([3,4,3,4].getD ((D.getD (q+0) 0).toNat/2^2 % 4) 0)):=Nat.le_antisymm hi (K3 Fx);have hh:List.replicate i (D.getD (q+([1,2,1,3].getD ((D.getD (q+0) 0).toNat/2^2 % 4) 0)) 0)++List.replicate ((num (aa (aa D q len) 0 ([1,2,1,3].getD ((D.getD (q+0) 0).toNat/2^2 % 4) 0))/2^([3,4,3,4].getD ((D.getD (q+0) 0).toNat/2^2 % 4) 0)) -i) 0=List.replicate (num (aa (aa D q len) 0 ([1,2,1,3].getD ((D.getD (q+0) 0).toNat/2^2 % 4) 0))/2^([3,4,3,4].getD ((D.getD (q+0) 0).toNat/2^2 % 4) 0)) (D.getD (q+([1,2,1,3].getD ((D.getD (q+0) 0).toNat/2^2 % 4) 0)) 0):=(by rw[hiN,AE,H0,dP]);rw[hh]at h;refine⟨1,some ⟨bo,0,none⟩,(num (aa (aa D q len) 0 ([1,2,1,3].getD ((D.getD (q+0) 0).toNat/2^2 % 4) 0))/2^([3,4,3,4].getD ((D.getD (q+0) 0).toNat/2^2 % 4) 0)),(num (aa (aa D q len) 0 ([1,2,1,3].getD ((D.getD (q+0) 0).toNat/2^2 % 4) 0))/2^([3,4,3,4].getD ((D.getD (q+0) 0).toNat/2^2 % 4) 0)),([1,2,1,3].getD ((D.getD (q+0) 0).toNat/2^2 % 4) 0)+1,[(af bo (List.map u8 (List.replicate (num (aa (aa D q len) 0 ([1,2,1,3].getD ((D.getD (q+0) 0).toNat/2^2 % 4) 0))/2^([3,4,3,4].getD ((D.getD (q+0) 0).toNat/2^2 % 4) 0)) (D.getD (q+([1,2,1,3].getD ((D.getD (q+0) 0).toNat/2^2 % 4) 0)) 0))) 5)],DL,J,by rw[hL],λ_=>⟨_,_,hL,?_,IW.sub (Sub.cons _ _)⟩,h.mv 1⟩;exact⟨_,_,_,J,by rw[dR],aR _,λ_=>⟨bo,0,_,5,J,e_ ..,Rd.self _⟩⟩
 refine V 11 ?_;refine an J ?_ ?_<;>intro zJ
 refine V 7 ?_;exact⟨2,none,0,0,0,[],_,J,(by unfold dT;rw[dK,ag I,mZ I];rw[ai nV];dsimp only;rw[ag tN,ag DN,ag Qp,ai zJ]<;>rfl),(by intro e;cases e),h⟩
 refine V 8 ?_;refine ah (uX (a:=([1,2,1,3].getD ((D.getD (q+0) 0).toNat/2^2 % 4) 0)) (c:=([1,2,1,3].getD ((D.getD (q+0) 0).toNat/2^2 % 4) 0)+(num (aa (aa D q len) 0 ([1,2,1,3].getD ((D.getD (q+0) 0).toNat/2^2 % 4) 0))/2^([3,4,3,4].getD ((D.getD (q+0) 0).toNat/2^2 % 4) 0))) J J J (mS _ _) (aI (K3 zJ) jt)) ?_;refine V 8 ?_;have hL:dT tr (aa D q len)=(1,aa (aa D q len) ([1,2,1,3].getD ((D.getD (q+0) 0).toNat/2^2 % 4) 0) (num (aa (aa D q len) 0 ([1,2,1,3].getD ((D.getD (q+0) 0).toNat/2^2 % 4) 0))/2^([3,4,3,4].getD ((D.getD (q+0) 0).toNat/2^2 % 4) 0)),([1,2,1,3].getD ((D.getD (q+0) 0).toNat/2^2 % 4) 0)+(num (aa (aa D q len) 0 ([1,2,1,3].getD ((D.getD (q+0) 0).toNat/2^2 % 4) 0))/2^([3,4,3,4].getD ((D.getD (q+0) 0).toNat/2^2 % 4) 0)),tr):=(by unfold dT;rw[dK,ag I,mZ I];rw[ai nV];dsimp only;rw[ag tN,ag DN,ag Qp,ag zJ]);have hle:=K3 zJ;have aqX:([1,2,1,3].getD ((D.getD (q+0) 0).toNat/2^2 % 4) 0)+(num (aa (aa D q len) 0 ([1,2,1,3].getD ((D.getD (q+0) 0).toNat/2^2 % 4) 0))/2^([3,4,3,4].getD ((D.getD (q+0) 0).toNat/2^2 % 4) 0)) - ([1,2,1,3].getD ((D.getD (q+0) 0).toNat/2^2 % 4) 0)=(num (aa (aa D q len) 0 ([1,2,1,3].getD ((D.getD (q+0) 0).toNat/2^2 % 4) 0))/2^([3,4,3,4].getD ((D.getD (q+0) 0).toNat/2^2 % 4) 0)):=uO ..;refine⟨1,cut ad cap ([1,2,1,3].getD ((D.getD (q+0) 0).toNat/2^2 % 4) 0) 1,([1,2,1,3].getD ((D.getD (q+0) 0).toNat/2^2 % 4) 0)+(num (aa (aa D q len) 0 ([1,2,1,3].getD ((D.getD (q+0) 0).toNat/2^2 % 4) 0))/2^([3,4,3,4].getD ((D.getD (q+0) 0).toNat/2^2 % 4) 0)) - ([1,2,1,3].getD ((D.getD (q+0) 0).toNat/2^2 % 4) 0),cap- ([1,2,1,3].getD ((D.getD (q+0) 0).toNat/2^2 % 4) 0),([1,2,1,3].getD ((D.getD (q+0) 0).toNat/2^2 % 4) 0)+(num (aa (aa D q len) 0 ([1,2,1,3].getD ((D.getD (q+0) 0).toNat/2^2 % 4) 0))/2^([3,4,3,4].getD ((D.getD (q+0) 0).toNat/2^2 % 4) 0)),[],DL,J,by rw[hL],λ_=>⟨_,_,hL,?_,IW⟩,h⟩;have jX:=aP.aa (F:=F) (db:=db) (q:=q+([1,2,1,3].getD ((D.getD (q+0) 0).toNat/2^2 % 4) 0)) (n:=([1,2,1,3].getD ((D.getD (q+0) 0).toNat/2^2 % 4) 0)+(num (aa (aa D q len) 0 ([1,2,1,3].getD ((D.getD (q+0) 0).toNat/2^2 % 4) 0))/2^([3,4,3,4].getD ((D.getD (q+0) 0).toNat/2^2 % 4) 0)) - ([1,2,1,3].getD ((D.getD (q+0) 0).toNat/2^2 % 4) 0)) (c:=cap- ([1,2,1,3].getD ((D.getD (q+0) 0).toNat/2^2 % 4) 0)) (ad:=cut ad cap ([1,2,1,3].getD ((D.getD (q+0) 0).toNat/2^2 % 4) 0) 1) hm (λh0=>eg (a8 I) I) I I;rw[iL hle];rw[aqX]at jX ⊢;exact jX
 have rP:2^([10,10,14,18].getD ((D.getD (q+0) 0).toNat/2^2 % 4) 0)<=2^18:=dp I sS;have hw3:=ep ([10,10,14,18].getD ((D.getD (q+0) 0).toNat/2^2 % 4) 0);have u7:num (aa (aa D q len) 0 ([3,3,4,5].getD ((D.getD (q+0) 0).toNat/2^2 % 4) 0))<1099511627776:=(by have:= @IV (aa D q len) 0 ([3,3,4,5].getD ((D.getD (q+0) 0).toNat/2^2 % 4) 0) I;exact this);have gr:(num (aa (aa D q len) 0 ([3,3,4,5].getD ((D.getD (q+0) 0).toNat/2^2 % 4) 0))/2^4)<=1099511627776:=aI (j6 _ _) (AB u7);have tS:((num (aa (aa D q len) 0 ([3,3,4,5].getD ((D.getD (q+0) 0).toNat/2^2 % 4) 0))/2^4) % 2^([10,10,14,18].getD ((D.getD (q+0) 0).toNat/2^2 % 4) 0))<2^([10,10,14,18].getD ((D.getD (q+0) 0).toNat/2^2 % 4) 0):=dH _ hw3;have ia:=j6 (num (aa (aa D q len) 0 ([3,3,4,5].getD ((D.getD (q+0) 0).toNat/2^2 % 4) 0))/2^4) (2^([10,10,14,18].getD ((D.getD (q+0) 0).toNat/2^2 % 4) 0));refine aQ (cD [(13,14),(99,106)] (λρ w=>Kn ρ [(13,R ([3,3,4,5].getD ((D.getD (q+0) 0).toNat/2^2 % 4) 0)),(14,R ([10,10,14,18].getD ((D.getD (q+0) 0).toNat/2^2 % 4) 0))]/\H r w ((af sb [x0,x1,x2,.pointer DL,y0,y1,y2,z0,z1,z2] 101)::L)) ?_ ?_)
 refine wk h (cL [4,20] (.fork (cL [2,8,13,32,18,24,29,36] .nil) (cL [18,24,29,2,8,13,32,36] .nil))) ?_;intro w h;refine av 2 ?_;refine gg ?_ ?_
 refine C' J J J J J (tw _ _ _ _) h ?_;intro bk w h;refine aw J (js J J J l7) (aK J h J (sR (a:=3) (b:=3) (c:=4) (d:=5) l7) (eY J (C' J J J J J (tw _ _ _ _) h ?_)));intro bl w h;refine aw J (js J J J l7) (aK J h J (sR (a:=10) (b:=10) (c:=14) (d:=18) l7) (eY J (cm ?_)));exact Me
 refine C' J J J J J (tw _ _ _ _) h ?_;intro bl w h;refine aw J (js J J J l7) (aK J h J (sR (a:=10) (b:=10) (c:=14) (d:=18) l7) (C' J J J J J (tw _ _ _ _) h ?_));intro bk w h;refine aw J (js J J J l7) (aK J h J (sR (a:=3) (b:=3) (c:=4) (d:=5) l7) ?_);refine av 3 ?_;exact Me
 rintro ρ w ⟨⟨mD,rfl⟩,h⟩;refine V 8 ?_;refine an J ?_ ?_<;>intro IX
 refine V 7 ?_;exact⟨2,none,0,0,0,[],_,J,(by unfold dT;rw[dK,ag I,mZ I];rw[ag nV];dsimp only;rw[ai IX]<;>rfl),(by intro e;cases e),h⟩
 refine V 5 ?_;refine ah (lX J J I) (dJ J J ?_);have g9:=sK (ad:=ad) (q:=q) (len:=([3,3,4,5].getD ((D.getD (q+0) 0).toNat/2^2 % 4) 0)) (cap:=cap) h (ar yp) (λ_=>a8 I) I I (AB (O0 (IV I) I));rw[<-zH ([3,3,4,5].getD ((D.getD (q+0) 0).toNat/2^2 % 4) 0) I]at g9;refine g9.mono ?_;clear g9;rintro e w1 ⟨rfl,rfl⟩;refine⟨_,J,?_⟩;refine V 4 ?_;refine bL h [0,4,8,12,16,20,24,28,32,36] ?_;intro w h;refine av 2 ?_;refine aw J (gn J J dw az) ?_;refine av 1 ?_;refine aw J (jO (n:=([10,10,14,18].getD ((D.getD (q+0) 0).toNat/2^2 % 4) 0)) J J az az) ?_;refine av 6 ?_;refine V 10 ?_;refine an J ?_ ?_<;>intro qe
 refine V 7 ?_;exact⟨2,none,0,0,0,[],_,J,(by unfold dT;rw[dK,ag I,mZ I];rw[ag nV];dsimp only;rw[ag IX,ai qe]<;>rfl),(by intro e;cases e),h⟩
 have Qq:=K3 qe;have aqY:aa D (q+([3,3,4,5].getD ((D.getD (q+0) 0).toNat/2^2 % 4) 0)) (([3,3,4,5].getD ((D.getD (q+0) 0).toNat/2^2 % 4) 0)+((num (aa (aa D q len) 0 ([3,3,4,5].getD ((D.getD (q+0) 0).toNat/2^2 % 4) 0))/2^4)/2^([10,10,14,18].getD ((D.getD (q+0) 0).toNat/2^2 % 4) 0)) - ([3,3,4,5].getD ((D.getD (q+0) 0).toNat/2^2 % 4) 0))=aa (aa D q len) ([3,3,4,5].getD ((D.getD (q+0) 0).toNat/2^2 % 4) 0) ((num (aa (aa D q len) 0 ([3,3,4,5].getD ((D.getD (q+0) 0).toNat/2^2 % 4) 0))/2^4)/2^([10,10,14,18].getD ((D.getD (q+0) 0).toNat/2^2 % 4) 0)):=(by have e:([3,3,4,5].getD ((D.getD (q+0) 0).toNat/2^2 % 4) 0)+((num (aa (aa D q len) 0 ([3,3,4,5].getD ((D.getD (q+0) 0).toNat/2^2 % 4) 0))/2^4)/2^([10,10,14,18].getD ((D.getD (q+0) 0).toNat/2^2 % 4) 0)) - ([3,3,4,5].getD ((D.getD (q+0) 0).toNat/2^2 % 4) 0)=((num (aa (aa D q len) 0 ([3,3,4,5].getD ((D.getD (q+0) 0).toNat/2^2 % 4) 0))/2^4)/2^([10,10,14,18].getD ((D.getD (q+0) 0).toNat/2^2 % 4) 0)):=uO ..;rw[e];exact(iL Qq).symm);refine V 8 ?_;refine ah (uX (a:=([3,3,4,5].getD ((D.getD (q+0) 0).toNat/2^2 % 4) 0)) (c:=([3,3,4,5].getD ((D.getD (q+0) 0).toNat/2^2 % 4) 0)+((num (aa (aa D q len) 0 ([3,3,4,5].getD ((D.getD (q+0) 0).toNat/2^2 % 4) 0))/2^4)/2^([10,10,14,18].getD ((D.getD (q+0) 0).toNat/2^2 % 4) 0))) J J J (mS _ _) (aI Qq jt)) (dI (aC (cD [(4,6),(18,21),(136,163)] (λρ w=> ∃G1:List aD,∃pp:Option Addr,∃nw:Option Tr,∃A5:Option Addr,∃q2 n2 c2:Nat,Kn ρ [(18,.slice A5 n2 c2)]/\H r w ((af sb [x0,x1,x2,.pointer pp,y0,y1,y2,z0,z1,z2] 101)::(G1++L))/\(vo (G1++F) (.pointer pp) nw)/\(∀t,nw=some t->wE t)/\(0<n2->A5=some ⟨db,q2,none⟩)/\(q2+n2<=D.length)/\(n2<=c2)/\(n2<=len)/\(dT tr (aa D q len)=nY ((num (aa (aa D q len) 0 ([3,3,4,5].getD ((D.getD (q+0) 0).toNat/2^2 % 4) 0))/2^4) % 2^([10,10,14,18].getD ((D.getD (q+0) 0).toNat/2^2 % 4) 0)) (decide (¬((D.getD (q+0) 0).toNat/2^2 % 4)=0)) (([3,3,4,5].getD ((D.getD (q+0) 0).toNat/2^2 % 4) 0)+((num (aa (aa D q len) 0 ([3,3,4,5].getD ((D.getD (q+0) 0).toNat/2^2 % 4) 0))/2^4)/2^([10,10,14,18].getD ((D.getD (q+0) 0).toNat/2^2 % 4) 0))) nw (aa D q2 n2))) ?_ ?_)))
 refine V 5 ?_;refine an J ?_ ?_<;>intro Qr
 refine V 3 ?_;refine dJ J J ?_;have kg:=aqS (ad:=cut ad cap ([3,3,4,5].getD ((D.getD (q+0) 0).toNat/2^2 % 4) 0) 1) (q:=q+([3,3,4,5].getD ((D.getD (q+0) 0).toNat/2^2 % 4) 0)) (len:=([3,3,4,5].getD ((D.getD (q+0) 0).toNat/2^2 % 4) 0)+((num (aa (aa D q len) 0 ([3,3,4,5].getD ((D.getD (q+0) 0).toNat/2^2 % 4) 0))/2^4)/2^([10,10,14,18].getD ((D.getD (q+0) 0).toNat/2^2 % 4) 0)) - ([3,3,4,5].getD ((D.getD (q+0) 0).toNat/2^2 % 4) 0)) (cap:=cap- ([3,3,4,5].getD ((D.getD (q+0) 0).toNat/2^2 % 4) 0)) h (ar yp) (λh0=>eg (a8 I) I) I I I;rw[aqY]at kg;refine kg.mono ?_;clear kg;rintro e w1 ⟨ok,t,tn,ppt,G1,rfl,hT,Qo,h⟩;replace h:=h.grow;refine⟨_,J,?_⟩;refine V 12 ?_;refine ah (j8 J) (aC (eA J ?_ ?_))<;>intro Qs
 (have tL:ok=false:=by cases ok<;>first|rfl| (exfalso;revert Qs;decide));rw[tL,ag aj]at hT;refine V 7 ?_;exact⟨2,none,0,0,0,G1,_,J,(by unfold dT;rw[dK,ag I,mZ I];rw[ag nV];dsimp only;rw[ag IX,ag qe,ai Qr,hT]<;>rfl),(by intro e;cases e),h⟩
 (have fX:ok=true:=by cases ok<;>first|rfl| (exfalso;revert Qs;decide));rw[fX,ai J]at hT;refine(Qo fX).elim λtb ae9=>?_;have Be:=ae9.1;have ae_:=ae9.2;refine aY (tM.parts ae_) (λsy eN=>aY (eN) (λbi eK=>aY (eK) (λc1 fL=>aY (fL) (λc2 gE=>aY (gE) (λbJ qf=>aY (qf) (λcG ae'=>?_))))));have m4:=ae'.1;have Qe:=ae'.2.2;clear Qo;refine aY (cX (ni L m4)) (λQf Qg=>aY (cX (ni L Qe)) (λit3 aqs=>?_));have FJ:=XJ hT;rw[dx (by rw[dK];omega)]at FJ;have kG:=FJ.1.bits;have A_:=ep t.ak;refine V 3 ?_;refine bL h [0,4,8,24,28,32,13,16,21,37,40] ?_;intro w h;refine kA J (aw J (uR (b8 Value.pointer Be)) ?_);refine av 2 ?_;refine aw J (uR (b8 Value.pointer Be)) ?_;refine av 3 ?_;refine aK J h J (LU I) ?_;refine av 3 ?_;refine an J ?_ ?_<;>intro XK
 refine V 7 ?_;exact⟨0,none,0,0,0,G1,_,J,(by unfold dT;rw[dK,ag I,mZ I];rw[ag nV];dsimp only;rw[ag IX,ag qe,ai Qr,hT];dsimp only;rw[ai XK]<;>rfl),(by intro e;cases e),h⟩
 have aGo:=FJ.2.1;refine aQ (bL h [0,4,8,12,16,20,24,31,32] ?_);intro w h;refine av 4 ?_;refine aw J (iY (a:=tn) J J I I) ?_;refine av 2 ?_;refine b7 ?_;intro w h;exact eY J (cm ⟨aM,G1,ppt,some t,cut (cut ad cap ([3,3,4,5].getD ((D.getD (q+0) 0).toNat/2^2 % 4) 0) 1) (cap- ([3,3,4,5].getD ((D.getD (q+0) 0).toNat/2^2 % 4) 0)) tn 1,q+([3,3,4,5].getD ((D.getD (q+0) 0).toNat/2^2 % 4) 0)+tn,((num (aa (aa D q len) 0 ([3,3,4,5].getD ((D.getD (q+0) 0).toNat/2^2 % 4) 0))/2^4)/2^([10,10,14,18].getD ((D.getD (q+0) 0).toNat/2^2 % 4) 0)) -tn,cap- ([3,3,4,5].getD ((D.getD (q+0) 0).toNat/2^2 % 4) 0) -tn,Kn.mk ⟨iJ J I J,trivial⟩,h,(by rw[Be];exact(ae_.sub (Sub.left _ _))),(λt' e=>by cases e;exact FJ.1),(λh0=>eg (eg (a8 I) I) I),I,I,I,(by unfold dT;rw[dK,ag I,mZ I];rw[ag nV];dsimp only;rw[ag IX,ag qe,ai Qr,hT];dsimp only;rw[ag XK];exact b8 (nY ((num (aa (aa D q len) 0 ([3,3,4,5].getD ((D.getD (q+0) 0).toNat/2^2 % 4) 0))/2^4) % 2^([10,10,14,18].getD ((D.getD (q+0) 0).toNat/2^2 % 4) 0)) (decide (¬((D.getD (q+0) 0).toNat/2^2 % 4)=0)) (([3,3,4,5].getD ((D.getD (q+0) 0).toNat/2^2 % 4) 0)+((num (aa (aa D q len) 0 ([3,3,4,5].getD ((D.getD (q+0) 0).toNat/2^2 % 4) 0))/2^4)/2^([10,10,14,18].getD ((D.getD (q+0) 0).toNat/2^2 % 4) 0))) (some t)) ((b8 (List.drop tn) (iL Qq)).trans sI))⟩)
 exact aQ ⟨aM,[],DL,tr,cut ad cap ([3,3,4,5].getD ((D.getD (q+0) 0).toNat/2^2 % 4) 0) 1,q+([3,3,4,5].getD ((D.getD (q+0) 0).toNat/2^2 % 4) 0),((num (aa (aa D q len) 0 ([3,3,4,5].getD ((D.getD (q+0) 0).toNat/2^2 % 4) 0))/2^4)/2^([10,10,14,18].getD ((D.getD (q+0) 0).toNat/2^2 % 4) 0)),cap- ([3,3,4,5].getD ((D.getD (q+0) 0).toNat/2^2 % 4) 0),Kn.mk ⟨iJ J (uO ..) J,trivial⟩,h,IW,jH,(λh0=>eg (a8 I) I),I,I,I,(by unfold dT;rw[dK,ag I,mZ I];rw[ag nV];dsimp only;rw[ag IX,ag qe,ag Qr];exact b8 (nY ((num (aa (aa D q len) 0 ([3,3,4,5].getD ((D.getD (q+0) 0).toNat/2^2 % 4) 0))/2^4) % 2^([10,10,14,18].getD ((D.getD (q+0) 0).toNat/2^2 % 4) 0)) (decide (¬((D.getD (q+0) 0).toNat/2^2 % 4)=0)) (([3,3,4,5].getD ((D.getD (q+0) 0).toNat/2^2 % 4) 0)+((num (aa (aa D q len) 0 ([3,3,4,5].getD ((D.getD (q+0) 0).toNat/2^2 % 4) 0))/2^4)/2^([10,10,14,18].getD ((D.getD (q+0) 0).toNat/2^2 % 4) 0))) tr) (iL Qq))⟩
 rintro ρ w ⟨G1,pp,nw,A5,q2,n2,c2,⟨qY,rfl⟩,h,yq,aqZ,aq0,oS,pj,fW,Qt⟩;refine V 7 ?_;refine ah (W_ J J) (aC (eA J ?_ ?_))<;>intro XL
 have rQ:=vo.none yq XL;refine V 7 ?_;exact⟨2,none,0,0,0,G1,_,J,(by rw[Qt,rQ];rfl<;>rfl),(by intro e;cases e),h⟩
 refine(vo.some yq XL).elim λt m4=>?_;have aq1:tM (G1++F) (.pointer pp) t:=(by rw[m4]at yq;exact yq);refine V 7 ?_;refine d' (t:=171) J (λafa=>?_) (λafa=>?_)
 refine V 4 ?_;refine iI J ?_;refine V 7 ?_;exact⟨0,none,0,0,0,G1,_,J,(by rw[Qt,m4];unfold nY;dsimp only;rw[ai (Or.inl afa)]<;>rfl),(by intro e;cases e),h⟩
 refine V 4 ?_;refine an J ?_ ?_<;>intro aq2
 refine V 7 ?_;exact⟨0,none,0,0,0,G1,_,J,(by rw[Qt,m4];unfold nY;dsimp only;rw[ai (Or.inr aq2)]<;>rfl),(by intro e;cases e),h⟩
 refine V 11 ?_;refine uV J J J J J (aA (aqt (ad:=A5) (q:=q2) (len:=n2) (cap:=c2) (many:=((num (aa (aa D q len) 0 ([3,3,4,5].getD ((D.getD (q+0) 0).toNat/2^2 % 4) 0))/2^4) % 2^([10,10,14,18].getD ((D.getD (q+0) 0).toNat/2^2 % 4) 0))) (four:=(decide (¬((D.getD (q+0) 0).toNat/2^2 % 4)=0))) h (ar (fe _ yp)) aq0 oS pj I (aq1.sub (λe he=>ar (Sub.app g8 _ e he))) (aqZ _ m4) I) ?_);rintro e w1 ⟨v,out,ob,c,sp,dd,rfl,fu,h⟩;refine V 18 ?_;have hL:dT tr (aa D q len)=if v=1 then(1,out,([3,3,4,5].getD ((D.getD (q+0) 0).toNat/2^2 % 4) 0)+((num (aa (aa D q len) 0 ([3,3,4,5].getD ((D.getD (q+0) 0).toNat/2^2 % 4) 0))/2^4)/2^([10,10,14,18].getD ((D.getD (q+0) 0).toNat/2^2 % 4) 0)),nw)else(v,[],0,none):=(by rw[Qt,m4];unfold nY;dsimp only;rw[ag (by intro h';rcases h' with h'|h'<;>omega),dd]);refine⟨v,aB ob,out.length,c,([3,3,4,5].getD ((D.getD (q+0) 0).toNat/2^2 % 4) 0)+((num (aa (aa D q len) 0 ([3,3,4,5].getD ((D.getD (q+0) 0).toNat/2^2 % 4) 0))/2^4)/2^([10,10,14,18].getD ((D.getD (q+0) 0).toNat/2^2 % 4) 0)),(ob,C (List.map u8 out++sp) 5)::G1,pp,J,?_,λe=>⟨out,nw,by rw[hL,ai e],aP.own fu,yq.sub (Sub.cons _ _)⟩,h.mv 1⟩;rw[hL];split
 rename_i e;exact e.symm
 rfl
end Go.Z
namespace Go.Z
variable {i k kind s:Nat}{ts:Nat->Tb}
structure q6(kind:Nat)(t:Tb):Prop where
 len:t.cells.length=2^t.log
 log:t.log<=9
 cell: ∀i,i<2^t.log->(t.cells.getD i default).bits<=9/\(t.cells.getD i default).base+2^(t.cells.getD i default).bits<=2^t.log/\(t.cells.getD i default).sym<=(cj kind).1
theorem q6.of{shares:List Int}{log:Nat}(h:gW shares log)(hk:shares.length<=(cj kind).1+1):q6 kind ⟨cY shares log,log⟩:=
 ⟨zu _ _,h.lZ.2,λi hi=>by
   have:=FE h hi
   have h9:=h.lZ.2
   exact⟨aI this.1 h9,this.2.1,K2 (ry this.2.2.1 hk)⟩⟩
theorem aq3(kind:Nat)(hk:kind<=2):q6 kind (ji kind):=by
 refine q6.of (II kind) ?_;rcases(I:kind=0\/kind=1\/kind=2)with rfl|rfl|rfl<;>decide
theorem aq4(h:s<=(cj kind).1):q6 kind (po s):=
 ⟨J,by simp[po],λi hi=>by
   have:i=0:=by simp[po]at hi;exact hi
   subst this
   exact⟨by simp[po],by simp[po],h⟩⟩
theorem afb{gY:Option Tb}{mode size:Nat}{E:List UInt8}{t:Tb}(hk:kind<=2)(h:kf gY kind mode E=some (t,size))(ho: ∀t,gY=some t->q6 kind t):q6 kind t:=by
 have oP:(cj kind).1<=52/\(cj kind).2<=9:=(by unfold cj;split<;>(try split)<;>decide);unfold kf at h;split at h
 cases h;exact aq3 kind hk
 split at h
 split at h
 cases h
 cases h;exact aq4 I
 split at h
 cases hp:ft (num E) E.length (cj kind).2 ((cj kind).1+1)with
 |none=>rw[hp]at h;cases h
 | some x=>
   rw[hp]at h;cases h
   have:=Dt (out:=x.1) (log:=x.2.1) (size:=x.2.2) hp oP.2 I
   exact q6.of this.1 this.2.2
 cases gY with
 |none=>cases h
 |some t'=>cases h;exact ho _ J
def k6(N:Nat)(ts:Nat->Tb)(left:Int):Nat->List Nat×Int
 |0=>([0,0,0],left)
 |i+1=>((k6 N ts left i).1.set i (dS N (k6 N ts left i).2 (ts i).log),(k6 N ts left i).2- (ts i).log)
def cellAt(ts:Nat->Tb)(at_:List Nat)(k:Nat):de:=(ts k).cells.getD (at_.getD k 0) default
def k7(ts:Nat->Tb)(at_:List Nat)(k:Nat):Nat×Nat:=codeF k (cellAt ts at_ k).sym
def cH(N:Nat)(ts:Nat->Tb)(at_:List Nat)(left:Int):Nat->List Nat×Int
 |0=>([0,0,0],left)
 | i+1=>
   let x:=cH N ts at_ left i
   let k:=[1,2,0].getD i 0
   (x.1.set k ((k7 ts at_ k).1+dS N x.2 (k7 ts at_ k).2),x.2- (k7 ts at_ k).2)
def jj(N:Nat)(ts:Nat->Tb)(at_:List Nat)(left:Int):Nat->List Nat×Int
 |0=>(at_,left)
 | i+1=>
   let x:=jj N ts at_ left i
   let k:=[0,2,1].getD i 0
   (x.1.set k ((cellAt ts x.1 k).base+dS N x.2 (cellAt ts x.1 k).bits),x.2- (cellAt ts x.1 k).bits)
def k8(out:List UInt8)(bR:Nat):Nat->List UInt8
 |0=>out
 |n+1=>k8 out bR n++[(k8 out bR n).getD ((k8 out bR n).length-bR) 0]
theorem DO(out:List UInt8)(bR:Nat): ∀n,(k8 out bR n).length=out.length+n
 |0=>rfl
 |n+1=>by simp[k8,DO out bR n];omega
structure Sq where
 at_:List Nat
 left:Int
 tp:Nat
 out:List UInt8
 a:Nat
 b:Nat
 c:Nat
def fJ(N:Nat)(ts:Nat->Tb)(aL ak begin:Nat)(text:List UInt8)(s:Sq):Nat×Sq:=
 let x:=cH N ts s.at_ s.left 3
 let v0:=x.1.getD 0 0
 let v1:=x.1.getD 1 0
 let v2:=x.1.getD 2 0
 if x.2<0 then(2,s)
 else if text.length-s.tp<v0 then(2,s)
 else
   let zB:=s.out++aa text s.tp v0
   let o:=qW v1 (decide (v0=0)) s.a s.b s.c
   if o.1=0\/zB.length<o.1 then(2,s)
   else if aL<o.1\/ak<zB.length-begin+v2 then(0,s)
   else(1,⟨s.at_,x.2,s.tp+v0,k8 zB o.1 v2,o.1,o.2.1,o.2.2⟩)
def l8(N:Nat)(ts:Nat->Tb)(aL ak begin:Nat)(text:List UInt8):Nat->Sq->Nat×Sq
 |0,s=>(1,s)
 | n+1,s=>
   let x:=fJ N ts aL ak begin text s
   if x.1≠1 then x
   else if n=0 then x
   else
     let y:=jj N ts x.2.at_ x.2.left 3
     if y.2<0 then(2,s)else l8 N ts aL ak begin text n {x.2 with at_:=y.1,left:=y.2}
abbrev afc:=Nat×List UInt8×Nat×Nat×Nat
def k9(ts:Nat->Tb)(aL ak:Nat)(out:List UInt8)(a b c:Nat)(text:List UInt8)(many:Nat)(E:List UInt8):afc:=
 if E.length=0 then(0,[],0,0,0)
 else match iV E with
   |none=>(2,[],0,0,0)
   | some left=>
     let x:=k6 (num E) ts left 3
     let y:=l8 (num E) ts aL ak out.length text many ⟨x.1,x.2,0,out,a,b,c⟩
     if y.1≠1 then(y.1,[],0,0,0)
     else if y.2.left≠0 then(0,[],0,0,0)
     else
       let DP:=y.2.out++text.drop y.2.tp
       if ak<DP.length-out.length then(0,[],0,0,0)else(1,DP,y.2.a,y.2.b,y.2.c)
def zK(ts:Nat->Tb):Prop:= ∀k,k<3->q6 k (ts k)
def FK(ts:Nat->Tb)(at_:List Nat):Prop:=at_.length=3/\ ∀k,k<3->at_.getD k 0<2^(ts k).log
theorem XM{N:Nat}{ts:Nat->Tb}{left:Int}(h:zK ts): ∀i,i<=3->(k6 N ts left i).1.length=3/\(∀k,k<i->(k6 N ts left i).1.getD k 0<2^(ts k).log)/\left-9*i<=(k6 N ts left i).2/\(k6 N ts left i).2<=left
 |0,_=>⟨J,λk hk=>by omega,by simp[k6],by simp[k6]⟩
 | i+1,hi=>by
  have ih:=XM (N:=N) (left:=left) h i I;have hl:=(h i I).log;rw[k6];refine⟨by simp[ih.1],λk hk=>?_,by simp only;omega,by simp only;omega⟩;simp only;rw[eE];by_cases e:i=k
  subst e;rw[ai ⟨J,I⟩];exact u6 _ _ _
  rw[ag I];exact ih.2.1 k I
theorem afd(hk:k<3)(hs:s<=(cj k).1):(codeF k s).2<=31/\(codeF k s).1<=4294967295/\(k=1->1<=(codeF k s).1):=by
 rcases(I:k=0\/k=1\/k=2)with rfl|rfl|rfl
 have h: ∀s,s<36->(codeF 0 s).2<=31/\(codeF 0 s).1<=4294967295:=aj
 have := h s (by have:(cj 0).1=35:=rfl; omega)
 exact⟨this.1,this.2,I⟩
 have h: ∀s,s<32->(codeF 1 s).2<=31/\(codeF 1 s).1<=4294967295/\1<=(codeF 1 s).1:=aj
 have := h s (by have:(cj 1).1=31:=rfl; omega)
 exact⟨this.1,this.2.1,λ_=>this.2.2⟩
 have h: ∀s,s<53->(codeF 2 s).2<=31/\(codeF 2 s).1<=4294967295:=aj
 have := h s (by have:(cj 2).1=52:=rfl; omega)
 exact⟨this.1,this.2,I⟩
theorem XN{at_:List Nat}(h:zK ts)(ha:FK ts at_)(hk:k<3):(k7 ts at_ k).2<=31/\(k7 ts at_ k).1<=4294967295/\(k=1->1<=(k7 ts at_ k).1):=by
 unfold k7 cellAt;exact afd hk ((h k hk).cell _ (ha.2 k hk)).2.2
theorem k3a(h:i<3):[1,2,0].getD i 0<3:=by rcases(I:i=0\/i=1\/i=2)with rfl|rfl|rfl<;>decide
theorem k3b(h:i<3):[0,2,1].getD i 0<3:=by rcases(I:i=0\/i=1\/i=2)with rfl|rfl|rfl<;>decide
theorem XO{N:Nat}{ts:Nat->Tb}{at_:List Nat}{left:Int}(h:zK ts)(ha:FK ts at_): ∀i,i<=3->(cH N ts at_ left i).1.length=3/\(∀k,(cH N ts at_ left i).1.getD k 0<=6442450943)/\left-31*i<=(cH N ts at_ left i).2/\(cH N ts at_ left i).2<=left
 | 0,_=>by
  refine⟨J,λk=>?_,by simp[cH],by simp[cH]⟩
  match k with
  |0=>simp[cH]
  |1=>simp[cH]
  |2=>simp[cH]
  |k+3=>simp[cH]
 | i+1,hi=>by
  have ih:=XO (N:=N) (left:=left) h ha i I;have hc:=XN h ha (k3a (I:i<3));rw[cH];refine⟨by simp[ih.1],λk=>?_,by simp only;omega,by simp only;omega⟩;simp only;rw[eE];split
  have W:=u6 N (cH N ts at_ left i).2 (k7 ts at_ ([1,2,0].getD i 0)).2;have h2:2^(k7 ts at_ ([1,2,0].getD i 0)).2<=2^31:=dp I hc.1;omega
  exact ih.2.1 k
theorem aq5{N:Nat}{at_:List Nat}{left:Int}(h:zK ts)(ha:FK ts at_):1<=(cH N ts at_ left 3).1.getD 1 0:=by
 have hc:=(XN h ha (I:1<3)).2.2 J;have e:(cH N ts at_ left 3).1.getD 1 0=(k7 ts at_ 1).1+dS N left (k7 ts at_ 1).2:=rfl;omega
theorem XP{N:Nat}{ts:Nat->Tb}{at_:List Nat}{left:Int}(h:zK ts)(ha:FK ts at_): ∀i,i<=3->FK ts (jj N ts at_ left i).1/\left-9*i<=(jj N ts at_ left i).2/\(jj N ts at_ left i).2<=left
 |0,_=>⟨ha,by simp[jj],by simp[jj]⟩
 | i+1,hi=>by
  have ih:=XP (N:=N) (left:=left) h ha i I;have hk:=k3b (I:i<3);have hc:=(h _ hk).cell _ (ih.1.2 _ hk);rw[jj];simp only;unfold cellAt;refine⟨⟨by simp[ih.1.1],λk cK=>?_⟩,I,I⟩;rw[eE];split
  rename_i e;have W:=u6 N (jj N ts at_ left i).2 ((ts ([0,2,1].getD i 0)).cells.getD ((jj N ts at_ left i).1.getD ([0,2,1].getD i 0) 0) default).bits;rw[<-e.1];omega
  exact ih.1.2 k cK
end Go.Z
namespace Go.Z
open Go Go.Proofs
variable {F:List aD}{X text:List UInt8}{a b c m many ak n aL:Nat}{ts:Nat->Tb}{ad:Option Addr}{p:Prop}{r:dQ}{p0 p1 p2 x3:Value}
theorem qg{P:Program}{L:List aD}(hs:aP F (.slice ad n c) X)(rR:Sub F L):Src P r L 1 n (.slice ad n c) (X.map u8):=by
 obtain⟨iM,n',c',e,W,h2,h3⟩:=hs;cases e;rcases nO n with h0|h0
 subst h0;obtain rfl:X=[]:=kq.1 W.symm;exact Src.nil
 obtain⟨b,q,l,T,rfl,hm,hr⟩:=h3 h0;obtain⟨j,hj⟩:=HP (rR _ hm);exact Src.slice hj hr (by simp[W])
theorem aP.take(hs:aP F (.slice ad n c) X)(hm:m<=n):aP F (.slice ad m c) (X.take m):=by
 obtain⟨iM,n',c',e,W,h2,h3⟩:=hs;cases e;refine⟨ad,m,c,J,by rw[gk];omega,I,λh0=>?_⟩;obtain⟨b,q,l,T,e1,e2,e3⟩:=h3 I;refine⟨b,q,l,T,e1,e2,Rd.of λj hj=>?_⟩;rw[bX,gk]at hj;rw[e3.get j (by rw[bX];omega),kK,kK,pT,ai I]
theorem aP.drop(hs:aP F (.slice ad n c) X)(hm:m<=n):aP F (.slice (cut ad c m 1) (n-m) (c-m)) (X.drop m):=by
 obtain⟨iM,n',c',e,W,h2,h3⟩:=hs;cases e;refine⟨_,_,_,J,by rw[bV];omega,I,λh0=>?_⟩;obtain⟨b,q,l,T,e1,e2,e3⟩:=h3 I;refine⟨b,q+m,l,T,eg e1 I,e2,Rd.of λj hj=>?_⟩;rw[bX,bV]at hj;have:=e3.get (m+j) (by rw[bX];omega);rw[<-gQ]at this;rw[this,kK,kK,oE]
theorem aP.len(hs:aP F (.slice ad n c) X):n=X.length/\n<=c:=by
 obtain⟨iM,n',c',e,W,h2,h3⟩:=hs;cases e;exact⟨W,h2⟩
theorem XQ{x0 x1 x2 y0 y1 y2:Value}{k:Nat}(hk:k<3):([x0,x1,x2,x3,p0,p1,p2,y0,y1,y2]:List Value)[4+k]? =some ([p0,p1,p2].getD k undef):=by
 rcases(I:k=0\/k=1\/k=2)with rfl|rfl|rfl<;>rfl
theorem l9{f:Nat}(h:f<3):([R a,R b,R c]:List Value)[f]? =some (R ([a,b,c].getD f 0)):=by
 rcases(I:f=0\/f=1\/f=2)with rfl|rfl|rfl<;>rfl
theorem afe{v:Nat}{n:Bool}(ha:a<=m)(hb:b<=m)(hc:c<=m)(hv:v<=m):(qW v n a b c).1<=m/\(qW v n a b c).2.1<=m/\(qW v n a b c).2.2<=m:=by
 unfold qW;split
 exact⟨by simp only;omega,ha,hb⟩
 dsimp only;obtain⟨k,hk⟩: ∃k,(if n=true then v-1+1 else v-1)=k:=⟨_,J⟩;rw[hk];by_cases W:k=1
 rw[ai W];exact⟨hb,ha,hc⟩
 by_cases h2:k=2
 rw[ag W,ai h2];exact⟨hc,ha,hb⟩
 by_cases h3:k=3
 rw[ag W,ag h2,ai h3];exact⟨by simp only;omega,ha,hb⟩
 rw[ag W,ag h2,ag h3];exact⟨ha,hb,hc⟩
theorem aq6(N:Nat)(ts:Nat->Tb)(aL ak begin:Nat)(text:List UInt8)(n:Nat)(s:Sq):l8 N ts aL ak begin text (n+1) s=
 if(fJ N ts aL ak begin text s).1≠1 then fJ N ts aL ak begin text s
 else if n=0 then fJ N ts aL ak begin text s
 else if(jj N ts (fJ N ts aL ak begin text s).2.at_ (fJ N ts aL ak begin text s).2.left 3).2<0 then(2,s)
 else l8 N ts aL ak begin text n {(fJ N ts aL ak begin text s).2 with at_:=(jj N ts (fJ N ts aL ak begin text s).2.at_ (fJ N ts aL ak begin text s).2.left 3).1,left:=(jj N ts (fJ N ts aL ak begin text s).2.at_ (fJ N ts aL ak begin text s).2.left 3).2}:=rfl
theorem aff{left len:Nat}{out:List UInt8}{E:List UInt8}{Z9:Nat×Sq}(hl:E.length=len)(hb:iV E=some left)(hR:l8 (num E) ts aL ak out.length text many ⟨(k6 (num E) ts left 3).1,(k6 (num E) ts left 3).2,0,out,a,b,c⟩=Z9)(h0:0<len):k9 ts aL ak out a b c text many E=if Z9.1≠1 then(Z9.1,[],0,0,0)else if Z9.2.left≠0 then(0,[],0,0,0)else if ak<(Z9.2.out++text.drop Z9.2.tp).length-out.length then(0,[],0,0,0)else(1,Z9.2.out++text.drop Z9.2.tp,Z9.2.a,Z9.2.b,Z9.2.c):=by
 unfold k9;rw[ag I,hb];dsimp only;rw[hR]
theorem aq7{out:List UInt8}(bR n:Nat)(_:bR<=out.length+n):k8 out bR (n+1)=k8 out bR n++[(k8 out bR n).getD (out.length+n-bR) 0]:=by
 rw[k8,DO]
theorem XS(h:p:=by replace h:=h.tail;(try dsimp only[dB]at h);exact⟨aM,dy,c9,dL,aq,(by rw[afg];exact h),by simp,df,by rw[afg];exact fG,eG⟩):p:=h
theorem XT(h:p:=by exact⟨2,J,(by rw[vw,<-fI];rfl),λ_=>h.tail.tail.tail.tail.tail.tail,(by intro e;cases e)⟩):p:=h
theorem afh(h:p:=by rw[dd,ai (show(2:Nat)≠1 by decide)]at fI;exact⟨2,J,(by rw[vw,<-fI];rfl),λ_=>h.tail.tail.tail.tail.tail,(by intro e;cases e)⟩):p:=h
theorem afi(h:p:=by rw[dd,ai (show(0:Nat)≠1 by decide)]at fI;exact⟨0,J,(by rw[vw,<-fI];rfl),λ_=>h.tail.tail.tail.tail.tail,(by intro e;cases e)⟩):p:=h
theorem afj(h:p:=by exact⟨0,J,(by rw[vw]),λ_=>h.tail.tail.tail.tail.tail,(by intro e;cases e)⟩):p:=h
theorem aq8{w:World}{db q:Nat}{D:List UInt8}{len cap:Nat}{T:TT}{sb co:Nat}{tv:Value}{ob:Option Nat}{out:List UInt8}{sp:List Value}(h:H r w ((af sb [.slice (aB ob) out.length co,R aL,R ak,x3,p0,p1,p2,R a,R b,R c] 101)::(ob,C (List.map u8 out++sp) 5)::F))(hm:(af db (D.map u8) T)∈F)(a8:0<len->ad=some ⟨db,q,none⟩)(hq:q+len<=D.length)(hlen:len<=140737488355328)(kG: ∀k,k<3->lI F ([p0,p1,p2].getD k undef) (ts k))(jH:zK ts)(fu:bG ob out.length co (out.map u8) sp 1)(DQ:aP F tv text)(eo:text.length<=131072)(Dz:1<=many)(XU:many<=1048576)(ha:1<=a)(A6:a<=1099511627776)(fh:b<=1099511627776)(pj:c<=1099511627776)(zC:out.length<=1099511627776)(oQ:ak<=131072)(vx:aL<=1099511627776):Calls PP 47 #[aW sb,tv,R many,.slice ad len cap] w λe w'=> ∃v,e= .returned (R v)/\(k9 ts aL ak out a b c text many (aa D q len)).1=v/\(v≠1->H r w' F)/\(v=1-> ∃cO a' b' c' bH FL dm,k9 ts aL ak out a b c text many (aa D q len)=(1,cO,a',b',c')/\bG bH cO.length FL (cO.map u8) dm 1/\1<=a'/\a'<=1099511627776/\b'<=1099511627776/\c'<=1099511627776/\H r w' ((af sb [.slice (aB bH) cO.length FL,R aL,R ak,x3,p0,p1,p2,R a',R b',R c'] 101)::(bH,C (List.map u8 cO++dm) 5)::F)):=by
 obtain⟨vd,ve⟩:=cX hm;obtain⟨aq9,nt0,ct0,rfl,rQ,XV,aGp⟩:=id DQ;subst rQ;have dK:=dx hq;refine wj Tryz.func47 Tryz.ntmps47 [8] ?_;refine V 11 ?_;refine an J ?_ ?_<;>intro wq
 refine V 5 ?_;exact⟨0,J,(by unfold k9;rw[ai I]),λ_=>h.tail.tail,(by intro e;cases e)⟩
 refine V 4 ?_;refine dJ J J (aA (Xe h (ar (ar hm)) a8 hq hlen) ?_);rintro e w1 ⟨ok,bo,left,rfl,eM,Bf,iW,h⟩;refine V 10 ?_;refine ah (j8 J) (aC (eA J ?_ ?_))<;>intro tK
 (have tL:ok=false:=by cases ok<;>first|rfl| (exfalso;revert tK;decide));rw[tL,ag aj]at eM;refine V 5 ?_;exact⟨2,J,(by unfold k9;rw[ag I,eM]),λ_=>h.tail.tail.tail,(by intro e;cases e)⟩
 (obtain rfl:ok=true:=by cases ok<;>first|rfl| (exfalso;revert tK;decide));obtain⟨bb,rfl⟩:=Bf J;rw[ai J]at eM;have vl:=Xh eM;refine V 12 ?_;refine eh h J ?_;intro ba w h;refine V 7 ?_;refine bQ (σ:=Nat) [(13,13),(38,54)] (λi ρ w=>Kn ρ [(38,R i)]/\H r w ((af ba (List.map R (k6 (num (aa D q len)) ts (left:Int) i).1) 44)::(af bb [.slice ad len cap,.int .i64 (k6 (num (aa D q len)) ts (left:Int) i).2] 155)::(af sb [.slice (aB ob) out.length co,R aL,R ak,x3,p0,p1,p2,R a,R b,R c] 101)::(ob,C (List.map u8 out++sp) 5)::F)/\(i<=3)) (λi=>3-i) (0) ⟨aq,h,I⟩ ?_;rintro i ρ w ⟨⟨mC,rfl⟩,h,hi⟩;have PG:=XM (N:=(num (aa D q len))) (left:=(left:Int)) jH i hi;refine V 5 ?_;refine an J ?_ ?_<;>intro nV
 refine aY (kG i I) (λtb eN=>aY (eN) (λcb tT=>?_));have wK:=tT.1;refine aY (cX tT.2.1) (λQf Qg=>aY (cX tT.2.2) (λXi Xj=>?_));have py:=(jH i I).log;refine V 16 ?_;refine aO h J ((XQ nV).trans (b8 some wK)) ?_;refine V 3 ?_;replace h:=h.zz [1] 0;refine b_ J J J (aA (Fm (left:=(k6 (num (aa D q len)) ts (left:Int) i).2) (n:=(ts i).log) h (ar (ar (ar hm))) a8 hq I I I I) ?_);rintro e w1 ⟨rfl,h⟩;refine V 1 ?_;refine gC (v:=R (dS (num (aa D q len)) (k6 (num (aa D q len)) ts (left:Int) i).2 (ts i).log)) h J (jC I) J J J ?_;intro w h;dsimp only[List.set]at h;rw[<-jM]at h;refine V 5 ?_;replace h:=h.zz [3,3,2,3] 0;exact⟨aM,i+1,cw,aq,h,I⟩
 have yr:i=3:=I;rw[yr]at h;clear yr;refine V 8 ?_;have PG:=XM (N:=(num (aa D q len))) (left:=(left:Int)) jH 3 (aR _);have aq_:FK ts (k6 (num (aa D q len)) ts (left:Int) 3).1:=⟨PG.1,PG.2.1⟩;have aq': -27<=(k6 (num (aa D q len)) ts (left:Int) 3).2:=I;have ara:(k6 (num (aa D q len)) ts (left:Int) 3).2<=8*len:=I;refine cg (l8 (num (aa D q len)) ts aL ak out.length text many ⟨(k6 (num (aa D q len)) ts (left:Int) 3).1,(k6 (num (aa D q len)) ts (left:Int) 3).2,0,out,a,b,c⟩) λZ9 mA=>?_;have vw:=aff dK eM mA I;refine bQ (σ:=Nat×Sq×Option Nat×Nat×List Value×Option Addr×Nat) [(1,1),(8,8),(14,15),(17,20),(22,22),(56,218)] (λ⟨k,s,ob,co,sp,FM,ct⟩ ρ w=>Kn ρ [(56,R k),(1,.slice FM (text.length-s.tp) ct)]/\H r w ((af ba (List.map R s.at_) 44)::(af bb [.slice ad len cap,.int .i64 s.left] 155)::(af sb [.slice (aB ob) s.out.length co,R aL,R ak,x3,p0,p1,p2,R s.a,R s.b,R s.c] 101)::(ob,C (List.map u8 s.out++sp) 5)::F)/\(k<many)/\(FK ts s.at_)/\(-27<=s.left)/\(s.left<=8*len)/\(bG ob s.out.length co (List.map u8 s.out) sp 1)/\(s.tp<=text.length)/\(out.length<=s.out.length)/\(s.out.length<=out.length+131072)/\(aP F (.slice FM (text.length-s.tp) ct) (text.drop s.tp))/\(1<=s.a)/\(s.a<=1099511627776)/\(s.b<=1099511627776)/\(s.c<=1099511627776)/\(l8 (num (aa D q len)) ts aL ak out.length text (many-k) s=Z9)) (λ⟨k,s,ob,co,sp,FM,ct⟩=>many-k) (0,⟨(k6 (num (aa D q len)) ts (left:Int) 3).1,(k6 (num (aa D q len)) ts (left:Int) 3).2,0,out,a,b,c⟩,ob,co,sp,aq9,ct0) ⟨aq,h,I,aq_,aq',ara,fu,(bP _),(aR _),(mS _ _),DQ,ha,A6,fh,pj,mA⟩ ?_;rintro⟨k,s,ob,co,sp,FM,ct⟩ ρ w ⟨⟨k5,rfl⟩,h,hk,jg,dE,hJ,fu,A_,eL,fh,Mf,DR,afk,arb,arc,hR⟩;have XY:=XO (N:=(num (aa D q len))) (left:=s.left) jH jg 3 (aR _);have sT:=jg.1;have rQ:=Mf.len;refine aY (show ∃n,many-k=n+1 from⟨many-k-1,I⟩) (λn hn=>?_);have fI:=hR;rw[hn,aq6]at fI;refine V 5 ?_;refine an J ?_ ?_<;>intro FN
 refine V 10 ?_;refine eh h J ?_;intro bv w h;refine V 4 ?_;refine AX J J J (kM _ _ _) h ?_;intro bz w h;refine V 4 ?_;refine bQ (σ:=Nat) [(17,19),(61,92)] (λi ρ w=>Kn ρ [(61,R i)]/\H r w ((af bz [R 1,R 2,R 0] 3)::(af bv (List.map R (cH (num (aa D q len)) ts s.at_ s.left i).1) 44)::(af ba (List.map R s.at_) 44)::(af bb [.slice ad len cap,.int .i64 (cH (num (aa D q len)) ts s.at_ s.left i).2] 155)::(af sb [.slice (aB ob) s.out.length co,R aL,R ak,x3,p0,p1,p2,R s.a,R s.b,R s.c] 101)::(ob,C (List.map u8 s.out++sp) 5)::F)/\(i<=3)) (λi=>3-i) (0) ⟨aq,h,I⟩ ?_;rintro i ρ w ⟨⟨mD,rfl⟩,h,hi⟩;have hvi:=XO (N:=(num (aa D q len))) (left:=s.left) jH jg i hi;have aGq:=hvi.1;refine V 5 ?_;refine an J ?_ ?_<;>intro FO
 have k3:=k3a FO;refine aY (kG ([1,2,0].getD i 0) I) (λtb eN=>aY (eN) (λcb tT=>?_));have wK:=tT.1;refine aY (cX tT.2.1) (λQf Qg=>aY (cX tT.2.2) (λXi Xj=>?_));refine aY (Qn ((ts ([1,2,0].getD i 0)).cells.getD (s.at_.getD ([1,2,0].getD i 0) 0) default)) (λsy eN=>aY (eN) (λbi eK=>aY (eK) (λbs jN=>?_)));have afl:k7 ts s.at_ ([1,2,0].getD i 0)=codeF ([1,2,0].getD i 0) sy:=(by unfold k7 cellAt;rw[jN]);have zy:=XN jH jg k3;rw[afl]at zy;have jv:s.at_.getD ([1,2,0].getD i 0) 0<(ts ([1,2,0].getD i 0)).cells.length:=(by rw[(jH _ k3).len];exact jg.2 _ k3);have kF:sy<=(cj ([1,2,0].getD i 0)).1:=(by have:=((jH _ k3).cell _ (jg.2 _ k3)).2.2;rw[jN]at this;exact this);have qX:=u6 (num (aa D q len)) (cH (num (aa D q len)) ts s.at_ s.left i).2 (codeF ([1,2,0].getD i 0) sy).2;have DT:2^(codeF ([1,2,0].getD i 0) sy).2<=2^31:=dp I zy.1;refine V 6 ?_;refine aO h J (l9 (a:=1) (b:=2) (c:=0) FO) ?_;refine V 3 ?_;refine bL h [0,4,8,12,16,20,40,44,25,28,32,37,49,52,56,61,67,68,72,76,80,84] ?_;intro w h;refine av 8 ?_;refine aK J h J ((XQ k3).trans (b8 some wK)) ?_;refine av 3 ?_;refine aK J h J (jC I) (aw J (ky J J J jv) (Wb J J (aK J h J (Dq jv jN) (kL J J J J (aA (aen (kind:=([1,2,0].getD i 0)) (c:=sy) h I (by intro e;rw[e]at kF;exact kF) (by intro e;rw[e]at kF;exact kF) (by intro e;rw[e]at kF;exact kF)) ?_)))));rintro e w1 ⟨rfl,h⟩;refine av 6 ?_;refine V 5 ?_;replace h:=h.zz [3] 0;refine b_ J J J (aA (Fm (left:=(cH (num (aa D q len)) ts s.at_ s.left i).2) (n:=(codeF ([1,2,0].getD i 0) sy).2) h (ar (ar (ar (ar (ar hm))))) a8 hq I I I I) ?_);rintro e w1 ⟨rfl,h⟩;refine V 2 ?_;refine gC (v:=R ((codeF ([1,2,0].getD i 0) sy).1+dS (num (aa D q len)) (cH (num (aa D q len)) ts s.at_ s.left i).2 (codeF ([1,2,0].getD i 0) sy).2)) h J (jC I) J J J ?_;intro w h;dsimp only[List.set]at h;rw[<-jM,<-afl]at h;refine V 5 ?_;replace h:=h.zz [5,5,2,5,5,5] 0;exact⟨aM,i+1,cw,aq,h,I⟩
 have yr:i=3:=I;rw[yr]at h;clear yr;refine V 8 ?_;refine ah (qL (v:=0) J J) (aC (an J ?_ ?_))<;>intro DU
 refine V 5 ?_;have dd:fJ (num (aa D q len)) ts aL ak out.length text s=(2,s):=(by unfold fJ;dsimp only;rw[ai DU]);rw[dd,ai (show(2:Nat)≠1 by decide)]at fI;exact XT
 refine V 5 ?_;refine aO h J (jC I) ?_;refine V 4 ?_;refine an J ?_ ?_<;>intro Bp
 refine V 5 ?_;have dd:fJ (num (aa D q len)) ts aL ak out.length text s=(2,s):=(by unfold fJ;dsimp only;rw[ag DU,ai Bp]);rw[dd,ai (show(2:Nat)≠1 by decide)]at fI;exact XT
 have afg:(s.out++aa text s.tp ((cH (num (aa D q len)) ts s.at_ s.left 3).1.getD 0 0)).length=s.out.length+((cH (num (aa D q len)) ts s.at_ s.left 3).1.getD 0 0):=(by rw[aF,dx I]);refine aQ (cD [(1,1),(103,118)] (λρ w=> ∃bI:Option Nat,∃sU:Nat,∃bJ:List Value,Kn ρ [(1,.slice (cut FM ct ((cH (num (aa D q len)) ts s.at_ s.left 3).1.getD 0 0) 1) (text.length-s.tp- ((cH (num (aa D q len)) ts s.at_ s.left 3).1.getD 0 0)) (ct- ((cH (num (aa D q len)) ts s.at_ s.left 3).1.getD 0 0)))]/\H r w ((af bv (List.map R (cH (num (aa D q len)) ts s.at_ s.left 3).1) 44)::(af ba (List.map R s.at_) 44)::(af bb [.slice ad len cap,.int .i64 (cH (num (aa D q len)) ts s.at_ s.left 3).2] 155)::(af sb [.slice (aB bI) ((s.out++aa text s.tp ((cH (num (aa D q len)) ts s.at_ s.left 3).1.getD 0 0)).length) sU,R aL,R ak,x3,p0,p1,p2,R s.a,R s.b,R s.c] 101)::(bI,C (List.map u8 (s.out++aa text s.tp ((cH (num (aa D q len)) ts s.at_ s.left 3).1.getD 0 0))++bJ) 5)::F)/\(bG bI (s.out++aa text s.tp ((cH (num (aa D q len)) ts s.at_ s.left 3).1.getD 0 0)).length sU (List.map u8 (s.out++aa text s.tp ((cH (num (aa D q len)) ts s.at_ s.left 3).1.getD 0 0))) bJ 1)) ?_ ?_)
 refine wk h (cL [0,4,8,12,20,24,40,44,17,29,32] (.fork (cL [39,56,60] (.fork (cL [49,52,67,68] .nil) (cL [67,49,52,68] .nil))) (cL [49,52,39,56,60,67,68] .nil))) ?_;intro w h;refine av 9 ?_;refine aK J h J (jC I) (aw J (lX J J I) (gg ?_ ?_))
 refine mV (List.map u8 s.out) sp ((aa text s.tp ((cH (num (aa D q len)) ts s.at_ s.left 3).1.getD 0 0)).map u8) J h 5 J J J fu (qg (aP.take Mf I) (by intro e he;repeat(first|exact he|apply mu))) (by intro x hx;obtain⟨y,_,rfl⟩:=jd.1 hx;rfl) I aj J ?_;intro w dy c9 dL h df fG eG;dsimp only[List.set]at h;rw[<-f_]at h df;refine av 2 ?_;refine gg ?_ ?_
 refine aK J h J (jC I) (aw J (iY J J I I) (b7 ?_));intro w h;refine eY J (cm ?_);exact XS
 refine b7 ?_;intro w h;refine aK J h J (jC I) (aw J (iY J J I I) (eY J (cm ?_)));exact XS
 refine aK J h J (jC I) (aw J (iY J J I I) (mV (List.map u8 s.out) sp ((aa text s.tp ((cH (num (aa D q len)) ts s.at_ s.left 3).1.getD 0 0)).map u8) J h 5 J J J fu (qg (aP.take Mf I) (by intro e he;repeat(first|exact he|apply mu))) (by intro x hx;obtain⟨y,_,rfl⟩:=jd.1 hx;rfl) I aj J ?_));intro w dy c9 dL h df fG eG;dsimp only[List.set]at h;rw[<-f_]at h df;refine av 2 ?_;refine b7 ?_;intro w h;refine eY J (cm ?_);exact XS
 rintro ρ w ⟨bI,sU,bJ,⟨qY,rfl⟩,h,zF⟩;refine V 4 ?_;refine aO h J (jC I) ?_;refine V 1 ?_;refine aO h J (jC I) ?_;refine V 1 ?_;replace h:=h.zz [3] 0;refine ee J J J J (aA (aep (v:=((cH (num (aa D q len)) ts s.at_ s.left 3).1.getD 1 0)) (none:=decide (((cH (num (aa D q len)) ts s.at_ s.left 3).1.getD 0 0)=0)) h (aq5 jH jg) (by have:=XY.2.1 1;omega) DR afk) ?_);rintro e w1 ⟨a1,b1,c1,nZ,rfl,h⟩;have DV:=afe (v:=((cH (num (aa D q len)) ts s.at_ s.left 3).1.getD 1 0)) (n:=decide (((cH (num (aa D q len)) ts s.at_ s.left 3).1.getD 0 0)=0)) afk arb arc (by have:=XY.2.1 1;omega);rw[nZ]at DV;dsimp only at DV;refine V 8 ?_;refine d' (t:=128) J (λard=>?_) (λard=>?_)
 refine V 9 ?_;refine iI J ?_;refine V 5 ?_;have dd:fJ (num (aa D q len)) ts aL ak out.length text s=(2,s):=(by unfold fJ;dsimp only;rw[ag DU,ag Bp,nZ];dsimp only;rw[ai (Or.inl I)]);exact afh
 refine V 9 ?_;refine an J ?_ ?_<;>intro Qu
 refine V 5 ?_;have dd:fJ (num (aa D q len)) ts aL ak out.length text s=(2,s):=(by unfold fJ;dsimp only;rw[ag DU,ag Bp,nZ];dsimp only;rw[ai (Or.inr Qu)]);exact afh
 refine V 3 ?_;refine bL h [0,4,8,12,17,20,24,28,32,36,48,56,68,72,76,41,44,52,61,64,81,84,88] ?_;intro w h;refine av 7 ?_;refine AN (t:=143) J (λafm=>?_) (λafm=>?_)
 refine av 17 ?_;refine iI J ?_;refine V 5 ?_;have dd:fJ (num (aa D q len)) ts aL ak out.length text s=(0,s):=(by unfold fJ;dsimp only;rw[ag DU,ag Bp,nZ];dsimp only;rw[ag (by intro h';rcases h' with h'|h'<;>omega),ai (Or.inl afm)]);exact afi
 refine cZ J J J J (λw=>run_move) J (cZ J J J J (λw=>uR J) J (cZ J J J J (λw=>nS J) J (cZ J J J J (λw=>run_move) J (cZ J J J J (λw=>Lk (a:=2) (W:=ao.lit _) J J I) J (cZ J J J J (λw=>run_move) J (cZ J J J J (λw=>uR J) J (cZ J J J J (λw=>nS J) J (oZ J J J J (λw hk=>run_load (h.keeps hk) J J) J (cZ J J J J (λw=>CM J) J (cZ J J J J (λw=>iz J J I az) J (oZ J J J J (λw hk=>run_load (h.keeps hk) J (jC I)) J (cZ J J J J (λw=>d_ J J (by have:=XY.2.1 2;simp only[aG];omega)) J ?_))))))))))));refine oZ J J J J (λw hk=>run_load (h.keeps hk) J J) J (cZ J J J J (λw=>La J J) J ?_);refine av 2 ?_;refine an J ?_ ?_<;>intro afn
 refine V 5 ?_;have dd:fJ (num (aa D q len)) ts aL ak out.length text s=(0,s):=(by unfold fJ;dsimp only;rw[ag DU,ag Bp,nZ];dsimp only;rw[ag (by intro h';rcases h' with h'|h'<;>omega),ai (Or.inr afn)]);exact afi
 refine V 5 ?_;refine aO h J (jC I) ?_;refine V 3 ?_;refine bQ (σ:=Nat×Option Nat×Nat×List Value) [(162,186)] (λ⟨j,cr,Br,cG⟩ ρ w=>Kn ρ [(162,R j)]/\H r w ((af sb [.slice (aB cr) ((s.out++aa text s.tp ((cH (num (aa D q len)) ts s.at_ s.left 3).1.getD 0 0)).length+j) Br,R aL,R ak,x3,p0,p1,p2,R a1,R b1,R c1] 101)::(af bv (List.map R (cH (num (aa D q len)) ts s.at_ s.left 3).1) 44)::(af ba (List.map R s.at_) 44)::(af bb [.slice ad len cap,.int .i64 (cH (num (aa D q len)) ts s.at_ s.left 3).2] 155)::(cr,C (List.map u8 (k8 (s.out++aa text s.tp ((cH (num (aa D q len)) ts s.at_ s.left 3).1.getD 0 0)) a1 j)++cG) 5)::F)/\(j<=((cH (num (aa D q len)) ts s.at_ s.left 3).1.getD 2 0))/\(bG cr ((s.out++aa text s.tp ((cH (num (aa D q len)) ts s.at_ s.left 3).1.getD 0 0)).length+j) Br (List.map u8 (k8 (s.out++aa text s.tp ((cH (num (aa D q len)) ts s.at_ s.left 3).1.getD 0 0)) a1 j)) cG 1)) (λ⟨j,cr,Br,cG⟩=>((cH (num (aa D q len)) ts s.at_ s.left 3).1.getD 2 0) -j) (0,bI,sU,bJ) ⟨aq,h,(bP _),zF⟩ ?_;rintro⟨j,cr,Br,cG⟩ ρ w ⟨⟨sO,rfl⟩,h,hj,sM⟩;refine(sM.some I).elim λo9 mE=>?_;rw[mE]at h;refine V 5 ?_;refine an J ?_ ?_<;>intro aGr
 refine V 3 ?_;refine bL h [0,4,8,12,20,24,28,36,40,44,56,17,33,49,52,60,64,69,74,79,80,84,91] ?_;intro w h;refine av 17 ?_;refine aK J h J (LV (by rw[DO];omega)) ?_;refine ka J J (kB _) h ?_;intro bz w h;refine mV (ob:=some o9) (List.map u8 (k8 (s.out++aa text s.tp ((cH (num (aa D q len)) ts s.at_ s.left 3).1.getD 0 0)) a1 j)) cG [u8 ((k8 (s.out++aa text s.tp ((cH (num (aa D q len)) ts s.at_ s.left 3).1.getD 0 0)) a1 j).getD ((s.out++aa text s.tp ((cH (num (aa D q len)) ts s.at_ s.left 3).1.getD 0 0)).length+j-a1) 0)] J h 5 J J J (by rw[<-mE];exact sM) (Src.slice (j:=0) (q2:=0) J ⟨J,trivial⟩ J) (by intro x hx;simp at hx;subst hx;rfl) I aj J ?_;intro w dy c9 dL h df fG eG;dsimp only[List.set]at h;rw[Xg,<-aq7 a1 j I]at h df;replace h:=h.tail;(try dsimp only[dB]at h);refine av 2 ?_;refine b7 ?_;intro w h;refine cm ?_;refine V 4 ?_;exact⟨aM,(j+1,dy,c9,dL),cw,aq,h,I,by rw[bX,DO];omega,df,fG,eG⟩
 have Mg:j=((cH (num (aa D q len)) ts s.at_ s.left 3).1.getD 2 0):=I;rw[<-mE,Mg]at h;rw[Mg]at sM;clear Mg;refine V 9 ?_;refine an J ?_ ?_<;>intro aGs
 have dd:fJ (num (aa D q len)) ts aL ak out.length text s=(1,⟨s.at_,(cH (num (aa D q len)) ts s.at_ s.left 3).2,s.tp+((cH (num (aa D q len)) ts s.at_ s.left 3).1.getD 0 0),(k8 (s.out++aa text s.tp ((cH (num (aa D q len)) ts s.at_ s.left 3).1.getD 0 0)) a1 ((cH (num (aa D q len)) ts s.at_ s.left 3).1.getD 2 0)),a1,b1,c1⟩):=(by unfold fJ;dsimp only;rw[ag DU,ag Bp,nZ];dsimp only;rw[ag (by intro h';rcases h' with h'|h'<;>omega),ag (by intro h';rcases h' with h'|h'<;>omega)]);rw[dd,ag (λh'=>h' J)]at fI;have ke:n=0:=I;rw[ai ke]at fI;rw[<-fI]at vw;dsimp only at vw;rw[ag (λh'=>h' J)]at vw;have XZ:((k8 (s.out++aa text s.tp ((cH (num (aa D q len)) ts s.at_ s.left 3).1.getD 0 0)) a1 ((cH (num (aa D q len)) ts s.at_ s.left 3).1.getD 2 0))++text.drop (s.tp+((cH (num (aa D q len)) ts s.at_ s.left 3).1.getD 0 0))).length=(s.out++aa text s.tp ((cH (num (aa D q len)) ts s.at_ s.left 3).1.getD 0 0)).length+((cH (num (aa D q len)) ts s.at_ s.left 3).1.getD 2 0)+(text.length-s.tp- ((cH (num (aa D q len)) ts s.at_ s.left 3).1.getD 0 0)):=(by rw[aF,DO,bV];omega);rw[XZ]at vw;refine V 8 ?_;refine ah (VT (v:=0) J J) (aC (an J ?_ ?_))<;>intro Qv
 refine V 5 ?_;rw[ai Qv]at vw;exact afj
 refine V 9 ?_;have are:aP F (.slice (cut FM ct ((cH (num (aa D q len)) ts s.at_ s.left 3).1.getD 0 0) 1) (text.length-s.tp- ((cH (num (aa D q len)) ts s.at_ s.left 3).1.getD 0 0)) (ct- ((cH (num (aa D q len)) ts s.at_ s.left 3).1.getD 0 0))) (text.drop (s.tp+((cH (num (aa D q len)) ts s.at_ s.left 3).1.getD 0 0))):=(by have:=aP.drop (m:=((cH (num (aa D q len)) ts s.at_ s.left 3).1.getD 0 0)) Mf I;rwa [j7]at this);refine kW (ob:=cr) (List.map u8 (k8 (s.out++aa text s.tp ((cH (num (aa D q len)) ts s.at_ s.left 3).1.getD 0 0)) a1 ((cH (num (aa D q len)) ts s.at_ s.left 3).1.getD 2 0))) cG ((text.drop (s.tp+((cH (num (aa D q len)) ts s.at_ s.left 3).1.getD 0 0))).map u8) h 4 J J J sM (qg are (by intro e he;repeat(first|exact he|apply mu))) (by intro x hx;obtain⟨y,_,rfl⟩:=jd.1 hx;rfl) I aj J ?_;intro w dy c9 dL h df fG eG;dsimp only[List.set]at h;rw[<-f_]at h df;refine V 2 ?_;refine b7 ?_;intro w h;refine V 3 ?_;refine bL h [0,4,8,20,28,32,36,13,16,24,41,44] ?_;intro w h;refine av 13 ?_;refine an J ?_ ?_<;>intro afo
 refine V 5 ?_;rw[ag Qv,ai afo]at vw;exact afj
 refine V 6 ?_;rw[ag Qv,ag afo]at vw;rw[<-XZ]at h;refine⟨1,J,(by rw[vw]),(λe=>absurd J e),λ_=>⟨_,a1,b1,c1,dy,c9,dL,vw,⟨?_,df,?_,eG⟩,I,DV.1,DV.2.1,DV.2.2,((((h.mv 1).tail).mv 1).tail.mv 1).tail⟩⟩
 rw[bX,eC]
 rw[XZ];exact fG
 have dd:fJ (num (aa D q len)) ts aL ak out.length text s=(1,⟨s.at_,(cH (num (aa D q len)) ts s.at_ s.left 3).2,s.tp+((cH (num (aa D q len)) ts s.at_ s.left 3).1.getD 0 0),(k8 (s.out++aa text s.tp ((cH (num (aa D q len)) ts s.at_ s.left 3).1.getD 0 0)) a1 ((cH (num (aa D q len)) ts s.at_ s.left 3).1.getD 2 0)),a1,b1,c1⟩):=(by unfold fJ;dsimp only;rw[ag DU,ag Bp,nZ];dsimp only;rw[ag (by intro h';rcases h' with h'|h'<;>omega),ag (by intro h';rcases h' with h'|h'<;>omega)]);rw[dd,ag (λh'=>h' J)]at fI;rw[ag (I: ¬n=0)]at fI;dsimp only at fI;refine V 4 ?_;refine AX J J J (kM _ _ _) h ?_;intro bz w h;refine V 4 ?_;refine bQ (σ:=Nat) [(22,22),(193,212)] (λi ρ w=>Kn ρ [(193,R i)]/\H r w ((af bz [R 0,R 2,R 1] 3)::(af sb [.slice (aB cr) ((s.out++aa text s.tp ((cH (num (aa D q len)) ts s.at_ s.left 3).1.getD 0 0)).length+((cH (num (aa D q len)) ts s.at_ s.left 3).1.getD 2 0)) Br,R aL,R ak,x3,p0,p1,p2,R a1,R b1,R c1] 101)::(af bv (List.map R (cH (num (aa D q len)) ts s.at_ s.left 3).1) 44)::(af ba (List.map R (jj (num (aa D q len)) ts s.at_ (cH (num (aa D q len)) ts s.at_ s.left 3).2 i).1) 44)::(af bb [.slice ad len cap,.int .i64 (jj (num (aa D q len)) ts s.at_ (cH (num (aa D q len)) ts s.at_ s.left 3).2 i).2] 155)::(cr,C (List.map u8 (k8 (s.out++aa text s.tp ((cH (num (aa D q len)) ts s.at_ s.left 3).1.getD 0 0)) a1 ((cH (num (aa D q len)) ts s.at_ s.left 3).1.getD 2 0))++cG) 5)::F)/\(i<=3)) (λi=>3-i) (0) ⟨aq,h,I⟩ ?_;rintro i ρ w ⟨⟨vk,rfl⟩,h,hi⟩;have Bt:=XP (N:=(num (aa D q len))) (left:=(cH (num (aa D q len)) ts s.at_ s.left 3).2) jH jg i hi;have aGt:=Bt.1.1;refine V 5 ?_;refine an J ?_ ?_<;>intro Qw
 have k3:=k3b Qw;refine aY (kG ([0,2,1].getD i 0) I) (λtb eN=>aY (eN) (λcb tT=>?_));have wK:=tT.1;refine aY (cX tT.2.1) (λQf Qg=>aY (cX tT.2.2) (λXi Xj=>?_));refine AW (Qn ((ts ([0,2,1].getD i 0)).cells.getD ((jj (num (aa D q len)) ts s.at_ (cH (num (aa D q len)) ts s.at_ s.left 3).2 i).1.getD ([0,2,1].getD i 0) 0) default)) λsy bi bs jN=>?_;have jv:(jj (num (aa D q len)) ts s.at_ (cH (num (aa D q len)) ts s.at_ s.left 3).2 i).1.getD ([0,2,1].getD i 0) 0<(ts ([0,2,1].getD i 0)).cells.length:=(by rw[(jH _ k3).len];exact Bt.1.2 _ k3);have yn:=(jH _ k3).cell _ (Bt.1.2 _ k3);rw[jN]at yn;dsimp only at yn;have df:=(jH _ k3).log;have LS:=vh df;have qX:=u6 (num (aa D q len)) (jj (num (aa D q len)) ts s.at_ (cH (num (aa D q len)) ts s.at_ s.left 3).2 i).2 bi;refine V 6 ?_;refine aO h J (l9 (a:=0) (b:=2) (c:=1) Qw) (dI (aC (bL h [0,4,8,12,16,20,36,40,44,25,28,33,49,55,56,63] ?_)));intro w h;refine av 9 ?_;refine aK J h J ((XQ k3).trans (b8 some wK)) (ac1 J J (xN J (λw hk=>iK [_,_] (h.keeps hk) J ⟨J,J,trivial⟩ J) J (aK J h J (jC I) ?_)));replace h:=h.zz [4] 0;refine zk J J J J J ?_;have px:=aeE (lg:=R (ts ([0,2,1].getD i 0)).log) (cs:=(ts ([0,2,1].getD i 0)).cells) (cl:=(ts ([0,2,1].getD i 0)).cells.length) (i:=(jj (num (aa D q len)) ts s.at_ (cH (num (aa D q len)) ts s.at_ s.left 3).2 i).1.getD ([0,2,1].getD i 0) 0) h (ar (ar (ar (ar (ar hm))))) a8 hq (ar (ar (ar (ar (ar tT.2.2))))) I I I jv J (by rw[jN];dsimp only;omega) (by rw[jN];dsimp only;omega);rw[jN]at px;dsimp only at px;refine px.mono ?_;clear px;rintro e w1 ⟨rfl,h⟩;refine⟨_,J,?_⟩;refine av 1 ?_;refine v_ (v:=R (bs+dS (num (aa D q len)) (jj (num (aa D q len)) ts s.at_ (cH (num (aa D q len)) ts s.at_ s.left 3).2 i).2 bi)) J h J (jC I) J J J ?_;intro w h;dsimp only[List.set]at h;rw[<-jM]at h;refine cm ?_;refine V 4 ?_;replace h:=h.zz [5,1,5,5,5,5] 0;refine⟨aM,?_⟩;have zy:cellAt ts (jj (num (aa D q len)) ts s.at_ (cH (num (aa D q len)) ts s.at_ s.left 3).2 i).1 ([0,2,1].getD i 0)=⟨sy,bi,bs⟩:=jN;have arh:(jj (num (aa D q len)) ts s.at_ (cH (num (aa D q len)) ts s.at_ s.left 3).2 (i+1))=((jj (num (aa D q len)) ts s.at_ (cH (num (aa D q len)) ts s.at_ s.left 3).2 i).1.set ([0,2,1].getD i 0) (bs+dS (num (aa D q len)) (jj (num (aa D q len)) ts s.at_ (cH (num (aa D q len)) ts s.at_ s.left 3).2 i).2 bi),(jj (num (aa D q len)) ts s.at_ (cH (num (aa D q len)) ts s.at_ s.left 3).2 i).2-bi):=(by rw[jj,zy]);refine⟨i+1,I,aq,?_,I⟩;rw[arh];exact h
 have yr:i=3:=I;rw[yr]at h;clear yr;refine V 7 ?_;refine ah (qL (v:=0) J J) (aC (an J ?_ ?_))<;>intro FP
 refine V 5 ?_;rw[ai FP]at fI;exact XT
 refine V 5 ?_;replace h:=h.zz [5,2,5,5,5,5] 2;refine⟨aM,?_⟩;rw[ag FP]at fI;have gE:=XP (N:=(num (aa D q len))) (left:=(cH (num (aa D q len)) ts s.at_ s.left 3).2) jH jg 3 (aR _);have afp:=aP.drop (m:=((cH (num (aa D q len)) ts s.at_ s.left 3).1.getD 0 0)) Mf I;rw[j7]at afp;refine⟨(k+1,⟨(jj (num (aa D q len)) ts s.at_ (cH (num (aa D q len)) ts s.at_ s.left 3).2 3).1,(jj (num (aa D q len)) ts s.at_ (cH (num (aa D q len)) ts s.at_ s.left 3).2 3).2,s.tp+((cH (num (aa D q len)) ts s.at_ s.left 3).1.getD 0 0),(k8 (s.out++aa text s.tp ((cH (num (aa D q len)) ts s.at_ s.left 3).1.getD 0 0)) a1 ((cH (num (aa D q len)) ts s.at_ s.left 3).1.getD 2 0)),a1,b1,c1⟩,cr,Br,cG,cut FM ct ((cH (num (aa D q len)) ts s.at_ s.left 3).1.getD 0 0) 1,ct- ((cH (num (aa D q len)) ts s.at_ s.left 3).1.getD 0 0)),cw,?_⟩;have FQ:=DO (s.out++aa text s.tp ((cH (num (aa D q len)) ts s.at_ s.left 3).1.getD 0 0)) a1 ((cH (num (aa D q len)) ts s.at_ s.left 3).1.getD 2 0);refine⟨Kn.mk ⟨J,iJ J cw J,trivial⟩,?_,?_⟩
 dsimp only;rw[FQ];exact h
 dsimp only;rw[FQ];refine⟨I,gE.1,I,I,sM,I,I,I,?_,I,DV.1,DV.2.1,DV.2.2,?_⟩
 rw[show text.length- (s.tp+((cH (num (aa D q len)) ts s.at_ s.left 3).1.getD 0 0))=text.length-s.tp- ((cH (num (aa D q len)) ts s.at_ s.left 3).1.getD 0 0)from by omega];exact afp
 rw[show many- (k+1)=n from by omega];exact fI
 exact absurd hk FN
end Go.Z
