/- Part 6 of the proof. -/
import Derived.KernelRfl
import Derived.LaidEqlPtr
import Derived.WideLaws
import Derived.Test.YtmgkiicjpmihfaaGreatDoorQE
set_option linter.all false
set_option maxRecDepth 20000
set_option maxHeartbeats 400000000
namespace Go.Z
open Go Go.Proofs
variable {F F':List aD}
section
variable {P:Program}{ρ:Env}{T T' ty:TypeId}{w:World}{x y:Operand}{k:IntKind}{u v:Int}
theorem wR(hx:Env.ev ρ x= .int k u)(hy:Env.ev ρ y= .int k v):run P ρ (.binOp .add T x y T') ty w= .ok (.value (.int k (k.wrap (u+v)))) w:=by
 rw[ku _ hx hy];simp[binOp,Op.intArith]
theorem afU(hx:Env.ev ρ x= .int k u)(hy:Env.ev ρ y= .int k v):run P ρ (.binOp .sub T x y T') ty w= .ok (.value (.int k (k.wrap (u-v)))) w:=by
 rw[ku _ hx hy];simp[binOp,Op.intArith]
end
section
variable {ρ:Env}{T T' ty:TypeId}{w:World}{x y:Operand}{r:dQ}{L:List aD}{a a':Addr}{t t':TypeId}{u u':Value}
theorem Bw:PP.underlying 103=some (.interface (PP.methodsAt 103)):=by kernel_rfl
theorem Yd{p:Prop}(h:p:=by simp only[run,execOp,hx];simp[Instr.makeInterface,run_underlying hu]):p:=h
theorem asd(hx:Env.ev ρ x= .pointer (some a)):run PP ρ (.makeInterface 182 x) ty w= .ok (.value (.iface 182 (.pointer (some a)))) w:=by
 have hu:PP.underlying 182=some (.pointer 184):=Tryz.underlying182;exact Yd
theorem ase(hx:Env.ev ρ x= .pointer (some a)):run PP ρ (.makeInterface 199 x) ty w= .ok (.value (.iface 199 (.pointer (some a)))) w:=by
 have hu:PP.underlying 199=some (.pointer 201):=Tryz.underlying199;exact Yd
theorem asf(hx:Env.ev ρ x= .pointer (some a)):run PP ρ (.makeInterface 58 x) ty w= .ok (.value (.iface 58 (.pointer (some a)))) w:=by
 have hu:PP.underlying 58=some (.pointer 84):=Tryz.underlying58;exact Yd
theorem Ye(hx:Env.ev ρ x= .iface t u){c:Value}(hc:c= .nilIface):run PP ρ (.binOp .eql 103 x (.const c) T') ty w= .ok (.value (.bool false)) w:=by
 subst hc;have h:=run_eql_held_nil (P:=PP) w 103 t u Bw;simp only[run,execOp,hx];simp[eqGuard,Env.ev,h]
theorem afV(hx:Env.ev ρ x= .nilIface){c:Value}(hc:c= .nilIface):run PP ρ (.binOp .eql 103 x (.const c) T') ty w= .ok (.value (.bool true)) w:=by
 subst hc;have h:=run_eql_nil_nil (P:=PP) w 103 Bw;simp only[run,execOp,hx];simp[eqGuard,Env.ev,h]
theorem I6(hx:Env.ev ρ x= .iface t u){c:Value}(hc:c= .nilIface):run PP ρ (.binOp .neq 103 x (.const c) T') ty w= .ok (.value (.bool true)) w:=by
 subst hc;have h:=run_neq_held_nil (P:=PP) w 103 t u Bw;simp only[run,execOp,hx];simp[eqGuard,Env.ev,h]
theorem wT(hx:Env.ev ρ x= .nilIface){c:Value}(hc:c= .nilIface):run PP ρ (.binOp .neq 103 x (.const c) T') ty w= .ok (.value (.bool false)) w:=by
 subst hc;have h:=run_neq_nil_nil (P:=PP) w 103 Bw;simp only[run,execOp,hx];simp[eqGuard,Env.ev,h]
theorem asg(hx:Env.ev ρ x= .iface t u)(hy:Env.ev ρ y= .iface t' u')(bY:t≠t'):run PP ρ (.binOp .eql 103 x y T') ty w= .ok (.value (.bool false)) w:=by
 have h:(binOp .eql 103 (.iface t u) (.iface t' u')).run PP w= .ok (.bool false) w:=(by have h9: ∀d:Nat,(Op.equalIn (d+1) 103 (.iface t u) (.iface t' u')).run PP w= .ok false w:=λd=>(by simp[Op.equalIn,run_underlying Bw,bY]);simp only[binOp];simp[Op.equal,Op.maxDepth,h9 9999]);simp only[run,execOp,hx,hy];simp[eqGuard,h]
theorem ash(hx:Env.ev ρ x= .nilIface)(hy:Env.ev ρ y= .iface t' u'):run PP ρ (.binOp .eql 103 x y T') ty w= .ok (.value (.bool false)) w:=by
 have h:=run_eql_iface_nil_left (P:=PP) w (ti:=103) t' u' Bw;simp only[run,execOp,hx,hy];simp[eqGuard,h]
theorem asi:Tryz.t201.size≠0:=by
 have:Tryz.t201.size=1:=(by kernel_rfl);omega
theorem Mq(hx:Env.ev ρ x= .iface 199 (.pointer (some a)))(hy:Env.ev ρ y= .iface 199 (.pointer (some a))):run PP ρ (.binOp .eql 103 x y T') ty w= .ok (.value (.bool true)) w:=by
 have h:=run_eql_iface_ptr_same (P:=PP) w (ti:=103) (tp:=199) (te:=201) (i:=Tryz.t199) (j:=Tryz.t201) a Bw Tryz.underlying199 (by kernel_rfl) (by kernel_rfl) (by kernel_rfl);simp only[run,execOp,hx,hy];simp[eqGuard,h]
theorem QJ{l l':List Value}{A A':TypeId}(hx:Env.ev ρ x= .iface 199 (.pointer (some a)))(hy:Env.ev ρ y= .iface 199 (.pointer (some a')))(hh:H r w L)(bY:a≠a')(ha:(some a.block,C l A)∈L)(ha':(some a'.block,C l' A')∈L):run PP ρ (.binOp .eql 103 x y T') ty w= .ok (.value (.bool false)) w:=by
 have h:=run_eql_iface_ptr_other (P:=PP) w (ti:=103) (tp:=199) (te:=201) (i:=Tryz.t199) (j:=Tryz.t201) Bw Tryz.underlying199 (by kernel_rfl) (by kernel_rfl) (by kernel_rfl) asi bY (hh.eH _ _ ha) (hh.eH _ _ ha');simp only[run,execOp,hx,hy];simp[eqGuard,h]
end
def yy:List Nat:=[16777232,16777234,16777236,16777238,33554456,33554460,50331680,50331688,67108912,100663360,117440640,134217984,150995456,167773184,184551424,201330688,218112000,234897408,251691008,268500992]
def yz:List Nat:=[16777251,16777253,16777255,16777257,33554475,33554479,50331699,50331707,67108931,67108947,83886179,117440643,134217987,150995459,167773187,184551427,201330691,218112003,234897411,251691011,268500995]
abbrev da(n:Nat):Value:=aZ n
def I7(F:List aD)(g:Nat)(l:List Nat):Prop:= ∃b q c T m T',(some g,C [.slice (some ⟨b,q,none⟩) l.length c] T)∈F/\(some b,C m T')∈F/\Rd m q (l.map da)
theorem I7.sub{g:Nat}{l:List Nat}(h:I7 F g l)(hs:Sub F F'):I7 F' g l:=by
 obtain⟨b,q,c,T,m,T',W,h2,h3⟩:=h;exact⟨b,q,c,T,m,T',hs _ W,hs _ h2,h3⟩
structure Gl(F:List aD)(aE aU:Addr):Prop where
 g0: ∃T,(some 0,C [.iface 199 (.pointer (some aE))] T)∈F
 g1: ∃T,(some 1,C [.iface 199 (.pointer (some aU))] T)∈F
 g2: ∃T,(some 2,C [.bool false] T)∈F
 bE: ∃l,∃T:TypeId,(some aE.block,C l T)∈F
 bU: ∃l,∃T:TypeId,(some aU.block,C l T)∈F
 ne:aU≠aE
 g4:I7 F 4 yy
 g5:I7 F 5 yz
theorem Gl.sub{aE aU:Addr}(h:Gl F aE aU)(hs:Sub F F'):Gl F' aE aU:=
 ⟨h.g0.imp λ_=>hs _,h.g1.imp λ_=>hs _,h.g2.imp λ_=>hs _,h.bE.imp λ_=>Exists.imp λ_=>hs _,h.bU.imp λ_=>Exists.imp λ_=>hs _,h.ne,h.g4.sub hs,h.g5.sub hs⟩
theorem H.afW{r:dQ}{w:World}{L:List aD}{b b':Nat}{o o':Obj}(h:H r w ((some b,o)::L))(hm:(some b',o')∈L):b≠b':=by
 intro e;subst e;have:=h.nodup;simp only[CA]at this;exact(Vg.1 this).1 (KQ.2 ⟨_,hm,J⟩)
def Er(aU:Addr)(e:Value):Prop:=(∃b,e= .iface 182 (.pointer (some ⟨b,0,none⟩)))\/e= .iface 199 (.pointer (some aU))
structure cQ where
 sV:Value
 gG:Bool
 sum:Bool
 one:Bool
 dF:Bool
 rem:Nat
 ny:Int
 bA:Option Addr
 bN:Nat
 bC:Nat
 off:Nat
 r1:Nat
 r2:Nat
 r3:Nat
 hA:Option Addr
 hN:Nat
 hC:Nat
 hb:Nat
 wS:Nat
 wA:Option Addr
 wN:Nat
 wC:Nat
 wO:Nat
 cA:Option Addr
 cN:Nat
 cC:Nat
 lA:Option Addr
 lN:Nat
 lC:Nat
 st:Nat->Value
 tb:Nat->Nat
 sq:Nat->Value
 fR:Nat->UInt8
 fA:Option Addr
 fN:Nat
 fC:Nat
 xl:Nat
 xv:Nat->Nat
 xb:Nat->UInt8
 xc:Nat
def eX{α:Type}(f:Nat->α)(k:Nat)(v:α):Nat->α:=λi=>if i=k then v else f i
def au(x:cQ):List Value:=[
 x.sV,.bool x.gG,.bool x.sum,.bool x.one,.bool x.dF,cy x.rem,.int .i64 x.ny,.slice x.bA x.bN x.bC,
 R x.off,aZ x.r1,aZ x.r2,aZ x.r3,.slice x.hA x.hN x.hC,R x.hb,R x.wS,.slice x.wA x.wN x.wC,
 R x.wO,.slice x.cA x.cN x.cC,.slice x.lA x.lN x.lC,x.st 0,x.st 1,x.st 2,gR (x.tb 0),gR (x.tb 1),
 gR (x.tb 2),x.sq 0,x.sq 1,x.sq 2,u8 (x.fR 0),u8 (x.fR 1),u8 (x.fR 2),u8 (x.fR 3),
 u8 (x.fR 4),u8 (x.fR 5),u8 (x.fR 6),u8 (x.fR 7),u8 (x.fR 8),u8 (x.fR 9),u8 (x.fR 10),u8 (x.fR 11),
 u8 (x.fR 12),u8 (x.fR 13),u8 (x.fR 14),u8 (x.fR 15),.slice x.fA x.fN x.fC,cy x.xl,cy (x.xv 0),cy (x.xv 1),
 cy (x.xv 2),cy (x.xv 3),u8 (x.xb 0),u8 (x.xb 1),u8 (x.xb 2),u8 (x.xb 3),u8 (x.xb 4),u8 (x.xb 5),
 u8 (x.xb 6),u8 (x.xb 7),u8 (x.xb 8),u8 (x.xb 9),u8 (x.xb 10),u8 (x.xb 11),u8 (x.xb 12),u8 (x.xb 13),
 u8 (x.xb 14),u8 (x.xb 15),u8 (x.xb 16),u8 (x.xb 17),u8 (x.xb 18),u8 (x.xb 19),u8 (x.xb 20),u8 (x.xb 21),
 u8 (x.xb 22),u8 (x.xb 23),u8 (x.xb 24),u8 (x.xb 25),u8 (x.xb 26),u8 (x.xb 27),u8 (x.xb 28),u8 (x.xb 29),
 u8 (x.xb 30),u8 (x.xb 31),R x.xc]
theorem yA(x:cQ):(au x).length=83:=rfl
variable {aE aU:Addr}{s:ByteArray}{zo:Int}{bb bi cn rb:Nat}{p:Prop}{x:cQ}{r:dQ}{dv:Value}{w:World}
theorem afX(h:H r w F):Calls PP 93 #[.string s] w λe w'=> ∃b,e= .returned (.iface 199 (aW b))/\H r w' ((af b [.string s] 201)::F):=by
 refine gD Tryz.func93 Tryz.ntmps93 [2] ?_;refine V 7 ?_;refine ah (Fe (apk _) J) (sB h J J J ?_);intro bz5 w h;refine ah (ase J) ?_;refine V 3 ?_;exact⟨_,J,h⟩
theorem QK{a:Addr}{la:List Value}{Ta:TypeId}(ha:(some a.block,C la Ta)∈F)(bY:a≠aE)(h:H r w F)(hR:(af rb (au x) 81)∈F)(hG:Gl F aE aU):Calls PP 79 #[aW rb,.int .i64 zo,.iface 199 (.pointer (some a))] w λe w'=> ∃b,e= .returned (.iface 182 (aW b))/\H r w' F:=by
 obtain⟨iR,Bz⟩:=cX hR;obtain⟨T0,fq⟩:=hG.g0;obtain⟨i0,rV⟩:=cX fq;obtain⟨T1,fy⟩:=hG.g1;obtain⟨i1,n7⟩:=cX fy;obtain⟨lE,TE,vy⟩:=hG.bE;obtain⟨lU,TU,D4⟩:=hG.bU;refine mW Tryz.func79 Tryz.ntmps79 [6] ?_;refine V 9 ?_;refine ah (QJ J J h bY ha vy) (aC (fV J ?_));refine V 8 ?_;refine ah (wR J J) (cM (ah (zm (apj _ _ _) J J) (sB h J J J ?_)));intro aGF w h;refine ah (asd J) ?_;refine V 3 ?_;exact⟨_,J,h.tail⟩
theorem asj{rb:Nat}{x:cQ}(h:H r w F)(hG:Gl F aE aU){vr:Value}:Calls PP 79 #[vr,.int .i64 zo,.iface 199 (.pointer (some aE))] w λe w'=>e= .returned (.iface 199 (.pointer (some aE)))/\H r w' F:=by
 obtain⟨T0,fq⟩:=hG.g0;obtain⟨i0,rV⟩:=cX fq;refine mW Tryz.func79 Tryz.ntmps79 [6] ?_;refine V 9 ?_;refine ah (Mq J J) (aC (iI J ?_));refine V 6 ?_;exact⟨J,h⟩
theorem qk(h:H r w F)(hR:(af rb (au x) 81)∈F)(hG:Gl F aE aU):Calls PP 82 #[aW rb,.int .i64 zo,.string s] w λe w'=> ∃b,e= .returned (.iface 182 (aW b))/\H r w' F:=by
 obtain⟨iR,Bz⟩:=cX hR;obtain⟨T0,fq⟩:=hG.g0;obtain⟨i0,rV⟩:=cX fq;obtain⟨T1,fy⟩:=hG.g1;obtain⟨i1,n7⟩:=cX fy;obtain⟨lE,TE,vy⟩:=hG.bE;obtain⟨lU,TU,D4⟩:=hG.bU;refine mW Tryz.func82 Tryz.ntmps82 [6] ?_;refine V 9 ?_;refine dJ J J (aA (afX h) ?_);rintro e w1 ⟨b,rfl,h⟩;have bY:(⟨b,0,none⟩:Addr)≠aE:=λe=>h.afW vy (b8 Addr.block e);refine ee J J J J (aA (QK bF bY h (ar hR) (hG.sub λ_=>mu _)) ?_);rintro e w1 ⟨b2,rfl,h⟩;refine V 3 ?_;exact⟨_,J,h.tail⟩
theorem Yf(h:p:=by refine ee J J J J (aA (QK D4 hG.ne h hR hG) ?_);rintro e w1 ⟨b2,rfl,h⟩;refine V 3 ?_;exact⟨_,J,h⟩):p:=h
theorem tX(h:H r w F)(hR:(af rb (au x) 81)∈F)(hG:Gl F aE aU):Calls PP 95 #[aW rb,.int .i64 zo] w λe w'=> ∃b,e= .returned (.iface 182 (aW b))/\H r w' F:=by
 obtain⟨iR,Bz⟩:=cX hR;obtain⟨T0,fq⟩:=hG.g0;obtain⟨i0,rV⟩:=cX fq;obtain⟨T1,fy⟩:=hG.g1;obtain⟨i1,n7⟩:=cX fy;obtain⟨lE,TE,vy⟩:=hG.bE;obtain⟨lU,TU,D4⟩:=hG.bU;refine gS Tryz.func95 Tryz.ntmps95 [4] ?_;refine V 9 ?_;exact Yf
theorem asl(h:H r w F)(hR:(af rb (au x) 81)∈F)(hG:Gl F aE aU):Calls PP 83 #[aW rb,.int .i64 zo,.iface 199 (.pointer (some aE))] w λe w'=> ∃b,e= .returned (.iface 182 (aW b))/\H r w' F:=by
 obtain⟨iR,Bz⟩:=cX hR;obtain⟨T0,fq⟩:=hG.g0;obtain⟨i0,rV⟩:=cX fq;obtain⟨T1,fy⟩:=hG.g1;obtain⟨i1,n7⟩:=cX fy;obtain⟨lE,TE,vy⟩:=hG.bE;obtain⟨lU,TU,D4⟩:=hG.bU;refine mW Tryz.func83 Tryz.ntmps83 [6] ?_;refine V 9 ?_;refine ah (Mq J J) (aC (iI J ?_));refine V 9 ?_;exact Yf
theorem asn(h:H r w F)(hR:(af rb (au x) 81)∈F)(hG:Gl F aE aU):Calls PP 83 #[aW rb,.int .i64 zo,.iface 199 (.pointer (some aU))] w λe w'=> ∃b,e= .returned (.iface 182 (aW b))/\H r w' F:=by
 obtain⟨iR,Bz⟩:=cX hR;obtain⟨T0,fq⟩:=hG.g0;obtain⟨i0,rV⟩:=cX fq;obtain⟨T1,fy⟩:=hG.g1;obtain⟨i1,n7⟩:=cX fy;obtain⟨lE,TE,vy⟩:=hG.bE;obtain⟨lU,TU,D4⟩:=hG.bU;refine mW Tryz.func83 Tryz.ntmps83 [6] ?_;refine V 9 ?_;refine ah (QJ J J h hG.ne D4 vy) (aC (fV J ?_));refine V 6 ?_;exact Yf
theorem afY(h:p:=by refine V 5 ?_;refine bL h [0,4,8,16,20,24,36,13,29,32,43,44] ?_;intro w h;refine av 10 ?_;refine zk J J J J J (aA (qk h hR hG) ?_);rintro e w1 ⟨b2,rfl,h⟩;exact eY J (cm (iG ⟨_,J,h⟩))):p:=h
theorem QL{of st:Nat}(h:H r w F)(hR:(af rb (au x) 81)∈F)(hG:Gl F aE aU)(hB:(af bb [aW rb,dv,.int .u32 (of:Int),.int .u32 (st:Int),.int .u32 (bi:Int),.int .u32 (cn:Int)] 207)∈F)(nZ:of<=4294967295):Calls PP 107 #[aW bb,.string s] w λe w'=> ∃b,e= .returned (.iface 182 (aW b))/\H r w' F:=by
 obtain⟨iR,Bz⟩:=cX hR;obtain⟨T0,fq⟩:=hG.g0;obtain⟨i0,rV⟩:=cX fq;obtain⟨T1,fy⟩:=hG.g1;obtain⟨i1,n7⟩:=cX fy;obtain⟨lE,TE,vy⟩:=hG.bE;obtain⟨lU,TU,D4⟩:=hG.bU;obtain⟨iB,hiB⟩:=cX hB;refine gS Tryz.func107 Tryz.ntmps107 [4] ?_;exact afY
theorem Yg{of:Nat}(h:H r w F)(hR:(af rb (au x) 81)∈F)(hG:Gl F aE aU)(hB:(af bb [aW rb,dv,.int .u32 (of:Int),.int .u32 (bi:Int),.int .u32 (cn:Int)] 242)∈F)(nZ:of<=4294967295):Calls PP 129 #[aW bb,.string s] w λe w'=> ∃b,e= .returned (.iface 182 (aW b))/\H r w' F:=by
 obtain⟨iR,Bz⟩:=cX hR;obtain⟨T0,fq⟩:=hG.g0;obtain⟨i0,rV⟩:=cX fq;obtain⟨T1,fy⟩:=hG.g1;obtain⟨i1,n7⟩:=cX fy;obtain⟨lE,TE,vy⟩:=hG.bE;obtain⟨lU,TU,D4⟩:=hG.bU;obtain⟨iB,hiB⟩:=cX hB;refine gS Tryz.func129 Tryz.ntmps129 [4] ?_;exact afY
section
variable {ρ:Env}{T T' ty:TypeId}{w:World}{x y z:Operand}{a:Addr}{v u:Value}{ts:Array TypeId}
theorem aso(a:Addr)(w:World):(Go.method (268+Made.depth) 58 (.pointer (some a)) "Read").run PP w= .ok (152,.pointer (some a)) w:=by kernel_rfl
theorem asp(a:Addr)(w:World):(Go.method (268+Made.depth) 58 (.pointer (some a)) "Seek").run PP w= .ok (153,.pointer (some a)) w:=by kernel_rfl
theorem asq(a:Addr)(w:World):(nilAhead (268+Made.depth) 58 (.pointer (some a)) "Read").run PP w= .ok (some false) w:=by kernel_rfl
theorem asr{s:String}(hx:Env.ev ρ x=v):run PP ρ (.makeFunc (.method s) #[x] #[]) ty w= .ok (.value (.func (.method s) #[v] #[])) w:=by
 simp[run,execOp,Instr.makeFunc,hx]
theorem ass(hx:Env.ev ρ x= .func (.method "Read") #[.iface 58 (.pointer (some a))] #[]):run PP ρ (.nilCheck x) ty w= .ok (.value (.func (.method "Read") #[.iface 58 (.pointer (some a))] #[])) w:=by
 have h:=asq a w;simp only[run,execOp,hx];simp[h]
theorem ast(hx:Env.ev ρ x= .iface 58 (.pointer (some a)))(hy:Env.ev ρ y=v):run PP ρ (.call {callee:= .invoke x "Read",args:= #[y],argTypes:=ts}) ty w= .ok (.enter 152 #[.pointer (some a),v]) w:=by
 have h:=aso a w;have h2:=(inferInstance:Body PP 152).run #[.pointer (some a),v] w;simp[run,execOp,resolve,invoke,callMethod,hx,hy,h,h2]
theorem Yh(hx:Env.ev ρ x= .iface 58 (.pointer (some a)))(hy:Env.ev ρ y=v)(hz:Env.ev ρ z=u):run PP ρ (.call {callee:= .invoke x "Seek",args:= #[y,z],argTypes:=ts}) ty w= .ok (.enter 153 #[.pointer (some a),v,u]) w:=by
 have h:=asp a w;have h2:=(inferInstance:Body PP 153).run #[.pointer (some a),v,u] w;simp[run,execOp,resolve,invoke,callMethod,hx,hy,hz,h,h2]
end
section
variable {n:Nat}{K:gw}{ρ:Env}{w:World}{all:Array Oper}{d:Option Nat}{ty:TypeId}{pos:String}{aN:Array Edge}{ts:Array TypeId}{x y z:Operand}{a:Addr}{v u:Value}
theorem asu{m:Nat}{rest:Ot}(hi:all[m]? =some {dst:=d,op:= .call {callee:= .invoke x "Read",args:= #[y],argTypes:=ts},type:=ty,pos:=pos,after:=aN,guard:=none})
 (hx:Env.ev ρ x= .iface 58 (.pointer (some a))) (hy:Env.ev ρ y=v) (hd:aV n d=true)
 (h:Calls PP 152 #[.pointer (some a),v] w λe w'=> ∃v,e= .returned v/\D PP n all rest K (Env.put ρ d v) w'):D PP n all (.cons (m,.h) rest) K ρ w:=V5 hi (ast hx hy) hd h
end
section
variable {P:Program}{n:Nat}{K:gw}{ρ:Env}{w:World}{all:Array Oper}{d:Option Nat}{ty:TypeId}{pos:String}{aN:Array Edge}{x y:Operand}{r:dQ}{L:List aD}{T T' T2:TypeId}
theorem afZ [hu:bO P T (.slice T')] [hs:Sz P T' 1]{i m nn c c2 b q:Nat}{l:List Value}{B:TypeId}{A ad:Option Addr}{F:List aD}{X:List UInt8}(h:H r w L)(hi:L[i]? =some (af b l B))(hA:0<nn->A=some ⟨b,q,none⟩)(hX:aP F (.slice ad m c2) X)(rR:Sub F L)(hq:q+min m nn<=l.length): ∃w',(Builtin.copy_ #[T,T2] ty #[.slice A nn c,.slice ad m c2]).run P w= .ok (R (min m nn)) w'/\H r w' (L.set i (af b (cT l q ((X.take nn).map u8)) B)):=by
 have e2:=hs.size w;have e:Nat.min m nn=min m nn:=rfl;obtain⟨iM,m',c',e1,hl,_,_⟩:=id hX;cases e1;have hX2:aP F (.slice ad (min m nn) c2) (X.take (min m nn)):=aP.take hX (O6 _ _);have qO:=qg (P:=P) (r:=r) hX2 rR
 have hXe:X.take (min m nn)=X.take nn:=by
  rw[hl];apply oF;intro j;simp only[pT];by_cases W:j<min X.length nn
  rw[ai W,ai I]
  rw[ag W];split
  exact(gP I).symm
  rfl
 rw[hXe]at qO;have hc:(Builtin.firstCells 1 (min m nn) (.slice ad m c2)).run P w= .ok ((X.take nn).map u8).toArray w:=(by have:=qO.cells w h;have e3: ∀n',(Builtin.firstCells 1 (min m nn) (.slice ad n' c2))=(Builtin.firstCells 1 (min m nn) (.slice ad m c2)):=(by intro n';cases ad<;>simp[Builtin.firstCells]);rw[e3]at this;exact this);have FB:(Builtin.lenOf (.slice ad m c2)).run P w= .ok m w:=(by simp[Builtin.lenOf]);have Mr:((X.take nn).map u8).length=min m nn:=(by rw[qO.size];omega);rcases nO nn with h0|h0
 subst h0;refine⟨w,?_,?_⟩
 have e4:(List.map u8 (X.take 0))=[]:=(by simp);rw[e4,Nat.min_zero]at hc;have dd: ∀a,(storeCells a []).run P w= .ok () w:=λa=>(by simp[storeCells])
 cases A with
 |none=>simp[Builtin.copy_,underlying,program,Sem.run,hu.eq,e2,FB,e,hc,goInt]
 |some a=>simp[Builtin.copy_,underlying,program,Sem.run,hu.eq,e2,FB,e,hc,dd,goInt]
 have:L.set i (af b (cT l q ((X.take 0).map u8)) B)=L:=Ip hi;rw[this];exact h
 obtain rfl:=hA h0;obtain⟨w',s1,s2,_,_⟩:=CS (P:=P) ((X.take nn).map u8) w L l q 0 h hi (by intro v hv;obtain⟨y,_,rfl⟩:=jd.1 hv;rfl) I;refine⟨w',?_,by simpa using s2⟩;simp only[Vs]at s1;simp[Builtin.copy_,underlying,program,Sem.run,hu.eq,e2,FB,e,hc,s1,goInt]
theorem F8 [hu:bO P T (.slice T')] [hs:Sz P T' 1] {ord:Ot} {j m nn c c2 b q i:Nat} {l:List Value} {B:TypeId} {A ad:Option Addr} {F:List aD} {X:List UInt8}
   (hj:all[j]? =some {dst:=d,op:= .call {callee:= .builtin .copy,args:= #[x,y],argTypes:= #[T,T2]},type:=ty,pos:=pos,after:=aN,guard:=none})
   (h:H r w L) (hx:Env.ev ρ x= .slice A nn c) (hy:Env.ev ρ y= .slice ad m c2) (hi:L[i]? =some (af b l B)) (hA:0<nn->A=some ⟨b,q,none⟩)
   (hX:aP F (.slice ad m c2) X) (rR:Sub F L) (hq:q+min m nn<=l.length) (hd:aV n d=true)
   (hk: ∀w',H r w' (L.set i (af b (cT l q ((X.take nn).map u8)) B))->D P n all ord K (Env.put ρ d (R (min m nn))) w'):D P n all (.cons (j,.h) ord) K ρ w:=by
 obtain⟨w',W,h2⟩:=afZ (P:=P) (ty:=ty) (T:=T) (T':=T') (T2:=T2) h hi hA hX rR hq
 exact Le hj (ade hx hy W) hd (hk w' h2)
theorem asv{rest:List Oper}[hu:bO P T (.slice T')] [hs:Sz P T' 1]{m nn c c2 b q i:Nat}{l:List Value}{B:TypeId}{A ad:Option Addr}{F:List aD}{X:List UInt8}(h:H r w L)(hx:Env.ev ρ x= .slice A nn c)(hy:Env.ev ρ y= .slice ad m c2)(hi:L[i]? =some (af b l B))(hA:0<nn->A=some ⟨b,q,none⟩)(hX:aP F (.slice ad m c2) X)(rR:Sub F L)(hq:q+min m nn<=l.length)(hd:aV n d=true)(hk: ∀w',H r w' (L.set i (af b (cT l q ((X.take nn).map u8)) B))->O P n all rest K (Env.put ρ d (R (min m nn))) w'):O P n all ({dst:=d,op:= .call {callee:= .builtin .copy,args:= #[x,y],argTypes:= #[T,T2]},type:=ty,pos:=pos,after:=aN,guard:=none}::rest) K ρ w:=by
 obtain⟨w',W,h2⟩:=afZ (P:=P) (ty:=ty) (T:=T) (T':=T') (T2:=T2) h hi hA hX rR hq;exact gf (ade hx hy W) hd (hk w' h2)
theorem af0: ∀(A B l:List Value) (q:Nat),cT (cT l q A) (q+A.length) B=cT l q (A++B)
 | [],B,l,q=>rfl
 |v::A,B,l,q=>by rw[cT,List.cons_append,cT,<-af0 A B (l.set q v) (q+1),ek,gQ,Ay 1]
end
variable {pr:Int}{E X:List UInt8}{l:List Value}{c cap i n q sb:Nat}{A ad:Option Addr}{B:TypeId}
def Ms(aE:Addr)(b:Bool):Value:=if b=true then .iface 199 (.pointer (some aE))else .nilIface
theorem asw(W:i<=n)(h2:i<=X.length):X.take i++(X.drop i).take (n-i)=X.take (i+min (X.length-i) (n-i)):=by
 rw[Vw];congr 1;by_cases h:n-i<=X.length-i
 rw[EU h]
 rw[mx I,jf (by rw[bV];omega),jf (by rw[bV];omega)]
section
variable {ρ:Env}{T' ty:TypeId}{w:World}{x y:Operand}{aE aU:Addr}{b:Bool}{r:dQ}{L:List aD}
theorem asx(hx:Env.ev ρ x=Ms aE b){c:Value}(hc:c= .nilIface):run PP ρ (.binOp .eql 103 x (.const c) T') ty w= .ok (.value (.bool (!b))) w:=by
 cases b
 exact afV hx hc
 exact Ye (t:=199) (u:= .pointer (some aE)) hx hc
theorem asy(hx:Env.ev ρ x=Ms aE b)(hy:Env.ev ρ y= .iface 199 (.pointer (some aE))):run PP ρ (.binOp .eql 103 x y T') ty w= .ok (.value (.bool b)) w:=by
 cases b
 exact ash hx hy
 exact Mq hx hy
end
theorem asz{len pos:Nat}{ef:Bool}(hf:(!ef)=true)(W:i<n)(h2:i<=len-pos)(hp:pos<=len):2*(n- (i+min (len- (pos+i)) (n-i)))+(if decide (len<=pos+i)=true then 0 else 1)<2*(n-i)+(if ef=true then 0 else 1):=by
 have yB:ef=false:=(by simpa using hf);subst yB;by_cases hz:len<=pos+i
 rw[xF hz];simp;omega
 rw[H3 hz];simp;omega
theorem Yi(h:i=n\/(X.length<=i/\i<=n)):X.take n=X.take i:=by
 rcases h with h|h
 rw[h]
 rw[jf I,jf h.1]
theorem af1{A B:List Value}(h:A.length=i):cT (cT l q A) (q+i) B=cT l q (A++B):=by
 subst h;exact af0 A B l q
theorem asA{len pos:Nat}(h:H r w ((af sb [.slice ad len cap,R (pos),.int .i64 pr] 84)::(af bb l B)::F))(hX:aP F (.slice ad len cap) E)(kP:pos<=len)(hlen:len<=140737488355328)(hG:Gl F aE aU)(hA:0<n->A=some ⟨bb,q,none⟩)(hq:q+n<=l.length):Calls PP 152 #[aW sb,.slice A n c] w λe w'=> ∃lb,e= .returned (.tuple #[R (min (len-pos) n),Ms aE (decide (len<=pos))])/\H r w' ((af sb [.slice ad len cap,R (pos+min (len-pos) n),.int .i64 lb] 84)::(af bb (cT l q (List.map u8 ((E.drop pos).take n))) B)::F):=by
 obtain⟨T0,fq⟩:=hG.g0;obtain⟨i0,rV⟩:=cX fq;obtain⟨T1,fy⟩:=hG.g1;obtain⟨i1,n7⟩:=cX fy;have dK:len=E.length/\len<=cap:=(by obtain⟨iM,n',c',e1,hl,hc,_⟩:=id hX;cases e1;exact⟨hl,hc⟩);refine gS Tryz.func152 Tryz.ntmps152 [4,5] ?_;refine V 7 ?_;refine bL h [0,4,8,16,20,24,13,29,32,36] ?_;intro w h;refine av 11 ?_;refine an J ?_ ?_<;>intro IM
 refine a9 (bL h [4,1,8] ?_);intro w h;refine aw J (zl 0 J (ao.lit _).eq) ?_;refine av 3 ?_;refine iG ?_;have BA:(E.drop pos).take n=[]:=(by rw[xG I,List.take_nil]);exact⟨pr,(by rw[show min (len-pos) n=0 by omega,xF (by omega:len<=pos)];rfl),(by rw[BA,show min (len-pos) n=0 by omega,kU];exact h)⟩
 refine V 6 ?_;refine b7 ?_;intro w h;refine aC (a9 (bL h [0,4,8,12,20,24,28,17,33,36,43,44] ?_));intro w h;refine av 9 ?_;refine aw J (iY J J I I) (F8 (i:=1) (F:=F) (X:=E.drop pos) J h J J J hA (aP.drop hX kP) (λe he=>ar (ar he)) I J ?_);intro w h;dsimp only[List.set]at h;refine eY J (cm ?_);refine V 10 ?_;refine b7 ?_;intro w h;exact aC (iG ⟨-1,(by rw[H3 (by omega: ¬len<=pos)];rfl),h⟩)
theorem asB{len pos:Nat}(h:H r w ((af sb [.slice ad len cap,R (pos),.int .i64 pr] 84)::(af bb l B)::F))(hX:aP F (.slice ad len cap) E)(kP:pos<=len)(hlen:len<=140737488355328)(hG:Gl F aE aU)(hA:0<n->A=some ⟨bb,q,none⟩)(hq:q+n<=l.length)(uZ:n<=c):Calls PP 94 #[.iface 58 (aW sb),.slice A n c,R n] w λe w'=> ∃lb,e= .returned (.tuple #[R (min (len-pos) n),(if n<=len-pos then .nilIface else if len-pos=0 then .iface 199 (.pointer (some aE))else .iface 199 (.pointer (some aU)))])/\H r w' ((af sb [.slice ad len cap,R (pos+min (len-pos) n),.int .i64 lb] 84)::(af bb (cT l q (List.map u8 ((E.drop pos).take n))) B)::F):=by
 obtain⟨T0,fq⟩:=hG.g0;obtain⟨i0,rV⟩:=cX fq;obtain⟨T1,fy⟩:=hG.g1;obtain⟨i1,n7⟩:=cX fy;have dK:len=E.length/\len<=cap:=(by obtain⟨iM,n',c',e1,hl,hc,_⟩:=id hX;cases e1;exact⟨hl,hc⟩);refine mW Tryz.func94 Tryz.ntmps94 [6,7] ?_;refine V 13 ?_;refine an J ?_ ?_<;>intro zS
 exfalso;omega
 refine aQ (a9 (jB [(6,8),(14,34)] (λρ w=> ∃i:Nat,∃ef:Bool,∃pC:Int,Kn ρ [(6,R i),(7,Ms aE ef)]/\H r w ((af sb [.slice ad len cap,R (pos+i),.int .i64 pC] 84)::(af bb (cT l q (List.map u8 ((E.drop pos).take i))) B)::F)/\(i<=n)/\(i<=len-pos)/\(ef=true->i=len-pos)/\(i=n\/ef=true)) ?_ ?_))
 refine bQ (σ:=Nat×Bool×Int) [(6,8),(14,34)] (λ⟨i,ef,pC⟩ ρ w=>Kn ρ [(6,R i),(7,Ms aE ef)]/\H r w ((af sb [.slice ad len cap,R (pos+i),.int .i64 pC] 84)::(af bb (cT l q (List.map u8 ((E.drop pos).take i))) B)::F)/\(i<=n)/\(i<=len-pos)/\(ef=true->i=len-pos)) (λ⟨i,ef,pC⟩=>2*(n-i)+(if ef=true then 0 else 1)) (0,false,pr) ⟨aq,h,I,I,(λe=>by cases e)⟩ ?_;rintro⟨i,ef,pC⟩ ρ w ⟨⟨k5,rfl⟩,h,n7,vA,QM⟩;refine V 7 ?_;refine d' (t:=17) J (λQN=>?_) (λQN=>?_)
 refine V 1 ?_;refine dn J J J (asx J J) J ?_;refine V 2 ?_;refine eA J ?_ ?_<;>intro F6
 refine V 7 ?_;refine bL h [0,4,8,12,16,20,24,31,32,36,40,44,48] ?_;intro w h;refine av 3 ?_;refine aw J (iY J J I I) (aw J (asr J) (aw J (ass J) (kA J (asu J J J J ((asA (q:=q+i) h hX I hlen hG (λh0=>eg (hA I) I) (by rw[Lm];omega)).mono ?_)))));rintro e w1 ⟨lb,rfl,h⟩;refine⟨_,J,?_⟩;refine av 6 ?_;refine V 6 ?_;refine⟨aM,?_⟩;have QO:E.drop (pos+i)=(E.drop pos).drop i:=List.drop_drop.symm;have hle:E.length-pos-i=len- (pos+i):=I;rw[af1 (by rw[bX,gk,bV];omega),<-f_,QO,asw n7 (by rw[bV];omega),bV,hle,gQ]at h;exact⟨(i+min (len- (pos+i)) (n-i),decide (len<=pos+i),lb),asz F6 QN vA kP,aq,h,I,I,(λe=>by have:=tf e;omega)⟩
 exact iy ⟨aM,i,ef,pC,aq,h,I,I,QM,(by right;simpa using F6)⟩
 refine V 4 ?_;exact fV J (iy ⟨aM,i,ef,pC,aq,h,I,I,QM,(by left;omega)⟩)
 rintro ρ w ⟨i,ef,pC,⟨mC,rfl⟩,h,n7,vA,QM,Bv⟩;refine V 7 ?_;refine an J ?_ ?_<;>intro BC
 refine V 4 ?_;have hk:min (len-pos) n=i:=I;have jH:(E.drop pos).take n=(E.drop pos).take i:=Yi (by rw[bV];omega);exact⟨pC,(by rw[hk];rw[ai I];rfl),(by rw[hk,jH];exact h)⟩
 have Yj:ef=true:=Bv.resolve_left I;have nX:=QM Yj;refine V 5 ?_;refine d' (t:=40) J (λYk=>?_) (λYk=>?_)
 refine V 2 ?_;refine dn J J J (asy J J) J ?_;refine V 2 ?_;refine eA J ?_ ?_<;>intro zN
 refine V 5 ?_;have hk:min (len-pos) n=i:=I;have jH:(E.drop pos).take n=(E.drop pos).take i:=Yi (by rw[bV];omega);exact⟨pC,(by rw[hk];rw[ag I,ag I];rfl),(by rw[hk,jH];exact h)⟩
 refine aQ (iG ?_);rw[Yj]at zN;cases zN
 refine V 5 ?_;refine fV J (aQ (iG ?_));have hk:min (len-pos) n=i:=I;have jH:(E.drop pos).take n=(E.drop pos).take i:=Yi (by rw[bV];omega);exact⟨pC,(by rw[hk];rw[ag I,ai I,Yj];rfl),(by rw[hk,jH];exact h)⟩
theorem BE{len pos:Nat}(h:H r w ((af sb [.slice ad len cap,R (pos),.int .i64 pr] 84)::(af bb l B)::F))(hX:aP F (.slice ad len cap) E)(kP:pos<=len)(hlen:len<=140737488355328)(hG:Gl F aE aU)(hA:0<n->A=some ⟨bb,q,none⟩)(hq:q+n<=l.length)(uZ:n<=c):Calls PP 78 #[.iface 58 (aW sb),.slice A n c] w λe w'=> ∃lb,e= .returned (.tuple #[R (min (len-pos) n),(if n<=len-pos then .nilIface else if len-pos=0 then .iface 199 (.pointer (some aE))else .iface 199 (.pointer (some aU)))])/\H r w' ((af sb [.slice ad len cap,R (pos+min (len-pos) n),.int .i64 lb] 84)::(af bb (cT l q (List.map u8 ((E.drop pos).take n))) B)::F):=by
 refine gS Tryz.func78 Tryz.ntmps78 [4,5] ?_;refine V 11 ?_;refine ee J J J J (aA (asB h hX kP hlen hG hA hq uZ) ?_);rintro e w1 ⟨lb,rfl,h⟩;refine V 6 ?_;exact⟨lb,J,h⟩
variable {k:IntKind}{a x:Nat}
def gH(n:Nat):Nat:=if n=0 then 0 else n.log2+1
theorem kj{n k:Nat}(h:n<2^k):gH n<=k:=by
 unfold gH;split
 omega
 rename_i h0;have:=(qI h0).2 h;omega
theorem F9(h:0<n):gH n=n.log2+1:=by unfold gH;rw[ag I]
theorem af2{k:Nat}(W:2^k<=n)(h2:n<2^(k+1)):gH n=k+1:=by
 have h0:n≠0:=(by have:=ep k;omega);unfold gH;rw[ag h0];have a:=(qI h0).2 h2;have b:=(H4 h0).2 W;omega
theorem QP{n k:Nat}(h:2^k<=n):k+gH (n/2^k)=gH n:=by
 have hp:=ep k;have h0:0<n/2^k:=OZ h hp;obtain⟨j,hj⟩: ∃j,(n/2^k).log2=j:=⟨_,J⟩;have e1:2^j<=n/2^k:=(by rw[<-hj];exact HU I);have e2:n/2^k<2^(j+1):=(by rw[<-hj];exact zb);have a1:2^(j+k)<=n:=(by rw[ks];exact(H5 hp).1 e1);have a2:n<2^(j+k+1):=(by have:=(O7 hp).1 e2;rwa [<-ks,show j+1+k=j+k+1 by omega]at this);rw[af2 e1 e2,af2 a1 a2];omega
def asC(s:ByteArray):Bool:=(List.range 256).all λn=>(s[n]?).map (·.toNat)==some (gH n)
theorem F_{ρ:Env}{ty:TypeId}{y:Operand}{u:Int}(hs:asC s=true)(hy:Env.ev ρ y= .int .u8 u) [W:ao u a](ha:a<256):run PP ρ (.index 9 (.const (.string s)) y) ty w= .ok (.value (gR (gH a))) w:=by
 have hu:PP.underlying 9=some .string:=Tryz.underlying9;have ht:=uL.1 hs a (oX.2 ha);simp only[HR,O8]at ht;obtain⟨b,hb,fh⟩:=ht;simp only[run,execOp,hy,W.eq];simp[Instr.index,Env.ev,asIntOf,run_underlying hu,hb,fh]
theorem mk_le:x % (aG k+1)<=aG k:=K2 (dH _ (H6 _))
theorem Yl(h:x<=aG k):x % (aG k+1)=x:=mw (H7 h)
theorem jy(hr:Rd l q (X.map u8))(hi:i<X.length):l[q+i]? =some (u8 (X.getD i 0)):=by
 rw[hr.get i (by rw[bX];exact hi)];exact gl hi
theorem QQ{m:Nat}(h:i<X.length)(hm:m=8*i)(hk:256*2^m<=aG k+1):num (X.take i)||| (X.getD i 0).toNat*2^m % (aG k+1)=num (X.take (i+1)):=by
 subst hm;rw[<-Wo X i h,Yl];have:=toNat_le (X.getD i 0);have h2:(X.getD i 0).toNat*2^(8*i)<256*2^(8*i):=(Nat.mul_lt_mul_right (ep _)).2 I;omega
theorem Ym(h:0<X.length):(X.getD 0 0).toNat=num (X.take 1):=by
 have:=Wo X 0 h;simpa [num] using this
theorem asD:num (X.take 4)|||num ((X.drop 4).take 4)*2^32 % (aG .u64+1)=num (X.take 8):=by
 have W:num (X.take 4)<2^32:=Dd X 4;have h2:num ((X.drop 4).take 4)<2^32:=Dd _ 4;rw[Yl az,oJ W,show X.take 8=X.take 4++(X.drop 4).take 4 from Vw (i:=4) (j:=4),Fg];by_cases h:4<=X.length
 rw[gk,mx h,iu]
 rw[xG I];simp[num]
theorem Ga(h:H r w F)(hX:aP F (.slice ad n c) X)(hN:4<=X.length):Calls PP 80 #[.slice ad n c] w λe w'=>e= .returned (aZ (num (X.take 4)))/\H r w' F:=by
 obtain⟨iM,n',c',e1,hl,hc,h3⟩:=id hX;cases e1;obtain⟨b,q,l,T,rfl,hm,hr⟩:=h3 I;obtain⟨ib,nT⟩:=cX hm;refine gD Tryz.func80 Tryz.ntmps80 [2] ?_;refine V 5 ?_;refine bL h [0,4,16,20,40,44,64,68,9,12,25,28,32,36,49,52,56,60,73,76,80,84,88] ?_;intro w h;refine kA J (aw J (cI (a:=0) (W:=ao.lit _) J J J I) (kA J (aw J (cI (a:=1) (W:=ao.lit _) J J J I) (kA J (aw J (cI (a:=2) (W:=ao.lit _) J J J I) (kA J (aw J (cI (a:=3) (W:=ao.lit _) J J J I) (aK J h J (jy hr (i:=0) I) (aw J (eB J (dz _ aj)) ?_)))))))));refine aK J h J (jy hr (i:=1) I) (aw J (eB J (dz _ aj)) ?_);refine aw J (CK (b:=8) (h2:=ao.lit _) J J aj J) ?_;refine aw J (eI J J (dz _ aj) mk_le) ?_;refine aK J h J (jy hr (i:=2) I) (aw J (eB J (dz _ aj)) ?_);refine aw J (CK (b:=16) (h2:=ao.lit _) J J aj J) ?_;refine aw J (eI J J (Lc _ _ _ (dz _ aj) mk_le) mk_le) ?_;refine aK J h J (jy hr (i:=3) I) (aw J (eB J (dz _ aj)) ?_);refine aw J (CK (b:=24) (h2:=ao.lit _) J J aj J) ?_;refine aw J (eI J J (Lc _ _ _ (Lc _ _ _ (dz _ aj) mk_le) mk_le) mk_le) ?_;exact eY J (cm (iG ⟨(by rw[<-QQ (X:=X) (k:= .u32) (i:=3) (m:=24) I J aj,<-QQ (X:=X) (k:= .u32) (i:=2) (m:=16) I J aj,<-QQ (X:=X) (k:= .u32) (i:=1) (m:=8) I J aj,<-Ym I];rfl),h⟩))
theorem QR(h:H r w F)(hX:aP F (.slice ad n c) X)(hN:2<=X.length):Calls PP 85 #[.slice ad n c] w λe w'=>e= .returned (CQ (num (X.take 2)))/\H r w' F:=by
 obtain⟨iM,n',c',e1,hl,hc,h3⟩:=id hX;cases e1;obtain⟨b,q,l,T,rfl,hm,hr⟩:=h3 I;obtain⟨ib,nT⟩:=cX hm;refine gD Tryz.func85 Tryz.ntmps85 [2] ?_;refine V 5 ?_;refine bL h [0,4,16,20,9,12,25,28,32,36,40] ?_;intro w h;refine kA J (aw J (cI (a:=0) (W:=ao.lit _) J J J I) (kA J (aw J (cI (a:=1) (W:=ao.lit _) J J J I) (aK J h J (jy hr (i:=0) I) (aw J (eB J (dz _ aj)) ?_)))));refine aK J h J (jy hr (i:=1) I) (aw J (eB J (dz _ aj)) ?_);refine aw J (CK (b:=8) (h2:=ao.lit _) J J aj J) ?_;refine aw J (eI J J (dz _ aj) mk_le) ?_;exact eY J (cm (iG ⟨(by rw[<-QQ (X:=X) (k:= .u16) (i:=1) (m:=8) I J aj,<-Ym I];rfl),h⟩))
theorem Yn(h:H r w F)(hX:aP F (.slice ad n c) X)(hN:8<=X.length):Calls PP 86 #[.slice ad n c] w λe w'=>e= .returned (cy (num (X.take 8)))/\H r w' F:=by
 obtain⟨iM,n',c',e1,hl,hc,h3⟩:=id hX;cases e1;have W:num (X.take 4)<2^32:=Dd X 4;have h2:num ((X.drop 4).take 4)<2^32:=Dd _ 4;refine gD Tryz.func86 Tryz.ntmps86 [2] ?_;refine V 5 ?_;refine bL h [0,12,16,7,8,23,24,28,32,36] ?_;intro w h;refine av 2 ?_;refine aw J (iY (a:=4) (W:=ao.lit _) J J I I) (pY J J J (aA (Ga h hX I) ?_));rintro e w1 ⟨rfl,h⟩;refine av 1 ?_;refine pY J J J (aA (Ga h (aP.drop hX I) (by rw[bV];omega)) ?_);rintro e w1 ⟨rfl,h⟩;refine av 1 ?_;refine aw J (CK (b:=32) (h2:=ao.lit _) J J aj J) ?_;exact aw J (eI J J az mk_le) (eY J (cm (iG ⟨(by rw[<-asD];rfl),h⟩)))
theorem asE(ha:a<256):Calls PP 132 #[.int .u8 (a:Int)] w λe w'=>e= .returned (R (gH a))/\w'=w:=by
 have hb:=kj (k:=8) ha;refine gD Tryz.func132 Tryz.ntmps132 [2] ?_;refine V 7 ?_;refine ah (F_ (by decide+kernel) J ha) ?_;refine V 4 ?_;exact⟨J,J⟩
theorem asF(ha:a<65536):Calls PP 135 #[.int .u16 (a:Int)] w λe w'=>e= .returned (R (gH a))/\w'=w:=by
 have hb:=kj (k:=16) ha;refine gD Tryz.func135 Tryz.ntmps135 [2] ?_;refine V 10 ?_;refine an J ?_ ?_<;>intro hc4
 have h8:= @QP a 8 I;have hb8:= @kj (a/2^8) 8 I;refine V 14 ?_;refine ah (F_ (by decide+kernel) J I) ?_;refine ah (eB J (aI (kj (k:=8) I) aj)) ?_;refine V 4 ?_;exact⟨(by rw[<-h8];rfl),J⟩
 have hb8:= @kj a 8 I;refine V 6 ?_;refine ah (F_ (by decide+kernel) J I) ?_;refine ah (eB J (aI (kj (k:=8) I) aj)) ?_;refine V 4 ?_;exact⟨(by rw[im];rfl),J⟩
theorem asG(ha:a<4294967296):Calls PP 133 #[.int .u32 (a:Int)] w λe w'=>e= .returned (R (gH a))/\w'=w:=by
 have hb:=kj (k:=32) ha;refine gD Tryz.func133 Tryz.ntmps133 [2] ?_;refine V 10 ?_;refine an J ?_ ?_<;>intro hc4
 have yf:= @QP a 16 I;have A6:a/2^16<65536:=I;refine V 15 ?_;refine an J ?_ ?_<;>intro xY
 refine V 16 ?_;refine ah (F_ (by decide+kernel) J I) ?_;refine ah (eB J (aI (kj (k:=8) I) aj)) ?_;refine ah (d_ J J (aI (O9 (kj (k:=8) I) _) aj)) ?_;refine V 3 ?_;have h8:= @QP (a/2^16) 8 I;exact⟨(by rw[<-yf,<-h8,<-gQ];rfl),J⟩
 refine V 6 ?_;refine ah (F_ (by decide+kernel) J I) ?_;refine ah (eB J (aI (kj (k:=8) I) aj)) ?_;refine ah (d_ J J (aI (O9 (kj (k:=8) I) _) aj)) ?_;refine V 3 ?_;exact⟨(by rw[<-yf];rfl),J⟩
 refine V 7 ?_;refine an J ?_ ?_<;>intro xY
 refine V 16 ?_;refine ah (F_ (by decide+kernel) J I) ?_;refine ah (eB J (aI (kj (k:=8) I) aj)) ?_;refine ah (d_ J J (aI (O9 (kj (k:=8) I) _) aj)) ?_;refine V 3 ?_;have h8:= @QP a 8 I;exact⟨(by rw[<-h8,im];rfl),J⟩
 refine V 6 ?_;refine ah (F_ (by decide+kernel) J I) ?_;refine ah (eB J (aI (kj (k:=8) I) aj)) ?_;refine ah (d_ J J (aI (O9 (kj (k:=8) I) _) aj)) ?_;refine V 3 ?_;exact⟨(by rw[im];rfl),J⟩
theorem Yo(h:p:=by rintro e w1 ⟨rfl,rfl⟩;refine V 4 ?_;exact⟨J,J⟩):p:=h
theorem asH(ha:a<256):Calls PP 114 #[.int .u8 (a:Int)] w λe w'=>e= .returned (R (8-gH a))/\w'=w:=by
 have hb:=kj (k:=8) ha;refine gD Tryz.func114 Tryz.ntmps114 [2] ?_;refine V 7 ?_;refine dJ J J (aA (asE ha) ?_);exact Yo
theorem asI(ha:a<65536):Calls PP 134 #[.int .u16 (a:Int)] w λe w'=>e= .returned (R (16-gH a))/\w'=w:=by
 have hb:=kj (k:=16) ha;refine gD Tryz.func134 Tryz.ntmps134 [2] ?_;refine V 7 ?_;refine dJ J J (aA (asF ha) ?_);exact Yo
theorem af3(ha:a<4294967296):Calls PP 118 #[.int .u32 (a:Int)] w λe w'=>e= .returned (R (32-gH a))/\w'=w:=by
 have hb:=kj (k:=32) ha;refine gD Tryz.func118 Tryz.ntmps118 [2] ?_;refine V 7 ?_;refine dJ J J (aA (asG ha) ?_);exact Yo
variable {N b br dc dl st:Nat}{x:cQ}
theorem Mt(E:List UInt8)(k:Nat):num E/2^(8*k)=num (E.drop k):=by
 have h:=Fg (E.take k) (E.drop k);rw[xD]at h;have cP:=Dd E k;by_cases hk:k<=E.length
 rw[gk,mx hk,show(256:Nat)^k=2^(8*k) by rw[KU]]at h;rw[h,O_ _ _ (ep _),CB cP,im]
 rw[xG I,show num []=0 from J];rw[jf I]at cP;exact CB cP
theorem Yp{k:Nat}(h:k<E.length):num (E.drop k)=(E.getD k 0).toNat+256*num (E.drop (k+1)):=by
 rw[List.drop_eq_getElem_cons h];have e:E.getD k 0=E[k]:=(by simp[bS,h]);rw[e];rfl
def oT(N o bi cn:Nat):Prop:=bi<4294967296/\bi % 2^(min cn 32)=N/2^(8*o) % 2^(min cn 32)
theorem af4{m m':Nat}(h:a % 2^m=b % 2^m)(hm:m'<=m):a % 2^m'=b % 2^m':=by
 rw[<-O' a (K4 2 hm),h,O' _ (K4 2 hm)]
theorem oT.less{o jl:Nat}(h:oT N o bi cn)(hc:jl<=cn):oT N o bi jl:=⟨h.1,af4 h.2 I⟩
theorem oT.step{o:Nat}(h:oT (num E) o bi cn)(h0:0<o)(ho:o<=E.length):oT (num E) (o-1) (bi*2^8 % (aG .u32+1)||| (E.getD (o-1) 0).toNat) (cn+8):=by
 have hc:(E.getD (o-1) 0).toNat<2^8:=(by have:=toNat_le (E.getD (o-1) 0);omega);have e1:bi*2^8 % (aG .u32+1)=bi % 16777216*2^8:=az;rw[e1,OS,oJ hc];refine⟨I,?_⟩;obtain⟨c,vB⟩: ∃c,(E.getD (o-1) 0).toNat=c:=⟨_,J⟩;have e2:num E/2^(8*(o-1))=c+(num E/2^(8*o))*2^8:=(by rw[Mt,Mt,Yp (I:o-1<E.length),vB,show o-1+1=o by omega];omega);rw[e2,vB];rw[vB]at hc;obtain⟨K,hK⟩: ∃K,num E/2^(8*o)=K:=⟨_,J⟩;have h2:=h.2;rw[hK]at h2 ⊢;obtain⟨j,hj⟩: ∃j,min (cn+8) 32=j+8:=⟨min (cn+8) 32-8,I⟩;rw[hj];have h3:bi % 2^j=K % 2^j:=af4 h2 I;have h4:bi % 16777216 % 2^j=K % 2^j:=(by rw[show(16777216:Nat)=2^24 from J,O' _ (K4 2 (I:j<=24))];exact h3);have key: ∀x,(c+x*2^8) % 2^(j+8)=c+(x % 2^j)*2^8:=λx=>(by rw[ks,iu (2^j),OR,Nat.add_mul_mod_self_right,mw hc,Nat.add_mul_div_right _ _ (ep _),CB hc,im,iu]);rw[key,key,h4]
theorem oT.val{o:Nat}(h:oT N o bi cn)(hb:b<=cn)(hc:cn<=32):bi/2^(cn-b) % 2^b=dt N (8*o+(cn-b)) b:=by
 have h2:=h.2;rw[mx hc]at h2;unfold dt;obtain⟨k,hk⟩: ∃k,cn=k+b:=⟨cn-b,I⟩;subst hk;rw[zc];rw[ks 2 (8*o),<-sk];have e: ∀x:Nat,x/2^k % 2^b=x % 2^(k+b)/2^k:=λx=>(by rw[ks,OQ]);rw[e,e,h2]
theorem oT.init{o:Nat}(ho:o<E.length)(h:(E.getD o 0).toNat≠0):oT (num E) o (E.getD o 0).toNat (7- (8-gH (E.getD o 0).toNat)):=by
 have hc:=toNat_le (E.getD o 0);have hb:= @kj (E.getD o 0).toNat 8 I;refine⟨I,?_⟩;rw[Mt,Yp ho];obtain⟨j,hj⟩: ∃j,min (7- (8-gH (E.getD o 0).toNat)) 32=j:=⟨_,J⟩;rw[hj];have:(256:Nat)=2^j*2^(8-j):=(by rw[<-ks,show j+(8-j)=8 by omega]);rw[this,tg,Pa]
theorem Mu{rv:Value}{o:Nat}(h:H r w ((af rb [rv,.slice ad dl dc,aZ o,.int .u32 (st:Int),aZ bi,aZ cn] 207)::F))(hX:aP F (.slice ad dl dc) E)(ho:o<=E.length)(hE:E.length<=268435456)(dd:st<=4294967295)(hb:b<=32)(hc:cn<=32)(hI:oT (num E) o bi cn):Calls PP 115 #[aW rb,.int .u8 (b:Int)] w λe w'=> ∃ok o' ql jl,e= .returned (.bool ok)/\H r w' ((af rb [rv,.slice ad dl dc,aZ o',.int .u32 (st:Int),aZ ql,aZ jl] 207)::F)/\o'<=o/\jl<=39/\oT (num E) o' ql jl/\(ok=true->b<=jl/\jl+8*(o'-st)=cn+8*(o-st)/\(jl=cn\/jl<=b+7))/\(ok=false->cn+8*(o-st)<b)/\(st<=o->st<=o'):=by
 have j1:dl=E.length/\dl<=dc:=(by obtain⟨iM,n',c',e1,hl,hc,_⟩:=id hX;cases e1;exact⟨hl,hc⟩);have qm:0<E.length-> ∃db q l T,ad=some ⟨db,q,none⟩/\(af db l T)∈F/\Rd l q (E.map u8):=(by obtain⟨iM,n',c',e1,hl,hc,h3⟩:=id hX;cases e1;intro h0;exact h3 I);refine gS Tryz.func115 Tryz.ntmps115 [4] ?_;refine V 6 ?_;refine bQ (σ:=Nat×Nat×Nat) [(4,61)] (λ⟨o1,iD,eO⟩ ρ w=>Kn ρ []/\H r w ((af rb [rv,.slice ad dl dc,aZ o1,.int .u32 (st:Int),aZ iD,aZ eO] 207)::F)/\(o1<=o)/\(eO+8*(o1-st)=cn+8*(o-st))/\(eO=cn\/eO<=b+7)/\(oT (num E) o1 iD eO)/\(st<=o->st<=o1)) (λ⟨o1,iD,eO⟩=>b-eO) (o,bi,cn) ⟨aq,h,I,I,I,hI,(λe=>e)⟩ ?_;rintro⟨o1,iD,eO⟩ ρ w ⟨⟨mC,rfl⟩,h,W,h2,h3,h4,h6⟩;refine V 11 ?_;refine an J ?_ ?_<;>intro zS
 refine V 4 ?_;refine bL h [0,4,8,16,20,24,13,29,32] ?_;intro w h;refine av 10 ?_;refine an J ?_ ?_<;>intro oR
 refine V 5 ?_;exact⟨false,o1,iD,eO,J,h,W,I,h4,(λe=>by cases e),(λ_=>I),h6⟩
 refine kC (qm I) λdb q l T jm=>?_;have j3:=jy jm.2.2 (i:=o1-1) I;refine fx jm.2.1 λib nT=>?_;refine V 10 ?_;refine b7 ?_;intro w h;refine aC (a9 (bL h [0,4,8,16,20,24,13,29,32,37,40] ?_));intro w h;refine av 8 ?_;refine aw J (cI J J jm.1 I) (aK J h J j3 (eY J (cm ?_)));refine V 6 ?_;refine ah (CK (b:=8) (h2:=ao.lit _) J J aj J) ?_;refine V 2 ?_;refine b7 ?_;intro w h;refine V 8 ?_;refine ah (eB J (dz _ aj)) ?_;refine ah (eI J J mk_le (dz _ aj)) ?_;refine V 2 ?_;refine b7 ?_;intro w h;refine V 9 ?_;refine b7 ?_;intro w h;exact aC ⟨aM,(o1-1,iD*2^8 % (aG .u32+1)||| (E.getD (o1-1) 0).toNat,eO+8),cw,aq,h,I,I,I,h4.step I I,(λe=>I)⟩
 refine V 6 ?_;exact⟨true,o1,iD,eO,J,h,W,I,h4,(λ_=>⟨I,h2,h3⟩),(λe=>by cases e),h6⟩
theorem Yq{o:Nat}(h:H r w ((af rb [aW br,.slice ad dl dc,aZ o,.int .u32 (st:Int),aZ bi,aZ cn] 207)::F))(hR:(af br (au x) 81)∈F)(hG:Gl F aE aU)(hX:aP F (.slice ad dl dc) E)(ho:o<=E.length)(hE:E.length<=268435456)(dd:st<=4294967295)(hb:b<=31)(hc:cn<=32)(hI:oT (num E) o bi cn):Calls PP 106 #[aW rb,.int .u8 (b:Int)] w λe w'=> ∃v er o' ql jl,e= .returned (.tuple #[aZ v,er])/\H r w' ((af rb [aW br,.slice ad dl dc,aZ o',.int .u32 (st:Int),aZ ql,aZ jl] 207)::F)/\o'<=o/\(st<=o->st<=o')/\(b<=cn+8*(o-st)->er= .nilIface/\v<2^b/\jl<=32/\oT (num E) o' ql jl/\jl+8*(o'-st)+b=cn+8*(o-st)/\(b<=25->v=dt (num E) (8*o'+jl) b))/\(cn+8*(o-st)<b-> ∃be,er= .iface 182 (aW be)):=by
 have nz:2^b<=2^31:=dp I hb;have vC:=ep b;refine gS Tryz.func106 Tryz.ntmps106 [4,5] ?_;refine V 10 ?_;refine b_ J J J (aA (Mu h hX ho hE dd I hc hI) ?_);rintro e w1 ⟨ok,o1,iD,eO,rfl,h,W,h2,h3,h4,h5,h6⟩;refine ah (j8 J) (aC (eA J ?_ ?_))<;>intro sF
 have cS:ok=false:=(by simpa using sF);have cP:=h5 cS;refine a9 (bL h [0,4,8,16,20,24,13,29,32,39,40,44] ?_);intro w h;refine av 9 ?_;refine kL J J J J (aA (tX h (ar hR) (hG.sub λ_=>mu _)) ?_);rintro e w1 ⟨b2,rfl,h⟩;exact aw J (zl 0 J (ao.lit _).eq) (eY J (cm (iG ⟨0,_,o1,iD,eO,J,h,W,h6,(λe=>I),(λ_=>Exists.intro b2 J)⟩)))
 have cS:ok=true:=(by simpa using sF);have np:=h4 cS;have Mb:=h3.1;refine V 12 ?_;refine b7 ?_;intro w h;refine aC (a9 (bL h [0,4,8,16,20,24,36,40,44,13,29,32,48,52] ?_));intro w h;refine av 7 ?_;refine aw J (dN (a:=1) (W:=ao.lit _) J J dw az) ?_;refine av 4 ?_;refine aw J (xH J J (aI (j6 _ _) az) az) (eY J (cm ?_));refine V 7 ?_;have hv:(iD/2^(eO-b)&&&(1*2^b-1))=iD/2^(eO-b) % 2^b:=(by rw[rz,E5]);exact⟨(iD/2^(eO-b)&&&(1*2^b-1)),_,o1,iD,eO-b,J,h,W,h6,(λ_=>⟨J,by rw[hv];exact dH _ vC,I,h3.less (vV _ _),I,λh25=>by rw[hv];exact h3.val np.1 I⟩),(λe=>I)⟩
theorem Gd{off:Nat}(h:H r w F)(hR:(af br (au x) 81)∈F)(hG:Gl F aE aU)(hX:aP F (.slice ad dl dc) E)(ho:off<E.length)(hE:E.length<=268435456)(dd:st<=4294967295):Calls PP 105 #[aW br,.slice ad dl dc,R off,R st] w λe w'=> ∃vs er,e= .returned (.tuple #[.agg (List.toArray vs),er])/\vs.length=6/\vs.all plain=true/\H r w' F/\((E.getD off 0).toNat=0-> ∃be,er= .iface 182 (aW be))/\((E.getD off 0).toNat≠0->er= .nilIface/\vs=[aW br,.slice ad dl dc,.int .u32 (off:Int),.int .u32 (st:Int),aZ ((E.getD off 0).toNat),aZ (7- (8-gH (E.getD off 0).toNat))]):=by
 have j1:dl=E.length/\dl<=dc:=(by obtain⟨iM,n',c',e1,hl,hc,_⟩:=id hX;cases e1;exact⟨hl,hc⟩);have qm:0<E.length-> ∃db q l T,ad=some ⟨db,q,none⟩/\(af db l T)∈F/\Rd l q (E.map u8):=(by obtain⟨iM,n',c',e1,hl,hc,h3⟩:=id hX;cases e1;intro h0;exact h3 I);obtain⟨db,q,l,T,ij,oS,wU⟩:=qm I;obtain⟨ib,nT⟩:=cX oS;have j3:=jy wU (i:=off) I;have jG:= @kj (E.getD off 0).toNat 8 (by have:=toNat_le (E.getD off 0);omega);refine CW (P:=PP) Tryz.func105 36 Tryz.ntmps105 8 207 [9] J J (args:=[_,_,_,_]) J (a9 (eS (eh h J ?_)));intro br w h;refine V 6 ?_;refine ah (cI J J ij I) (aO h J j3 ?_);refine V 8 ?_;refine an J ?_ ?_<;>intro mz
 refine a9 (eS (ah (Iq apl) (cM (cM (ee J J J J (aA (qk h (ar hR) (hG.sub λ_=>mu _)) ?_))))));rintro e w1 ⟨b2,rfl,h⟩;refine b7 ?_;intro w h;refine V 3 ?_;refine⟨_,qQ [_,_,_,_,_,_] h J gJ J,?_⟩;exact⟨_,_,J,J,J,h.tail,(λ_=>Exists.intro b2 J),(λe=>absurd mz e)⟩
 have Yr:8-gH (E.getD off 0).toNat<=7:=(by rw[F9 I];omega);refine V 10 ?_;refine ah (eB J (dz _ aj)) ?_;refine cM (dJ J J (aA (asH (by have:=toNat_le (E.getD off 0);omega)) ?_));rintro e w1 ⟨rfl,rfl⟩;refine ah (iz (a:=7) (W:=ao.lit _) J J Yr az) ?_;refine V 1 ?_;refine ah (ao0 (apm _ _ _ _ _ _ _ _) J J J J J J) (eh h J ?_);intro bz w h;refine b7 ?_;intro w h;refine V 3 ?_;refine ah (iK [_,_,_,_,_,_] h J gJ J) (b7 ?_);intro w h;refine V 3 ?_;refine⟨_,qQ [_,_,_,_,_,_] h J gJ J,?_⟩;exact⟨_,_,J,J,J,h.tail.tail,(λe=>absurd e mz),(λ_=>And.intro J J)⟩
variable {fb off p:Nat}
def n8(N p off bi cn:Nat):Prop:=p+cn=8*off/\bi=N/2^p % 2^cn
theorem n8.lt(h:n8 N p off bi cn):bi<2^cn:=by rw[h.2];exact dH _ (ep _)
theorem n8.step(h:n8 (num E) p off bi cn)(ho:off<E.length)(hc:cn<16):n8 (num E) p (off+1) (bi||| (E.getD off 0).toNat*2^cn % (aG .u32+1)) (cn+8):=by
 have hb:=toNat_le (E.getD off 0);have W:=h.lt;have hp:2^cn<=2^15:=dp I I;have h2:(E.getD off 0).toNat*2^cn<=255*2^15:=sr hb hp;rw[Yl az,oJ W];refine⟨by have:=h.1;omega,?_⟩;rw[ks,OR,sk,<-ks,h.1,Mt,Yp ho];rw[show(2:Nat)^8=256 from J,Pa,mw (I:(E.getD off 0).toNat<256),<-h.2,iu]
theorem n8.take(h:n8 N p off bi cn)(hb:b<=cn):bi % 2^b=dt N p b:=by
 rw[h.2,O' _ (K4 2 hb)];rfl
theorem n8.drop(h:n8 N p off bi cn)(hb:b<=cn):n8 N (p+b) off (bi/2^b) (cn-b):=by
 refine⟨by have:=h.1;omega,?_⟩;rw[h.2,ks,<-sk];obtain⟨k,hk⟩: ∃k,cn=b+k:=⟨cn-b,I⟩;subst hk;rw[uO,ks,OQ]
theorem QS{o b:Nat}(h:H r w ((af fb [aW br,.slice ad dl dc,aZ o,aZ bi,aZ cn] 242)::F))(hR:(af br (au x) 81)∈F)(hG:Gl F aE aU)(hX:aP F (.slice ad dl dc) E)(ho:o<=E.length)(hE:E.length<=268435456)(hc:cn<=31)(hI:n8 (num E) p o bi cn):Calls PP 127 #[aW fb] w λe w'=> ∃er o' ql jl,e= .returned er/\H r w' ((af fb [aW br,.slice ad dl dc,aZ o',aZ ql,aZ jl] 242)::F)/\o'<=E.length/\n8 (num E) p o' ql jl/\jl<=31/\(p+16<=8*E.length->er= .nilIface/\16<=jl)/\(8*E.length<p+16-> ∃be,er= .iface 182 (aW be)):=by
 have j1:dl=E.length/\dl<=dc:=(by obtain⟨iM,n',c',e1,hl,hc,_⟩:=id hX;cases e1;exact⟨hl,hc⟩);have qm:0<E.length-> ∃db q l T,ad=some ⟨db,q,none⟩/\(af db l T)∈F/\Rd l q (E.map u8):=(by obtain⟨iM,n',c',e1,hl,hc,h3⟩:=id hX;cases e1;intro h0;exact h3 I);refine gD Tryz.func127 Tryz.ntmps127 [2] ?_;refine V 6 ?_;refine bQ (σ:=Nat×Nat×Nat) [(2,67)] (λ⟨o1,iD,eO⟩ ρ w=>Kn ρ []/\H r w ((af fb [aW br,.slice ad dl dc,aZ o1,aZ iD,aZ eO] 242)::F)/\(o1<=E.length)/\(eO<=31)/\(n8 (num E) p o1 iD eO)) (λ⟨o1,iD,eO⟩=>16-eO) (o,bi,cn) ⟨aq,h,I,I,hI⟩ ?_;rintro⟨o1,iD,eO⟩ ρ w ⟨⟨mC,rfl⟩,h,W,h2,h3⟩;have h3p:=h3.1;refine V 9 ?_;refine an J ?_ ?_<;>intro xY
 refine V 4 ?_;refine bL h [0,4,8,16,20,24,13,29,32,36,40] ?_;intro w h;refine av 12 ?_;refine an J ?_ ?_<;>intro L7
 refine a9 (bL h [0,4,8,16,20,24,13,29,32,39,40] ?_);intro w h;refine av 9 ?_;refine kL J J J J (aA (tX h (ar hR) (hG.sub λ_=>mu _)) ?_);rintro e w1 ⟨b2,rfl,h⟩;exact eY J (cm (iG ⟨_,o1,iD,eO,J,h,W,h3,h2,(λe=>I),(λ_=>Exists.intro b2 J)⟩))
 refine kC (qm I) λdb q l T jm=>?_;have j3:=jy jm.2.2 (i:=o1) I;refine fx jm.2.1 λib nT=>?_;have jG:=h3.lt;have Yr:2^eO<=2^15:=dp I I;refine aQ (a9 (bL h [0,4,8,16,20,24,13,29,32,37,40] ?_));intro w h;refine av 8 ?_;refine aw J (cI J J jm.1 I) (aK J h J j3 (eY J (cm ?_)));refine V 9 ?_;refine b7 ?_;intro w h;refine aC (a9 (bL h [0,4,8,16,20,24,28,32,13,37,40,44,48,52,59] ?_));intro w h;refine av 4 ?_;refine aw J (eB J (dz _ aj)) ?_;refine av 5 ?_;refine aw J (CK J J dw J) ?_;refine aw J (eI J J az mk_le) ?_;refine av 2 ?_;refine b7 ?_;intro w h;refine cm ?_;refine V 8 ?_;refine b7 ?_;intro w h;exact aC ⟨aM,(o1+1,iD||| (E.getD o1 0).toNat*2^eO % (aG .u32+1),eO+8),cw,aq,h,I,I,h3.step I I⟩
 refine V 6 ?_;exact⟨_,o1,iD,eO,J,h,W,h3,h2,(λ_=>And.intro J I),(λe=>I)⟩
theorem af5{x:cQ}{aE aU:Addr}{o:Nat}{E:List UInt8}(h:H r w ((af fb [aW br,.slice ad dl dc,aZ o,aZ bi,aZ cn] 242)::F))(hb:b<=cn)(hc:cn<=31)(hI:n8 N p o bi cn):Calls PP 128 #[aW fb,.int .u8 (b:Int)] w λe w'=>e= .returned (aZ (dt N p b))/\H r w' ((af fb [aW br,.slice ad dl dc,aZ o,aZ (bi/2^b),aZ (cn-b)] 242)::F):=by
 have nz:2^b<=2^31:=dp I I;have vC:=ep b;have jG:=hI.lt;have Ys:2^cn<=2^31:=dp I I;refine gS Tryz.func128 Tryz.ntmps128 [4] ?_;refine V 11 ?_;refine ah (dN (a:=1) (W:=ao.lit _) J J dw az) ?_;refine V 14 ?_;refine b7 ?_;intro w h;refine V 12 ?_;refine b7 ?_;intro w h;refine V 7 ?_;have hv:bi&&&(1*2^b-1)=dt N p b:=(by rw[rz,E5,hI.take hb]);exact⟨(by rw[<-hv];rfl),h⟩
theorem asJ{x:cQ}{aE aU:Addr}{o b:Nat}{E:List UInt8}(h:H r w ((af fb [aW br,.slice ad dl dc,aZ o,aZ bi,aZ cn] 242)::F))(hc:cn<=31)(ho:o<=4294967295)(hI:n8 N p o bi cn):Calls PP 130 #[aW fb] w λe w'=>e= .returned (.tuple #[])/\ ∃jl,H r w' ((af fb [aW br,.slice ad dl dc,aZ ((p+7)/8),aZ bi,aZ jl] 242)::F):=by
 have jJ:=hI.1;refine gD Tryz.func130 Tryz.ntmps130 [] ?_;refine ze (bQ (σ:=Nat×Nat) [(2,20)] (λ⟨o1,eO⟩ ρ w=>Kn ρ []/\H r w ((af fb [aW br,.slice ad dl dc,aZ o1,aZ bi,aZ eO] 242)::F)/\(o1<=o)/\(eO<=cn)/\(p+eO=8*o1)) (λ⟨o1,eO⟩=>eO) (o,cn) ⟨aq,h,I,I,I⟩ ?_);rintro⟨o1,eO⟩ ρ w ⟨⟨k5,rfl⟩,h,W,h2,h3⟩;refine V 9 ?_;refine an J ?_ ?_<;>intro hc6
 refine V 11 ?_;refine b7 ?_;intro w h;refine V 9 ?_;refine b7 ?_;intro w h;exact aC ⟨aM,(o1-1,eO-8),cw,aq,h,I,I,I⟩
 exact iy ⟨J,eO,(by rw[show(p+7)/8=o1 by omega];exact h)⟩
theorem asK(h:H r w F)(ho:off<=4294967295):Calls PP 126 #[aW br,.slice ad dl dc,R off] w λe w'=>e= .returned (.agg #[aW br,.slice ad dl dc,.int .u32 (off:Int),aZ 0,aZ 0])/\H r w' F:=by
 refine CW (P:=PP) Tryz.func126 12 Tryz.ntmps126 6 242 [] J J (args:=[_,_,_]) J (a9 (eS (eh h J ?_)));intro br w h;refine V 7 ?_;refine ah (wg (apr _ _ _ _ _) J J J) (b7 ?_);intro w h;refine aC (iG (⟨_,qQ [_,_,_,_,_] h J gJ J,?_⟩));exact⟨J,h.tail⟩
variable {cs:List de}{sh:List Int}{k log s x:Nat}
abbrev U8(n:Nat):Value:=gR n
abbrev dk(n:Nat):Value:=CQ n
def vD(c:de):List Value:=[U8 c.sym,U8 c.bits,dk c.base]
def cU(cs:List de):List Value:=cs.flatMap vD
theorem QT(c:de):(vD c).length=3:=rfl
theorem Yt{j:Nat}(hi:i<cs.length)(hj:j<3):(cU cs)[i*3+j]? =(vD (cs.getD i default))[j]? :=LJ vD 3 QT default cs i j hi hj
theorem I8(hi:i<cs.length):(cU cs)[i*3+0]? =some (U8 (cs.getD i default).sym):=by rw[Yt hi I];rfl
theorem QU(hi:i<cs.length):(cU cs)[i*3+1]? =some (U8 (cs.getD i default).bits):=by rw[Yt hi I];rfl
theorem QV(hi:i<cs.length):(cU cs)[i*3+2]? =some (dk (cs.getD i default).base):=by rw[Yt hi I];rfl
theorem Yu(y:de)(hi:i<cs.length):cT (cU cs) (i*3) (vD y)=cU (cs.set i y):=PW vD 3 QT y cs i hi
theorem af6(v:Nat)(hi:i<cs.length):(cU cs).set (i*3+0) (U8 v)=cU (cs.set i {cs.getD i default with sym:=v}):=by
 rw[<-Yu _ hi];show _=(((cU cs).set (i*3) (U8 v)).set (i*3+1) (U8 (cs.getD i default).bits)).set (i*3+1+1) (dk (cs.getD i default).base);rw[vg (q:=i*3+1) (v:=U8 (cs.getD i default).bits),vg (q:=i*3+1+1) (v:=dk (cs.getD i default).base)]
 rfl
 rw[Az I];exact QV hi
 rw[Az I];exact QU hi
theorem asL(v:Nat)(hi:i<cs.length):(cU cs).set (i*3+1) (U8 v)=cU (cs.set i {cs.getD i default with bits:=v}):=by
 rw[<-Yu _ hi];show _=(((cU cs).set (i*3) (U8 (cs.getD i default).sym)).set (i*3+1) (U8 v)).set (i*3+1+1) (dk (cs.getD i default).base);rw[vg (q:=i*3) (v:=U8 (cs.getD i default).sym) (I8 hi),vg (q:=i*3+1+1) (v:=dk (cs.getD i default).base)];rw[Az I];exact QV hi
theorem asM(v:Nat)(hi:i<cs.length):(cU cs).set (i*3+2) (dk v)=cU (cs.set i {cs.getD i default with base:=v}):=by
 rw[<-Yu _ hi];show _=(((cU cs).set (i*3) (U8 (cs.getD i default).sym)).set (i*3+1) (U8 (cs.getD i default).bits)).set (i*3+1+1) (dk v);rw[vg (q:=i*3) (v:=U8 (cs.getD i default).sym) (I8 hi),vg (q:=i*3+1) (v:=U8 (cs.getD i default).bits) (QU hi)]
def l_(sh:List Int)(log x:Nat):Nat:=((spread sh log).getD x default).sym
def tY(sh:List Int)(log s:Nat):Nat->Nat
 |0=>0
 |i+1=>tY sh log s i+(if l_ sh log i=s then 1 else 0)
def q8(sh:List Int)(s:Nat):Nat:=if sh.getD s 0= -1 then 1 else(sh.getD s 0).toNat
theorem af7{sh:List Int}{log s:Nat}: ∀i,tY sh log s i<=i
 |0=>aR _
 |i+1=>by have:= @af7 sh log s i;rw[tY];split<;>omega
theorem af8{sh:List Int}{log s:Nat}: ∀{i},(∀y,y<i->l_ sh log y≠s)->tY sh log s i=0
 |0,_=>rfl
 |i+1,h=>by rw[tY,af8 (λy hy=>h y I),ag (h i I)]
theorem Yv{sh:List Int}{log s:Nat}(hs:s<sh.length): ∀i,(fin log sh (spread sh log) i).1.getD s 0=sh.getD s 0+tY sh log s i
 |0=>by simp[fin,tY]
 | i+1=>by
  rw[fin];simp only;rw[zt (aR i),eE,(zr _ _ _ _).1,tY];unfold l_;by_cases e:((spread sh log).getD i default).sym=s
  rw[e,ai ⟨J,hs⟩,ai J,Yv hs i];omega
  rw[ag (λh=>e h.1),ag e,Yv hs i];omega
theorem Yw{size log:Nat}{shares:List Int}{cs:List de}(hc:cs.length=size): ∀{n x:Nat},neg shares n<=size->size-neg shares n<=x->x<size-> ∃s,s<n/\(top size log shares cs n).getD x default=⟨s,log,0⟩/\shares.getD s 0= -1/\x=size-neg shares (s+1)
 |0,x,_,W,h2=>by simp[neg]at W;omega
 | n+1,x,h0,W,h2=>by
  have hm:= @zq shares n (n+1) I;by_cases h:shares.getD n 0= -1
  have hn:neg shares (n+1)=neg shares n+1:=(by rw[neg,ai h]);rw[top,ai h];by_cases e:size-neg shares (n+1)=x
  refine⟨n,I,?_,h,e.symm⟩;rw[eE,ai ⟨e,by rw[yg];omega⟩]
  obtain⟨s,hs,e2,e3⟩:=Yw (log:=log) (shares:=shares) (cs:=cs) hc (n:=n) (x:=x) I I h2;refine⟨s,I,?_,e3⟩;rw[eE,ag I,e2]
  have hn:neg shares (n+1)=neg shares n:=(by rw[neg,ag h];omega);obtain⟨s,hs,e2,e3⟩:=Yw (log:=log) (shares:=shares) (cs:=cs) hc (n:=n) (x:=x) I I h2;exact⟨s,I,by rw[top,ag h,e2],e3⟩
theorem Yx(h:gW sh log)(W:high sh log<=x)(h2:x<2^log): ∃s,s<sh.length/\(spread sh log).getD x default=⟨s,log,0⟩/\sh.getD s 0= -1/\x=2^log-neg sh (s+1):=by
 have hs:=h.sum;obtain⟨s,a,b,c,d⟩:=Yw (log:=log) (shares:=sh) (cs:=List.replicate (2^log) (default:de)) (size:=2^log) (by simp) (n:=sh.length) (x:=x) I (by unfold high at W;exact W) h2;exact⟨s,a,by rw[spread,LP W];exact b,c,d⟩
theorem Yy(h:gW sh log)(hx:x<2^log):l_ sh log x<sh.length/\(sh.getD (l_ sh log x) 0= -1\/1<=sh.getD (l_ sh log x) 0):=by
 unfold l_;rcases dh x (high sh log)with W|W
 obtain⟨s,e,h2,h3⟩:=ID h W;rw[e];exact⟨h2,.inr h3⟩
 obtain⟨s,h2,e,h3,_⟩:=Yx h W hx;rw[e];exact⟨h2,.inl h3⟩
theorem af9(h:gW sh log)(hx:x<2^log){n:Nat}(hn:n=q8 sh (l_ sh log x)+tY sh log (l_ sh log x) x):1<=n/\n<2^(log+1)/\(cY sh log).getD x default=⟨l_ sh log x,gK log n,n*2^gK log n-2^log⟩:=by
 have kF:=Yy h hx;have jv:= @af7 sh log (l_ sh log x) x;have zD:=h.hi (l_ sh log x);have e2:((2:Int)^log)=((2^log:Nat):Int):=(by simp);have h7:2^(log+1)=2*2^log:=(by rw[jT];omega);have W:1<=q8 sh (l_ sh log x)/\q8 sh (l_ sh log x)<=2^log:=(by unfold q8;have:=ep log;split<;>omega);refine⟨I,I,?_⟩;rcases dh x (high sh log)with hh|hh
 obtain⟨s,e,h2,h3⟩:=ID h hh;have es:l_ sh log x=s:=(by unfold l_;rw[e]);rw[cY,Xw (by rw[LQ];exact hx) hh,e];simp only;rw[Yv h2];have en:(sh.getD s 0+(tY sh log s x:Int)).toNat=n:=(by rw[hn,es];unfold q8;rw[ag I];omega);rw[en,es]
 obtain⟨s,h2,e,h3,h4⟩:=Yx h hh hx;have es:l_ sh log x=s:=(by unfold l_;rw[e]);rw[cY,zt hh,e]
 have h0:tY sh log s x=0:=af8 λy hy ey=>by
  rcases dh y (high sh log)with BF|BF
  obtain⟨s',e',_,V0⟩:=ID h BF;have:s'=s:=(by rw[<-ey];unfold l_;rw[e']);subst this;omega
  obtain⟨s',_,e',_,h4'⟩:=Yx h BF I;have:s'=s:=(by rw[<-ey];unfold l_;rw[e']);subst this;omega
 have en:n=1:=(by rw[hn,es,h0];unfold q8;rw[ai h3]);rw[en,es];have:gK log 1=log:=(by unfold gK;rw[show Nat.log2 1=0 from by decide];omega);rw[this,rz,AE]
def S1(sh:List Int)(log:Nat)(cs:List de)(i:Nat):Prop:= ∀x,2^log-neg sh i<=x->x<2^log->(cs.getD x default).sym=((top (2^log) log sh (List.replicate (2^log) default) i).getD x default).sym
theorem asN:S1 sh log cs 0:=λx W h2=>by simp[neg]at W;omega
theorem asO(h:S1 sh log cs i)(hi:sh.getD i 0= -1)(hl:2^log<=cs.length)(hn:neg sh i<2^log):S1 sh log (cs.set (2^log-neg sh i-1) {cs.getD (2^log-neg sh i-1) default with sym:=i}) (i+1):=by
 intro x W h2;have e:neg sh (i+1)=neg sh i+1:=(by rw[neg,ai hi]);rw[e]at W;rw[top,ai hi,e,eE,eE,yg,dR];by_cases ex:2^log-neg sh i-1=x
 rw[ai ⟨ex,I⟩,ai ⟨I,I⟩]
 rw[ag (λh=>ex h.1),ag I];exact h x I h2
theorem asP(h:S1 sh log cs i)(hi: ¬sh.getD i 0= -1):S1 sh log cs (i+1):=by
 intro x W h2;have e:neg sh (i+1)=neg sh i:=(by rw[neg,ag hi];omega);rw[e]at W;rw[top,ag hi];exact h x W h2
def S2(sh:List Int)(log:Nat)(cs:List de)(k:Nat):Prop:= ∀x,x<2^log->(high sh log<=x\/ ∃j,j<k/\pos (2^log) j=x)->
 (cs.getD x default).sym=((kD (2^log) (high sh log) (eU sh sh.length) (top (2^log) log sh (List.replicate (2^log) default) sh.length) k).getD x default).sym
theorem asQ(h:S1 sh log cs sh.length):S2 sh log cs 0:=λx hx W=>by
 rcases W with W| ⟨j,hj,_⟩
 exact h x (by unfold high at W;exact W) hx
 omega
theorem asR(h:S2 sh log cs k)(hp:pos (2^log) k<high sh log)(hl:2^log<=cs.length)(hs:(eU sh sh.length).getD (iQ (2^log) (high sh log) k) 0=s):S2 sh log (cs.set (pos (2^log) k) {cs.getD (pos (2^log) k) default with sym:=s}) (k+1):=by
 intro x hx W;have fF:pos (2^log) k<2^log:=u_ (ep _);rw[kD,ai hp,eE,eE,LO,yg,dR];by_cases ex:pos (2^log) k=x
 rw[ai ⟨ex,I⟩,ai ⟨ex,I⟩];exact hs.symm
 rw[ag (λh=>ex h.1),ag (λh=>ex h.1)];refine h x hx (W.imp id λ⟨j,hj,e⟩=>⟨j,?_,e⟩);rcases dh j k with h'|h'
 exact h'
 exfalso;apply ex;rw[<-e];congr 1;omega
theorem asS(h:S2 sh log cs k)(hp: ¬pos (2^log) k<high sh log):S2 sh log cs (k+1):=by
 intro x hx W;rw[kD,ag hp];refine h x hx ?_;rcases W with W| ⟨j,hj,e⟩
 exact .inl W
 rcases dh j k with h'|h'
 exact .inr ⟨j,h',e⟩
 left;rw[<-e,show j=k by omega];omega
theorem asT(hs:gW sh log)(h:S2 sh log cs k)(hk:k=2^log\/(high sh log=0/\k=0)): ∀x,x<2^log->(cs.getD x default).sym=l_ sh log x:=by
 intro x hx;unfold l_ spread;rcases hk with rfl| ⟨h0,rfl⟩
 obtain⟨j,hj,e⟩:=WN hs.lZ hx;exact h x hx (.inr ⟨j,hj,e⟩)
 have:=h x hx (.inl I);rw[this];have hc:=LN hs.lZ hs.wz;rw[WR (bP (2^log)) (by rw[hc,h0];rfl)]
structure S3(sh:List Int)(log:Nat)(cs:List de)(nx:List Nat)(i:Nat):Prop where
 done: ∀x,x<i->cs.getD x default=(cY sh log).getD x default
 left: ∀x,i<=x->x<2^log->(cs.getD x default).sym=l_ sh log x
 next: ∀s,s<256->nx.getD s 0=q8 sh s+tY sh log s i
theorem S3.step{nx:List Nat}(hs:gW sh log)(h:S3 sh log cs nx i)(hi:i<2^log)(hl:2^log<=cs.length)(g9:nx.length=256)(kF:(cs.getD i default).sym=s)(hn:nx.getD s 0=n):S3 sh log (cs.set i ⟨s,gK log n,n*2^gK log n-2^log⟩) (nx.set s (n+1)) (i+1):=by
 have e1:=h.left i (aR _) hi;rw[kF]at e1;have cP:=(Yy hs hi).1;have aGG:=hs.len;rw[<-e1]at cP;have e2:=h.next s I;rw[hn]at e2;have hc:=af9 hs hi (n:=n) (by rw[<-e1];exact e2);refine⟨λx hx=>?_,λx W h2=>?_,λt ht=>?_⟩
 . rw[eE];by_cases ex:i=x
   subst ex;rw[ai ⟨J,I⟩,hc.2.2,<-e1]
   rw[ag (λh=>ex h.1)];exact h.done x I
 rw[eE,ag I];exact h.left x I h2
 rw[eE,tY,<-e1];by_cases et:s=t
 subst et;rw[ai ⟨J,I⟩,ai J];omega
 rw[ag (λh=>et h.1),ag et];exact h.next t ht
variable {nx:List Nat}{sp:List Value}
abbrev i16(z:Int):Value:= .int .i16 z
theorem af_{D:List Int}(h:i<D.length):(D.map i16++sp)[i]? =some (i16 (D.getD i 0)):=by
 rw[ir (by simpa using h)];simp[h]
theorem D5{D:List Nat}(h:i<D.length):(D.map dk)[i]? =some (dk (D.getD i 0)):=by simp[h]
theorem Yz{D:List Nat}(v:Nat):(D.map dk).set i (dk v)=(D.set i v).map dk:=by rw[jM]
section
variable {P:Program}{ρ:Env}{T T' ty:TypeId}{w:World}{x y:Operand}{k k':IntKind}{u v:Int}
theorem asU{ds:TypeDesc}[hs:bO P T ds] [ht:bO P T' (.int .i64)](hx:Env.ev ρ x= .int k' u)(h0: -9223372036854775808<=u)(W:u<=9223372036854775807):run P ρ (.convert T T' x) ty w= .ok (.value (.int .i64 u)) w:=by
 rw[acK hx,wrap_i64 _ h0 W]
end
theorem QW{a b:Int}(h:a=b):(Value.int .i64 a)= .int .i64 b:=by rw[h]
theorem af'(log k:Nat):(pos (2^log) k+(2^log/2^1+2^log/2^3+3))&&&(2^log-1)=pos (2^log) (k+1):=by
 rw[E5,LK];congr 1;simp only[CF,show(2:Nat)^3=8 from J];omega
theorem aga{v:Nat}(hl:nx.length=256)(h: ∀s,s<256->nx.getD s 0=if s<i then q8 sh s else 0)(hv:q8 sh i=v): ∀s,s<256->(nx.set i v).getD s 0=if s<i+1 then q8 sh s else 0:=by
 intro s hs;rw[eE];by_cases e:i=s
 subst e;rw[ai ⟨J,I⟩,ai I,hv]
 rw[ag (λh=>e h.1),h s hs];by_cases e2:s<i
 rw[ai e2,ai I]
 rw[ag e2,ag I]
theorem asV(W: ∀x,x<2^log->(cs.getD x default).sym=l_ sh log x)(h2: ∀s,s<256->nx.getD s 0=if s<sh.length then q8 sh s else 0):S3 sh log cs nx 0:=
 ⟨λx hx=>by omega,λx _ hx=>W x hx,λs hs=>by
   rw[h2 s hs,tY,kU]
   by_cases e:s<sh.length
   . rw[ai e]
   . rw[ag e];unfold q8
     have:sh.getD s 0=0:=by rw[bS,gP I];rfl
     rw[this];rfl⟩
theorem asW(W:1<=n):log- (15- (16-gH n))=gK log n\/16<gH n:=by
 rw[F9 W];unfold gK;omega
theorem asX{rv:Value}{tb tn tc nc:Nat}{Tn:TT}(h:H r w ((af tb (cU cs) 227)::F))(hm:(af sb (sh.map i16++sp) Tn)∈F)(hs:gW sh log)(uZ:sh.length<=nc)(rQ:2^log<=tn)(XV:tn<=cs.length):Calls PP 131 #[rv,.int .i64 zo,cf sb sh.length nc,cf tb tn tc,R log] w λe w'=>e= .returned .nilIface/\ ∃jK,H r w' ((af tb (cU jK) 227)::F)/\jK.length=cs.length/\ ∀x,x<2^log->jK.getD x default=(cY sh log).getD x default:=by
 obtain⟨ix,W7⟩:=cX hm;have h32:=WZ hs.lZ.1;have LZ:=vh hs.lZ.2;have IJ:=hs.lZ;have hlen:=hs.len;have kY:=hs.IC;have W8:=λi (hi:i<=sh.length)=> @zq sh i sh.length hi;have vj:=hs.sum;have zD:=hs.P8;have Qc:=hs.wz;have ig:=LN hs.lZ hs.wz;have h2l:((2:Int)^log)=((2^log:Nat):Int):=(by simp);refine qN (P:=PP) Tryz.func131 148 Tryz.ntmps131 [10] J J (args:=[_,_,_,_,_]) J ?_;refine V 7 ?_;refine ah (gn (b:=log) J J dw az) ?_;refine V 5 ?_;refine ah (oH J J I I) ?_;refine V 4 ?_;refine eh h J ?_;intro bn w h;refine V 9 ?_;refine bQ (σ:=Nat×List de×List Nat) [(12,12),(14,15),(33,56)] (λ⟨i,c1,nx⟩ ρ w=>Kn ρ [(33,R i),(12,.int .i64 (((2^log-neg sh i:Nat):Int) -1))]/\H r w ((af bn (List.map dk nx) 251)::(af tb (cU c1) 227)::F)/\(i<=sh.length)/\(c1.length=cs.length)/\(nx.length=256)/\(S1 sh log c1 i)/\(∀s,s<256->nx.getD s 0=if s<i then q8 sh s else 0)) (λ⟨i,c1,nx⟩=>sh.length-i) (0,cs,(List.replicate 256 0)) ⟨aq,(by rw[vX];exact h),(bP _),J,(by rw[dR]),asN,(by intro s hs;rw[ag I,bS,uM];split<;>rfl)⟩ ?_;rintro⟨i,c1,nx⟩ ρ w ⟨⟨mC,rfl⟩,h,hi,jv,g9,zT,px⟩;refine V 5 ?_;refine an J ?_ ?_<;>intro Ge
 refine V 7 ?_;refine aO h J (af_ I) ?_;refine V 6 ?_;refine ah (zf J J) (aC (an J ?_ ?_))<;>intro nV
 have hz:sh.getD i 0=(((sh.getD i 0).toNat:Nat):Int):=I;have I9:=hs.hi i;have qb: ¬sh.getD i 0= -1:=I;have nt:neg sh (i+1)=neg sh i:=(by rw[neg,ag qb];omega);have D6:q8 sh i=(sh.getD i 0).toNat:=(by unfold q8;rw[ag qb]);refine V 4 ?_;refine ah (eB (a:=(sh.getD i 0).toNat) (W:=⟨hz⟩) J az) ?_;refine V 1 ?_;refine gC (v:=dk (sh.getD i 0).toNat) h J (D5 I) J J J ?_;intro w h;dsimp only[List.set]at h;rw[Yz]at h;refine V 5 ?_;exact⟨aM,(i+1,c1,nx.set i (sh.getD i 0).toNat),cw,Kn.mk ⟨J,QW (by rw[nt]),trivial⟩,h,I,jv,(by rw[dD];exact g9),asP zT qb,aga g9 px D6⟩
 have wV:sh.getD i 0= -1:=(by have:=hs.lo i;omega);have nt:neg sh (i+1)=neg sh i+1:=(by rw[neg,ai wV]);have gX:=W8 (i+1) Ge;have D6:q8 sh i=1:=(by unfold q8;rw[ai wV]);refine V 3 ?_;refine ah (Pv (2^log-neg sh i-1) J I) ?_;refine V 2 ?_;refine ah (ky J J J I) (pe J (gC (v:=U8 i) h J (I8 I) J J J ?_));intro w h;dsimp only[List.set]at h;rw[af6 _ I]at h;refine V 4 ?_;refine ah (oH J J I I) ?_;refine V 6 ?_;refine gC (v:=dk 1) h J (D5 I) J J J ?_;intro w h;dsimp only[List.set]at h;rw[Yz]at h;refine V 5 ?_;exact⟨aM,((i+1,c1.set (2^log-neg sh i-1) {c1.getD (2^log-neg sh i-1) default with sym:=i},nx.set i 1)),cw,Kn.mk ⟨J,QW (by rw[nt];omega),trivial⟩,h,I,(by rw[dD];exact jv),(by rw[dD];exact g9),asO zT wV I I,aga g9 px D6⟩
 have Mv:i=sh.length:=I;have jZ:high sh log=2^log-neg sh i:=(by rw[Mv];rfl);rw[Mv]at zT px;refine V 29 ?_;refine bQ (σ:=Nat×Nat×List de) [(16,16),(19,21),(67,97)] (λ⟨i,k,c1⟩ ρ w=>Kn ρ [(67,R i),(16,R (pos (2^log) k))]/\H r w ((af bn (List.map dk nx) 251)::(af tb (cU c1) 227)::F)/\(i<=sh.length)/\(iQ (2^log) (high sh log) k=(eU sh i).length)/\(k<=(2^log))/\(0<(high sh log)->pos (2^log) k<(high sh log))/\((high sh log)=0->k=0)/\(c1.length=cs.length)/\(S2 sh log c1 k)) (λ⟨i,k,c1⟩=>sh.length-i) (0,0,c1) ⟨(Kn.mk ⟨J,gy (LL _).symm,trivial⟩),h,bP _,J,bP _,(by intro h0;rw[LL];exact h0),(λ_=>rfl),jv,(asQ zT)⟩ ?_;rintro⟨i,k,c1⟩ ρ w ⟨⟨k5,rfl⟩,h,hi,rI,hk,nW,ly,jv,lQ⟩;refine V 5 ?_;refine an J ?_ ?_<;>intro asY
 have pt:=hs.lo i;have aGH:=hs.hi i;refine V 7 ?_;refine aO h J (af_ I) ?_;refine V 8 ?_;refine bQ (σ:=Nat×Nat×List de) [(16,16),(21,21),(72,96)] (λ⟨t,k,c1⟩ ρ w=>Kn ρ [(21,R t),(16,R (pos (2^log) k))]/\H r w ((af bn (List.map dk nx) 251)::(af tb (cU c1) 227)::F)/\(iQ (2^log) (high sh log) k=(eU sh i).length+t)/\(t<=(sh.getD i 0).toNat)/\(k<=(2^log))/\(0<(high sh log)->pos (2^log) k<(high sh log))/\((high sh log)=0->k=0)/\(c1.length=cs.length)/\(S2 sh log c1 k)) (λ⟨t,k,c1⟩=>(sh.getD i 0).toNat-t) (0,k,c1) ⟨aq,h,rI,bP _,hk,nW,ly,jv,lQ⟩ ?_;rintro⟨t,k,c1⟩ ρ w ⟨⟨mD,rfl⟩,h,rI,ht,hk,nW,ly,jv,lQ⟩;refine V 5 ?_;refine ah (asU J I I) (ah (qL J J) (aC (an J ?_ ?_)))<;>intro aGI
 have nX:i<sh.length:=asY;have asZ:=WO sh (show i+1<=sh.length from nX);have aqh:(eU sh i).length+(sh.getD i 0).toNat<=(eU sh sh.length).length:=(by obtain⟨l,hl⟩:=asZ;rw[hl,eU];simp);have L0:0<high sh log:=I;have nW:=nW L0
 have L1:k<(2^log):=by
  rcases dh k (2^log)with h'|h'
  exact h'
  have:= @LM (2^log) (high sh log) _ _ h';omega
 have eF:iQ (2^log) (high sh log) (k+1)=(eU sh i).length+t+1:=(by rw[iQ,ai nW,rI]);have hex:(eU sh sh.length).getD (iQ (2^log) (high sh log) k) 0=i:=(by rw[rI,bS,aey nX I];rfl);refine V 9 ?_;refine ah (ky J J J (by have:= @u_ (2^log) k I;omega)) ?_;refine pe J (gC (v:=U8 i) h J (I8 (by have:= @u_ (2^log) k I;omega)) J J J ?_);intro w h;dsimp only[List.set]at h;rw[af6 _ (by have:= @u_ (2^log) k I;omega)]at h;have agb:=asR lQ nW I hex;refine cg (c1.set (pos (2^log) k) {c1.getD (pos (2^log) k) default with sym:=i}) λc2 pj=>?_;rw[pj]at h agb;have FQ:c2.length=cs.length:=(by rw[<-pj,dD];exact jv);refine V 5 ?_;refine ah (d_ J J (by have:= @u_ (2^log) k I;simp only[aG];omega)) ?_;refine cM (ah (xH J J (by have:= @u_ (2^log) k I;simp only[aG];omega) az) ?_);refine V 3 ?_;refine bQ (σ:=Nat) [(16,16),(89,96)] (λq ρ w=>Kn ρ [(16,R (pos (2^log) (q+1)))]/\H r w ((af bn (List.map dk nx) 251)::(af tb (cU c2) 227)::F)/\(q<(2^log))/\(iQ (2^log) (high sh log) (q+1)=(eU sh i).length+t+1)/\(S2 sh log c2 (q+1))) (λq=>(2^log) -q) (k) ⟨(Kn.mk ⟨gy (af' _ _),trivial⟩),h,L1,eF,agb⟩ ?_;rintro q ρ w ⟨⟨qY,rfl⟩,h,hq,W9,Mw⟩;refine V 5 ?_;refine ah (VS J J) (aC (an J ?_ ?_))<;>intro tP
 refine V 5 ?_;refine ah (d_ J J (by have:= @u_ (2^log) (q+1) I;simp only[aG];omega)) ?_;refine cM (ah (xH J J (by have:= @u_ (2^log) (q+1) I;simp only[aG];omega) az) ?_);refine dI (aC (⟨aM,?_⟩));have Fy: ¬pos (2^log) (q+1)<high sh log:=I
 have ij:q+1<2^log:=by
  rcases dh (q+1) (2^log)with h'|h'
  exact h'
  exfalso;apply Fy;rw[show q+1=2^log from by omega,WM];exact L0
 exact⟨q+1,I,Kn.mk ⟨gy (af' _ _),trivial⟩,h,ij,(by rw[iQ,ag Fy];exact W9),asS Mw Fy⟩
 refine V 6 ?_;exact⟨aM,(t+1,q+1,c2),cw,aq,h,I,I,I,(λ_=>I),(λe=>I),FQ,Mw⟩
 refine V 5 ?_;refine⟨aM,?_⟩;have A_:t=(sh.getD i 0).toNat:=I;exact⟨(i+1,k,c1),cw,aq,h,I,(by rw[eU,aF,dR,rI,A_]),hk,nW,ly,jv,lQ⟩
 have as0:i=sh.length:=I;rw[as0]at rI
 have QX:k=2^log\/(high sh log=0/\k=0):=by
  rcases nO (high sh log)with h0|h0
  exact Or.inr ⟨h0,ly h0⟩
  left;rcases dh k (2^log)with h'|h'
  exfalso;have W:= @LM (2^log) (high sh log) _ _ h';rw[iQ,ai (nW h0)]at W;omega
  omega
 have tZ:pos (2^log) k=0:=by
  rcases QX with e|e
  rw[e,WM]
  rw[e.2,LL]
 have jr:=asT hs lQ QX;refine V 7 ?_;refine an J ?_ ?_<;>intro as1
 exfalso;exact as1 tZ
 refine V 7 ?_;refine bQ (σ:=Nat×List de×List Nat) [(10,10),(22,26),(103,147)] (λ⟨i,c1,nx⟩ ρ w=>Kn ρ [(22,R i)]/\H r w ((af bn (List.map dk nx) 251)::(af tb (cU c1) 227)::F)/\(i<=(2^log))/\(c1.length=cs.length)/\(nx.length=256)/\(S3 sh log c1 nx i)) (λ⟨i,c1,nx⟩=>(2^log) -i) (0,c1,nx) ⟨aq,h,bP _,jv,g9,(asV jr px)⟩ ?_;rintro⟨i,c1,nx⟩ ρ w ⟨⟨sO,rfl⟩,h,hi,jv,g9,hS⟩;refine V 7 ?_;refine an J ?_ ?_<;>intro zU
 have as4:=Yy hs zU;refine cg ((c1.getD i default).sym) λs kF=>(cg (nx.getD s 0) λn hn=>?_);have e1:s=l_ sh log i:=(by rw[<-kF];exact hS.left i (aR _) zU);rw[<-e1]at as4;have as5:s<256:=I;have n_:=af9 hs zU (n:=n) (by rw[<-e1,<-hn,hS.next s as5]);have gX:=n_.1;have fW:n<1024:=(by have:=n_.2.1;rw[jT]at this;omega);have aGJ:= @kj n 10 fW;have Yr:=F9 gX;have vl:log- (15- (16-gH n))=gK log n:=(asW gX).resolve_right I;have agc:=aeY gX n_.2.1;have agd:n*2^gK log n<=1024:=aI (aI (mS _ _) agc.2.2) (xE 2 LZ);have hJ:n.log2<=log:=(by have:=(qI (by omega:n≠0)).2 n_.2.1;omega);refine V 7 ?_;refine ah (ky J J J I) (pe J (aO h J ((I8 I).trans (by rw[kF])) ?_));refine V 6 ?_;refine aO h J ((D5 I).trans (by rw[hn])) ?_;refine V 6 ?_;refine aO h J ((D5 I).trans (by rw[hn])) ?_;refine V 2 ?_;refine gC (v:=dk (n+1)) h J (D5 I) J J J ?_;intro w h;dsimp only[List.set]at h;rw[Yz]at h;refine V 7 ?_;refine an J ?_ ?_<;>intro arT
 exfalso;omega
 refine V 4 ?_;refine dJ J J (aA (asI I) ?_);rintro e w1 ⟨rfl,rfl⟩;refine V 16 ?_;refine ah (ky J J J I) (pe J (gC (v:=U8 (log- (15- (16-gH n)))) h J (QU I) J J J ?_));intro w h;dsimp only[List.set]at h;rw[asL _ I]at h;refine V 6 ?_;refine ah (dN J J dw (by rw[vl];exact aI agd aj)) ?_;refine V 2 ?_;refine ah (iz J J (by rw[vl];exact agc.2.1) (by rw[vl];exact aI agd aj)) ?_;refine ah (ky J J J I) (pe J (gC (v:=dk (n*2^(log- (15- (16-gH n))) -2^log)) h J (QV (by rw[dD];omega)) J J J ?_));intro w h;dsimp only[List.set]at h;rw[asM _ (by rw[dD];omega),eE,ai ⟨J,I⟩,KZ]at h;dsimp only at h;rw[vl,kF]at h;refine V 6 ?_;exact⟨aM,(i+1,c1.set i ⟨s,gK log n,n*2^gK log n-2^log⟩,nx.set s (n+1)),cw,aq,h,I,(by rw[dD];exact jv),(by rw[dD];exact g9),S3.step hs hS zU I g9 kF hn⟩
 refine V 6 ?_;exact⟨J,c1,h.tail,jv,(λx hx=>hS.done x I)⟩
variable {a1 f f' m ak symbols:Nat}{p:Option (List Int×Nat×Nat)}
theorem Gf{len:Nat}{b:Bool}(h:a+k<=8*len):fM N len a b k=(dt N a k,a+k,b):=by unfold fM;rw[ai h]
theorem age{g:Nat}(W:2^g<=m)(h2:m<2^(g+1)):m.log2=g:=by
 have h0:m≠0:=(by have:=ep g;omega);have a:=(qI h0).2 h2;have b:=(H4 h0).2 W;omega
theorem as6{len g:Nat}(W:2^g<=m)(h2:m<2^(g+1))(hr:a+g+1<=8*len)(hx:dt N a g<2^(g+1) -1-m):jW N len a false m=(dt N a g,a+g,false):=by
 unfold jW;dsimp only;rw[age W h2,Gf I,ai hx]
theorem as7{g:Nat}:dt N a (g+1)=dt N a g+dt N (a+g) 1*2^g:=by rw[ad8];unfold dt;rw[CF]
theorem agf{len g:Nat}(W:2^g<=m)(h2:m<2^(g+1))(hr:a+g+1<=8*len)(hx: ¬dt N a g<2^(g+1) -1-m):jW N len a false m=(if 2^g<=dt N a (g+1)then dt N a (g+1) - (2^(g+1) -1-m)else dt N a (g+1),a+(g+1),false):=by
 unfold jW;dsimp only;rw[age W h2,Gf I];dsimp only;rw[ag hx,Gf I,as7 (N:=N) (a:=a) (g:=g)];have hb:=Ff N (a+g) 1;have e:dt N (a+g) 1=0\/dt N (a+g) 1=1:=I;rcases e with e|e
 rw[e];simp[gQ]
 rw[e];simp[gQ]
theorem as8(h:2<=m):1<=m.log2:=(H4 I).2 (by simpa using h)
theorem as9{len v:Nat}{b1:Bool}(hm:2<=m)(h:jW N len a false m=(v,a1,b1))(hb:b1=false):a<a1:=by
 have hg:=as8 hm;unfold jW at h;dsimp only at h;unfold fM at h;subst hb;by_cases c1:a+m.log2<=8*len
 rw[ai c1]at h;dsimp only at h;split at h
 cases h;omega
 by_cases c2:a+m.log2+1<=8*len
 rw[ai c2]at h;cases h;omega
 rw[ag c2]at h;cases h
 rw[ag c1]at h;dsimp only at h;split at h
 cases h
 by_cases c2:a+1<=8*len
 rw[ai c2]at h;cases h
 rw[ag c2]at h;cases h
theorem YA{N len symbols:Nat}: ∀{f:Nat} {out cO:List Int} {a a':Nat},ns N len symbols f out a=some (cO,a')->a<a'
 | f+1,out,cO,a,a',h=>by
  rcases hv:fM N len a false 2 with⟨v,a1,b1⟩;rw[sL hv]at h;split at h
  cases h
  rename_i hn;have hb:b1=false:=(by cases b1 with|false=>rfl|true=>exact absurd (Or.inl J) hn)
  have ha:a1=a+2:=by
   unfold fM at hv;split at hv
   cases hv;rfl
   cases hv;cases hb
  split at h
  cases h;omega
  have:=YA h;omega
theorem QY{N len symbols:Nat}: ∀{f left:Nat} {out cO:List Int} {a a':Nat},gh N len symbols f left out a=some (cO,a')->a<=a'/\(left≠0->a<a')
 | f+1,left,out,cO,a,a',h=>by
  by_cases h0:left=0
  unfold gh at h;rw[ai h0]at h;cases h;exact⟨aR _,λe=>absurd h0 e⟩
  rcases hv:jW N len a false (left+1)with⟨v,a1,b1⟩;rw[wB h0 hv]at h;split at h
  cases h
  rename_i hn;have hb:b1=false:=(by cases b1 with|false=>rfl|true=>exact absurd (Or.inl J) hn);have j3:=as9 I hv hb
  have:a<a':=by
   split at h
   cases hz:ns N len symbols (symbols+1) (out++[(v:Int) -1]) a1 with
   |none=>rw[hz]at h;cases h
   | some y=>
     rw[hz]at h
     have W:=(QY (show gh N len symbols f _ y.1 y.2=some (cO,a')from h)).1
     have h2:=YA (cO:=y.1) (a':=y.2) hz
     omega
   have:=(QY h).1;omega
  exact⟨I,λ_=>this⟩
abbrev PR:=Option (List Int×Nat)
def wW(N len symbols f left:Nat)(f':Nat)(out:List Int)(a:Nat):PR:=(ns N len symbols f' out a).bind λy=>gh N len symbols f left y.1 y.2
theorem agh{len left a':Nat}{out cO:List Int}(h:wW N len symbols f left f' out a=some (cO,a')):a<a':=by
 unfold wW at h
 cases hz:ns N len symbols f' out a with
 |none=>rw[hz]at h;cases h
 | some y=>
   rw[hz]at h
   have W:=(QY (show gh N len symbols f _ y.1 y.2=some (cO,a')from h)).1
   have h2:=YA (cO:=y.1) (a':=y.2) hz
   omega
structure Zi(N len symbols f left:Nat)(Z9:PR)(out:List Int)(z a:Nat):Prop where
 over:symbols<out.length+z->Z9=none
 at_:out.length+z<=symbols->wW N len symbols f left (symbols+1-z/3) (out++List.replicate z 0) a=Z9
 three:3∣z
theorem Zi.init{len left:Nat}{Z9:PR}{out:List Int}(ho:out.length<=symbols)(h:wW N len symbols f left (symbols+1) out a=Z9):Zi N len symbols f left Z9 out 0 a:=
 ⟨λe=>by omega,λ_=>by rw[H0,dP];exact h,I⟩
theorem Zi.Gg{len left z:Nat}{Z9:PR}{out:List Int}(h:Zi N len symbols f left Z9 out z a)(hb:dt N a 2=3)(hr:a+2<=8*len):Zi N len symbols f left Z9 out (z+3) (a+2):=by
 obtain⟨t,ht⟩:=h.three
 have key:out.length+z<=symbols->(symbols<out.length+(z+3)->Z9=none)/\(out.length+(z+3)<=symbols->wW N len symbols f left (symbols+1- (z+3)/3) (out++List.replicate (z+3) 0) (a+2)=Z9):=λhz=>by
  have e:=h.at_ hz;rw[show symbols+1-z/3=(symbols-z/3)+1 by omega]at e;unfold wW at e;rw[sL (Gf hr),hb]at e;have hl:(out++List.replicate z 0++List.replicate 3 (0:Int)).length=out.length+(z+3):=(by simp[gQ]);have Gh:out++List.replicate z 0++List.replicate 3 (0:Int)=out++List.replicate (z+3) 0:=(by rw[cF,HX]);constructor
  intro hs;rw[ai (Or.inr (by rw[hl];exact hs))]at e;rw[<-e];rfl
  intro hs;rw[ag (by rintro(h|h);(· cases h);(· rw[hl]at h;omega)),ag I,Gh]at e;rw[<-e];unfold wW;rw[show symbols+1- (z+3)/3=symbols-z/3 by omega]
 refine⟨λhs=>?_,λhs=>?_,I⟩
 by_cases hz:out.length+z<=symbols
 exact(key hz).1 hs
 exact h.over I
 exact(key I).2 hs
theorem as_(h:dt N a 12=4095): ∀j,j<6->dt N (a+2*j) 2=3:=by
 intro j hj;unfold dt at*;rw[ks,<-sk];obtain⟨K,hK⟩: ∃K,N/2^a=K:=⟨_,J⟩;rw[hK]at h ⊢;rcases(I:j=0\/j=1\/j=2\/j=3\/j=4\/j=5)with rfl|rfl|rfl|rfl|rfl|rfl<;>simp at h ⊢ <;>omega
theorem Zi.as'{len left z:Nat}{Z9:PR}{out:List Int}(h:Zi N len symbols f left Z9 out z a)(hb:dt N a 12=4095)(hr:a+12<=8*len):Zi N len symbols f left Z9 out (z+18) (a+12):=by
 have b:=as_ hb;have W:=h.Gg (b 0 I) I;have h2:=W.Gg (b 1 I) I;have h3:=h2.Gg (b 2 I) I;have h4:=h3.Gg (b 3 I) I;have h5:=h4.Gg (b 4 I) I;exact h5.Gg (b 5 I) I
theorem Zi.gt{len left z:Nat}{Z9:PR}{out:List Int}(h:Zi N len symbols f left Z9 out z a){cO:List Int}{a':Nat}(hR:Z9=some (cO,a')):a<a':=by
 by_cases hz:out.length+z<=symbols
 exact agh ((h.at_ hz).trans hR)
 rw[h.over I]at hR;cases hR
theorem Zi.last{len left z:Nat}{Z9:PR}{out:List Int}(h:Zi N len symbols f left Z9 out z a)(hb:dt N a 2=x)(hx: ¬x=3)(hr:a+2<=8*len):(symbols<out.length+(z+x)->Z9=none)/\(out.length+(z+x)<=symbols->gh N len symbols f left (out++List.replicate (z+x) 0) (a+2)=Z9):=by
 have gE:x<4:=(by rw[<-hb];exact Ff N a 2);have hl:(out++List.replicate z 0++List.replicate x (0:Int)).length=out.length+(z+x):=(by simp[gQ]);have Gh:out++List.replicate z 0++List.replicate x (0:Int)=out++List.replicate (z+x) 0:=(by rw[cF,HX]);obtain⟨t,ht⟩:=h.three
 have key:out.length+z<=symbols->(symbols<out.length+(z+x)->Z9=none)/\(out.length+(z+x)<=symbols->gh N len symbols f left (out++List.replicate (z+x) 0) (a+2)=Z9):=λhz=>by
  have e:=h.at_ hz;rw[show symbols+1-z/3=(symbols-z/3)+1 by omega]at e;unfold wW at e;rw[sL (Gf hr),hb]at e;constructor
  intro hs;rw[ai (Or.inr (by rw[hl];exact hs))]at e;rw[<-e];rfl
  intro hs;rw[ag (by rintro(h|h);(· cases h);(· rw[hl]at h;omega)),ai I,Gh]at e;rw[<-e];rfl
 refine⟨λhs=>?_,λhs=>(key I).2 hs⟩;by_cases hz:out.length+z<=symbols
 exact(key hz).1 hs
 exact h.over I
theorem ata{len left v:Nat}{out:List Int}{Z9:PR}(h:gh N len symbols (f+1) left out a=Z9)(hl:left≠0)(ho:out.length<symbols)(hv:jW N len a false (left+1)=(v,a1,false)):(if v=1 then wW N len symbols f (if v=0 then left-1 else left- (v-1)) (symbols+1) (out++[(v:Int) -1]) a1 else gh N len symbols f (if v=0 then left-1 else left- (v-1)) (out++[(v:Int) -1]) a1)=Z9:=by
 rw[wB hl hv,ag (by rintro(h|h);(· cases h);(· omega))]at h;exact h
theorem YB{len left:Nat}{out:List Int}{Z9:PR}(h:gh N len symbols f left out a=Z9)(hl:left≠0)(ho:symbols<=out.length):Z9=none:=by
 cases f with
 |zero=>exact h.symm
 | succ f=>
   rcases hv:jW N len a false (left+1)with⟨v,a1,b1⟩
   rw[wB hl hv,ai (Or.inr ho)]at h
   exact h.symm
theorem atb{len left:Nat}{out:List Int}{Z9:PR}(h:wW N len symbols f left f' out a=Z9)(hl:left≠0)(ho:symbols<=out.length):Z9=none:=by
 unfold wW at h
 cases hz:ns N len symbols f' out a with
 |none=>rw[hz]at h;exact h.symm
 | some y=>
   rw[hz]at h
   obtain⟨n,e,_⟩:=W4 (cO:=y.1) (a':=y.2) hz
   exact YB (show gh N len symbols f left y.1 y.2=Z9 from h) hl (by rw[e,aF];omega)
def QZ(log:Nat)(Z9:PR):Option (List Int×Nat×Nat):=Z9.map λy=>(y.1,log,(y.2+7)/8)
theorem atc{len v:Nat}(hr:4<=8*len)(hv:dt N 0 4=v)(hm: ¬ak<v+5):ft N len ak symbols=QZ (v+5) (gh N len symbols (symbols+1) (2^(v+5)) [] 4):=by
 unfold ft QZ;dsimp only;rw[Gf I,hv];dsimp only;rw[ag (by rintro(h|h);(· cases h);(· omega)),im];cases gh N len symbols (symbols+1) (2^(v+5)) [] 4<;>rfl
theorem atd{len v:Nat}(hr:4<=8*len)(hv:dt N 0 4=v)(hm:ak<v+5):ft N len ak symbols=none:=by
 unfold ft;dsimp only;rw[Gf I,hv];dsimp only;rw[ai (Or.inr hm)]
def wX(len:Nat)(p:Option (List Int×Nat×Nat)):Prop:= ∀out lg size,p=some (out,lg,size)->len<size+2
theorem wX.none{len:Nat}(h:p=none):wX len p:=λout lg size e=>by rw[h]at e;cases e
theorem wX.eof{len:Nat}{Z9:PR}(hp:p=QZ log Z9)(h: ∀cO a',Z9=some (cO,a')->a<a')(hl:8*len<a+16):wX len p:=λout lg size e=>by
 subst hp
 cases Z9 with
 |none=>cases e
 |some y=>cases e;have:=h y.1 y.2 J;omega
def rW(sh:List Int)(k:Nat):List Int:=sh++List.replicate k 0
theorem I_:(rW sh k).getD i 0=sh.getD i 0:=by
 unfold rW;simp only[bS,Vo];split
 rfl
 rw[gP (by omega:sh.length<=i),uM];split<;>rfl
theorem Q0{sh:List Int}{k:Nat}: ∀i,neg (rW sh k) i=neg sh i
 |0=>rfl
 |i+1=>by rw[neg,neg,Q0 i,I_]
theorem YC{sh:List Int}{k:Nat}: ∀i,eU (rW sh k) i=eU sh i
 |0=>rfl
 |i+1=>by rw[eU,eU,YC i,I_]
theorem YD(h:sh.length<=i):sh.getD i 0=0:=by
 rw[bS,gP h];rfl
theorem YE{sh:List Int}: ∀k,neg sh (sh.length+k)=neg sh sh.length
 |0=>rfl
 |k+1=>by rw[<-gQ,neg,YE k,YD I];rfl
theorem YF{sh:List Int}: ∀k,eU sh (sh.length+k)=eU sh sh.length
 |0=>rfl
 |k+1=>by rw[<-gQ,eU,YF k,YD I];simp
theorem I':(rW sh k).length=sh.length+k:=by simp[rW]
theorem ate(h:gW sh log)(hk:sh.length+k<=256):gW (rW sh k) log:=
 ⟨h.lZ,by rw[I'];exact hk,λi=>by rw[I_];exact h.lo i,λi=>by rw[I_];exact h.hi i,by rw[I',YC,Q0,YE,YF];exact h.sum⟩
theorem agi{sh:List Int}{k size log:Nat}{cs:List de}: ∀i,top size log (rW sh k) cs i=top size log sh cs i
 |0=>rfl
 |i+1=>by rw[top,top,agi i,I_,Q0]
theorem agj{sh:List Int}{size log:Nat}{cs:List de}: ∀k,top size log sh cs (sh.length+k)=top size log sh cs sh.length
 |0=>rfl
 |k+1=>by rw[<-gQ,top,agj k,YD I,ag aj]
theorem agk:high (rW sh k) log=high sh log:=by unfold high;rw[I',Q0,YE]
theorem atf:spread (rW sh k) log=spread sh log:=by
 unfold spread;rw[agk,I',YC,YF,agi,agj]
theorem agl{sh:List Int}{k log:Nat}(h:gW sh log): ∀i,i<=high sh log->(fin log (rW sh k) (spread sh log) i).2=(fin log sh (spread sh log) i).2/\ ∀s,s<sh.length->(fin log (rW sh k) (spread sh log) i).1.getD s 0=(fin log sh (spread sh log) i).1.getD s 0
 |0,_=>⟨J,λs _=>I_⟩
 | i+1,hi=>by
  have ih:=agl (k:=k) h i I;obtain⟨s,e,hs,_⟩:=ID h (I:i<high sh log);have e1:(fin log sh (spread sh log) i).2.getD i default=⟨s,0,0⟩:=(by rw[zt (aR _),e]);rw[fin,fin];simp only;rw[ih.1,e1];simp only;rw[ih.2 s hs];refine⟨J,λt ht=>?_⟩;rw[eE,eE,(zr _ _ _ _).1,(zr _ _ _ _).1,I'];by_cases et:s=t
  rw[ai ⟨et,I⟩,ai ⟨et,hs⟩]
  rw[ag (λh=>et h.1),ag (λh=>et h.1)];exact ih.2 t ht
theorem atg(h:gW sh log):cY (rW sh k) log=cY sh log:=by
 unfold cY;rw[atf,agk];exact(agl h _ (aR _)).1
theorem ath{α:Type}{v:Nat}{A B:α}:(if decide (((v:Nat):Int) -1=0)=true then A else B)=if v=1 then A else B:=by
 by_cases h:v=1
 rw[ai h,ai (xF I)]
 rw[ag h,ag (by rw[decide_eq_true_iff];omega)]
theorem ati{b:Bool}:(if b=true then 1 else 0)<=1:=by cases b<;>decide
def mG(out:List Int):List Value:=(out++List.replicate (256-out.length) 0).map i16
theorem atj:List.replicate 256 (Value.int .i16 ((0:Nat):Int))=mG []:=by
 unfold mG;rw[List.nil_append,vX];rfl
theorem YG{out:List Int}(h:i<256)(ho:out.length<=256):(mG out)[i]? =some (i16 ((out++List.replicate (256-out.length) 0).getD i 0)):=by
 unfold mG;have hl:i<(out++List.replicate (256-out.length) (0:Int)).length:=(by rw[aF,dR];omega);rw[kK,gv hl,bS,gv hl];rfl
theorem atk{out:List Int}{v:Int}(h:out.length<256):(mG out).set out.length (i16 v)=mG (out++[v]):=by
 unfold mG;rw[<-jM,HT _ _ (aR _),AE,show 256-out.length=(256- (out++[v]).length)+1 by rw[aF];simp only[ek,fE];omega,HW];simp
theorem atl{out:List Int}(h:out.length+k<=256):mG (out++List.replicate k 0)=mG out:=by
 unfold mG;rw[cF,HX,aF,dR,show k+(256- (out.length+k))=256-out.length by omega]
theorem agm{out:List Int}(h:out.length<=i):(mG out).set i (i16 0)=mG out:=by
 unfold mG;rw[<-jM,HT _ _ h];congr 2;apply oF;intro j;rw[uK];split
 rename_i e;subst e;rw[dR,uM]
 rfl
theorem atm{out:List Int}(h:out.length<=m+1)(hm:m<=255):mG out=(rW out (m+1-out.length)).map i16++List.replicate (255-m) (i16 0):=by
 unfold mG rW;rw[show List.replicate (255-m) (i16 0)=(List.replicate (255-m) (0:Int)).map i16 by rw[vX],<-f_,cF,HX,show m+1-out.length+(255-m)=256-out.length by omega]
theorem zV:dt (num E) (8*off+a) k=dt (num (E.drop off)) a k:=by
 unfold dt;rw[ks,<-sk,Mt]
theorem atn{z:Int}(h0: -32768<=z)(W:z<=32767):IntKind.i16.wrap z=z:=by
 unfold IntKind.wrap;simp[IntKind.bits,IntKind.signed];omega
section
variable {ρ:Env}{T T' ty:TypeId}{w:World}{x y:Operand}{k k':IntKind}{u v:Int}{P:Program}
theorem jz(er:Value)(c:Prop) [Decidable c](hx:Env.ev ρ x=er)(W:c->er= .nilIface)(h2: ¬c-> ∃be,er= .iface 182 (aW be)){n:Value}(hn:n= .nilIface):run PP ρ (.binOp .neq 103 x (.const n) T') ty w= .ok (.value (.bool (decide (¬c)))) w:=by
 by_cases hc:c
 rw[wT (hx.trans (W hc)) hn];simp[hc]
 obtain⟨be,e⟩:=h2 hc;rw[I6 (hx.trans e) hn];simp[hc]
theorem ato{ds:TypeDesc}[hs:bO P T ds] [ht:bO P T' (.int .i16)](hx:Env.ev ρ x= .int k' u)(h0: -32768<=u)(W:u<=32767):run P ρ (.convert T T' x) ty w= .ok (.value (.int .i16 u)) w:=by
 rw[acK hx,atn h0 W]
theorem YH(n:Nat)(hx:Env.ev ρ x= .int k u)(hy:Env.ev ρ y= .int k v) [W:ao u a] [h2:ao v b](ha:a<=aG k)(hb:b<=aG k)(e:b=2^n-1):run P ρ (.binOp .and T x y T') ty w= .ok (.value (.int k ((a % 2^n:Nat):Int))) w:=by
 rw[xH hx hy ha hb,e,E5]
end
theorem agn{p:Prop}(h:p:=by refine V 8 ?_;exact⟨0,0,_,cs,J,h.tail.tail,J,Or.inr ⟨D7 I,wX.eof hP (λ_ _ e=>Q1.gt e) I⟩⟩):p:=h
theorem ago{x:cQ}{ms mb tb tn tc:Nat}(h:H r w ((af tb (cU cs) 227)::F))(D2:(af br (au x) 81)∈F)(hG:Gl F aE aU)(hX:aP F (.slice ad dl dc) E)(wY:off<=E.length)(hE:E.length<=268435456)(BG:ms<=255)(pA:mb<=9)(rQ:2^mb<=tn)(XV:tn<=cs.length):Calls PP 113 #[aW br,.slice ad dl dc,R off,R ms,R mb,cf tb tn tc] w λe w'=> ∃a b er jK,e= .returned (.tuple #[R a,R b,er])/\H r w' ((af tb (cU jK) 227)::F)/\jK.length=cs.length/\((er= .nilIface/\ ∃out size,(ft (num (E.drop off)) (E.length-off) mb (ms+1))=some (out,a,size)/\b=off+size/\ ∀y,y<2^a->jK.getD y default=(cY out a).getD y default)\/((∃be,er= .iface 182 (aW be))/\wX (E.length-off) (ft (num (E.drop off)) (E.length-off) mb (ms+1)))):=by
 have j1:dl=E.length/\dl<=dc:=(by obtain⟨iM,n',c',e1,hl,hc,_⟩:=id hX;cases e1;exact⟨hl,hc⟩);have atp:=vh pA;have LZ:2^mb<=512:=atp;refine qN (P:=PP) Tryz.func113 232 Tryz.ntmps113 [12,13,14] J J (args:=[_,_,_,_,_,_]) J ?_;refine V 11 ?_;refine ee J J J J (aA (asK h I) ?_);rintro e w1 ⟨rfl,h⟩;refine eh h J ?_;intro bf w h;refine b7 ?_;intro w h;refine V 4 ?_;refine dJ J J (aA (QS (b:=0) (p:=8*off+0) h (ar D2) (hG.sub λ_=>mu _) (hX.sub λ_=>mu _) wY hE I (by refine⟨I,?_⟩;rw[K5,Nat.mod_one])) ?_);rintro e w1 ⟨q9,o1,iD,eO,rfl,h,pD,jJ,atq,fX,Ja⟩;refine V 5 ?_;refine ah (jz q9 (8*off+0+16<=8*E.length) J (λe=>(fX e).1) (λe=>Ja I) J) (aC (an J ?_ ?_))<;>intro BC
 refine V 8 ?_;exact⟨0,0,_,cs,J,h.tail,J,Or.inr ⟨Ja I,(λout lg size e=>I)⟩⟩
 refine V 3 ?_;refine cg (dt (num E) (8*off+0) 4) λv hv=>?_;have fX:=fX I;have t_:v<16:=(by rw[<-hv];exact Ff _ _ 4);have hI4:=jJ.drop (b:=4) I;refine b_ (v1:=gR 4) J J J ((af5 (b:=4) (x:=x) (aE:=aE) (aU:=aU) (E:=E) h I atq jJ).mono ?_);rintro e w1 ⟨he,h⟩;rw[hv]at he;refine⟨_,he,?_⟩;rw[zV]at hv;refine V 11 ?_;refine an J ?_ ?_<;>intro zN
 have ua:(ft (num (E.drop off)) (E.length-off) mb (ms+1))=none:=atd I hv I;refine a9 (eS (b_ J J J (aA (Yg h (ar (ar (D2))) (hG.sub aJ) bF I) ?_)));rintro e w1 ⟨be,rfl,h⟩;refine V 5 ?_;exact⟨0,0,_,cs,J,h.tail,J,Or.inr ⟨Exists.intro be J,wX.none ua⟩⟩
 refine cg (gh (num (E.drop off)) (E.length-off) (ms+1) (ms+1+1) (2^(v+5)) [] 4) λZ9 mA=>?_;have hP:(ft (num (E.drop off)) (E.length-off) mb (ms+1))=QZ (v+5) Z9:=(by rw[atc I hv I,mA]);have hp5:32<=2^(v+5):=WZ I;have LS:2^(v+5)<=512:=vh I;refine V 4 ?_;refine ah (gn (b:=v+5) J J dw az) ?_;refine V 6 ?_;refine ah (gn (b:=v+5) J J dw az) ?_;refine V 18 ?_;refine eh h J ?_;intro bm w h;refine aC (a9 (jB [(12,14),(18,22),(24,29),(53,204)] (λρ w=> ∃left:Nat,∃out:List Int,∃a o bi cn:Nat,Kn ρ [(18,R (left+1)),(21,R out.length)]/\H r w ((af bf [aW br,.slice ad dl dc,aZ o,aZ bi,aZ cn] 242)::(af bm (mG out) 246)::(af tb (cU cs) 227)::F)/\(n8 (num E) (8*off+a) o bi cn)/\(cn<=31)/\(o<=E.length)/\(out.length<=ms+1)/\(left=0->Z9=some (out,a))/\(left≠0->Z9=none)/\(left+1<=1024)) ?_ ?_))
 rw[atj]at h;replace h:=h.zz [1] 0;refine bQ (σ:=Nat×Nat×Nat×List Int×Nat×Nat×Nat×Nat×Bool) [(12,14),(18,22),(24,29),(53,204)] (λ⟨f,left,g,out,a,o,bi,cn,pz⟩ ρ w=>Kn ρ [(18,R (left+1)),(19,R (2^g)),(20,R (g+1)),(21,R out.length),(22,.bool pz)]/\H r w ((af bf [aW br,.slice ad dl dc,aZ o,aZ bi,aZ cn] 242)::(af bm (mG out) 246)::(af tb (cU cs) 227)::F)/\(n8 (num E) (8*off+a) o bi cn)/\(cn<=31)/\(o<=E.length)/\(2^g<=left+1)/\(left+1<2^(g+1))/\(g<=9)/\(out.length<=ms+1)/\(ms+1+1<=f+out.length)/\((if pz=true then wW (num (E.drop off)) (E.length-off) (ms+1) (f) (left) (ms+1+1) (out) (a)else gh (num (E.drop off)) (E.length-off) (ms+1) (f) (left) (out) (a))=Z9)/\(pz=true->left≠0)) (λ⟨f,left,g,out,a,o,bi,cn,pz⟩=>2*(ms+1-out.length)+(if pz=true then 1 else 0)) (ms+1+1,2^(v+5),v+5,[],4,o1,iD/2^4,eO-4,false) ⟨aq,h,hI4,I,pD,I,(by have e:2^(v+5+1)=2^(v+5)*2:=jT ..;omega),I,(bP _),(aR _),mA,(λe=>by cases e)⟩ ?_;rintro⟨f,left,g,out,a,o,bi,cn,pz⟩ ρ w ⟨⟨k5,rfl⟩,h,n6,YI,ho,fy,jw,hg9,Q2,hfu,hR,hpz⟩;have aGK:=n6.lt;have atr:=n6.1;have hgp:2^g<=512:=vh hg9;have fq:=ep g;refine V 6 ?_;refine d' (t:=55) J (λats=>?_) (λats=>?_)
 refine V 5 ?_;refine an J ?_ ?_<;>intro rL
 refine V 5 ?_;refine dJ J J (aA (QS (b:=0) (p:=8*off+a) h (ar (ar D2)) (hG.sub aJ) (hX.sub aJ) ho hE YI n6) ?_);rintro e w1 ⟨vE,o2,nu,sW,rfl,h,oU,wZ,agp,fB,Jb⟩;refine V 5 ?_;refine ah (jz vE (8*off+a+16<=8*E.length) J (λe=>(fB e).1) (λe=>Jb I) J) (aC (an J ?_ ?_))<;>intro FO
 have j3: ∀cO a',Z9=some (cO,a')->a<a':=λcO a' e=>by
  by_cases hp:pz=true
  rw[ai hp]at hR;exact agh (hR.trans e)
  rw[ag hp]at hR;exact(QY (hR.trans e)).2 I
 refine V 8 ?_;exact⟨0,0,_,cs,J,h.tail.tail,J,Or.inr ⟨Jb I,wX.eof hP j3 I⟩⟩
 have fB:=fB I;have aGL:=fB.2;have aGM:=wZ.lt;have aGN:=wZ.1;have Jc:2^sW<=2^31:=dp I agp;refine V 6 ?_;refine eA J ?_ ?_<;>intro sQ
 have Jd:=hR;rw[ai sQ]at Jd;refine V 7 ?_;refine bQ (σ:=Nat×Nat×Nat×Nat×Nat) [(12,14),(25,26),(66,83)] (λ⟨z,a1,o3,nA,kQ⟩ ρ w=>Kn ρ [(25,R (out.length+z))]/\H r w ((af bf [aW br,.slice ad dl dc,aZ o3,aZ nA,aZ kQ] 242)::(af bm (mG out) 246)::(af tb (cU cs) 227)::F)/\(n8 (num E) (8*off+a1) o3 nA kQ)/\(16<=kQ/\kQ<=31)/\(o3<=E.length)/\(8*off+a1+16<=8*E.length)/\(2*z<=3*a1)/\(Zi (num (E.drop off)) (E.length-off) (ms+1) f left Z9 out z a1)) (λ⟨z,a1,o3,nA,kQ⟩=>8*E.length-a1) (0,a,o2,nu,sW) ⟨aq,h,wZ,⟨fB.2,agp⟩,oU,I,I,(Zi.init I Jd)⟩ ?_;rintro⟨z,a1,o3,nA,kQ⟩ ρ w ⟨⟨mD,rfl⟩,h,qo,w3,zW,Je,ub,I9⟩;have att:=qo.lt;have atu:=qo.1;have Jc:2^kQ<=2^31:=dp I w3.2;refine V 5 ?_;refine ah (jO (n:=12) J J az az) ?_;refine V 2 ?_;refine an J ?_ ?_<;>intro IL
 have YJ:n8 (num E) (8*off+(a1+12)) o3 (nA/2^12) (kQ-12):=(by rw[<-gQ];exact qo.drop I);have YK:dt (num (E.drop off)) a1 12=4095:=(by rw[<-zV,<-qo.take I];exact IL);have Q1:=I9.as' YK I;refine V 14 ?_;refine b7 ?_;intro w h;refine V 7 ?_;refine b7 ?_;intro w h;refine V 3 ?_;refine dJ J J (aA (QS (b:=0) (p:=8*off+(a1+12)) h (ar (ar D2)) (hG.sub aJ) (hX.sub aJ) zW hE I YJ) ?_);rintro e w1 ⟨yC,o4,zX,zY,rfl,h,Jf,YL,YM,nB,D7⟩;refine V 5 ?_;refine ah (jz yC (8*off+(a1+12)+16<=8*E.length) J (λe=>(nB e).1) (λe=>D7 I) J) (aC (an J ?_ ?_))<;>intro Ma
 exact agn
 have nB:=nB I;exact aQ ⟨aM,(z+18,a1+12,o4,zX,zY),cw,Kn.mk ⟨gy I,trivial⟩,h,YL,⟨nB.2,YM⟩,Jf,I,I,Q1⟩
 refine V 3 ?_;refine bQ (σ:=Nat×Nat×Nat×Nat×Nat) [(12,14),(25,25),(27,27),(84,101)] (λ⟨z,a1,o3,nA,kQ⟩ ρ w=>Kn ρ [(25,R (out.length+z))]/\H r w ((af bf [aW br,.slice ad dl dc,aZ o3,aZ nA,aZ kQ] 242)::(af bm (mG out) 246)::(af tb (cU cs) 227)::F)/\(n8 (num E) (8*off+a1) o3 nA kQ)/\(16<=kQ/\kQ<=31)/\(o3<=E.length)/\(8*off+a1+16<=8*E.length)/\(2*z<=3*a1)/\(Zi (num (E.drop off)) (E.length-off) (ms+1) f left Z9 out z a1)) (λ⟨z,a1,o3,nA,kQ⟩=>8*E.length-a1) (z,a1,o3,nA,kQ) ⟨aq,h,qo,w3,zW,I,I,I9⟩ ?_;rintro⟨z,a1,o3,nA,kQ⟩ ρ w ⟨⟨qY,rfl⟩,h,qo,w3,zW,Je,ub,I9⟩;have att:=qo.lt;have atu:=qo.1;have Jc:2^kQ<=2^31:=dp I w3.2;refine V 5 ?_;refine ah (jO (n:=2) J J az az) ?_;refine V 2 ?_;refine an J ?_ ?_<;>intro FD
 have YJ:n8 (num E) (8*off+(a1+2)) o3 (nA/2^2) (kQ-2):=(by rw[<-gQ];exact qo.drop I);have YK:dt (num (E.drop off)) a1 2=3:=(by rw[<-zV,<-qo.take I];exact FD);have Q1:=I9.Gg YK I;refine V 14 ?_;refine b7 ?_;intro w h;refine V 7 ?_;refine b7 ?_;intro w h;refine V 3 ?_;refine dJ J J (aA (QS (b:=0) (p:=8*off+(a1+2)) h (ar (ar D2)) (hG.sub aJ) (hX.sub aJ) zW hE I YJ) ?_);rintro e w1 ⟨yC,o4,zX,zY,rfl,h,Jf,YL,YM,nB,D7⟩;refine V 5 ?_;refine ah (jz yC (8*off+(a1+2)+16<=8*E.length) J (λe=>(nB e).1) (λe=>D7 I) J) (aC (an J ?_ ?_))<;>intro aGO
 exact agn
 have nB:=nB I;exact aQ ⟨aM,(z+3,a1+2,o4,zX,zY),cw,Kn.mk ⟨gy I,trivial⟩,h,YL,⟨nB.2,YM⟩,Jf,I,I,Q1⟩
 refine V 4 ?_;refine cg (dt (num E) (8*off+a1) 2) λxx hx=>?_;have fO:xx<4:=(by rw[<-hx];exact Ff _ _ 2);have atv:=qo.drop (b:=2) I;have hxt:=qo.take (b:=2) I;refine b_ (v1:=gR 2) J J J ((af5 (b:=2) (x:=x) (aE:=aE) (aU:=aU) (E:=E) h I I qo).mono ?_);rintro e w1 ⟨he,h⟩;rw[hx]at he;refine⟨_,he,?_⟩;rw[hx]at hxt;rw[zV]at hx;have Mr:=I9.last hx I I;refine V 11 ?_;refine an J ?_ ?_<;>intro Di
 have YN:Z9=none:=by
  by_cases hs:ms+1<out.length+(z+xx)
  exact Mr.1 hs
  exact YB (Mr.2 I) (hpz sQ) (by rw[aF,dR];omega)
 refine a9 (eS (b_ J J J (aA (Yg h (ar (ar (ar (D2)))) (hG.sub aJ) bF I) ?_)));rintro e w1 ⟨be,rfl,h⟩;refine V 5 ?_;exact⟨0,0,_,cs,J,h.tail.tail,J,Or.inr ⟨Exists.intro be J,wX.none (by rw[hP,YN];rfl)⟩⟩
 refine V 3 ?_;refine bQ (σ:=Nat) [(21,21),(110,117)] (λj ρ w=>Kn ρ [(21,R (out.length+j))]/\H r w ((af bf [aW br,.slice ad dl dc,aZ o3,aZ (nA/2^2),aZ (kQ-2)] 242)::(af bm (mG out) 246)::(af tb (cU cs) 227)::F)/\(j<=z+xx)) (λj=>z+xx-j) (0) ⟨aq,h,I⟩ ?_;rintro j ρ w ⟨⟨sO,rfl⟩,h,hj⟩;refine V 7 ?_;refine an J ?_ ?_<;>intro atw
 refine V 7 ?_;refine gC (v:=i16 0) h J (YG I I) J J J ?_;intro w h;dsimp only[List.set]at h;rw[agm I]at h;refine V 6 ?_;exact⟨aM,j+1,cw,aq,h,I⟩
 refine V 6 ?_;exact⟨aM,(f,left,g,out++List.replicate (z+xx) 0,a1+2,o3,nA/2^2,kQ-2,false),(by dsimp only;rw[aF,dR,ai sQ,ag aj];omega),Kn.mk ⟨J,J,J,gy (by rw[aF,dR];omega),J,trivial⟩,(by rw[atl I];exact h),(by rw[<-gQ];exact atv),I,zW,fy,jw,hg9,(by rw[aF,dR];omega),(by rw[aF,dR];omega),(by rw[ag aj];exact Mr.2 I),(λe=>by cases e)⟩
 have Q3: ¬pz=true:=(by rw[sQ];decide);refine aY (show ∃f',f=f'+1 from⟨f-1,I⟩) (λf' F1=>?_);rw[ag Q3,F1]at hR;have p8:2^(g+1)=2*2^g:=(by rw[jT];omega);have iW:nu % 2^g=dt (num (E.drop off)) a g:=(by rw[wZ.take I,zV]);have Q4:nu % 2^(g+1)=dt (num (E.drop off)) a (g+1):=(by rw[wZ.take I,zV]);have jG:nu % 2^g<2^g:=dH _ fq;have aGP:nu % 2^(g+1)<2^(g+1):=dH _ (ep _);refine V 14 ?_;refine cD [(29,29),(123,176)] (λρ w=> ∃v2 k:Nat,Kn ρ [(29,R v2)]/\H r w ((af bf [aW br,.slice ad dl dc,aZ o2,aZ (nu/2^k),aZ (sW-k)] 242)::(af bm (mG out) 246)::(af tb (cU cs) 227)::F)/\(1<=k/\k<=10)/\(jW (num (E.drop off)) (E.length-off) a false (left+1)=(v2,a+k,false))) ?_ ?_
 refine V 7 ?_;refine ah (YH g J J az az J) ?_;refine V 4 ?_;refine an J ?_ ?_<;>intro Jg
 have pE:1<=g:=(by rcases nO g with e|e;(· rw[e]at jw;omega);(· exact e));refine V 7 ?_;refine ah (YH g J J az az J) ?_;refine V 11 ?_;refine b7 ?_;intro w h;refine V 9 ?_;refine b7 ?_;intro w h;exact aC ⟨aM,nu % 2^g,g,aq,h,⟨pE,I⟩,(by rw[as6 fy jw I (by rw[<-iW,p8];exact Jg),iW])⟩
 refine V 8 ?_;refine ah (YH (g+1) J J az az (by rw[jT,iu])) ?_;refine V 10 ?_;refine an J ?_ ?_<;>intro agq
 refine V 13 ?_;refine b7 ?_;intro w h;refine V 8 ?_;refine b7 ?_;intro w h;exact aC ⟨aM,nu % 2^(g+1) - (2*2^g-1- (left+1)),g+1,aq,h,⟨I,I⟩,(by rw[agf fy jw I (by rw[<-iW,p8];exact Jg),ai (by rw[<-Q4];exact agq),<-Q4,p8])⟩
 refine V 8 ?_;refine b7 ?_;intro w h;refine V 8 ?_;refine b7 ?_;intro w h;exact aC ⟨aM,nu % 2^(g+1),g+1,aq,h,⟨I,I⟩,(by rw[agf fy jw I (by rw[<-iW,p8];exact Jg),ag (by rw[<-Q4];exact agq),<-Q4])⟩
 rintro ρ w ⟨v2,k,⟨vk,rfl⟩,h,hk,hvf⟩;have aGQ:=aeK I hvf;refine V 3 ?_;refine ah (oH J J I I) (dI (aC (cD [(18,18),(179,185)] (λρ w=> ∃l1:Nat,Kn ρ [(18,R (l1+1))]/\H r w ((af bf [aW br,.slice ad dl dc,aZ o2,aZ (nu/2^k),aZ (sW-k)] 242)::(af bm (mG out) 246)::(af tb (cU cs) 227)::F)/\(l1=if v2=0 then left-1 else left- (v2-1))/\(l1<=left)) ?_ ?_)))
 refine V 3 ?_;refine ah (zf J J) (aC (an J ?_ ?_))<;>intro aGR
 refine V 3 ?_;exact ah (oH J J I I) (dI (aC ⟨aM,left- (v2-1),Kn.mk ⟨QW I,trivial⟩,h,(by rw[ag I]),I⟩))
 exact eS (cM (ah (oH J J I I) (dI (aC ⟨aM,left-1,Kn.mk ⟨QW I,trivial⟩,h,(by rw[ai I]),I⟩))))
 rintro ρ w ⟨l1,⟨I5,rfl⟩,h,dE,aGS⟩;refine V 6 ?_;refine an J ?_ ?_<;>intro atx
 exfalso;omega
 refine V 6 ?_;refine ah (ato J I I) ?_;refine V 1 ?_;refine gC (v:=i16 (((v2:Nat):Int) -1)) h J (YG I I) J J J ?_;intro w h;dsimp only[List.set]at h;rw[atk I]at h;refine V 10 ?_;refine ah (Lb J J) ?_;refine V 3 ?_;refine bQ (σ:=Nat) [(19,20),(198,204)] (λg1 ρ w=>Kn ρ [(19,R (2^g1)),(20,R (g1+1))]/\H r w ((af bf [aW br,.slice ad dl dc,aZ o2,aZ (nu/2^k),aZ (sW-k)] 242)::(af bm (mG (out++[(((v2:Nat):Int) -1)])) 246)::(af tb (cU cs) 227)::F)/\(g1<=g)/\(l1+1<2^(g1+1))) (λg1=>g1) (g) ⟨aq,h,I,I⟩ ?_;rintro g1 ρ w ⟨⟨Mo,rfl⟩,h,Fo,yc⟩;have aGT:2^g1<=512:=vh I;refine V 7 ?_;refine an J ?_ ?_<;>intro YO
 have aGU:1<=g1:=(by rcases nO g1 with e|e;(· rw[e]at YO;simp at YO);(· exact e));have nz:2^g1/2^1=2^(g1-1):=(by rw[show g1=(g1-1)+1 by omega,jT,CF,Nat.mul_div_cancel _ aj];rfl);refine V 13 ?_;exact⟨aM,g1-1,I,Kn.mk ⟨gy nz,gy I,trivial⟩,h,I,(by rw[show g1-1+1=g1 by omega];exact YO)⟩
 exact iy ⟨aM,((f',l1,g1,out++[(((v2:Nat):Int) -1)],a+k,o2,nu/2^k,sW-k,decide ((((v2:Nat):Int) -1)=0))),(by dsimp only;rw[aF];have:= @ati (decide ((((v2:Nat):Int) -1)=0));simp only[ek,fE];omega),Kn.mk ⟨J,J,J,gy (by rw[aF];rfl),J,trivial⟩,h,(by rw[<-gQ];exact wZ.drop I),I,oU,I,yc,I,(by rw[aF];simp only[ek,fE];omega),(by rw[aF];simp only[ek,fE];omega),(by rw[ath,dE];exact ata hR I I hvf),(λe=>by have e2:=tf e;rw[dE,ag I];omega)⟩
 have YN:Z9=none:=by
  by_cases hp:pz=true
  rw[ai hp]at hR;exact atb hR I I
  rw[ag hp]at hR;exact YB hR I I
 exact iy ⟨aM,left,out,a,o,bi,cn,aq,h,n6,I,I,I,(λe=>I),(λ_=>YN),I⟩
 refine V 5 ?_;exact fV J (iy ⟨aM,left,out,a,o,bi,cn,aq,h,n6,I,I,I,(λe=>by have hp: ¬pz=true:=λhp=>hpz hp e;rw[ag hp]at hR;obtain⟨f1,p6⟩: ∃f1,f=f1+1:=⟨f-1,I⟩;rw[p6]at hR;unfold gh at hR;rw[ai e]at hR;exact hR.symm),(λe=>I),I⟩)
 rintro ρ w ⟨left,out,a,o,bi,cn,⟨mC,rfl⟩,h,n6,YI,ho,Q2,kY,dE,vl⟩;have atr:=n6.1;refine V 6 ?_;refine an J ?_ ?_<;>intro aGV
 have ua:(ft (num (E.drop off)) (E.length-off) mb (ms+1))=none:=(by rw[hP,dE I];rfl);refine a9 (eS (b_ J J J (aA (Yg h (ar (ar (ar (D2)))) (hG.sub aJ) bF I) ?_)));rintro e w1 ⟨be,rfl,h⟩;refine V 5 ?_;exact⟨0,0,_,cs,J,h.tail.tail,J,Or.inr ⟨Exists.intro be J,wX.none ua⟩⟩
 have Mx:left=0:=I;have Q3:(ft (num (E.drop off)) (E.length-off) mb (ms+1))=some (out,v+5,(a+7)/8):=(by rw[hP,kY Mx];rfl);have ud:=Dt Q3 pA I;refine V 3 ?_;refine bQ (σ:=Nat) [(21,21),(208,215)] (λs ρ w=>Kn ρ [(21,R s)]/\H r w ((af bf [aW br,.slice ad dl dc,aZ o,aZ bi,aZ cn] 242)::(af bm (mG out) 246)::(af tb (cU cs) 227)::F)/\(out.length<=s)/\(s<=ms+1)) (λs=>ms+1-s) (out.length) ⟨aq,h,I,I⟩ ?_;rintro s ρ w ⟨⟨Q6,rfl⟩,h,eZ,fH⟩;refine V 7 ?_;refine an J ?_ ?_<;>intro aGW
 refine V 7 ?_;refine gC (v:=i16 0) h J (YG I I) J J J ?_;intro w h;dsimp only[List.set]at h;rw[agm I]at h;refine V 6 ?_;exact⟨aM,s+1,cw,aq,h,I,I⟩
 refine V 3 ?_;refine dJ J J (aA (asJ (b:=0) (x:=x) (aE:=aE) (aU:=aU) (E:=E) h YI I n6) ?_);rintro e w1 ⟨rfl,cn9,h⟩;refine V 8 ?_;refine ah (uY J J I) (cM (cM ?_));replace h:=h.zz [2] 0;refine cg (rW out (ms+1-out.length)) λsh rE=>?_;have My:sh.length=ms+1:=(by rw[<-rE,I'];omega);have D6:=atm (out:=out) (m:=ms) Q2 BG;rw[rE]at D6;rw[D6]at h;have aty:gW sh (v+5):=(by rw[<-rE];exact ate ud.1 I);have YP:cY sh (v+5)=cY out (v+5):=(by rw[<-rE];exact atg ud.1);have mF:=asX (rv:=aW br) (zo:=(off:Int)) (tn:=tn) (tc:=tc) (nc:=256) h (ar bF) aty I (aI (dp I I) rQ) XV;rw[My]at mF;refine CP J J J J J J (mF.mono ?_);clear h mF;rintro e w1 ⟨rfl,cs9,h,atz,agr⟩;refine⟨_,J,?_⟩;rw[YP]at agr;refine V 5 ?_;refine ah (wT J J) (aC (fV J (aQ (a9 (bL h [0,4,16,9,12,20,24] ?_)))));intro w h;refine av 8 ?_;exact iG ⟨v+5,(8*off+a+7)/8,_,cs9,J,H.Yc (H.Yc h),atz,Or.inl ⟨J,out,(a+7)/8,Q3,I,agr⟩⟩
structure Bl where
 bl:Nat
 bb:Nat
 bt:Nat
 bs:Nat
instance :Inhabited Bl:=⟨⟨0,0,0,0⟩⟩
def w4(c:Bl):List Value:=[da c.bl,U8 c.bb,U8 c.bt,dk c.bs]
def aX(cs:List Bl):List Value:=cs.flatMap w4
theorem Gi(c:Bl):(w4 c).length=4:=rfl
theorem YQ(cs:List Bl):(aX cs).length=cs.length*4:=WK w4 4 Gi cs
theorem Q7{cs:List Bl}{j:Nat}(hi:i<cs.length)(hj:j<4):(aX cs)[i*4+j]? =(w4 (cs.getD i default))[j]? :=LJ w4 4 Gi default cs i j hi hj
theorem YR{cs:List Bl}(y:Bl)(hi:i<cs.length):cT (aX cs) (i*4) (w4 y)=aX (cs.set i y):=PW w4 4 Gi y cs i hi
theorem YS{c:de}(hi:i<cs.length)(h:cs.getD i default=c):Rd (cU cs) (i*3) (vD c):=by
 subst h;exact WL vD 3 QT default cs i hi
def kR(k:Nat)(c:de):Bl:=⟨(codeF k c.sym).1- (if k=1/\2<=c.sym then 3 else 0),(codeF k c.sym).2,c.bits,c.base⟩
theorem ags(h:s<16):codeF 0 s=(s,0):=by unfold codeF;rw[ag aj,ai ⟨J,h⟩]
theorem agt(h:s<32):codeF 2 s=(s+3,0):=by unfold codeF;rw[ag aj,ag (λh=>by cases h.1),ai ⟨J,h⟩]
theorem atA{s:Nat}(h:16<=s)(h2:s<=35):(codeF 0 s).1=yy.getD (s-16) 0 % 2^24/\(codeF 0 s).2=yy.getD (s-16) 0/2^24/\yy.getD (s-16) 0<=4294967295:=by
 have: ∀s,s<36->16<=s->(codeF 0 s).1=yy.getD (s-16) 0 % 2^24/\(codeF 0 s).2=yy.getD (s-16) 0/2^24/\yy.getD (s-16) 0<=4294967295:=aj;exact this s I h
theorem atB{s:Nat}(h:32<=s)(h2:s<=52):(codeF 2 s).1=yz.getD (s-32) 0 % 2^24/\(codeF 2 s).2=yz.getD (s-32) 0/2^24/\yz.getD (s-32) 0<=4294967295:=by
 have: ∀s,s<53->32<=s->(codeF 2 s).1=yz.getD (s-32) 0 % 2^24/\(codeF 2 s).2=yz.getD (s-32) 0/2^24/\yz.getD (s-32) 0<=4294967295:=aj;exact this s I h
theorem agu:codeF 1 s=(2^s,s):=by unfold codeF;rw[ai J]
theorem atC{X:List Nat}(hr:Rd l q (X.map da))(hi:i<X.length):l[q+i]? =some (da (X.getD i 0)):=by
 rw[hr.get i (by rw[bX];exact hi)];simp[hi]
variable {bs:List Bl}{bc tb tc:Nat}{p:Prop}{x:cQ}
theorem agv(k:Nat){s:Nat}:(codeF k s).2<=max s 16:=by
 unfold codeF;split
 exact Nat.le_max_left _ _
 split
 exact bP _
 split
 exact bP _
 split
 exact aI (WE _) (Nat.le_max_right _ _)
 exact aI (WC _) (Nat.le_max_right _ _)
theorem YT{iE:List Bl}{y:Bl}(hi:i<iE.length)(h: ∀j,j<i->iE.getD j default=kR k (cs.getD j default))(hy:y=kR k (cs.getD i default)): ∀j,j<i+1->(iE.set i y).getD j default=kR k (cs.getD j default):=by
 intro j hj;rw[eE];by_cases e:i=j
 subst e;rw[ai ⟨J,hi⟩];exact hy
 rw[ag (λh=>e h.1)];exact h j I
theorem YU(h:p:=by refine V 4 ?_;refine ee J J J J (aA (qk h (ar (ar (ar hR))) (hG.sub λ_ hh=>ar (ar (ar hh)))) ?_);rintro e w1 ⟨be,rfl,h⟩;refine V 3 ?_;exact⟨_,iE,J,h.tail.tail,dE,(λhh=>by have:=hh i I;rw[n_]at this;omega),(λ_=>Exists.intro be J)⟩):p:=h
theorem agw(h:p:=by refine V 12 ?_;refine ah (cI J J J (by rw[ju];omega)) ?_;refine aO h J (atC Fo (by rw[ju];omega)) ?_;refine V 5 ?_;refine ah (jO (n:=24) J J YV aj) ?_;refine pe J (b7 ?_);intro w h;refine V 3 ?_;refine ah (pX (b:=24) (h2:=ao.lit _) J J YV) (ah (eB J (by rw[<-e2];simp only[aG];exact agx)) ?_);refine pe J (b7 ?_);intro w h;refine aC ?_;replace h:=h.zz [2,1,2] 1;exact⟨aM,aq,(by rw[e1,e2];exact h),I⟩):p:=h
theorem YW(h:p:=by refine V 6 ?_;exact⟨_,iE,J,h,dE,(λ_=>And.intro J (λj hj=>W j I)),(λhh=>by obtain⟨j,hj,e⟩:=hh;have:=h2 j I;omega)⟩):p:=h
theorem agy(h:p:=by refine b7 ?_;intro w h;refine V 3 ?_;refine gU (gR 0) ?_;intro w h;refine aC ?_;replace h:=h.zz [2,1,2] 1;exact⟨aM,aq,(by rw[e1,e2];exact h),I⟩):p:=h
theorem atD{bn:Nat}(h:H r w ((af bb (aX bs) 214)::F))(hm:(af tb (cU cs) 227)∈F)(hR:(af br (au x) 81)∈F)(hG:Gl F aE aU)(hn:n<=cs.length)(Jh:n<=512)(iW:n<=bn)(jG:bn<=bs.length)(kF: ∀i,i<n->(cs.getD i default).sym<=255):Calls PP 121 #[aW br,.int .i64 zo,cf tb n tc,cf bb bn bc] w λe w'=> ∃er pF,e= .returned er/\H r w' ((af bb (aX pF) 214)::F)/\pF.length=bs.length/\((∀i,i<n->(cs.getD i default).sym<=35)->er= .nilIface/\ ∀i,i<n->pF.getD i default=kR 0 (cs.getD i default))/\((∃i,i<n/\35<(cs.getD i default).sym)-> ∃be,er= .iface 182 (aW be)):=by
 obtain⟨it,BH⟩:=cX hm;obtain⟨gb,gq,gc,gT,gm,gT',fy,jw,Fo⟩:=hG.g4;obtain⟨ig1,atE⟩:=cX fy;obtain⟨ig2,atF⟩:=cX jw;have ju:yy.length=20:=rfl;refine wj Tryz.func121 Tryz.ntmps121 [8] ?_;refine V 12 ?_;refine bQ (σ:=Nat×List Bl) [(8,13),(16,58)] (λ⟨i,iE⟩ ρ w=>Kn ρ [(16,R i)]/\H r w ((af bb (aX iE) 214)::F)/\(i<=n)/\(iE.length=bs.length)/\(∀j,j<i->iE.getD j default=kR 0 (cs.getD j default))/\(∀j,j<i->(cs.getD j default).sym<=35)) (λ⟨i,iE⟩=>n-i) (0,bs) ⟨aq,h,(bP _),J,(λj hj=>I),(λj hj=>I)⟩ ?_;rintro⟨i,iE⟩ ρ w ⟨⟨mC,rfl⟩,h,hi,dE,W,h2⟩;refine V 5 ?_;refine an J ?_ ?_<;>intro mz
 refine cg (cs.getD i default) λce n_=>?_;have agz:ce.sym<=255:=(by rw[<-n_];exact kF i I);refine V 6 ?_;refine ah (ky J J J I) (ah (iK (vD ce) h J (YS I n_) J) (eh h J ?_));intro be w h;refine dI (b7 ?_);intro w h;refine V 7 ?_;refine ah (zm (Wg _ _) J J) (eh h J ?_);intro bz w h;refine b7 ?_;intro w h;refine aC (cD [(8,8),(12,13),(26,53)] (λρ w=>Kn ρ []/\H r w ((af bz [da (codeF 0 ce.sym).1,U8 (codeF 0 ce.sym).2,U8 ce.bits,dk ce.base] 214)::(af bb (aX iE) 214)::F)/\(ce.sym<=35)) ?_ ?_)
 refine V 6 ?_;refine an J ?_ ?_<;>intro D3
 have e1:(codeF 0 ce.sym).1=ce.sym:=(by rw[ags D3]);have e2:(codeF 0 ce.sym).2=0:=(by rw[ags D3]);refine V 6 ?_;exact agy
 refine V 7 ?_;refine an J ?_ ?_<;>intro F7
 exact YU
 have Gj:= @atA ce.sym I I;have e1:=Gj.1;have e2:=Gj.2.1;have YV:yy.getD (ce.sym-16) 0<=aG .u32:=Gj.2.2;have agx:(codeF 0 ce.sym).2<=255:=aI (agv 0) I;exact agw
 rintro ρ w ⟨⟨k5,rfl⟩,h,atG⟩;refine V 3 ?_;refine ah (iK [_,_,_,_] h J gJ J) (ah (ky J J J I) (qP (vs:=w4 (kR 0 ce)) h J J J J (by rw[YQ];have:=Gi (kR 0 ce);omega) J ?_));intro w h;dsimp only[List.set]at h;rw[YR _ I]at h;refine V 5 ?_;replace h:=h.tail;(try dsimp only[dB]at h);exact⟨aM,(i+1,iE.set i (kR 0 ce)),cw,aq,h,I,(by rw[dD];exact dE),YT I W (by rw[n_]),(λj hj=>by rcases dh j i with e|e;(· exact h2 j e);(· rw[show j=i by omega,n_];omega))⟩
 exact YW
theorem atH{bn:Nat}(h:H r w ((af bb (aX bs) 214)::F))(hm:(af tb (cU cs) 227)∈F)(hR:(af br (au x) 81)∈F)(hG:Gl F aE aU)(hn:n<=cs.length)(Jh:n<=512)(iW:n<=bn)(jG:bn<=bs.length)(kF: ∀i,i<n->(cs.getD i default).sym<=255):Calls PP 125 #[aW br,.int .i64 zo,cf tb n tc,cf bb bn bc] w λe w'=> ∃er pF,e= .returned er/\H r w' ((af bb (aX pF) 214)::F)/\pF.length=bs.length/\((∀i,i<n->(cs.getD i default).sym<=52)->er= .nilIface/\ ∀i,i<n->pF.getD i default=kR 2 (cs.getD i default))/\((∃i,i<n/\52<(cs.getD i default).sym)-> ∃be,er= .iface 182 (aW be)):=by
 obtain⟨it,BH⟩:=cX hm;obtain⟨gb,gq,gc,gT,gm,gT',fy,jw,Fo⟩:=hG.g5;obtain⟨ig1,atE⟩:=cX fy;obtain⟨ig2,atF⟩:=cX jw;have ju:yz.length=21:=rfl;refine wj Tryz.func125 Tryz.ntmps125 [8] ?_;refine V 12 ?_;refine bQ (σ:=Nat×List Bl) [(8,13),(16,59)] (λ⟨i,iE⟩ ρ w=>Kn ρ [(16,R i)]/\H r w ((af bb (aX iE) 214)::F)/\(i<=n)/\(iE.length=bs.length)/\(∀j,j<i->iE.getD j default=kR 2 (cs.getD j default))/\(∀j,j<i->(cs.getD j default).sym<=52)) (λ⟨i,iE⟩=>n-i) (0,bs) ⟨aq,h,(bP _),J,(λj hj=>I),(λj hj=>I)⟩ ?_;rintro⟨i,iE⟩ ρ w ⟨⟨mD,rfl⟩,h,hi,dE,W,h2⟩;refine V 5 ?_;refine an J ?_ ?_<;>intro mz
 refine cg (cs.getD i default) λce n_=>?_;have agz:ce.sym<=255:=(by rw[<-n_];exact kF i I);refine V 6 ?_;refine ah (ky J J J I) (ah (iK (vD ce) h J (YS I n_) J) (eh h J ?_));intro be w h;refine dI (b7 ?_);intro w h;refine V 7 ?_;refine ah (zm (Wg _ _) J J) (eh h J ?_);intro bz w h;refine b7 ?_;intro w h;refine aC (cD [(8,8),(12,13),(26,54)] (λρ w=>Kn ρ []/\H r w ((af bz [da (codeF 2 ce.sym).1,U8 (codeF 2 ce.sym).2,U8 ce.bits,dk ce.base] 214)::(af bb (aX iE) 214)::F)/\(ce.sym<=52)) ?_ ?_)
 refine V 6 ?_;refine an J ?_ ?_<;>intro D3
 have e1:(codeF 2 ce.sym).1=ce.sym+3:=(by rw[agt D3]);have e2:(codeF 2 ce.sym).2=0:=(by rw[agt D3]);refine V 7 ?_;exact agy
 refine V 7 ?_;refine an J ?_ ?_<;>intro BC
 exact YU
 have Gj:= @atB ce.sym I I;have e1:=Gj.1;have e2:=Gj.2.1;have YV:yz.getD (ce.sym-32) 0<=aG .u32:=Gj.2.2;have agx:(codeF 2 ce.sym).2<=255:=aI (agv 2) I;exact agw
 rintro ρ w ⟨⟨qY,rfl⟩,h,atG⟩;refine V 3 ?_;refine ah (iK [_,_,_,_] h J gJ J) (ah (ky J J J I) (qP (vs:=w4 (kR 2 ce)) h J J J J (by rw[YQ];have:=Gi (kR 2 ce);omega) J ?_));intro w h;dsimp only[List.set]at h;rw[YR _ I]at h;refine V 5 ?_;replace h:=h.tail;(try dsimp only[dB]at h);exact⟨aM,(i+1,iE.set i (kR 2 ce)),cw,aq,h,I,(by rw[dD];exact dE),YT I W (by rw[n_]),(λj hj=>by rcases dh j i with e|e;(· exact h2 j e);(· rw[show j=i by omega,n_];omega))⟩
 exact YW
theorem atI{bn:Nat}(h:H r w ((af bb (aX bs) 214)::F))(hm:(af tb (cU cs) 227)∈F)(hR:(af br (au x) 81)∈F)(hG:Gl F aE aU)(hn:n<=cs.length)(Jh:n<=512)(iW:n<=bn)(jG:bn<=bs.length)(kF: ∀i,i<n->(cs.getD i default).sym<=255):Calls PP 123 #[aW br,.int .i64 zo,cf tb n tc,cf bb bn bc] w λe w'=> ∃er pF,e= .returned er/\H r w' ((af bb (aX pF) 214)::F)/\pF.length=bs.length/\((∀i,i<n->(cs.getD i default).sym<=31)->er= .nilIface/\ ∀i,i<n->pF.getD i default=kR 1 (cs.getD i default))/\((∃i,i<n/\31<(cs.getD i default).sym)-> ∃be,er= .iface 182 (aW be)):=by
 obtain⟨it,BH⟩:=cX hm;refine wj Tryz.func123 Tryz.ntmps123 [8] ?_;refine V 12 ?_;refine bQ (σ:=Nat×List Bl) [(8,11),(14,48)] (λ⟨i,iE⟩ ρ w=>Kn ρ [(14,R i)]/\H r w ((af bb (aX iE) 214)::F)/\(i<=n)/\(iE.length=bs.length)/\(∀j,j<i->iE.getD j default=kR 1 (cs.getD j default))/\(∀j,j<i->(cs.getD j default).sym<=31)) (λ⟨i,iE⟩=>n-i) (0,bs) ⟨aq,h,(bP _),J,(λj hj=>I),(λj hj=>I)⟩ ?_;rintro⟨i,iE⟩ ρ w ⟨⟨sO,rfl⟩,h,hi,dE,W,h2⟩;refine V 5 ?_;refine an J ?_ ?_<;>intro IM
 refine cg (cs.getD i default) λce n_=>?_;have agz:ce.sym<=255:=(by rw[<-n_];exact kF i I);refine V 6 ?_;refine ah (ky J J J I) (ah (iK (vD ce) h J (YS I n_) J) (eh h J ?_));intro be w h;refine dI (b7 ?_);intro w h;refine V 7 ?_;refine ah (zm (Wg _ _) J J) (eh h J ?_);intro bz w h;refine b7 ?_;intro w h;refine V 8 ?_;refine an J ?_ ?_<;>intro DM
 exact YU
 have Jc:2^ce.sym<=2^31:=dp I I;refine V 5 ?_;refine ah (gn (b:=ce.sym) J J dw az) ?_;refine pe J (b7 ?_);intro w h;refine aC (cD [(34,40)] (λρ w=>Kn ρ []/\H r w ((af bz [da (2^ce.sym- (if 1=1/\2<=ce.sym then 3 else 0)),U8 0,U8 ce.bits,dk ce.base] 214)::(af be (vD ce) 227)::(af bb (aX iE) 214)::F)) ?_ ?_)
 refine V 6 ?_;refine an J ?_ ?_<;>intro F7
 have Q8:3<=2^ce.sym:=aI (show 3<=2^2 by decide) (dp I F7);refine V 3 ?_;refine ah (iz (b:=3) (h2:=ao.lit _) J J Q8 az) (pe J (b7 ?_));intro w h;exact aC ⟨aM,aq,(by first| (rw[ai ⟨J,F7⟩];exact h)| (rw[ag (λe=>F7 e.2)];exact h))⟩
 exact aQ ⟨aM,aq,(by first| (rw[ai ⟨J,F7⟩];exact h)| (rw[ag (λe=>F7 e.2)];exact h))⟩
 rintro ρ w ⟨⟨vk,rfl⟩,h⟩;refine V 5 ?_;refine b7 ?_;intro w h;refine V 4 ?_;refine ah (iK [_,_,_,_] h J gJ J) (ah (ky J J (by first|rfl|assumption|exact sx J I|exact eg J I|exact eg (by assumption) I) I) ?_);refine qP (vs:=w4 (kR 1 ce)) h J J J J (by rw[YQ];have:=Gi (kR 1 ce);omega) J ?_;intro w h;dsimp only[List.set]at h;rw[YR _ I]at h;refine V 5 ?_;replace h:=h.tail.tail;(try dsimp only[dB]at h);exact⟨aM,(i+1,iE.set i (kR 1 ce)),cw,aq,h,I,(by rw[dD];exact dE),YT I W (by rw[n_]),(λj hj=>by rcases dh j i with e|e;(· exact h2 j e);(· rw[show j=i by omega,n_];omega))⟩
 exact YW
end Go.Z
