/- Part 6 of the proof. -/
import Derived.KernelRfl
import Derived.LaidEqlPtr
import Derived.WideLaws
import Derived.Test.YtmgkiicjpmihfaaGreatDoorQE
set_option linter.all false
set_option maxRecDepth 20000
set_option maxHeartbeats 400000000
open List renaming length -> W, getD -> aa, map -> ar, replicate -> aT, set -> bJ, range -> cL
open UInt8 renaming ofNat -> bS
open Or renaming inl -> a_, inr -> bG
open Go.Z.Env renaming ev -> aL, put -> fU
namespace Go.Z
open Go Go.Proofs Tryz
variable {F F':List aK}
section
variable {P:Program}{ρ:Env}{T T' ty:TypeId}{w:World}{x y:Operand}{k:IntKind}{u v:Int}
def yd(a:aL ρ x= .int k u)(b:aL ρ y= .int k v):run P ρ (.binOp .add T x y T') ty w= .ok (.value (.int k (k.wrap (u+v)))) w:=by
 rw[lr _ a b];simp[binOp,Op.intArith]
def ag3(a:aL ρ x= .int k u)(b:aL ρ y= .int k v):run P ρ (.binOp .sub T x y T') ty w= .ok (.value (.int k (k.wrap (u-v)))) w:=by
 rw[lr _ a b];simp[binOp,Op.intArith]
end
section
variable {ρ:Env}{T T' ty:TypeId}{w:World}{x y:Operand}{r:fT}{L:List aK}{a a':Addr}{t t':TypeId}{u u':Value}
def CJ:PP.underlying 103=some (.interface (PP.methodsAt 103)):=by kernel_rfl
def Zp{p:Prop}(h:p:=by simp only[run,execOp,hx];simp[Instr.makeInterface,run_underlying hu]):p:=h
def atS(hx:aL ρ x= .pointer (some a)):run PP ρ (.makeInterface 182 x) ty w= .ok (.value (.iface 182 (.pointer (some a)))) w:=by
 have hu:PP.underlying 182=some (.pointer 184):=underlying182;exact Zp
def atT(hx:aL ρ x= .pointer (some a)):run PP ρ (.makeInterface 199 x) ty w= .ok (.value (.iface 199 (.pointer (some a)))) w:=by
 have hu:PP.underlying 199=some (.pointer 201):=underlying199;exact Zp
def atU(hx:aL ρ x= .pointer (some a)):run PP ρ (.makeInterface 58 x) ty w= .ok (.value (.iface 58 (.pointer (some a)))) w:=by
 have hu:PP.underlying 58=some (.pointer 84):=underlying58;exact Zp
def Zq(a:aL ρ x= .iface t u){c:Value}(b:c= .nilIface):run PP ρ (.binOp .eql 103 x (.const c) T') ty w= .ok (.value (.bool false)) w:=by
 subst b;have h:=run_eql_held_nil (P:=PP) w 103 t u CJ;simp only[run,execOp,a];simp[eqGuard,aL,h]
def ag4(a:aL ρ x= .nilIface){c:Value}(b:c= .nilIface):run PP ρ (.binOp .eql 103 x (.const c) T') ty w= .ok (.value (.bool true)) w:=by
 subst b;have h:=run_eql_nil_nil (P:=PP) w 103 CJ;simp only[run,execOp,a];simp[eqGuard,aL,h]
def J5(a:aL ρ x= .iface t u){c:Value}(b:c= .nilIface):run PP ρ (.binOp .neq 103 x (.const c) T') ty w= .ok (.value (.bool true)) w:=by
 subst b;have h:=run_neq_held_nil (P:=PP) w 103 t u CJ;simp only[run,execOp,a];simp[eqGuard,aL,h]
def ye(a:aL ρ x= .nilIface){c:Value}(b:c= .nilIface):run PP ρ (.binOp .neq 103 x (.const c) T') ty w= .ok (.value (.bool false)) w:=by
 subst b;have h:=run_neq_nil_nil (P:=PP) w 103 CJ;simp only[run,execOp,a];simp[eqGuard,aL,h]
def atV(a:aL ρ x= .iface t u)(b:aL ρ y= .iface t' u')(c:t≠t'):run PP ρ (.binOp .eql 103 x y T') ty w= .ok (.value (.bool false)) w:=by
 have h:(binOp .eql 103 (.iface t u) (.iface t' u')).run PP w= .ok (.bool false) w:=(by have e: ∀d:Nat,(Op.equalIn (d+1) 103 (.iface t u) (.iface t' u')).run PP w= .ok false w:=λd=>(by simp[Op.equalIn,run_underlying CJ,c]);simp only[binOp];simp[Op.equal,Op.maxDepth,e 9999]);simp only[run,execOp,a,b];simp[eqGuard,h]
def atW(a:aL ρ x= .nilIface)(b:aL ρ y= .iface t' u'):run PP ρ (.binOp .eql 103 x y T') ty w= .ok (.value (.bool false)) w:=by
 have h:=run_eql_iface_nil_left (P:=PP) w (ti:=103) t' u' CJ;simp only[run,execOp,a,b];simp[eqGuard,h]
def atX:Tryz.t201.size≠0:=by
 have:Tryz.t201.size=1:=(by kernel_rfl);omega
def NA(b:aL ρ x= .iface 199 (.pointer (some a)))(c:aL ρ y= .iface 199 (.pointer (some a))):run PP ρ (.binOp .eql 103 x y T') ty w= .ok (.value (.bool true)) w:=by
 have h:=run_eql_iface_ptr_same (P:=PP) w (ti:=103) (tp:=199) (te:=201) (i:=Tryz.t199) (j:=Tryz.t201) a CJ underlying199 (by kernel_rfl) (by kernel_rfl) (by kernel_rfl);simp only[run,execOp,b,c];simp[eqGuard,h]
def R4{l l':List Value}{A d:TypeId}(e:aL ρ x= .iface 199 (.pointer (some a)))(f:aL ρ y= .iface 199 (.pointer (some a')))(c:H r w L)(g:a≠a')(k:(some a.block,C l A)∈L)(b:(some a'.block,C l' d)∈L):run PP ρ (.binOp .eql 103 x y T') ty w= .ok (.value (.bool false)) w:=by
 have h:=run_eql_iface_ptr_other (P:=PP) w (ti:=103) (tp:=199) (te:=201) (i:=Tryz.t199) (j:=Tryz.t201) CJ underlying199 (by kernel_rfl) (by kernel_rfl) (by kernel_rfl) atX g (c.fp _ _ k) (c.fp _ _ b);simp only[run,execOp,e,f];simp[eqGuard,h]
end
def zJ:List Nat:=[16777232,16777234,16777236,16777238,33554456,33554460,50331680,50331688,67108912,100663360,117440640,134217984,150995456,167773184,184551424,201330688,218112000,234897408,251691008,268500992]
def zK:List Nat:=[16777251,16777253,16777255,16777257,33554475,33554479,50331699,50331707,67108931,67108947,83886179,117440643,134217987,150995459,167773187,184551427,201330691,218112003,234897411,251691011,268500995]
abbrev dB(n:Nat):Value:=bR n
def J6(F:List aK)(g:Nat)(l:List Nat):Prop:= ∃b q c T m T',(some g,C [.slice (some ⟨b,q,none⟩) (W l) c] T)∈F/\(some b,C m T')∈F/\Rd m q (l.map dB)
def J6.sub{g:Nat}{l:List Nat}(h:J6 F g l)(hs:Sub F F'):J6 F' g l:=by
 obtain⟨b,q,c,T,m,T',h1,h2,a⟩:=h;exact⟨b,q,c,T,m,T',hs _ h1,hs _ h2,a⟩
structure Gl(F:List aK)(aE aU:Addr):Prop where
 g0: ∃T,(some 0,C [.iface 199 (.pointer (some aE))] T)∈F
 g1: ∃T,(some 1,C [.iface 199 (.pointer (some aU))] T)∈F
 g2: ∃T,(some 2,C [.bool false] T)∈F
 bE: ∃l,∃T:TypeId,(some aE.block,C l T)∈F
 bU: ∃l,∃T:TypeId,(some aU.block,C l T)∈F
 ne:aU≠aE
 g4:J6 F 4 zJ
 g5:J6 F 5 zK
def Gl.sub{aE aU:Addr}(h:Gl F aE aU)(hs:Sub F F'):Gl F' aE aU:=
 ⟨h.g0.imp λ_=>hs _,h.g1.imp λ_=>hs _,h.g2.imp λ_=>hs _,h.bE.imp λ_=>Exists.imp λ_=>hs _,h.bU.imp λ_=>Exists.imp λ_=>hs _,h.ne,h.g4.sub hs,h.g5.sub hs⟩
def H.ag5{r:fT}{w:World}{L:List aK}{b b':Nat}{o o':Obj}(h:H r w ((some b,o)::L))(hm:(some b',o')∈L):b≠b':=by
 intro e;subst e;have:=h.nodup;simp only[DK]at this;exact(WE.1 this).1 (L_.2 ⟨_,hm,J⟩)
def Er(aU:Addr)(e:Value):Prop:=(∃b,e= .iface 182 (.pointer (some ⟨b,0,none⟩)))\/e= .iface 199 (.pointer (some aU))
structure dk where
 uj:Value
 iD:Bool
 sum:Bool
 one:Bool
 d_:Bool
 rem:Nat
 oM:Int
 bA:Option Addr
 bN:Nat
 bC:Nat
 off:Nat
 r1:Nat
 r2:Nat
 r3:Nat
 hA:Option Addr
 hN:Nat
 hC:Nat
 hb:Nat
 wS:Nat
 wA:Option Addr
 wN:Nat
 wC:Nat
 wO:Nat
 cA:Option Addr
 cN:Nat
 cC:Nat
 lA:Option Addr
 lN:Nat
 lC:Nat
 st:Nat->Value
 tb:Nat->Nat
 sq:Nat->Value
 gF:Nat->UInt8
 fA:Option Addr
 fN:Nat
 fC:Nat
 xl:Nat
 xv:Nat->Nat
 xb:Nat->UInt8
 xc:Nat
def fF{α:Type}(f:Nat->α)(k:Nat)(v:α):Nat->α:=λi=>if i=k then v else f i
def aB(x:dk):List Value:=[
 x.uj,.bool x.iD,.bool x.sum,.bool x.one,.bool x.d_,cR x.rem,.int .i64 x.oM,.slice x.bA x.bN x.bC,
 af x.off,bR x.r1,bR x.r2,bR x.r3,.slice x.hA x.hN x.hC,af x.hb,af x.wS,.slice x.wA x.wN x.wC,
 af x.wO,.slice x.cA x.cN x.cC,.slice x.lA x.lN x.lC,x.st 0,x.st 1,x.st 2,iW (x.tb 0),iW (x.tb 1),
 iW (x.tb 2),x.sq 0,x.sq 1,x.sq 2,u8 (x.gF 0),u8 (x.gF 1),u8 (x.gF 2),u8 (x.gF 3),
 u8 (x.gF 4),u8 (x.gF 5),u8 (x.gF 6),u8 (x.gF 7),u8 (x.gF 8),u8 (x.gF 9),u8 (x.gF 10),u8 (x.gF 11),
 u8 (x.gF 12),u8 (x.gF 13),u8 (x.gF 14),u8 (x.gF 15),.slice x.fA x.fN x.fC,cR x.xl,cR (x.xv 0),cR (x.xv 1),
 cR (x.xv 2),cR (x.xv 3),u8 (x.xb 0),u8 (x.xb 1),u8 (x.xb 2),u8 (x.xb 3),u8 (x.xb 4),u8 (x.xb 5),
 u8 (x.xb 6),u8 (x.xb 7),u8 (x.xb 8),u8 (x.xb 9),u8 (x.xb 10),u8 (x.xb 11),u8 (x.xb 12),u8 (x.xb 13),
 u8 (x.xb 14),u8 (x.xb 15),u8 (x.xb 16),u8 (x.xb 17),u8 (x.xb 18),u8 (x.xb 19),u8 (x.xb 20),u8 (x.xb 21),
 u8 (x.xb 22),u8 (x.xb 23),u8 (x.xb 24),u8 (x.xb 25),u8 (x.xb 26),u8 (x.xb 27),u8 (x.xb 28),u8 (x.xb 29),
 u8 (x.xb 30),u8 (x.xb 31),af x.xc]
def zL(x:dk):W (aB x)=83:=rfl
variable {aE aU:Addr}{s:ByteArray}{zo:Int}{bb bi cn rb:Nat}{p:Prop}{x:dk}{r:fT}{dv:Value}{w:World}
def ag6(h:H r w F):Calls PP 93 #[.string s] w λe w'=> ∃b,e= .returned (.iface 199 (bL b))/\H r w' ((ah b [.string s] 201)::F):=by
 refine iu func93 ntmps93 [2] ?_;refine g_ 7 ?_;refine ak (Gj (aqV _) J) (tL h J J J ?_);intro a w h;refine ak (atT J) ?_;refine g_ 3 ?_;exact⟨_,J,h⟩
def R5{a:Addr}{la:List Value}{d:TypeId}(f:(some a.block,C la d)∈F)(g:a≠aE)(h:H r w F)(i:(ah rb (aB x) 81)∈F)(c:Gl F aE aU):Calls PP 79 #[bL rb,.int .i64 zo,.iface 199 (.pointer (some a))] w λe w'=> ∃b,e= .returned (.iface 182 (bL b))/\H r w' F:=by
 obtain⟨n,o⟩:=dw i;obtain⟨p,j⟩:=c.g0;obtain⟨i0,q⟩:=dw j;obtain⟨s,k⟩:=c.g1;obtain⟨i1,t⟩:=dw k;obtain⟨u,v,l⟩:=c.bE;obtain⟨y,z,A⟩:=c.bU;refine nV func79 ntmps79 [6] ?_;refine g_ 9 ?_;refine ak (R4 J J h g f l) (aJ (gK J ?_));refine g_ 8 ?_;refine ak (yd J J) (dg (ak (At (aqU _ _ _) J J) (tL h J J J ?_)));intro m w h;refine ak (atS J) ?_;refine g_ 3 ?_;exact⟨_,J,h.tail⟩
def atY{rb:Nat}{x:dk}(h:H r w F)(a:Gl F aE aU){b:Value}:Calls PP 79 #[b,.int .i64 zo,.iface 199 (.pointer (some aE))] w λe w'=>e= .returned (.iface 199 (.pointer (some aE)))/\H r w' F:=by
 obtain⟨d,c⟩:=a.g0;obtain⟨i0,f⟩:=dw c;refine nV func79 ntmps79 [6] ?_;refine g_ 9 ?_;refine ak (NA J J) (aJ (jv J ?_));refine g_ 6 ?_;exact⟨J,h⟩
def re(h:H r w F)(c:(ah rb (aB x) 81)∈F)(a:Gl F aE aU):Calls PP 82 #[bL rb,.int .i64 zo,.string s] w λe w'=> ∃b,e= .returned (.iface 182 (bL b))/\H r w' F:=by
 obtain⟨k,l⟩:=dw c;obtain⟨m,d⟩:=a.g0;obtain⟨i0,n⟩:=dw d;obtain⟨o,f⟩:=a.g1;obtain⟨i1,p⟩:=dw f;obtain⟨q,t,g⟩:=a.bE;obtain⟨u,v,y⟩:=a.bU;refine nV func82 ntmps82 [6] ?_;refine g_ 9 ?_;refine d' J J (aH (ag6 h) ?_);rintro e i ⟨b,rfl,h⟩;have j:(⟨b,0,none⟩:Addr)≠aE:=λe=>h.ag5 g (cD Addr.block e);refine eS J J J J (aH (R5 bZ j h (aA c) (a.sub λ_=>nq _)) ?_);rintro e i ⟨b2,rfl,h⟩;refine g_ 3 ?_;exact⟨_,J,h.tail⟩
def Zs(h:p:=by refine eS J J J J (aH (R5 E5 hG.ne h hR hG) ?_);rintro e w1 ⟨b2,rfl,h⟩;refine g_ 3 ?_;exact⟨_,J,h⟩):p:=h
def vi(h:H r w F)(hR:(ah rb (aB x) 81)∈F)(hG:Gl F aE aU):Calls PP 95 #[bL rb,.int .i64 zo] w λe w'=> ∃b,e= .returned (.iface 182 (bL b))/\H r w' F:=by
 obtain⟨d,f⟩:=dw hR;obtain⟨g,a⟩:=hG.g0;obtain⟨i0,i⟩:=dw a;obtain⟨j,c⟩:=hG.g1;obtain⟨i1,k⟩:=dw c;obtain⟨l,m,n⟩:=hG.bE;obtain⟨o,p,E5⟩:=hG.bU;refine iI func95 ntmps95 [4] ?_;refine g_ 9 ?_;exact Zs
def atZ(h:H r w F)(hR:(ah rb (aB x) 81)∈F)(hG:Gl F aE aU):Calls PP 83 #[bL rb,.int .i64 zo,.iface 199 (.pointer (some aE))] w λe w'=> ∃b,e= .returned (.iface 182 (bL b))/\H r w' F:=by
 obtain⟨d,f⟩:=dw hR;obtain⟨g,a⟩:=hG.g0;obtain⟨i0,i⟩:=dw a;obtain⟨j,c⟩:=hG.g1;obtain⟨i1,k⟩:=dw c;obtain⟨l,m,n⟩:=hG.bE;obtain⟨o,p,E5⟩:=hG.bU;refine nV func83 ntmps83 [6] ?_;refine g_ 9 ?_;refine ak (NA J J) (aJ (jv J ?_));refine g_ 9 ?_;exact Zs
def aua(h:H r w F)(hR:(ah rb (aB x) 81)∈F)(hG:Gl F aE aU):Calls PP 83 #[bL rb,.int .i64 zo,.iface 199 (.pointer (some aU))] w λe w'=> ∃b,e= .returned (.iface 182 (bL b))/\H r w' F:=by
 obtain⟨f,g⟩:=dw hR;obtain⟨i,a⟩:=hG.g0;obtain⟨i0,j⟩:=dw a;obtain⟨k,c⟩:=hG.g1;obtain⟨i1,l⟩:=dw c;obtain⟨m,n,d⟩:=hG.bE;obtain⟨o,p,E5⟩:=hG.bU;refine nV func83 ntmps83 [6] ?_;refine g_ 9 ?_;refine ak (R4 J J h hG.ne E5 d) (aJ (gK J ?_));refine g_ 6 ?_;exact Zs
def ag7(h:p:=by refine g_ 5 ?_;refine cm h [0,4,8,16,20,24,36,13,29,32,43,44] ?_;intro w h;refine aC 10 ?_;refine Ar J J J J J (aH (re h hR hG) ?_);rintro e w1 ⟨b2,rfl,h⟩;exact fG J (cO (ju ⟨_,J,h⟩))):p:=h
def R6{of st:Nat}(h:H r w F)(hR:(ah rb (aB x) 81)∈F)(hG:Gl F aE aU)(a:(ah bb [bL rb,dv,.int .u32 (of:Int),.int .u32 (st:Int),.int .u32 (bi:Int),.int .u32 (cn:Int)] 207)∈F)(g:of<=4294967295):Calls PP 107 #[bL bb,.string s] w λe w'=> ∃b,e= .returned (.iface 182 (bL b))/\H r w' F:=by
 obtain⟨i,j⟩:=dw hR;obtain⟨k,c⟩:=hG.g0;obtain⟨i0,l⟩:=dw c;obtain⟨m,d⟩:=hG.g1;obtain⟨i1,n⟩:=dw d;obtain⟨o,p,q⟩:=hG.bE;obtain⟨t,u,v⟩:=hG.bU;obtain⟨y,f⟩:=dw a;refine iI func107 ntmps107 [4] ?_;exact ag7
def Zt{of:Nat}(h:H r w F)(hR:(ah rb (aB x) 81)∈F)(hG:Gl F aE aU)(a:(ah bb [bL rb,dv,.int .u32 (of:Int),.int .u32 (bi:Int),.int .u32 (cn:Int)] 242)∈F)(g:of<=4294967295):Calls PP 129 #[bL bb,.string s] w λe w'=> ∃b,e= .returned (.iface 182 (bL b))/\H r w' F:=by
 obtain⟨i,j⟩:=dw hR;obtain⟨k,c⟩:=hG.g0;obtain⟨i0,l⟩:=dw c;obtain⟨m,d⟩:=hG.g1;obtain⟨i1,n⟩:=dw d;obtain⟨o,p,q⟩:=hG.bE;obtain⟨t,u,v⟩:=hG.bU;obtain⟨y,f⟩:=dw a;refine iI func129 ntmps129 [4] ?_;exact ag7
section
variable {ρ:Env}{T T' ty:TypeId}{w:World}{x y z:Operand}{a:Addr}{v u:Value}{ts:Array TypeId}
def aub(a:Addr)(w:World):(Go.method (268+Made.depth) 58 (.pointer (some a)) "Read").run PP w= .ok (152,.pointer (some a)) w:=by kernel_rfl
def auc(a:Addr)(w:World):(Go.method (268+Made.depth) 58 (.pointer (some a)) "Seek").run PP w= .ok (153,.pointer (some a)) w:=by kernel_rfl
def aud(a:Addr)(w:World):(nilAhead (268+Made.depth) 58 (.pointer (some a)) "Read").run PP w= .ok (some false) w:=by kernel_rfl
def aue{s:String}(a:aL ρ x=v):run PP ρ (.makeFunc (.method s) #[x] #[]) ty w= .ok (.value (.func (.method s) #[v] #[])) w:=by
 simp[run,execOp,Instr.makeFunc,a]
def auf(b:aL ρ x= .func (.method "Read") #[.iface 58 (.pointer (some a))] #[]):run PP ρ (.nilCheck x) ty w= .ok (.value (.func (.method "Read") #[.iface 58 (.pointer (some a))] #[])) w:=by
 have h:=aud a w;simp only[run,execOp,b];simp[h]
def aug(b:aL ρ x= .iface 58 (.pointer (some a)))(c:aL ρ y=v):run PP ρ (.call {callee:= .invoke x "Read",args:= #[y],argTypes:=ts}) ty w= .ok (.enter 152 #[.pointer (some a),v]) w:=by
 have h:=aub a w;have h2:=(inferInstance:Body PP 152).run #[.pointer (some a),v] w;simp[run,execOp,resolve,invoke,callMethod,b,c,h,h2]
def Zu(b:aL ρ x= .iface 58 (.pointer (some a)))(c:aL ρ y=v)(d:aL ρ z=u):run PP ρ (.call {callee:= .invoke x "Seek",args:= #[y,z],argTypes:=ts}) ty w= .ok (.enter 153 #[.pointer (some a),v,u]) w:=by
 have h:=auc a w;have h2:=(inferInstance:Body PP 153).run #[.pointer (some a),v,u] w;simp[run,execOp,resolve,invoke,callMethod,b,c,d,h,h2]
end
section
variable {n:Nat}{K:ia}{ρ:Env}{w:World}{all:Array Oper}{d:Option Nat}{ty:TypeId}{pos:String}{aV:Array Edge}{ts:Array TypeId}{x y z:Operand}{a:Addr}{v u:Value}
def auh{m:Nat}{rest:Ot}(hi:all[m]? =some {dst:=d,op:= .call {callee:= .invoke x "Read",args:= #[y],argTypes:=ts},type:=ty,pos:=pos,after:=aV,guard:=none})
 (b:aL ρ x= .iface 58 (.pointer (some a))) (c:aL ρ y=v) (hd:bH n d=true)
 (h:Calls PP 152 #[.pointer (some a),v] w λe w'=> ∃v,e= .returned v/\D PP n all rest K (fU ρ d v) w'):D PP n all (.cons (m,.h) rest) K ρ w:=Xs hi (aug b c) hd h
end
section
variable {P:Program}{n:Nat}{K:ia}{ρ:Env}{w:World}{all:Array Oper}{d:Option Nat}{ty:TypeId}{pos:String}{aV:Array Edge}{x y:Operand}{r:fT}{L:List aK}{T T' T2:TypeId}
theorem ag8 [hu:cu P T (.slice T')] [hs:Sz P T' 1]{i m nn c c2 b q:Nat}{l:List Value}{B:TypeId}{A ad:Option Addr}{F:List aK}{X:List UInt8}(h:H r w L)(hi:L[i]? =some (ah b l B))(hA:0<nn->A=some ⟨b,q,none⟩)(p:aY F (.slice ad m c2) X)(t:Sub F L)(G:q+min m nn<=W l): ∃w',(Builtin.copy_ #[T,T2] ty #[.slice A nn c,.slice ad m c2]).run P w= .ok (af (min m nn)) w'/\H r w' (L.set i (ah b (dm l q ((X.take nn).map u8)) B)):=by
 have e2:=hs.size w;have e:Nat.min m nn=min m nn:=rfl;obtain⟨J,K,c',u,x,_,_⟩:=id p;cases u;have f:aY F (.slice ad (min m nn) c2) (X.take (min m nn)):=aY.take p (Ql _ _);have g:=q9 (P:=P) (r:=r) f t
 have k:X.take (min m nn)=X.take nn:=by
  rw[x];apply nR;intro j;simp only[qg];by_cases h1:j<min (W X) nn
  rw[ao h1,ao I]
  rw[aj h1];split
  exact(gB I).symm
  rfl
 rw[k]at g;have d:(Builtin.firstCells 1 (min m nn) (.slice ad m c2)).run P w= .ok ((X.take nn).map u8).toArray w:=(by have:=g.cells w h;have z: ∀s,(Builtin.firstCells 1 (min m nn) (.slice ad s c2))=(Builtin.firstCells 1 (min m nn) (.slice ad m c2)):=(by intro s;cases ad<;>simp[Builtin.firstCells]);rw[z]at this;exact this);have n:(Builtin.lenOf (.slice ad m c2)).run P w= .ok m w:=(by simp[Builtin.lenOf]);have M:W ((X.take nn).map u8)=min m nn:=(by rw[g.size];omega);rcases pd nn with o|o
 subst o;refine⟨w,?_,?_⟩
 have C:(ar u8 (X.take 0))=[]:=(by simp);rw[C,Nat.min_zero]at d;have D: ∀a,(storeCells a []).run P w= .ok () w:=λa=>(by simp[storeCells])
 cases A with
 |none=>simp[Builtin.copy_,underlying,program,Sem.run,hu.eq,e2,n,e,d,goInt]
 |some a=>simp[Builtin.copy_,underlying,program,Sem.run,hu.eq,e2,n,e,d,D,goInt]
 have:L.set i (ah b (dm l q ((X.take 0).map u8)) B)=L:=Jo hi;rw[this];exact h
 obtain rfl:=hA o;obtain⟨w',s1,s2,_,_⟩:=D5 (P:=P) ((X.take nn).map u8) w L l q 0 h hi (by intro v E;obtain⟨y,_,rfl⟩:=jS.1 E;rfl) I;refine⟨w',?_,by simpa using s2⟩;simp only[WR]at s1;simp[Builtin.copy_,underlying,program,Sem.run,hu.eq,e2,n,e,d,s1,goInt]
def Hh [hu:cu P T (.slice T')] [hs:Sz P T' 1] {ord:Ot} {j m nn c c2 b q i:Nat} {l:List Value} {B:TypeId} {A ad:Option Addr} {F:List aK} {X:List UInt8}
   (a:all[j]? =some {dst:=d,op:= .call {callee:= .builtin .copy,args:= #[x,y],argTypes:= #[T,T2]},type:=ty,pos:=pos,after:=aV,guard:=none})
   (h:H r w L) (e:aL ρ x= .slice A nn c) (f:aL ρ y= .slice ad m c2) (hi:L[i]? =some (ah b l B)) (hA:0<nn->A=some ⟨b,q,none⟩)
   (g:aY F (.slice ad m c2) X) (k:Sub F L) (o:q+min m nn<=W l) (hd:bH n d=true)
   (p: ∀w',H r w' (L.set i (ah b (dm l q ((X.take nn).map u8)) B))->D P n all ord K (fU ρ d (af (min m nn))) w'):D P n all (.cons (j,.h) ord) K ρ w:=by
 obtain⟨w',h1,h2⟩:=ag8 (P:=P) (ty:=ty) (T:=T) (T':=T') (T2:=T2) h hi hA g k o
 exact Mw a (aeA e f h1) hd (p w' h2)
def aui{rest:List Oper}[hu:cu P T (.slice T')] [hs:Sz P T' 1]{m nn c c2 b q i:Nat}{l:List Value}{B:TypeId}{A ad:Option Addr}{F:List aK}{X:List UInt8}(h:H r w L)(a:aL ρ x= .slice A nn c)(e:aL ρ y= .slice ad m c2)(hi:L[i]? =some (ah b l B))(hA:0<nn->A=some ⟨b,q,none⟩)(f:aY F (.slice ad m c2) X)(g:Sub F L)(j:q+min m nn<=W l)(hd:bH n d=true)(k: ∀w',H r w' (L.set i (ah b (dm l q ((X.take nn).map u8)) B))->O P n all rest K (fU ρ d (af (min m nn))) w'):O P n all ({dst:=d,op:= .call {callee:= .builtin .copy,args:= #[x,y],argTypes:= #[T,T2]},type:=ty,pos:=pos,after:=aV,guard:=none}::rest) K ρ w:=by
 obtain⟨w',h1,h2⟩:=ag8 (P:=P) (ty:=ty) (T:=T) (T':=T') (T2:=T2) h hi hA f g j;exact gQ (aeA a e h1) hd (k w' h2)
def ag9: ∀(A B l:List Value) (q:Nat),dm (dm l q A) (q+W A) B=dm l q (A++B)
 | [],B,l,q=>rfl
 |v::A,B,l,q=>by rw[dm,List.cons_append,dm,<-ag9 A B (l.set q v) (q+1),dL,fL,uC 1]
end
variable {pr:Int}{E X:List UInt8}{l:List Value}{c cap i n q sb:Nat}{A ad:Option Addr}{B:TypeId}
def NC(aE:Addr)(b:Bool):Value:=if b=true then .iface 199 (.pointer (some aE))else .nilIface
def auj(h1:i<=n)(h2:i<=W X):X.take i++(X.drop i).take (n-i)=X.take (i+min (W X-i) (n-i)):=by
 rw[Qm];congr 1;by_cases h:n-i<=W X-i
 rw[DL h]
 rw[l9 I,je (by rw[cr];omega),je (by rw[cr];omega)]
section
variable {ρ:Env}{T' ty:TypeId}{w:World}{x y:Operand}{aE aU:Addr}{b:Bool}{r:fT}{L:List aK}
def auk(a:aL ρ x=NC aE b){c:Value}(d:c= .nilIface):run PP ρ (.binOp .eql 103 x (.const c) T') ty w= .ok (.value (.bool (!b))) w:=by
 cases b
 exact ag4 a d
 exact Zq (t:=199) (u:= .pointer (some aE)) a d
def aul(a:aL ρ x=NC aE b)(c:aL ρ y= .iface 199 (.pointer (some aE))):run PP ρ (.binOp .eql 103 x y T') ty w= .ok (.value (.bool b)) w:=by
 cases b
 exact atW a c
 exact NA a c
end
def aum{len pos:Nat}{a:Bool}(c:(!a)=true)(h1:i<n)(h2:i<=len-pos)(hp:pos<=len):2*(n- (i+min (len- (pos+i)) (n-i)))+(if decide (len<=pos+i)=true then 0 else 1)<2*(n-i)+(if a=true then 0 else 1):=by
 have d:a=false:=(by simpa using c);subst d;by_cases b:len<=pos+i
 rw[sL b];simp;omega
 rw[I4 b];simp;omega
def Zv(h:i=n\/(W X<=i/\i<=n)):X.take n=X.take i:=by
 rcases h with h|h
 rw[h]
 rw[je I,je h.1]
def ag'{A B:List Value}(h:W A=i):dm (dm l q A) (q+i) B=dm l q (A++B):=by
 subst h;exact ag9 A B l q
theorem aun{len pos:Nat}(h:H r w ((ah sb [.slice ad len cap,af (pos),.int .i64 pr] 84)::(ah bb l B)::F))(a:aY F (.slice ad len cap) E)(d:pos<=len)(hlen:len<=140737488355328)(b:Gl F aE aU)(hA:0<n->A=some ⟨bb,q,none⟩)(s:q+n<=W l):Calls PP 152 #[bL sb,.slice A n c] w λe w'=> ∃f,e= .returned (.tuple #[af (min (len-pos) n),NC aE (decide (len<=pos))])/\H r w' ((ah sb [.slice ad len cap,af (pos+min (len-pos) n),.int .i64 f] 84)::(ah bb (dm l q (ar u8 ((E.drop pos).take n))) B)::F):=by
 obtain⟨t,g⟩:=b.g0;obtain⟨i0,u⟩:=dw g;obtain⟨v,j⟩:=b.g1;obtain⟨i1,x⟩:=dw j;have y:len=W E/\len<=cap:=(by obtain⟨z,C,c',k,m,o,_⟩:=id a;cases k;exact⟨m,o⟩);refine iI func152 ntmps152 [4,5] ?_;refine g_ 7 ?_;refine cm h [0,4,8,16,20,24,13,29,32,36] ?_;intro w h;refine aC 11 ?_;refine au J ?_ ?_<;>intro D
 refine bY (cm h [4,1,8] ?_);intro w h;refine aD J (As 0 J (av.lit _).eq) ?_;refine aC 3 ?_;refine ju ?_;have p:(E.drop pos).take n=[]:=(by rw[yR I,List.take_nil]);exact⟨pr,(by rw[show min (len-pos) n=0 by omega,sL (by omega:len<=pos)];rfl),(by rw[p,show min (len-pos) n=0 by omega,kN];exact h)⟩
 refine g_ 6 ?_;refine cI ?_;intro w h;refine aJ (bY (cm h [0,4,8,12,20,24,28,17,33,36,43,44] ?_));intro w h;refine aC 9 ?_;refine aD J (jJ J J I I) (Hh (i:=1) (F:=F) (X:=E.drop pos) J h J J J hA (aY.drop a d) (λe he=>aA (aA he)) I J ?_);intro w h;dsimp only[bJ]at h;refine fG J (cO ?_);refine g_ 10 ?_;refine cI ?_;intro w h;exact aJ (ju ⟨-1,(by rw[I4 (by omega: ¬len<=pos)];rfl),h⟩)
theorem auo{len pos:Nat}(h:H r w ((ah sb [.slice ad len cap,af (pos),.int .i64 pr] 84)::(ah bb l B)::F))(p:aY F (.slice ad len cap) E)(y:pos<=len)(hlen:len<=140737488355328)(j:Gl F aE aU)(hA:0<n->A=some ⟨bb,q,none⟩)(O:q+n<=W l)(P:n<=c):Calls PP 94 #[.iface 58 (bL sb),.slice A n c,af n] w λe w'=> ∃k,e= .returned (.tuple #[af (min (len-pos) n),(if n<=len-pos then .nilIface else if len-pos=0 then .iface 199 (.pointer (some aE))else .iface 199 (.pointer (some aU)))])/\H r w' ((ah sb [.slice ad len cap,af (pos+min (len-pos) n),.int .i64 k] 84)::(ah bb (dm l q (ar u8 ((E.drop pos).take n))) B)::F):=by
 obtain⟨Q,z⟩:=j.g0;obtain⟨i0,R⟩:=dw z;obtain⟨S,C⟩:=j.g1;obtain⟨i1,m⟩:=dw C;have T:len=W E/\len<=cap:=(by obtain⟨U,V,c',D,G,K,_⟩:=id p;cases D;exact⟨G,K⟩);refine nV func94 ntmps94 [6,7] ?_;refine g_ 13 ?_;refine au J ?_ ?_<;>intro X
 exfalso;omega
 refine a8 (bY (kp [(6,8),(14,34)] (λρ w=> ∃i:Nat,∃a:Bool,∃b:Int,Kn ρ [(6,af i),(7,NC aE a)]/\H r w ((ah sb [.slice ad len cap,af (pos+i),.int .i64 b] 84)::(ah bb (dm l q (ar u8 ((E.drop pos).take i))) B)::F)/\(i<=n)/\(i<=len-pos)/\(a=true->i=len-pos)/\(i=n\/a=true)) ?_ ?_))
 refine cw (σ:=Nat×Bool×Int) [(6,8),(14,34)] (λ⟨i,a,b⟩ ρ w=>Kn ρ [(6,af i),(7,NC aE a)]/\H r w ((ah sb [.slice ad len cap,af (pos+i),.int .i64 b] 84)::(ah bb (dm l q (ar u8 ((E.drop pos).take i))) B)::F)/\(i<=n)/\(i<=len-pos)/\(a=true->i=len-pos)) (λ⟨i,a,b⟩=>2*(n-i)+(if a=true then 0 else 1)) (0,false,pr) ⟨az,h,I,I,(λe=>by cases e)⟩ ?_;rintro⟨i,a,b⟩ ρ w ⟨⟨Y,rfl⟩,h,m,s,g⟩;refine g_ 7 ?_;refine eM (t:=17) J (λu=>?_) (λu=>?_)
 refine g_ 1 ?_;refine dI J J J (auk J J) J ?_;refine g_ 2 ?_;refine eY J ?_ ?_<;>intro v
 refine g_ 7 ?_;refine cm h [0,4,8,12,16,20,24,31,32,36,40,44,48] ?_;intro w h;refine aC 3 ?_;refine aD J (jJ J J I I) (aD J (aue J) (aD J (auf J) (lx J (auh J J J J ((aun (q:=q+i) h p I hlen j (λZ=>eU (hA I) I) (by rw[MD];omega)).mono ?_)))));rintro e w1 ⟨k,rfl,h⟩;refine⟨_,J,?_⟩;refine aC 6 ?_;refine g_ 6 ?_;refine⟨aS,?_⟩;have L:E.drop (pos+i)=(E.drop pos).drop i:=List.drop_drop.symm;have hle:W E-pos-i=len- (pos+i):=I;rw[ag' (by rw[cB,fR,cr];omega),<-gJ,L,auj m (by rw[cr];omega),cr,hle,fL]at h;exact⟨(i+min (len- (pos+i)) (n-i),decide (len<=pos+i),k),aum v u s y,az,h,I,I,(λe=>by have:=tE e;omega)⟩
 exact jl ⟨aS,i,a,b,az,h,I,I,g,(by right;simpa using v)⟩
 refine g_ 4 ?_;exact gK J (jl ⟨aS,i,a,b,az,h,I,I,g,(by left;omega)⟩)
 rintro ρ w ⟨i,a,b,⟨ny,rfl⟩,h,m,s,g,M⟩;refine g_ 7 ?_;refine au J ?_ ?_<;>intro CM
 refine g_ 4 ?_;have d:min (len-pos) n=i:=I;have f:(E.drop pos).take n=(E.drop pos).take i:=Zv (by rw[cr];omega);exact⟨b,(by rw[d];rw[ao I];rfl),(by rw[d,f];exact h)⟩
 have o:a=true:=M.resolve_left I;have pt:=g o;refine g_ 5 ?_;refine eM (t:=40) J (λN=>?_) (λN=>?_)
 refine g_ 2 ?_;refine dI J J J (aul J J) J ?_;refine g_ 2 ?_;refine eY J ?_ ?_<;>intro x
 refine g_ 5 ?_;have d:min (len-pos) n=i:=I;have f:(E.drop pos).take n=(E.drop pos).take i:=Zv (by rw[cr];omega);exact⟨b,(by rw[d];rw[aj I,aj I];rfl),(by rw[d,f];exact h)⟩
 refine a8 (ju ?_);rw[o]at x;cases x
 refine g_ 5 ?_;refine gK J (a8 (ju ?_));have d:min (len-pos) n=i:=I;have f:(E.drop pos).take n=(E.drop pos).take i:=Zv (by rw[cr];omega);exact⟨b,(by rw[d];rw[aj I,ao I,o];rfl),(by rw[d,f];exact h)⟩
def CN{len pos:Nat}(h:H r w ((ah sb [.slice ad len cap,af (pos),.int .i64 pr] 84)::(ah bb l B)::F))(b:aY F (.slice ad len cap) E)(d:pos<=len)(hlen:len<=140737488355328)(f:Gl F aE aU)(hA:0<n->A=some ⟨bb,q,none⟩)(g:q+n<=W l)(i:n<=c):Calls PP 78 #[.iface 58 (bL sb),.slice A n c] w λe w'=> ∃a,e= .returned (.tuple #[af (min (len-pos) n),(if n<=len-pos then .nilIface else if len-pos=0 then .iface 199 (.pointer (some aE))else .iface 199 (.pointer (some aU)))])/\H r w' ((ah sb [.slice ad len cap,af (pos+min (len-pos) n),.int .i64 a] 84)::(ah bb (dm l q (ar u8 ((E.drop pos).take n))) B)::F):=by
 refine iI func78 ntmps78 [4,5] ?_;refine g_ 11 ?_;refine eS J J J J (aH (auo h b d hlen f hA g i) ?_);rintro e j ⟨a,rfl,h⟩;refine g_ 6 ?_;exact⟨a,J,h⟩
variable {k:IntKind}{a x:Nat}
def iE(n:Nat):Nat:=if n=0 then 0 else n.log2+1
def lk{n k:Nat}(h:n<2^k):iE n<=k:=by
 unfold iE;split
 omega
 rename_i a;have:=(qR a).2 h;omega
def Hi(h:0<n):iE n=n.log2+1:=by unfold iE;rw[aj I]
def aha{k:Nat}(h1:2^k<=n)(h2:n<2^(k+1)):iE n=k+1:=by
 have c:n≠0:=(by have:=eA k;omega);unfold iE;rw[aj c];have a:=(qR c).2 h2;have b:=(I5 c).2 h1;omega
def R_{n k:Nat}(h:2^k<=n):k+iE (n/2^k)=iE n:=by
 have hp:=eA k;have c:0<n/2^k:=Qi h hp;obtain⟨j,a⟩: ∃j,(n/2^k).log2=j:=⟨_,J⟩;have b:2^j<=n/2^k:=(by rw[<-a];exact F2 I);have e2:n/2^k<2^(j+1):=(by rw[<-a];exact yQ);have a1:2^(j+k)<=n:=(by rw[h_];exact(I6 hp).1 b);have a2:n<2^(j+k+1):=(by have:=(Qn hp).1 e2;rwa [<-h_,show j+1+k=j+k+1 by omega]at this);rw[aha b e2,aha a1 a2];omega
def aup(s:ByteArray):Bool:=(cL 256).all λn=>(s[n]?).map (·.toNat)==some (iE n)
def Hj{ρ:Env}{ty:TypeId}{y:Operand}{u:Int}(hs:aup s=true)(d:aL ρ y= .int .u8 u) [h1:av u a](e:a<256):run PP ρ (.index 9 (.const (.string s)) y) ty w= .ok (.value (iW (iE a))) w:=by
 have hu:PP.underlying 9=some .string:=underlying9;have c:=vW.1 hs a (oY.2 e);simp only[IW,Qo]at c;obtain⟨b,hb,f⟩:=c;simp only[run,execOp,d,h1.eq];simp[Instr.index,aL,asIntOf,run_underlying hu,hb,f]
def mk_le:x % (aN k+1)<=aN k:=Ml (dY _ (F7 _))
def Zz(h:x<=aN k):x % (aN k+1)=x:=iV (I7 h)
def kf(a:Rd l q (X.map u8))(hi:i<W X):l[q+i]? =some (u8 (aa X i 0)):=by
 rw[a.get i (by rw[cB];exact hi)];exact gX hi
def Sa{m:Nat}(h:i<W X)(hm:m=8*i)(a:256*2^m<=aN k+1):num (X.take i)||| (aa X i 0).toNat*2^m % (aN k+1)=num (X.take (i+1)):=by
 subst hm;rw[<-XO X i h,Zz];have:=toNat_le (aa X i 0);have h2:(aa X i 0).toNat*2^(8*i)<256*2^(8*i):=(Nat.mul_lt_mul_right (eA _)).2 I;omega
def ZA(h:0<W X):(aa X 0 0).toNat=num (X.take 1):=by
 have:=XO X 0 h;simpa [num] using this
def auq:num (X.take 4)|||num ((X.drop 4).take 4)*2^32 % (aN .u64+1)=num (X.take 8):=by
 have h1:num (X.take 4)<2^32:=Ek X 4;have h2:num ((X.drop 4).take 4)<2^32:=Ek _ 4;rw[Zz aG,pW h1,show X.take 8=X.take 4++(X.drop 4).take 4 from Qm (i:=4) (j:=4),Cb];by_cases h:4<=W X
 rw[fR,l9 h,im]
 rw[yR I];simp[num]
theorem Hk(h:H r w F)(f:aY F (.slice ad n c) X)(hN:4<=W X):Calls PP 80 #[.slice ad n c] w λe w'=>e= .returned (bR (num (X.take 4)))/\H r w' F:=by
 obtain⟨o,p,c',g,s,t,j⟩:=id f;cases g;obtain⟨b,q,l,T,rfl,hm,d⟩:=j I;obtain⟨u,v⟩:=dw hm;refine iu func80 ntmps80 [2] ?_;refine g_ 5 ?_;refine cm h [0,4,16,20,40,44,64,68,9,12,25,28,32,36,49,52,56,60,73,76,80,84,88] ?_;intro w h;refine lx J (aD J (da (a:=0) (h1:=av.lit _) J J J I) (lx J (aD J (da (a:=1) (h1:=av.lit _) J J J I) (lx J (aD J (da (a:=2) (h1:=av.lit _) J J J I) (lx J (aD J (da (a:=3) (h1:=av.lit _) J J J I) (aQ J h J (kf d (i:=0) I) (aD J (eZ J (dT _ an)) ?_)))))))));refine aQ J h J (kf d (i:=1) I) (aD J (eZ J (dT _ an)) ?_);refine aD J (DW (b:=8) (h2:=av.lit _) J J an J) ?_;refine aD J (fq J J (dT _ an) mk_le) ?_;refine aQ J h J (kf d (i:=2) I) (aD J (eZ J (dT _ an)) ?_);refine aD J (DW (b:=16) (h2:=av.lit _) J J an J) ?_;refine aD J (fq J J (Mu _ _ _ (dT _ an) mk_le) mk_le) ?_;refine aQ J h J (kf d (i:=3) I) (aD J (eZ J (dT _ an)) ?_);refine aD J (DW (b:=24) (h2:=av.lit _) J J an J) ?_;refine aD J (fq J J (Mu _ _ _ (Mu _ _ _ (dT _ an) mk_le) mk_le) mk_le) ?_;exact fG J (cO (ju ⟨(by rw[<-Sa (X:=X) (k:= .u32) (i:=3) (m:=24) I J an,<-Sa (X:=X) (k:= .u32) (i:=2) (m:=16) I J an,<-Sa (X:=X) (k:= .u32) (i:=1) (m:=8) I J an,<-ZA I];rfl),h⟩))
theorem Sb(h:H r w F)(f:aY F (.slice ad n c) X)(hN:2<=W X):Calls PP 85 #[.slice ad n c] w λe w'=>e= .returned (D3 (num (X.take 2)))/\H r w' F:=by
 obtain⟨o,p,c',g,s,t,j⟩:=id f;cases g;obtain⟨b,q,l,T,rfl,hm,d⟩:=j I;obtain⟨u,v⟩:=dw hm;refine iu func85 ntmps85 [2] ?_;refine g_ 5 ?_;refine cm h [0,4,16,20,9,12,25,28,32,36,40] ?_;intro w h;refine lx J (aD J (da (a:=0) (h1:=av.lit _) J J J I) (lx J (aD J (da (a:=1) (h1:=av.lit _) J J J I) (aQ J h J (kf d (i:=0) I) (aD J (eZ J (dT _ an)) ?_)))));refine aQ J h J (kf d (i:=1) I) (aD J (eZ J (dT _ an)) ?_);refine aD J (DW (b:=8) (h2:=av.lit _) J J an J) ?_;refine aD J (fq J J (dT _ an) mk_le) ?_;exact fG J (cO (ju ⟨(by rw[<-Sa (X:=X) (k:= .u16) (i:=1) (m:=8) I J an,<-ZA I];rfl),h⟩))
theorem ZC(h:H r w F)(d:aY F (.slice ad n c) X)(hN:8<=W X):Calls PP 86 #[.slice ad n c] w λe w'=>e= .returned (cR (num (X.take 8)))/\H r w' F:=by
 obtain⟨i,j,c',f,k,l,m⟩:=id d;cases f;have h1:num (X.take 4)<2^32:=Ek X 4;have h2:num ((X.drop 4).take 4)<2^32:=Ek _ 4;refine iu func86 ntmps86 [2] ?_;refine g_ 5 ?_;refine cm h [0,12,16,7,8,23,24,28,32,36] ?_;intro w h;refine aC 2 ?_;refine aD J (jJ (a:=4) (h1:=av.lit _) J J I I) (qU J J J (aH (Hk h d I) ?_));rintro e g ⟨rfl,h⟩;refine aC 1 ?_;refine qU J J J (aH (Hk h (aY.drop d I) (by rw[cr];omega)) ?_);rintro e g ⟨rfl,h⟩;refine aC 1 ?_;refine aD J (DW (b:=32) (h2:=av.lit _) J J an J) ?_;exact aD J (fq J J aG mk_le) (fG J (cO (ju ⟨(by rw[<-auq];rfl),h⟩)))
def aur(b:a<256):Calls PP 132 #[.int .u8 (a:Int)] w λe w'=>e= .returned (af (iE a))/\w'=w:=by
 have hb:=lk (k:=8) b;refine iu func132 ntmps132 [2] ?_;refine g_ 7 ?_;refine ak (Hj (by decide+kernel) J b) ?_;refine g_ 4 ?_;exact⟨J,J⟩
def aus(c:a<65536):Calls PP 135 #[.int .u16 (a:Int)] w λe w'=>e= .returned (af (iE a))/\w'=w:=by
 have hb:=lk (k:=16) c;refine iu func135 ntmps135 [2] ?_;refine g_ 10 ?_;refine au J ?_ ?_<;>intro d
 have f:= @R_ a 8 I;have b:= @lk (a/2^8) 8 I;refine g_ 14 ?_;refine ak (Hj (by decide+kernel) J I) ?_;refine ak (eZ J (aM (lk (k:=8) I) an)) ?_;refine g_ 4 ?_;exact⟨(by rw[<-f];rfl),J⟩
 have b:= @lk a 8 I;refine g_ 6 ?_;refine ak (Hj (by decide+kernel) J I) ?_;refine ak (eZ J (aM (lk (k:=8) I) an)) ?_;refine g_ 4 ?_;exact⟨(by rw[il];rfl),J⟩
def aut(d:a<4294967296):Calls PP 133 #[.int .u32 (a:Int)] w λe w'=>e= .returned (af (iE a))/\w'=w:=by
 have hb:=lk (k:=32) d;refine iu func133 ntmps133 [2] ?_;refine g_ 10 ?_;refine au J ?_ ?_<;>intro f
 have c:= @R_ a 16 I;have i:a/2^16<65536:=I;refine g_ 15 ?_;refine au J ?_ ?_<;>intro g
 refine g_ 16 ?_;refine ak (Hj (by decide+kernel) J I) ?_;refine ak (eZ J (aM (lk (k:=8) I) an)) ?_;refine ak (eR J J (aM (Qp (lk (k:=8) I) _) an)) ?_;refine g_ 3 ?_;have b:= @R_ (a/2^16) 8 I;exact⟨(by rw[<-c,<-b,<-fL];rfl),J⟩
 refine g_ 6 ?_;refine ak (Hj (by decide+kernel) J I) ?_;refine ak (eZ J (aM (lk (k:=8) I) an)) ?_;refine ak (eR J J (aM (Qp (lk (k:=8) I) _) an)) ?_;refine g_ 3 ?_;exact⟨(by rw[<-c];rfl),J⟩
 refine g_ 7 ?_;refine au J ?_ ?_<;>intro g
 refine g_ 16 ?_;refine ak (Hj (by decide+kernel) J I) ?_;refine ak (eZ J (aM (lk (k:=8) I) an)) ?_;refine ak (eR J J (aM (Qp (lk (k:=8) I) _) an)) ?_;refine g_ 3 ?_;have b:= @R_ a 8 I;exact⟨(by rw[<-b,il];rfl),J⟩
 refine g_ 6 ?_;refine ak (Hj (by decide+kernel) J I) ?_;refine ak (eZ J (aM (lk (k:=8) I) an)) ?_;refine ak (eR J J (aM (Qp (lk (k:=8) I) _) an)) ?_;refine g_ 3 ?_;exact⟨(by rw[il];rfl),J⟩
def ZD(h:p:=by rintro e w1 ⟨rfl,rfl⟩;refine g_ 4 ?_;exact⟨J,J⟩):p:=h
def auu(b:a<256):Calls PP 114 #[.int .u8 (a:Int)] w λe w'=>e= .returned (af (8-iE a))/\w'=w:=by
 have hb:=lk (k:=8) b;refine iu func114 ntmps114 [2] ?_;refine g_ 7 ?_;refine d' J J (aH (aur b) ?_);exact ZD
def auv(b:a<65536):Calls PP 134 #[.int .u16 (a:Int)] w λe w'=>e= .returned (af (16-iE a))/\w'=w:=by
 have hb:=lk (k:=16) b;refine iu func134 ntmps134 [2] ?_;refine g_ 7 ?_;refine d' J J (aH (aus b) ?_);exact ZD
def ahb(b:a<4294967296):Calls PP 118 #[.int .u32 (a:Int)] w λe w'=>e= .returned (af (32-iE a))/\w'=w:=by
 have hb:=lk (k:=32) b;refine iu func118 ntmps118 [2] ?_;refine g_ 7 ?_;refine d' J J (aH (aut b) ?_);exact ZD
variable {N b br dc dl st:Nat}{x:dk}
def ND(E:List UInt8)(k:Nat):num E/2^(8*k)=num (E.drop k):=by
 have h:=Cb (E.take k) (E.drop k);rw[uD]at h;have a:=Ek E k;by_cases b:k<=W E
 rw[fR,l9 b,show(256:Nat)^k=2^(8*k) by rw[Mc]]at h;rw[h,Qq _ _ (eA _),yN a,il]
 rw[yR I,show num []=0 from J];rw[je I]at a;exact yN a
def ZE{k:Nat}(h:k<W E):num (E.drop k)=(aa E k 0).toNat+256*num (E.drop (k+1)):=by
 rw[List.drop_eq_getElem_cons h];have e:aa E k 0=E[k]:=(by simp[bX,h]);rw[e];rfl
def p_(N o bi cn:Nat):Prop:=bi<4294967296/\bi % 2^(min cn 32)=N/2^(8*o) % 2^(min cn 32)
def ahc{m c:Nat}(h:a % 2^m=b % 2^m)(hm:c<=m):a % 2^c=b % 2^c:=by
 rw[<-Qr a (I8 2 hm),h,Qr _ (I8 2 hm)]
def p_.less{o a:Nat}(h:p_ N o bi cn)(b:a<=cn):p_ N o bi a:=⟨h.1,ahc h.2 I⟩
def p_.step{o:Nat}(h:p_ (num E) o bi cn)(k:0<o)(l:o<=W E):p_ (num E) (o-1) (bi*2^8 % (aN .u32+1)||| (aa E (o-1) 0).toNat) (cn+8):=by
 have a:(aa E (o-1) 0).toNat<2^8:=(by have:=toNat_le (aa E (o-1) 0);omega);have d:bi*2^8 % (aN .u32+1)=bi % 16777216*2^8:=aG;rw[d,Qb,pW a];refine⟨I,?_⟩;obtain⟨c,b⟩: ∃c,(aa E (o-1) 0).toNat=c:=⟨_,J⟩;have e2:num E/2^(8*(o-1))=c+(num E/2^(8*o))*2^8:=(by rw[ND,ND,ZE (I:o-1<W E),b,show o-1+1=o by omega];omega);rw[e2,b];rw[b]at a;obtain⟨K,e⟩: ∃K,num E/2^(8*o)=K:=⟨_,J⟩;have h2:=h.2;rw[e]at h2 ⊢;obtain⟨j,f⟩: ∃j,min (cn+8) 32=j+8:=⟨min (cn+8) 32-8,I⟩;rw[f];have g:bi % 2^j=K % 2^j:=ahc h2 I;have i:bi % 16777216 % 2^j=K % 2^j:=(by rw[show(16777216:Nat)=2^24 from J,Qr _ (I8 2 (I:j<=24))];exact g);have key: ∀x,(c+x*2^8) % 2^(j+8)=c+(x % 2^j)*2^8:=λx=>(by rw[h_,im (2^j),Me,Nat.add_mul_mod_self_right,iV a,Nat.add_mul_div_right _ _ (eA _),yN a,il,im]);rw[key,key,i]
def p_.val{o:Nat}(h:p_ N o bi cn)(hb:b<=cn)(a:cn<=32):bi/2^(cn-b) % 2^b=dJ N (8*o+(cn-b)) b:=by
 have h2:=h.2;rw[l9 a]at h2;unfold dJ;obtain⟨k,c⟩: ∃k,cn=k+b:=⟨cn-b,I⟩;subst c;rw[yS];rw[h_ 2 (8*o),<-rM];have e: ∀x:Nat,x/2^k % 2^b=x % 2^(k+b)/2^k:=λx=>(by rw[h_,Md]);rw[e,e,h2]
def p_.init{o:Nat}(a:o<W E)(h:(aa E o 0).toNat≠0):p_ (num E) o (aa E o 0).toNat (7- (8-iE (aa E o 0).toNat)):=by
 have c:=toNat_le (aa E o 0);have hb:= @lk (aa E o 0).toNat 8 I;refine⟨I,?_⟩;rw[ND,ZE a];obtain⟨j,b⟩: ∃j,min (7- (8-iE (aa E o 0).toNat)) 32=j:=⟨_,J⟩;rw[b];have:(256:Nat)=2^j*2^(8-j):=(by rw[<-h_,show j+(8-j)=8 by omega]);rw[this,sK,Qt]
theorem NF{rv:Value}{o:Nat}(h:H r w ((ah rb [rv,.slice ad dl dc,bR o,.int .u32 (st:Int),bR bi,bR cn] 207)::F))(n:aY F (.slice ad dl dc) E)(A:o<=W E)(B:W E<=268435456)(C:st<=4294967295)(hb:b<=32)(f:cn<=32)(u:p_ (num E) o bi cn):Calls PP 115 #[bL rb,.int .u8 (b:Int)] w λe w'=> ∃ok o' p c,e= .returned (.bool ok)/\H r w' ((ah rb [rv,.slice ad dl dc,bR o',.int .u32 (st:Int),bR p,bR c] 207)::F)/\o'<=o/\c<=39/\p_ (num E) o' p c/\(ok=true->b<=c/\c+8*(o'-st)=cn+8*(o-st)/\(c=cn\/c<=b+7))/\(ok=false->cn+8*(o-st)<b)/\(st<=o->st<=o'):=by
 have D:dl=W E/\dl<=dc:=(by obtain⟨v,x,c',g,s,f,_⟩:=id n;cases g;exact⟨s,f⟩);have y:0<W E-> ∃db q l T,ad=some ⟨db,q,none⟩/\(ah db l T)∈F/\Rd l q (E.map u8):=(by obtain⟨v,x,c',g,s,f,j⟩:=id n;cases g;intro G;exact j I);refine iI func115 ntmps115 [4] ?_;refine g_ 6 ?_;refine cw (σ:=Nat×Nat×Nat) [(4,61)] (λ⟨o1,d,a⟩ ρ w=>Kn ρ []/\H r w ((ah rb [rv,.slice ad dl dc,bR o1,.int .u32 (st:Int),bR d,bR a] 207)::F)/\(o1<=o)/\(a+8*(o1-st)=cn+8*(o-st))/\(a=cn\/a<=b+7)/\(p_ (num E) o1 d a)/\(st<=o->st<=o1)) (λ⟨o1,d,a⟩=>b-a) (o,bi,cn) ⟨az,h,I,I,I,u,(λe=>e)⟩ ?_;rintro⟨o1,d,a⟩ ρ w ⟨⟨K,rfl⟩,h,h1,h2,j,k,t⟩;refine g_ 11 ?_;refine au J ?_ ?_<;>intro L
 refine g_ 4 ?_;refine cm h [0,4,8,16,20,24,13,29,32] ?_;intro w h;refine aC 10 ?_;refine au J ?_ ?_<;>intro M
 refine g_ 5 ?_;exact⟨false,o1,d,a,J,h,h1,I,k,(λe=>by cases e),(λ_=>I),t⟩
 refine lB (y I) λdb q l T m=>?_;have z:=kf m.2.2 (i:=o1-1) I;refine gg m.2.1 λN O=>?_;refine g_ 10 ?_;refine cI ?_;intro w h;refine aJ (bY (cm h [0,4,8,16,20,24,13,29,32,37,40] ?_));intro w h;refine aC 8 ?_;refine aD J (da J J m.1 I) (aQ J h J z (fG J (cO ?_)));refine g_ 6 ?_;refine ak (DW (b:=8) (h2:=av.lit _) J J an J) ?_;refine g_ 2 ?_;refine cI ?_;intro w h;refine g_ 8 ?_;refine ak (eZ J (dT _ an)) ?_;refine ak (fq J J mk_le (dT _ an)) ?_;refine g_ 2 ?_;refine cI ?_;intro w h;refine g_ 9 ?_;refine cI ?_;intro w h;exact aJ ⟨aS,(o1-1,d*2^8 % (aN .u32+1)||| (aa E (o1-1) 0).toNat,a+8),cQ,az,h,I,I,I,k.step I I,(λe=>I)⟩
 refine g_ 6 ?_;exact⟨true,o1,d,a,J,h,h1,I,k,(λ_=>⟨I,h2,j⟩),(λe=>by cases e),t⟩
def ZF{o:Nat}(h:H r w ((ah rb [bL br,.slice ad dl dc,bR o,.int .u32 (st:Int),bR bi,bR cn] 207)::F))(n:(ah br (aB x) 81)∈F)(p:Gl F aE aU)(q:aY F (.slice ad dl dc) E)(s:o<=W E)(t:W E<=268435456)(u:st<=4294967295)(hb:b<=31)(y:cn<=32)(z:p_ (num E) o bi cn):Calls PP 106 #[bL rb,.int .u8 (b:Int)] w λe w'=> ∃v er o' j c,e= .returned (.tuple #[bR v,er])/\H r w' ((ah rb [bL br,.slice ad dl dc,bR o',.int .u32 (st:Int),bR j,bR c] 207)::F)/\o'<=o/\(st<=o->st<=o')/\(b<=cn+8*(o-st)->er= .nilIface/\v<2^b/\c<=32/\p_ (num E) o' j c/\c+8*(o'-st)+b=cn+8*(o-st)/\(b<=25->v=dJ (num E) (8*o'+c) b))/\(cn+8*(o-st)<b-> ∃be,er= .iface 182 (bL be)):=by
 have L:2^b<=2^31:=dF I hb;have A:=eA b;refine iI func106 ntmps106 [4,5] ?_;refine g_ 10 ?_;refine cJ J J J (aH (NF h q s t u I y z) ?_);rintro e B ⟨ok,o1,d,f,rfl,h,h1,h2,g,C,D,k⟩;refine ak (k8 J) (aJ (eY J ?_ ?_))<;>intro l
 have i:ok=false:=(by simpa using l);have M:=D i;refine bY (cm h [0,4,8,16,20,24,13,29,32,39,40,44] ?_);intro w h;refine aC 9 ?_;refine lW J J J J (aH (vi h (aA n) (p.sub λ_=>nq _)) ?_);rintro e B ⟨b2,rfl,h⟩;exact aD J (As 0 J (av.lit _).eq) (fG J (cO (ju ⟨0,_,o1,d,f,J,h,h1,k,(λe=>I),(λ_=>Exists.intro b2 J)⟩)))
 have i:ok=true:=(by simpa using l);have G:=C i;have N:=g.1;refine g_ 12 ?_;refine cI ?_;intro w h;refine aJ (bY (cm h [0,4,8,16,20,24,36,40,44,13,29,32,48,52] ?_));intro w h;refine aC 7 ?_;refine aD J (eB (a:=1) (h1:=av.lit _) J J dQ aG) ?_;refine aC 4 ?_;refine aD J (yT J J (aM (k6 _ _) aG) aG) (fG J (cO ?_));refine g_ 7 ?_;have m:(d/2^(f-b)&&&(1*2^b-1))=d/2^(f-b) % 2^b:=(by rw[rN,F6]);exact⟨(d/2^(f-b)&&&(1*2^b-1)),_,o1,d,f-b,J,h,h1,k,(λ_=>⟨J,by rw[m];exact dY _ A,I,g.less (vZ _ _),I,λK=>by rw[m];exact g.val G.1 I⟩),(λe=>I)⟩
theorem Hl{off:Nat}(h:H r w F)(j:(ah br (aB x) 81)∈F)(k:Gl F aE aU)(c:aY F (.slice ad dl dc) E)(A:off<W E)(B:W E<=268435456)(C:st<=4294967295):Calls PP 105 #[bL br,.slice ad dl dc,af off,af st] w λe w'=> ∃vs er,e= .returned (.tuple #[.agg (List.toArray vs),er])/\W vs=6/\vs.all plain=true/\H r w' F/\((aa E off 0).toNat=0-> ∃be,er= .iface 182 (bL be))/\((aa E off 0).toNat≠0->er= .nilIface/\vs=[bL br,.slice ad dl dc,.int .u32 (off:Int),.int .u32 (st:Int),bR ((aa E off 0).toNat),bR (7- (8-iE (aa E off 0).toNat))]):=by
 have D:dl=W E/\dl<=dc:=(by obtain⟨m,n,c',b,d,f,_⟩:=id c;cases b;exact⟨d,f⟩);have o:0<W E-> ∃db q l T,ad=some ⟨db,q,none⟩/\(ah db l T)∈F/\Rd l q (E.map u8):=(by obtain⟨m,n,c',b,d,f,p⟩:=id c;cases b;intro G;exact p I);obtain⟨db,q,l,T,s,t,u⟩:=o I;obtain⟨K,L⟩:=dw t;have v:=kf u (i:=off) I;have M:= @lk (aa E off 0).toNat 8 (by have:=toNat_le (aa E off 0);omega);refine D9 (P:=PP) func105 36 ntmps105 8 207 [9] J J (args:=[_,_,_,_]) J (bY (fD (eN h J ?_)));intro br w h;refine g_ 6 ?_;refine ak (da J J s I) (aX h J v ?_);refine g_ 8 ?_;refine au J ?_ ?_<;>intro g
 refine bY (fD (ak (Jp aqW) (dg (dg (eS J J J J (aH (re h (aA j) (k.sub λ_=>nq _)) ?_))))));rintro e y ⟨b2,rfl,h⟩;refine cI ?_;intro w h;refine g_ 3 ?_;refine⟨_,rX [_,_,_,_,_,_] h J iG J,?_⟩;exact⟨_,_,J,J,J,h.tail,(λ_=>Exists.intro b2 J),(λe=>absurd g e)⟩
 have z:8-iE (aa E off 0).toNat<=7:=(by rw[Hi I];omega);refine g_ 10 ?_;refine ak (eZ J (dT _ an)) ?_;refine dg (d' J J (aH (auu (by have:=toNat_le (aa E off 0);omega)) ?_));rintro e y ⟨rfl,rfl⟩;refine ak (jm (a:=7) (h1:=av.lit _) J J z aG) ?_;refine g_ 1 ?_;refine ak (aqz (aqX _ _ _ _ _ _ _ _) J J J J J J) (eN h J ?_);intro N w h;refine cI ?_;intro w h;refine g_ 3 ?_;refine ak (jx [_,_,_,_,_,_] h J iG J) (cI ?_);intro w h;refine g_ 3 ?_;refine⟨_,rX [_,_,_,_,_,_] h J iG J,?_⟩;exact⟨_,_,J,J,J,h.tail.tail,(λe=>absurd e g),(λ_=>And.intro J J)⟩
variable {fb off p:Nat}
def pD(N p off bi cn:Nat):Prop:=p+cn=8*off/\bi=N/2^p % 2^cn
def pD.lt(h:pD N p off bi cn):bi<2^cn:=by rw[h.2];exact dY _ (eA _)
def pD.step(h:pD (num E) p off bi cn)(a:off<W E)(b:cn<16):pD (num E) p (off+1) (bi||| (aa E off 0).toNat*2^cn % (aN .u32+1)) (cn+8):=by
 have hb:=toNat_le (aa E off 0);have h1:=h.lt;have hp:2^cn<=2^15:=dF I I;have h2:(aa E off 0).toNat*2^cn<=255*2^15:=tG hb hp;rw[Zz aG,pW h1];refine⟨by have:=h.1;omega,?_⟩;rw[h_,Me,rM,<-h_,h.1,ND,ZE a];rw[show(2:Nat)^8=256 from J,Qt,iV (I:(aa E off 0).toNat<256),<-h.2,im]
def pD.take(h:pD N p off bi cn)(hb:b<=cn):bi % 2^b=dJ N p b:=by
 rw[h.2,Qr _ (I8 2 hb)];rfl
def pD.drop(h:pD N p off bi cn)(hb:b<=cn):pD N (p+b) off (bi/2^b) (cn-b):=by
 refine⟨by have:=h.1;omega,?_⟩;rw[h.2,h_,<-rM];obtain⟨k,a⟩: ∃k,cn=b+k:=⟨cn-b,I⟩;subst a;rw[tH,h_,Md]
theorem Sc{o b:Nat}(h:H r w ((ah fb [bL br,.slice ad dl dc,bR o,bR bi,bR cn] 242)::F))(t:(ah br (aB x) 81)∈F)(u:Gl F aE aU)(m:aY F (.slice ad dl dc) E)(D:o<=W E)(G:W E<=268435456)(g:cn<=31)(v:pD (num E) p o bi cn):Calls PP 127 #[bL fb] w λe w'=> ∃er o' n f,e= .returned er/\H r w' ((ah fb [bL br,.slice ad dl dc,bR o',bR n,bR f] 242)::F)/\o'<=W E/\pD (num E) p o' n f/\f<=31/\(p+16<=8*W E->er= .nilIface/\16<=f)/\(8*W E<p+16-> ∃be,er= .iface 182 (bL be)):=by
 have K:dl=W E/\dl<=dc:=(by obtain⟨y,z,c',j,s,g,_⟩:=id m;cases j;exact⟨s,g⟩);have A:0<W E-> ∃db q l T,ad=some ⟨db,q,none⟩/\(ah db l T)∈F/\Rd l q (E.map u8):=(by obtain⟨y,z,c',j,s,g,c⟩:=id m;cases j;intro L;exact c I);refine iu func127 ntmps127 [2] ?_;refine g_ 6 ?_;refine cw (σ:=Nat×Nat×Nat) [(2,67)] (λ⟨o1,d,a⟩ ρ w=>Kn ρ []/\H r w ((ah fb [bL br,.slice ad dl dc,bR o1,bR d,bR a] 242)::F)/\(o1<=W E)/\(a<=31)/\(pD (num E) p o1 d a)) (λ⟨o1,d,a⟩=>16-a) (o,bi,cn) ⟨az,h,I,I,v⟩ ?_;rintro⟨o1,d,a⟩ ρ w ⟨⟨M,rfl⟩,h,h1,h2,c⟩;have B:=c.1;refine g_ 9 ?_;refine au J ?_ ?_<;>intro N
 refine g_ 4 ?_;refine cm h [0,4,8,16,20,24,13,29,32,36,40] ?_;intro w h;refine aC 12 ?_;refine au J ?_ ?_<;>intro O
 refine bY (cm h [0,4,8,16,20,24,13,29,32,39,40] ?_);intro w h;refine aC 9 ?_;refine lW J J J J (aH (vi h (aA t) (u.sub λ_=>nq _)) ?_);rintro e P ⟨b2,rfl,h⟩;exact fG J (cO (ju ⟨_,o1,d,a,J,h,h1,c,h2,(λe=>I),(λ_=>Exists.intro b2 J)⟩))
 refine lB (A I) λdb q l T k=>?_;have C:=kf k.2.2 (i:=o1) I;refine gg k.2.1 λQ R=>?_;have S:=c.lt;have U:2^a<=2^15:=dF I I;refine a8 (bY (cm h [0,4,8,16,20,24,13,29,32,37,40] ?_));intro w h;refine aC 8 ?_;refine aD J (da J J k.1 I) (aQ J h J C (fG J (cO ?_)));refine g_ 9 ?_;refine cI ?_;intro w h;refine aJ (bY (cm h [0,4,8,16,20,24,28,32,13,37,40,44,48,52,59] ?_));intro w h;refine aC 4 ?_;refine aD J (eZ J (dT _ an)) ?_;refine aC 5 ?_;refine aD J (DW J J dQ J) ?_;refine aD J (fq J J aG mk_le) ?_;refine aC 2 ?_;refine cI ?_;intro w h;refine cO ?_;refine g_ 8 ?_;refine cI ?_;intro w h;exact aJ ⟨aS,(o1+1,d||| (aa E o1 0).toNat*2^a % (aN .u32+1),a+8),cQ,az,h,I,I,c.step I I⟩
 refine g_ 6 ?_;exact⟨_,o1,d,a,J,h,h1,c,h2,(λ_=>And.intro J I),(λe=>I)⟩
def ahd{x:dk}{aE aU:Addr}{o:Nat}{E:List UInt8}(h:H r w ((ah fb [bL br,.slice ad dl dc,bR o,bR bi,bR cn] 242)::F))(hb:b<=cn)(f:cn<=31)(c:pD N p o bi cn):Calls PP 128 #[bL fb,.int .u8 (b:Int)] w λe w'=>e= .returned (bR (dJ N p b))/\H r w' ((ah fb [bL br,.slice ad dl dc,bR o,bR (bi/2^b),bR (cn-b)] 242)::F):=by
 have g:2^b<=2^31:=dF I I;have i:=eA b;have j:=c.lt;have k:2^cn<=2^31:=dF I I;refine iI func128 ntmps128 [4] ?_;refine g_ 11 ?_;refine ak (eB (a:=1) (h1:=av.lit _) J J dQ aG) ?_;refine g_ 14 ?_;refine cI ?_;intro w h;refine g_ 12 ?_;refine cI ?_;intro w h;refine g_ 7 ?_;have d:bi&&&(1*2^b-1)=dJ N p b:=(by rw[rN,F6,c.take hb]);exact⟨(by rw[<-d];rfl),h⟩
def auw{x:dk}{aE aU:Addr}{o b:Nat}{E:List UInt8}(h:H r w ((ah fb [bL br,.slice ad dl dc,bR o,bR bi,bR cn] 242)::F))(g:cn<=31)(i:o<=4294967295)(c:pD N p o bi cn):Calls PP 130 #[bL fb] w λe w'=>e= .returned (.tuple #[])/\ ∃d,H r w' ((ah fb [bL br,.slice ad dl dc,bR ((p+7)/8),bR bi,bR d] 242)::F):=by
 have j:=c.1;refine iu func130 ntmps130 [] ?_;refine Al (cw (σ:=Nat×Nat) [(2,20)] (λ⟨o1,a⟩ ρ w=>Kn ρ []/\H r w ((ah fb [bL br,.slice ad dl dc,bR o1,bR bi,bR a] 242)::F)/\(o1<=o)/\(a<=cn)/\(p+a=8*o1)) (λ⟨o1,a⟩=>a) (o,cn) ⟨az,h,I,I,I⟩ ?_);rintro⟨o1,a⟩ ρ w ⟨⟨k,rfl⟩,h,h1,h2,l⟩;refine g_ 9 ?_;refine au J ?_ ?_<;>intro f
 refine g_ 11 ?_;refine cI ?_;intro w h;refine g_ 9 ?_;refine cI ?_;intro w h;exact aJ ⟨aS,(o1-1,a-8),cQ,az,h,I,I,I⟩
 exact jl ⟨J,a,(by rw[show(p+7)/8=o1 by omega];exact h)⟩
def auy(h:H r w F)(a:off<=4294967295):Calls PP 126 #[bL br,.slice ad dl dc,af off] w λe w'=>e= .returned (.agg #[bL br,.slice ad dl dc,.int .u32 (off:Int),bR 0,bR 0])/\H r w' F:=by
 refine D9 (P:=PP) func126 12 ntmps126 6 242 [] J J (args:=[_,_,_]) J (bY (fD (eN h J ?_)));intro br w h;refine g_ 7 ?_;refine ak (xH (aq1 _ _ _ _ _) J J J) (cI ?_);intro w h;refine aJ (ju (⟨_,rX [_,_,_,_,_] h J iG J,?_⟩));exact⟨J,h.tail⟩
variable {cs:List dx}{sh:List Int}{k log s x:Nat}
abbrev U8(n:Nat):Value:=iW n
abbrev dG(n:Nat):Value:=D3 n
def wZ(c:dx):List Value:=[U8 c.sym,U8 c.bits,dG c.base]
def dp(cs:List dx):List Value:=cs.flatMap wZ
def Sd(c:dx):W (wZ c)=3:=rfl
def ZH{j:Nat}(hi:i<W cs)(a:j<3):(dp cs)[i*3+j]? =(wZ (aa cs i default))[j]? :=MX wZ 3 Sd default cs i j hi a
def J7(hi:i<W cs):(dp cs)[i*3+0]? =some (U8 (aa cs i default).sym):=by rw[ZH hi I];rfl
def Se(hi:i<W cs):(dp cs)[i*3+1]? =some (U8 (aa cs i default).bits):=by rw[ZH hi I];rfl
def Sf(hi:i<W cs):(dp cs)[i*3+2]? =some (dG (aa cs i default).base):=by rw[ZH hi I];rfl
def ZI(y:dx)(hi:i<W cs):dm (dp cs) (i*3) (wZ y)=dp (cs.set i y):=Rb wZ 3 Sd y cs i hi
def ahe(v:Nat)(hi:i<W cs):(dp cs).set (i*3+0) (U8 v)=dp (cs.set i {aa cs i default with sym:=v}):=by
 rw[<-ZI _ hi];show _=(((dp cs).set (i*3) (U8 v)).set (i*3+1) (U8 (aa cs i default).bits)).set (i*3+1+1) (dG (aa cs i default).base);rw[wH (q:=i*3+1) (v:=U8 (aa cs i default).bits),wH (q:=i*3+1+1) (v:=dG (aa cs i default).base)]
 rfl
 rw[BI I];exact Sf hi
 rw[BI I];exact Se hi
def auz(v:Nat)(hi:i<W cs):(dp cs).set (i*3+1) (U8 v)=dp (cs.set i {aa cs i default with bits:=v}):=by
 rw[<-ZI _ hi];show _=(((dp cs).set (i*3) (U8 (aa cs i default).sym)).set (i*3+1) (U8 v)).set (i*3+1+1) (dG (aa cs i default).base);rw[wH (q:=i*3) (v:=U8 (aa cs i default).sym) (J7 hi),wH (q:=i*3+1+1) (v:=dG (aa cs i default).base)];rw[BI I];exact Sf hi
def auA(v:Nat)(hi:i<W cs):(dp cs).set (i*3+2) (dG v)=dp (cs.set i {aa cs i default with base:=v}):=by
 rw[<-ZI _ hi];show _=(((dp cs).set (i*3) (U8 (aa cs i default).sym)).set (i*3+1) (U8 (aa cs i default).bits)).set (i*3+1+1) (dG v);rw[wH (q:=i*3) (v:=U8 (aa cs i default).sym) (J7 hi),wH (q:=i*3+1) (v:=U8 (aa cs i default).bits) (Se hi)]
def m8(sh:List Int)(log x:Nat):Nat:=(aa (spread sh log) x default).sym
def vk(sh:List Int)(log s:Nat):Nat->Nat
 |0=>0
 |i+1=>vk sh log s i+(if m8 sh log i=s then 1 else 0)
def sk(sh:List Int)(s:Nat):Nat:=if aa sh s 0= -1 then 1 else(aa sh s 0).toNat
def ahf{sh:List Int}{log s:Nat}: ∀i,vk sh log s i<=i
 |0=>aW _
 |i+1=>by have:= @ahf sh log s i;rw[vk];split<;>omega
def ahg{sh:List Int}{log s:Nat}: ∀{i},(∀y,y<i->m8 sh log y≠s)->vk sh log s i=0
 |0,_=>rfl
 |i+1,h=>by rw[vk,ahg (λy a=>h y I),aj (h i I)]
def ZJ{sh:List Int}{log s:Nat}(hs:s<W sh): ∀i,aa (fin log sh (spread sh log) i).1 s 0=aa sh s 0+vk sh log s i
 |0=>by simp[fin,vk]
 | i+1=>by
  rw[fin];simp only;rw[Ay (aW i),e_,(Ax _ _ _ _).1,vk];unfold m8;by_cases e:(aa (spread sh log) i default).sym=s
  rw[e,ao ⟨J,hs⟩,ao J,ZJ hs i];omega
  rw[aj (λh=>e h.1),aj e,ZJ hs i];omega
def ZK{size log:Nat}{shares:List Int}{cs:List dx}(b:W cs=size): ∀{n x:Nat},neg shares n<=size->size-neg shares n<=x->x<size-> ∃s,s<n/\aa (top size log shares cs n) x default=⟨s,log,0⟩/\aa shares s 0= -1/\x=size-neg shares (s+1)
 |0,x,_,h1,h2=>by simp[neg]at h1;omega
 | n+1,x,d,h1,h2=>by
  have hm:= @Aw shares n (n+1) I;by_cases h:aa shares n 0= -1
  have c:neg shares (n+1)=neg shares n+1:=(by rw[neg,ao h]);rw[top,ao h];by_cases e:size-neg shares (n+1)=x
  refine⟨n,I,?_,h,e.symm⟩;rw[e_,ao ⟨e,by rw[zt];omega⟩]
  obtain⟨s,hs,e2,a⟩:=ZK (log:=log) (shares:=shares) (cs:=cs) b (n:=n) (x:=x) I I h2;refine⟨s,I,?_,a⟩;rw[e_,aj I,e2]
  have c:neg shares (n+1)=neg shares n:=(by rw[neg,aj h];omega);obtain⟨s,hs,e2,a⟩:=ZK (log:=log) (shares:=shares) (cs:=cs) b (n:=n) (x:=x) I I h2;exact⟨s,I,by rw[top,aj h,e2],a⟩
def ZL(h:iy sh log)(h1:high sh log<=x)(h2:x<2^log): ∃s,s<W sh/\aa (spread sh log) x default=⟨s,log,0⟩/\aa sh s 0= -1/\x=2^log-neg sh (s+1):=by
 have hs:=h.sum;obtain⟨s,a,b,c,d⟩:=ZK (log:=log) (shares:=sh) (cs:=aT (2^log) (default:dx)) (size:=2^log) (by simp) (n:=W sh) (x:=x) I (by unfold high at h1;exact h1) h2;exact⟨s,a,by rw[spread,M4 h1];exact b,c,d⟩
def ZM(h:iy sh log)(b:x<2^log):m8 sh log x<W sh/\(aa sh (m8 sh log x) 0= -1\/1<=aa sh (m8 sh log x) 0):=by
 unfold m8;rcases dq x (high sh log)with h1|h1
 obtain⟨s,e,h2,a⟩:=JE h h1;rw[e];exact⟨h2,.inr a⟩
 obtain⟨s,h2,e,a,_⟩:=ZL h h1 b;rw[e];exact⟨h2,.inl a⟩
def ahh(h:iy sh log)(b:x<2^log){n:Nat}(g:n=sk sh (m8 sh log x)+vk sh log (m8 sh log x) x):1<=n/\n<2^(log+1)/\aa (dn sh log) x default=⟨m8 sh log x,iJ log n,n*2^iJ log n-2^log⟩:=by
 have m:=ZM h b;have o:= @ahf sh log (m8 sh log x) x;have p:=h.hi (m8 sh log x);have e2:((2:Int)^log)=((2^log:Nat):Int):=(by simp);have q:2^(log+1)=2*2^log:=(by rw[jI];omega);have h1:1<=sk sh (m8 sh log x)/\sk sh (m8 sh log x)<=2^log:=(by unfold sk;have:=eA log;split<;>omega);refine⟨I,I,?_⟩;rcases dq x (high sh log)with a|a
 obtain⟨s,e,h2,i⟩:=JE h a;have es:m8 sh log x=s:=(by unfold m8;rw[e]);rw[dn,YP (by rw[M5];exact b) a,e];simp only;rw[ZJ h2];have en:(aa sh s 0+(vk sh log s x:Int)).toNat=n:=(by rw[g,es];unfold sk;rw[aj I];omega);rw[en,es]
 obtain⟨s,h2,e,i,r⟩:=ZL h a b;have es:m8 sh log x=s:=(by unfold m8;rw[e]);rw[dn,Ay a,e]
 have k:vk sh log s x=0:=ahg λy t j=>by
  rcases dq y (high sh log)with c|c
  obtain⟨d,f,_,u⟩:=JE h c;have:d=s:=(by rw[<-j];unfold m8;rw[f]);subst this;omega
  obtain⟨d,_,f,_,l⟩:=ZL h c I;have:d=s:=(by rw[<-j];unfold m8;rw[f]);subst this;omega
 have en:n=1:=(by rw[g,es,k];unfold sk;rw[ao i]);rw[en,es];have:iJ log 1=log:=(by unfold iJ;rw[show Nat.log2 1=0 from by decide];omega);rw[this,rN,vX]
def S1(sh:List Int)(log:Nat)(cs:List dx)(i:Nat):Prop:= ∀x,2^log-neg sh i<=x->x<2^log->(aa cs x default).sym=(aa (top (2^log) log sh (aT (2^log) default) i) x default).sym
def auB:S1 sh log cs 0:=λx h1 h2=>by simp[neg]at h1;omega
def auC(h:S1 sh log cs i)(hi:aa sh i 0= -1)(a:2^log<=W cs)(b:neg sh i<2^log):S1 sh log (cs.set (2^log-neg sh i-1) {aa cs (2^log-neg sh i-1) default with sym:=i}) (i+1):=by
 intro x h1 h2;have e:neg sh (i+1)=neg sh i+1:=(by rw[neg,ao hi]);rw[e]at h1;rw[top,ao hi,e,e_,e_,zt,dS];by_cases ex:2^log-neg sh i-1=x
 rw[ao ⟨ex,I⟩,ao ⟨I,I⟩]
 rw[aj (λh=>ex h.1),aj I];exact h x I h2
def auD(h:S1 sh log cs i)(hi: ¬aa sh i 0= -1):S1 sh log cs (i+1):=by
 intro x h1 h2;have e:neg sh (i+1)=neg sh i:=(by rw[neg,aj hi];omega);rw[e]at h1;rw[top,aj hi];exact h x h1 h2
def S2(sh:List Int)(log:Nat)(cs:List dx)(k:Nat):Prop:= ∀x,x<2^log->(high sh log<=x\/ ∃j,j<k/\pos (2^log) j=x)->
 (aa cs x default).sym=(aa (lG (2^log) (high sh log) (fE sh (W sh)) (top (2^log) log sh (aT (2^log) default) (W sh)) k) x default).sym
def auE(h:S1 sh log cs (W sh)):S2 sh log cs 0:=λx a h1=>by
 rcases h1 with h1| ⟨j,b,_⟩
 exact h x (by unfold high at h1;exact h1) a
 omega
theorem auF(h:S2 sh log cs k)(hp:pos (2^log) k<high sh log)(c:2^log<=W cs)(hs:aa (fE sh (W sh)) (jB (2^log) (high sh log) k) 0=s):S2 sh log (cs.set (pos (2^log) k) {aa cs (pos (2^log) k) default with sym:=s}) (k+1):=by
 intro x b h1;have d:pos (2^log) k<2^log:=wz (eA _);rw[lG,ao hp,e_,e_,M3,zt,dS];by_cases ex:pos (2^log) k=x
 rw[ao ⟨ex,I⟩,ao ⟨ex,I⟩];exact hs.symm
 rw[aj (λh=>ex h.1),aj (λh=>ex h.1)];refine h x b (h1.imp id λ⟨j,f,e⟩=>⟨j,?_,e⟩);rcases dq j k with a|a
 exact a
 exfalso;apply ex;rw[<-e];congr 1;omega
def auG(h:S2 sh log cs k)(hp: ¬pos (2^log) k<high sh log):S2 sh log cs (k+1):=by
 intro x b h1;rw[lG,aj hp];refine h x b ?_;rcases h1 with h1| ⟨j,c,e⟩
 exact .inl h1
 rcases dq j k with a|a
 exact .inr ⟨j,a,e⟩
 left;rw[<-e,show j=k by omega];omega
def auH(hs:iy sh log)(h:S2 sh log cs k)(b:k=2^log\/(high sh log=0/\k=0)): ∀x,x<2^log->(aa cs x default).sym=m8 sh log x:=by
 intro x a;unfold m8 spread;rcases b with rfl| ⟨c,rfl⟩
 obtain⟨j,d,e⟩:=Yb hs.mJ a;exact h x a (.inr ⟨j,d,e⟩)
 have:=h x a (.inl I);rw[this];have f:=M1 hs.mJ hs.wB;rw[Ye (cj (2^log)) (by rw[f,c];rfl)]
structure S3(sh:List Int)(log:Nat)(cs:List dx)(nx:List Nat)(i:Nat):Prop where
 done: ∀x,x<i->aa cs x default=aa (dn sh log) x default
 left: ∀x,i<=x->x<2^log->(aa cs x default).sym=m8 sh log x
 next: ∀s,s<256->aa nx s 0=sk sh s+vk sh log s i
def S3.step{nx:List Nat}(hs:iy sh log)(h:S3 sh log cs nx i)(hi:i<2^log)(j:2^log<=W cs)(k:W nx=256)(b:(aa cs i default).sym=s)(c:aa nx s 0=n):S3 sh log (cs.set i ⟨s,iJ log n,n*2^iJ log n-2^log⟩) (nx.set s (n+1)) (i+1):=by
 have a:=h.left i (aW _) hi;rw[b]at a;have d:=(ZM hs hi).1;have e:=hs.len;rw[<-a]at d;have e2:=h.next s I;rw[c]at e2;have f:=ahh hs hi (n:=n) (by rw[<-a];exact e2);refine⟨λx l=>?_,λx h1 h2=>?_,λt g=>?_⟩
 . rw[e_];by_cases ex:i=x
   subst ex;rw[ao ⟨J,I⟩,f.2.2,<-a]
   rw[aj (λh=>ex h.1)];exact h.done x I
 rw[e_,aj I];exact h.left x I h2
 rw[e_,vk,<-a];by_cases et:s=t
 subst et;rw[ao ⟨J,I⟩,ao J];omega
 rw[aj (λh=>et h.1),aj et];exact h.next t g
variable {nx:List Nat}{sp:List Value}
abbrev i16(z:Int):Value:= .int .i16 z
def ahi{D:List Int}(h:i<W D):(D.map i16++sp)[i]? =some (i16 (aa D i 0)):=by
 rw[gP (by simpa using h)];simp[h]
def E6{D:List Nat}(h:i<W D):(D.map dG)[i]? =some (dG (aa D i 0)):=by simp[h]
def ZN{D:List Nat}(v:Nat):(D.map dG).set i (dG v)=(D.set i v).map dG:=by rw[kH]
section
variable {P:Program}{ρ:Env}{T T' ty:TypeId}{w:World}{x y:Operand}{k k':IntKind}{u v:Int}
def auI{a:TypeDesc}[hs:cu P T a] [d:cu P T' (.int .i64)](b:aL ρ x= .int k' u)(c: -9223372036854775808<=u)(h1:u<=9223372036854775807):run P ρ (.convert T T' x) ty w= .ok (.value (.int .i64 u)) w:=by
 rw[ad7 b,wrap_i64 _ c h1]
end
def Sg{a b:Int}(h:a=b):(Value.int .i64 a)= .int .i64 b:=by rw[h]
def ahj(log k:Nat):(pos (2^log) k+(2^log/2^1+2^log/2^3+3))&&&(2^log-1)=pos (2^log) (k+1):=by
 rw[F6,MY];congr 1;simp only[DR,show(2:Nat)^3=8 from J];omega
def ahk{v:Nat}(b:W nx=256)(h: ∀s,s<256->aa nx s 0=if s<i then sk sh s else 0)(a:sk sh i=v): ∀s,s<256->aa (nx.set i v) s 0=if s<i+1 then sk sh s else 0:=by
 intro s hs;rw[e_];by_cases e:i=s
 subst e;rw[ao ⟨J,I⟩,ao I,a]
 rw[aj (λh=>e h.1),h s hs];by_cases e2:s<i
 rw[ao e2,ao I]
 rw[aj e2,aj I]
def auJ(h1: ∀x,x<2^log->(aa cs x default).sym=m8 sh log x)(h2: ∀s,s<256->aa nx s 0=if s<W sh then sk sh s else 0):S3 sh log cs nx 0:=
 ⟨λx a=>by omega,λx _ a=>h1 x a,λs hs=>by
   rw[h2 s hs,vk,kN]
   by_cases e:s<W sh
   . rw[ao e]
   . rw[aj e];unfold sk
     have:aa sh s 0=0:=by rw[bX,gB I];rfl
     rw[this];rfl⟩
def auK(h1:1<=n):log- (15- (16-iE n))=iJ log n\/16<iE n:=by
 rw[Hi h1];unfold iJ;omega
def auL{rv:Value}{tb tn tc nc:Nat}{Tn:TT}(h:H r w ((ah tb (dp cs) 227)::F))(hm:(ah sb (sh.map i16++sp) Tn)∈F)(hs:iy sh log)(wu:W sh<=nc)(s7:2^log<=tn)(Za:tn<=W cs):Calls PP 131 #[rv,.int .i64 zo,cK sb (W sh) nc,cK tb tn tc,af log] w λe w'=>e= .returned .nilIface/\ ∃N,H r w' ((ah tb (dp N) 227)::F)/\W N=W cs/\ ∀x,x<2^log->aa N x default=aa (dn sh log) x default:=by
 obtain⟨ix,Yp⟩:=dw hm;have h32:=Yk hs.mJ.1;have Na:=wI hs.mJ.2;have JK:=hs.mJ;have hlen:=hs.len;have mh:=hs.JD;have Yq:=λi (hi:i<=W sh)=> @Aw sh i (W sh) hi;have tY:=hs.sum;have AG:=hs.Rj;have Rp:=hs.wB;have jh:=M1 hs.mJ hs.wB;have h2l:((2:Int)^log)=((2^log:Nat):Int):=(by simp);refine rU (P:=PP) func131 148 ntmps131 [10] J J (args:=[_,_,_,_,_]) J ?_;refine g_ 7 ?_;refine ak (gY (b:=log) J J dQ aG) ?_;refine g_ 5 ?_;refine ak (pU J J I I) ?_;refine g_ 4 ?_;refine eN h J ?_;intro bn w h;refine g_ 9 ?_;refine cw (σ:=Nat×List dx×List Nat) [(12,12),(14,15),(33,56)] (λ⟨i,c1,nx⟩ ρ w=>Kn ρ [(33,af i),(12,.int .i64 (((2^log-neg sh i:Nat):Int) -1))]/\H r w ((ah bn (ar dG nx) 251)::(ah tb (dp c1) 227)::F)/\(i<=W sh)/\(W c1=W cs)/\(W nx=256)/\(S1 sh log c1 i)/\(∀s,s<256->aa nx s 0=if s<i then sk sh s else 0)) (λ⟨i,c1,nx⟩=>W sh-i) (0,cs,(aT 256 0)) ⟨az,(by rw[xz];exact h),(cj _),J,(by rw[dS]),auB,(by intro s hs;rw[aj I,bX,rK];split<;>rfl)⟩ ?_;rintro⟨i,c1,nx⟩ ρ w ⟨⟨ny,rfl⟩,h,hi,c,f,z,A⟩;refine g_ 5 ?_;refine au J ?_ ?_<;>intro Hn
 refine g_ 7 ?_;refine aX h J (ahi I) ?_;refine g_ 6 ?_;refine ak (Am J J) (aJ (au J ?_ ?_))<;>intro pk
 have hz:aa sh i 0=(((aa sh i 0).toNat:Nat):Int):=I;have J8:=hs.hi i;have O: ¬aa sh i 0= -1:=I;have Q:neg sh (i+1)=neg sh i:=(by rw[neg,aj O];omega);have R:sk sh i=(aa sh i 0).toNat:=(by unfold sk;rw[aj O]);refine g_ 4 ?_;refine ak (eZ (a:=(aa sh i 0).toNat) (h1:=⟨hz⟩) J aG) ?_;refine g_ 1 ?_;refine ir (v:=dG (aa sh i 0).toNat) h J (E6 I) J J J ?_;intro w h;dsimp only[bJ]at h;rw[ZN]at h;refine g_ 5 ?_;exact⟨aS,(i+1,c1,nx.set i (aa sh i 0).toNat),cQ,Kn.mk ⟨J,Sg (by rw[Q]),trivial⟩,h,I,c,(by rw[dW];exact f),auD z O,ahk f A R⟩
 have S:aa sh i 0= -1:=(by have:=hs.lo i;omega);have Q:neg sh (i+1)=neg sh i+1:=(by rw[neg,ao S]);have B:=Yq (i+1) Hn;have R:sk sh i=1:=(by unfold sk;rw[ao S]);refine g_ 3 ?_;refine ak (QM (2^log-neg sh i-1) J I) ?_;refine g_ 2 ?_;refine ak (lu J J J I) (qm J (ir (v:=U8 i) h J (J7 I) J J J ?_));intro w h;dsimp only[bJ]at h;rw[ahe _ I]at h;refine g_ 4 ?_;refine ak (pU J J I I) ?_;refine g_ 6 ?_;refine ir (v:=dG 1) h J (E6 I) J J J ?_;intro w h;dsimp only[bJ]at h;rw[ZN]at h;refine g_ 5 ?_;exact⟨aS,((i+1,c1.set (2^log-neg sh i-1) {aa c1 (2^log-neg sh i-1) default with sym:=i},nx.set i 1)),cQ,Kn.mk ⟨J,Sg (by rw[Q];omega),trivial⟩,h,I,(by rw[dW];exact c),(by rw[dW];exact f),auC z S I I,ahk f A R⟩
 have NG:i=W sh:=I;have jM:high sh log=2^log-neg sh i:=(by rw[NG];rfl);rw[NG]at z A;refine g_ 29 ?_;refine cw (σ:=Nat×Nat×List dx) [(16,16),(19,21),(67,97)] (λ⟨i,k,c1⟩ ρ w=>Kn ρ [(67,af i),(16,af (pos (2^log) k))]/\H r w ((ah bn (ar dG nx) 251)::(ah tb (dp c1) 227)::F)/\(i<=W sh)/\(jB (2^log) (high sh log) k=W (fE sh i))/\(k<=(2^log))/\(0<(high sh log)->pos (2^log) k<(high sh log))/\((high sh log)=0->k=0)/\(W c1=W cs)/\(S2 sh log c1 k)) (λ⟨i,k,c1⟩=>W sh-i) (0,0,c1) ⟨(Kn.mk ⟨J,ie (MZ _).symm,trivial⟩),h,cj _,J,cj _,(by intro j;rw[MZ];exact j),(λ_=>rfl),c,(auE z)⟩ ?_;rintro⟨i,k,c1⟩ ρ w ⟨⟨mn,rfl⟩,h,hi,m,T,g,C,c,o⟩;refine g_ 5 ?_;refine au J ?_ ?_<;>intro U
 have mM:=hs.lo i;have aIW:=hs.hi i;refine g_ 7 ?_;refine aX h J (ahi I) ?_;refine g_ 8 ?_;refine cw (σ:=Nat×Nat×List dx) [(16,16),(21,21),(72,96)] (λ⟨t,k,c1⟩ ρ w=>Kn ρ [(21,af t),(16,af (pos (2^log) k))]/\H r w ((ah bn (ar dG nx) 251)::(ah tb (dp c1) 227)::F)/\(jB (2^log) (high sh log) k=W (fE sh i)+t)/\(t<=(aa sh i 0).toNat)/\(k<=(2^log))/\(0<(high sh log)->pos (2^log) k<(high sh log))/\((high sh log)=0->k=0)/\(W c1=W cs)/\(S2 sh log c1 k)) (λ⟨t,k,c1⟩=>(aa sh i 0).toNat-t) (0,k,c1) ⟨az,h,m,cj _,T,g,C,c,o⟩ ?_;rintro⟨t,k,c1⟩ ρ w ⟨⟨nz,rfl⟩,h,m,ht,T,g,C,c,o⟩;refine g_ 5 ?_;refine ak (auI J I I) (ak (rR J J) (aJ (au J ?_ ?_)))<;>intro aIX
 have pt:i<W sh:=U;have V:=Yc sh (show i+1<=W sh from pt);have arW:W (fE sh i)+(aa sh i 0).toNat<=W (fE sh (W sh)):=(by obtain⟨l,hl⟩:=V;rw[hl,fE];simp);have Nb:0<high sh log:=I;have g:=g Nb
 have Nc:k<(2^log):=by
  rcases dq k (2^log)with d|d
  exact d
  have:= @M0 (2^log) (high sh log) _ _ d;omega
 have fi:jB (2^log) (high sh log) (k+1)=W (fE sh i)+t+1:=(by rw[jB,ao g,m]);have hex:aa (fE sh (W sh)) (jB (2^log) (high sh log) k) 0=i:=(by rw[m,bX,afJ pt I];rfl);refine g_ 9 ?_;refine ak (lu J J J (by have:= @wz (2^log) k I;omega)) ?_;refine qm J (ir (v:=U8 i) h J (J7 (by have:= @wz (2^log) k I;omega)) J J J ?_);intro w h;dsimp only[bJ]at h;rw[ahe _ (by have:= @wz (2^log) k I;omega)]at h;have p:=auF o g I hex;refine cM (c1.set (pos (2^log) k) {aa c1 (pos (2^log) k) default with sym:=i}) λc2 m4=>?_;rw[m4]at h p;have GX:W c2=W cs:=(by rw[<-m4,dW];exact c);refine g_ 5 ?_;refine ak (eR J J (by have:= @wz (2^log) k I;simp only[aN];omega)) ?_;refine dg (ak (yT J J (by have:= @wz (2^log) k I;simp only[aN];omega) aG) ?_);refine g_ 3 ?_;refine cw (σ:=Nat) [(16,16),(89,96)] (λq ρ w=>Kn ρ [(16,af (pos (2^log) (q+1)))]/\H r w ((ah bn (ar dG nx) 251)::(ah tb (dp c2) 227)::F)/\(q<(2^log))/\(jB (2^log) (high sh log) (q+1)=W (fE sh i)+t+1)/\(S2 sh log c2 (q+1))) (λq=>(2^log) -q) (k) ⟨(Kn.mk ⟨ie (ahj _ _),trivial⟩),h,Nc,fi,p⟩ ?_;rintro q ρ w ⟨⟨r_,rfl⟩,h,hq,Yr,NH⟩;refine g_ 5 ?_;refine ak (Xi J J) (aJ (au J ?_ ?_))<;>intro u6
 refine g_ 5 ?_;refine ak (eR J J (by have:= @wz (2^log) (q+1) I;simp only[aN];omega)) ?_;refine dg (ak (yT J J (by have:= @wz (2^log) (q+1) I;simp only[aN];omega) aG) ?_);refine ee (aJ (⟨aS,?_⟩));have X: ¬pos (2^log) (q+1)<high sh log:=I
 have ji:q+1<2^log:=by
  rcases dq (q+1) (2^log)with d|d
  exact d
  exfalso;apply X;rw[show q+1=2^log from by omega,Ya];exact Nb
 exact⟨q+1,I,Kn.mk ⟨ie (ahj _ _),trivial⟩,h,ji,(by rw[jB,aj X];exact Yr),auG NH X⟩
 refine g_ 6 ?_;exact⟨aS,(t+1,q+1,c2),cQ,az,h,I,I,I,(λ_=>I),(λe=>I),GX,NH⟩
 refine g_ 5 ?_;refine⟨aS,?_⟩;have Cp:t=(aa sh i 0).toNat:=I;exact⟨(i+1,k,c1),cQ,az,h,I,(by rw[fE,aF,dS,m,Cp]),T,g,C,c,o⟩
 have Y:i=W sh:=I;rw[Y]at m
 have Si:k=2^log\/(high sh log=0/\k=0):=by
  rcases pd (high sh log)with j|j
  exact bG ⟨j,C j⟩
  left;rcases dq k (2^log)with d|d
  exfalso;have h1:= @M0 (2^log) (high sh log) _ _ d;rw[jB,ao (g j)]at h1;omega
  omega
 have td:pos (2^log) k=0:=by
  rcases Si with e|e
  rw[e,Ya]
  rw[e.2,MZ]
 have j7:=auH hs o Si;refine g_ 7 ?_;refine au J ?_ ?_<;>intro Z
 exfalso;exact Z td
 refine g_ 7 ?_;refine cw (σ:=Nat×List dx×List Nat) [(10,10),(22,26),(103,147)] (λ⟨i,c1,nx⟩ ρ w=>Kn ρ [(22,af i)]/\H r w ((ah bn (ar dG nx) 251)::(ah tb (dp c1) 227)::F)/\(i<=(2^log))/\(W c1=W cs)/\(W nx=256)/\(S3 sh log c1 nx i)) (λ⟨i,c1,nx⟩=>(2^log) -i) (0,c1,nx) ⟨az,h,cj _,c,f,(auJ j7 A)⟩ ?_;rintro⟨i,c1,nx⟩ ρ w ⟨⟨sV,rfl⟩,h,hi,c,f,D⟩;refine g_ 7 ?_;refine au J ?_ ?_<;>intro E
 have auQ:=ZM hs E;refine cM ((aa c1 i default).sym) λs G=>(cM (aa nx s 0) λn K=>?_);have e1:s=m8 sh log i:=(by rw[<-G];exact D.left i (aW _) E);rw[<-e1]at auQ;have auR:s<256:=I;have L:=ahh hs E (n:=n) (by rw[<-e1,<-K,D.next s auR]);have B:=L.1;have gy:n<1024:=(by have:=L.2.1;rw[jI]at this;omega);have aIY:= @lk n 10 gy;have ZG:=Hi B;have M:log- (15- (16-iE n))=iJ log n:=(auK B).resolve_right I;have u:=af6 B L.2.1;have y:n*2^iJ log n<=1024:=aM (aM (lV _ _) u.2.2) (yP 2 Na);have ig:n.log2<=log:=(by have:=(qR (by omega:n≠0)).2 L.2.1;omega);refine g_ 7 ?_;refine ak (lu J J J I) (qm J (aX h J ((J7 I).trans (by rw[G])) ?_));refine g_ 6 ?_;refine aX h J ((E6 I).trans (by rw[K])) ?_;refine g_ 6 ?_;refine aX h J ((E6 I).trans (by rw[K])) ?_;refine g_ 2 ?_;refine ir (v:=dG (n+1)) h J (E6 I) J J J ?_;intro w h;dsimp only[bJ]at h;rw[ZN]at h;refine g_ 7 ?_;refine au J ?_ ?_<;>intro aty
 exfalso;omega
 refine g_ 4 ?_;refine d' J J (aH (auv I) ?_);rintro e w1 ⟨rfl,rfl⟩;refine g_ 16 ?_;refine ak (lu J J J I) (qm J (ir (v:=U8 (log- (15- (16-iE n)))) h J (Se I) J J J ?_));intro w h;dsimp only[bJ]at h;rw[auz _ I]at h;refine g_ 6 ?_;refine ak (eB J J dQ (by rw[M];exact aM y an)) ?_;refine g_ 2 ?_;refine ak (jm J J (by rw[M];exact u.2.1) (by rw[M];exact aM y an)) ?_;refine ak (lu J J J I) (qm J (ir (v:=dG (n*2^(log- (15- (16-iE n))) -2^log)) h J (Sf (by rw[dW];omega)) J J J ?_));intro w h;dsimp only[bJ]at h;rw[auA _ (by rw[dW];omega),e_,ao ⟨J,I⟩,Mi]at h;dsimp only at h;rw[M,G]at h;refine g_ 6 ?_;exact⟨aS,(i+1,c1.set i ⟨s,iJ log n,n*2^iJ log n-2^log⟩,nx.set s (n+1)),cQ,az,h,I,(by rw[dW];exact c),(by rw[dW];exact f),S3.step hs D E I f G K⟩
 refine g_ 6 ?_;exact⟨J,c1,h.tail,c,(λx hx=>D.done x I)⟩
variable {f f' m aq symbols:Nat}{p:Option (List Int×Nat×Nat)}
def Ho{len:Nat}{b:Bool}(h:a+k<=8*len):gh N len a b k=(dJ N a k,a+k,b):=by unfold gh;rw[ao h]
def aho{g:Nat}(h1:2^g<=m)(h2:m<2^(g+1)):m.log2=g:=by
 have c:m≠0:=(by have:=eA g;omega);have a:=(qR c).2 h2;have b:=(I5 c).2 h1;omega
def auS{len g:Nat}(h1:2^g<=m)(h2:m<2^(g+1))(c:a+g+1<=8*len)(b:dJ N a g<2^(g+1) -1-m):ky N len a false m=(dJ N a g,a+g,false):=by
 unfold ky;dsimp only;rw[aho h1 h2,Ho I,ao b]
def auT{g:Nat}:dJ N a (g+1)=dJ N a g+dJ N (a+g) 1*2^g:=by rw[afh];unfold dJ;rw[DR]
def ahp{len g:Nat}(h1:2^g<=m)(h2:m<2^(g+1))(c:a+g+1<=8*len)(b: ¬dJ N a g<2^(g+1) -1-m):ky N len a false m=(if 2^g<=dJ N a (g+1)then dJ N a (g+1) - (2^(g+1) -1-m)else dJ N a (g+1),a+(g+1),false):=by
 unfold ky;dsimp only;rw[aho h1 h2,Ho I];dsimp only;rw[aj b,Ho I,auT (N:=N) (a:=a) (g:=g)];have hb:=Gk N (a+g) 1;have e:dJ N (a+g) 1=0\/dJ N (a+g) 1=1:=I;rcases e with e|e
 rw[e];simp[fL]
 rw[e];simp[fL]
def auU(h:2<=m):1<=m.log2:=(I5 I).2 (by simpa using h)
def auV{len v a1:Nat}{b1:Bool}(hm:2<=m)(h:ky N len a false m=(v,a1,b1))(hb:b1=false):a<a1:=by
 have b:=auU hm;unfold ky at h;dsimp only at h;unfold gh at h;subst hb;by_cases c1:a+m.log2<=8*len
 rw[ao c1]at h;dsimp only at h;split at h
 cases h;omega
 by_cases c2:a+m.log2+1<=8*len
 rw[ao c2]at h;cases h;omega
 rw[aj c2]at h;cases h
 rw[aj c1]at h;dsimp only at h;split at h
 cases h
 by_cases c2:a+1<=8*len
 rw[ao c2]at h;cases h
 rw[aj c2]at h;cases h
def ZO{N len symbols:Nat}: ∀{f:Nat} {out dh:List Int} {a a':Nat},nt N len symbols f out a=some (dh,a')->a<a'
 | f+1,out,dh,a,a',h=>by
  rcases b:gh N len a false 2 with⟨v,a1,b1⟩;rw[tW b]at h;split at h
  cases h
  rename_i c;have hb:b1=false:=(by cases b1 with|false=>rfl|true=>exact absurd (a_ J) c)
  have d:a1=a+2:=by
   unfold gh at b;split at b
   cases b;rfl
   cases b;cases hb
  split at h
  cases h;omega
  have:=ZO h;omega
def Sj{N len symbols:Nat}: ∀{f left:Nat} {out dh:List Int} {a a':Nat},gz N len symbols f left out a=some (dh,a')->a<=a'/\(left≠0->a<a')
 | f+1,left,out,dh,a,a',h=>by
  by_cases b:left=0
  unfold gz at h;rw[ao b]at h;cases h;exact⟨aW _,λe=>absurd b e⟩
  rcases d:ky N len a false (left+1)with⟨v,a1,b1⟩;rw[xR b d]at h;split at h
  cases h
  rename_i g;have hb:b1=false:=(by cases b1 with|false=>rfl|true=>exact absurd (a_ J) g);have i:=auV I d hb
  have:a<a':=by
   split at h
   cases c:nt N len symbols (symbols+1) (out++[(v:Int) -1]) a1 with
   |none=>rw[c]at h;cases h
   | some y=>
     rw[c]at h
     have h1:=(Sj (show gz N len symbols f _ y.1 y.2=some (dh,a')from h)).1
     have h2:=ZO (dh:=y.1) (a':=y.2) c
     omega
   have:=(Sj h).1;omega
  exact⟨I,λ_=>this⟩
abbrev PR:=Option (List Int×Nat)
def yg(N len symbols f left:Nat)(f':Nat)(out:List Int)(a:Nat):PR:=(nt N len symbols f' out a).bind λy=>gz N len symbols f left y.1 y.2
def ahq{len left a':Nat}{out dh:List Int}(h:yg N len symbols f left f' out a=some (dh,a')):a<a':=by
 unfold yg at h
 cases b:nt N len symbols f' out a with
 |none=>rw[b]at h;cases h
 | some y=>
   rw[b]at h
   have h1:=(Sj (show gz N len symbols f _ y.1 y.2=some (dh,a')from h)).1
   have h2:=ZO (dh:=y.1) (a':=y.2) b
   omega
structure Zi(N len symbols f left:Nat)(R:PR)(out:List Int)(z a:Nat):Prop where
 over:symbols<W out+z->R=none
 at_:W out+z<=symbols->yg N len symbols f left (symbols+1-z/3) (out++aT z 0) a=R
 three:3∣z
def Zi.init{len left:Nat}{R:PR}{out:List Int}(b:W out<=symbols)(h:yg N len symbols f left (symbols+1) out a=R):Zi N len symbols f left R out 0 a:=
 ⟨λe=>by omega,λ_=>by rw[I2,dN];exact h,I⟩
def Zi.Hp{len left z:Nat}{R:PR}{out:List Int}(h:Zi N len symbols f left R out z a)(hb:dJ N a 2=3)(d:a+2<=8*len):Zi N len symbols f left R out (z+3) (a+2):=by
 obtain⟨t,i⟩:=h.three
 have key:W out+z<=symbols->(symbols<W out+(z+3)->R=none)/\(W out+(z+3)<=symbols->yg N len symbols f left (symbols+1- (z+3)/3) (out++aT (z+3) 0) (a+2)=R):=λb=>by
  have e:=h.at_ b;rw[show symbols+1-z/3=(symbols-z/3)+1 by omega]at e;unfold yg at e;rw[tW (Ho d),hb]at e;have c:W (out++aT z 0++aT 3 (0:Int))=W out+(z+3):=(by simp[fL]);have g:out++aT z 0++aT 3 (0:Int)=out++aT (z+3) 0:=(by rw[bV,F5]);constructor
  intro hs;rw[ao (bG (by rw[c];exact hs))]at e;rw[<-e];rfl
  intro hs;rw[aj (by rintro(h|h);(· cases h);(· rw[c]at h;omega)),aj I,g]at e;rw[<-e];unfold yg;rw[show symbols+1- (z+3)/3=symbols-z/3 by omega]
 refine⟨λhs=>?_,λhs=>?_,I⟩
 by_cases b:W out+z<=symbols
 exact(key b).1 hs
 exact h.over I
 exact(key I).2 hs
def auW(h:dJ N a 12=4095): ∀j,j<6->dJ N (a+2*j) 2=3:=by
 intro j c;unfold dJ at*;rw[h_,<-rM];obtain⟨K,b⟩: ∃K,N/2^a=K:=⟨_,J⟩;rw[b]at h ⊢;rcases(I:j=0\/j=1\/j=2\/j=3\/j=4\/j=5)with rfl|rfl|rfl|rfl|rfl|rfl<;>simp at h ⊢ <;>omega
def Zi.auX{len left z:Nat}{R:PR}{out:List Int}(h:Zi N len symbols f left R out z a)(hb:dJ N a 12=4095)(g:a+12<=8*len):Zi N len symbols f left R out (z+18) (a+12):=by
 have b:=auW hb;have h1:=h.Hp (b 0 I) I;have h2:=h1.Hp (b 1 I) I;have c:=h2.Hp (b 2 I) I;have d:=c.Hp (b 3 I) I;have e:=d.Hp (b 4 I) I;exact e.Hp (b 5 I) I
def Zi.gt{len left z:Nat}{R:PR}{out:List Int}(h:Zi N len symbols f left R out z a){dh:List Int}{a':Nat}(b:R=some (dh,a')):a<a':=by
 by_cases c:W out+z<=symbols
 exact ahq ((h.at_ c).trans b)
 rw[h.over I]at b;cases b
def Zi.last{len left z:Nat}{R:PR}{out:List Int}(h:Zi N len symbols f left R out z a)(hb:dJ N a 2=x)(i: ¬x=3)(d:a+2<=8*len):(symbols<W out+(z+x)->R=none)/\(W out+(z+x)<=symbols->gz N len symbols f left (out++aT (z+x) 0) (a+2)=R):=by
 have j:x<4:=(by rw[<-hb];exact Gk N a 2);have c:W (out++aT z 0++aT x (0:Int))=W out+(z+x):=(by simp[fL]);have g:out++aT z 0++aT x (0:Int)=out++aT (z+x) 0:=(by rw[bV,F5]);obtain⟨t,k⟩:=h.three
 have key:W out+z<=symbols->(symbols<W out+(z+x)->R=none)/\(W out+(z+x)<=symbols->gz N len symbols f left (out++aT (z+x) 0) (a+2)=R):=λb=>by
  have e:=h.at_ b;rw[show symbols+1-z/3=(symbols-z/3)+1 by omega]at e;unfold yg at e;rw[tW (Ho d),hb]at e;constructor
  intro hs;rw[ao (bG (by rw[c];exact hs))]at e;rw[<-e];rfl
  intro hs;rw[aj (by rintro(h|h);(· cases h);(· rw[c]at h;omega)),ao I,g]at e;rw[<-e];rfl
 refine⟨λhs=>?_,λhs=>(key I).2 hs⟩;by_cases b:W out+z<=symbols
 exact(key b).1 hs
 exact h.over I
def auY{len left v a1:Nat}{out:List Int}{R:PR}(h:gz N len symbols (f+1) left out a=R)(b:left≠0)(d:W out<symbols)(c:ky N len a false (left+1)=(v,a1,false)):(if v=1 then yg N len symbols f (if v=0 then left-1 else left- (v-1)) (symbols+1) (out++[(v:Int) -1]) a1 else gz N len symbols f (if v=0 then left-1 else left- (v-1)) (out++[(v:Int) -1]) a1)=R:=by
 rw[xR b c,aj (by rintro(h|h);(· cases h);(· omega))]at h;exact h
def ZP{len left:Nat}{out:List Int}{R:PR}(h:gz N len symbols f left out a=R)(b:left≠0)(c:symbols<=W out):R=none:=by
 cases f with
 |zero=>exact h.symm
 | succ f=>
   rcases d:ky N len a false (left+1)with⟨v,a1,b1⟩
   rw[xR b d,ao (bG c)]at h
   exact h.symm
def auZ{len left:Nat}{out:List Int}{R:PR}(h:yg N len symbols f left f' out a=R)(c:left≠0)(d:symbols<=W out):R=none:=by
 unfold yg at h
 cases b:nt N len symbols f' out a with
 |none=>rw[b]at h;exact h.symm
 | some y=>
   rw[b]at h
   obtain⟨n,e,_⟩:=Ym (dh:=y.1) (a':=y.2) b
   exact ZP (show gz N len symbols f left y.1 y.2=R from h) c (by rw[e,aF];omega)
def Sk(log:Nat)(R:PR):Option (List Int×Nat×Nat):=R.map λy=>(y.1,log,(y.2+7)/8)
def au0{len v:Nat}(b:4<=8*len)(a:dJ N 0 4=v)(hm: ¬aq<v+5):fO N len aq symbols=Sk (v+5) (gz N len symbols (symbols+1) (2^(v+5)) [] 4):=by
 unfold fO Sk;dsimp only;rw[Ho I,a];dsimp only;rw[aj (by rintro(h|h);(· cases h);(· omega)),il];cases gz N len symbols (symbols+1) (2^(v+5)) [] 4<;>rfl
def au1{len v:Nat}(b:4<=8*len)(a:dJ N 0 4=v)(hm:aq<v+5):fO N len aq symbols=none:=by
 unfold fO;dsimp only;rw[Ho I,a];dsimp only;rw[ao (bG hm)]
def yh(len:Nat)(p:Option (List Int×Nat×Nat)):Prop:= ∀out lg size,p=some (out,lg,size)->len<size+2
def yh.none{len:Nat}(h:p=none):yh len p:=λout lg size e=>by rw[h]at e;cases e
def yh.eof{len:Nat}{R:PR}(hp:p=Sk log R)(h: ∀dh a',R=some (dh,a')->a<a')(b:8*len<a+16):yh len p:=λout lg size e=>by
 subst hp
 cases R with
 |none=>cases e
 |some y=>cases e;have:=h y.1 y.2 J;omega
def tf(sh:List Int)(k:Nat):List Int:=sh++aT k 0
def J9:aa (tf sh k) i 0=aa sh i 0:=by
 unfold tf;simp only[bX,WN];split
 rfl
 rw[gB (by omega:W sh<=i),rK];split<;>rfl
def Sl{sh:List Int}{k:Nat}: ∀i,neg (tf sh k) i=neg sh i
 |0=>rfl
 |i+1=>by rw[neg,neg,Sl i,J9]
def ZQ{sh:List Int}{k:Nat}: ∀i,fE (tf sh k) i=fE sh i
 |0=>rfl
 |i+1=>by rw[fE,fE,ZQ i,J9]
def ZR(h:W sh<=i):aa sh i 0=0:=by
 rw[bX,gB h];rfl
def ZS{sh:List Int}: ∀k,neg sh (W sh+k)=neg sh (W sh)
 |0=>rfl
 |k+1=>by rw[<-fL,neg,ZS k,ZR I];rfl
def ZT{sh:List Int}: ∀k,fE sh (W sh+k)=fE sh (W sh)
 |0=>rfl
 |k+1=>by rw[<-fL,fE,ZT k,ZR I];simp
def J_:W (tf sh k)=W sh+k:=by simp[tf]
def au2(h:iy sh log)(a:W sh+k<=256):iy (tf sh k) log:=
 ⟨h.mJ,by rw[J_];exact a,λi=>by rw[J9];exact h.lo i,λi=>by rw[J9];exact h.hi i,by rw[J_,ZQ,Sl,ZS,ZT];exact h.sum⟩
def ahr{sh:List Int}{k size log:Nat}{cs:List dx}: ∀i,top size log (tf sh k) cs i=top size log sh cs i
 |0=>rfl
 |i+1=>by rw[top,top,ahr i,J9,Sl]
def ahs{sh:List Int}{size log:Nat}{cs:List dx}: ∀k,top size log sh cs (W sh+k)=top size log sh cs (W sh)
 |0=>rfl
 |k+1=>by rw[<-fL,top,ahs k,ZR I,aj an]
def aht:high (tf sh k) log=high sh log:=by unfold high;rw[J_,Sl,ZS]
def au3:spread (tf sh k) log=spread sh log:=by
 unfold spread;rw[aht,J_,ZQ,ZT,ahr,ahs]
def ahu{sh:List Int}{k log:Nat}(h:iy sh log): ∀i,i<=high sh log->(fin log (tf sh k) (spread sh log) i).2=(fin log sh (spread sh log) i).2/\ ∀s,s<W sh->aa (fin log (tf sh k) (spread sh log) i).1 s 0=aa (fin log sh (spread sh log) i).1 s 0
 |0,_=>⟨J,λs _=>J9⟩
 | i+1,hi=>by
  have a:=ahu (k:=k) h i I;obtain⟨s,e,hs,_⟩:=JE h (I:i<high sh log);have b:aa (fin log sh (spread sh log) i).2 i default=⟨s,0,0⟩:=(by rw[Ay (aW _),e]);rw[fin,fin];simp only;rw[a.1,b];simp only;rw[a.2 s hs];refine⟨J,λt c=>?_⟩;rw[e_,e_,(Ax _ _ _ _).1,(Ax _ _ _ _).1,J_];by_cases et:s=t
  rw[ao ⟨et,I⟩,ao ⟨et,hs⟩]
  rw[aj (λh=>et h.1),aj (λh=>et h.1)];exact a.2 t c
def au4(h:iy sh log):dn (tf sh k) log=dn sh log:=by
 unfold dn;rw[au3,aht];exact(ahu h _ (aW _)).1
def au5{α:Type}{v:Nat}{A B:α}:(if decide (((v:Nat):Int) -1=0)=true then A else B)=if v=1 then A else B:=by
 by_cases h:v=1
 rw[ao h,ao (sL I)]
 rw[aj h,aj (by rw[decide_eq_true_iff];omega)]
def au6{b:Bool}:(if b=true then 1 else 0)<=1:=by cases b<;>decide
def nE(out:List Int):List Value:=(out++aT (256-W out) 0).map i16
def au7:aT 256 (Value.int .i16 ((0:Nat):Int))=nE []:=by
 unfold nE;rw[List.nil_append,xz];rfl
def ZU{out:List Int}(h:i<256)(b:W out<=256):(nE out)[i]? =some (i16 (aa (out++aT (256-W out) 0) i 0)):=by
 unfold nE;have a:i<W (out++aT (256-W out) (0:Int)):=(by rw[aF,dS];omega);rw[kP,gW a,bX,gW a];rfl
def au8{out:List Int}{v:Int}(h:W out<256):(nE out).set (W out) (i16 v)=nE (out++[v]):=by
 unfold nE;rw[<-kH,IZ _ _ (aW _),vX,show 256-W out=(256- W (out++[v]))+1 by rw[aF];simp only[dL,eW];omega,DQ];simp
def au9{out:List Int}(h:W out+k<=256):nE (out++aT k 0)=nE out:=by
 unfold nE;rw[bV,F5,aF,dS,show k+(256- (W out+k))=256-W out by omega]
def ahv{out:List Int}(h:W out<=i):(nE out).set i (i16 0)=nE out:=by
 unfold nE;rw[<-kH,IZ _ _ h];congr 2;apply nR;intro j;rw[vV];split
 rename_i e;subst e;rw[dS,rK]
 rfl
def au_{out:List Int}(h:W out<=m+1)(hm:m<=255):nE out=(tf out (m+1-W out)).map i16++aT (255-m) (i16 0):=by
 unfold nE tf;rw[show aT (255-m) (i16 0)=(aT (255-m) (0:Int)).map i16 by rw[xz],<-gJ,bV,F5,show m+1-W out+(255-m)=256-W out by omega]
def AW:dJ (num E) (8*off+a) k=dJ (num (E.drop off)) a k:=by
 unfold dJ;rw[h_,<-rM,ND]
def au'{z:Int}(a: -32768<=z)(h1:z<=32767):IntKind.i16.wrap z=z:=by
 unfold IntKind.wrap;simp[IntKind.bits,IntKind.signed];omega
section
variable {ρ:Env}{T T' ty:TypeId}{w:World}{x y:Operand}{k k':IntKind}{u v:Int}{P:Program}
def kg(er:Value)(c:Prop) [Decidable c](b:aL ρ x=er)(h1:c->er= .nilIface)(h2: ¬c-> ∃be,er= .iface 182 (bL be)){n:Value}(d:n= .nilIface):run PP ρ (.binOp .neq 103 x (.const n) T') ty w= .ok (.value (.bool (decide (¬c)))) w:=by
 by_cases a:c
 rw[ye (b.trans (h1 a)) d];simp[a]
 obtain⟨be,e⟩:=h2 a;rw[J5 (b.trans e) d];simp[a]
def ava{a:TypeDesc}[hs:cu P T a] [d:cu P T' (.int .i16)](b:aL ρ x= .int k' u)(c: -32768<=u)(h1:u<=32767):run P ρ (.convert T T' x) ty w= .ok (.value (.int .i16 u)) w:=by
 rw[ad7 b,au' c h1]
def ZV(n:Nat)(c:aL ρ x= .int k u)(d:aL ρ y= .int k v) [h1:av u a] [h2:av v b](f:a<=aN k)(hb:b<=aN k)(e:b=2^n-1):run P ρ (.binOp .and T x y T') ty w= .ok (.value (.int k ((a % 2^n:Nat):Int))) w:=by
 rw[yT c d f hb,e,F6]
end
def ahw{p:Prop}(h:p:=by refine g_ 8 ?_;exact⟨0,0,_,cs,J,h.tail.tail,J,bG ⟨E8 I,yh.eof hP (λ_ _ e=>Sm.gt e) I⟩⟩):p:=h
theorem ahx{x:dk}{ms mb tb tn tc:Nat}(h:H r w ((ah tb (dp cs) 227)::F))(D:(ah br (aB x) 81)∈F)(G:Gl F aE aU)(N:aY F (.slice ad dl dc) E)(yi:off<=W E)(hE:W E<=268435456)(CP:ms<=255)(qx:mb<=9)(s7:2^mb<=tn)(Za:tn<=W cs):Calls PP 113 #[bL br,.slice ad dl dc,af off,af ms,af mb,cK tb tn tc] w λe w'=> ∃a b er kE,e= .returned (.tuple #[af a,af b,er])/\H r w' ((ah tb (dp kE) 227)::F)/\W kE=W cs/\((er= .nilIface/\ ∃out size,(fO (num (E.drop off)) (W E-off) mb (ms+1))=some (out,a,size)/\b=off+size/\ ∀y,y<2^a->aa kE y default=aa (dn out a) y default)\/((∃be,er= .iface 182 (bL be))/\yh (W E-off) (fO (num (E.drop off)) (W E-off) mb (ms+1)))):=by
 have kV:dl=W E/\dl<=dc:=(by obtain⟨jz,n',c',e1,hl,hc,_⟩:=id N;cases e1;exact⟨hl,hc⟩);have avb:=wI qx;have Na:2^mb<=512:=avb;refine rU (P:=PP) func113 232 ntmps113 [12,13,14] J J (args:=[_,_,_,_,_,_]) J ?_;refine g_ 11 ?_;refine eS J J J J (aH (auy h I) ?_);rintro e A ⟨rfl,h⟩;refine eN h J ?_;intro bf w h;refine cI ?_;intro w h;refine g_ 4 ?_;refine d' J J (aH (Sc (b:=0) (p:=8*off+0) h (aA D) (G.sub λ_=>nq _) (N.sub λ_=>nq _) yi hE I (by refine⟨I,?_⟩;rw[F8,IX])) ?_);rintro e A ⟨sr,o1,jo,fv,rfl,h,pF,kD,avc,gM,J'⟩;refine g_ 5 ?_;refine ak (kg sr (8*off+0+16<=8*W E) J (λe=>(gM e).1) (λe=>J' I) J) (aJ (au J ?_ ?_))<;>intro CM
 refine g_ 8 ?_;exact⟨0,0,_,cs,J,h.tail,J,bG ⟨J' I,(λout lg size e=>I)⟩⟩
 refine g_ 3 ?_;refine cM (dJ (num E) (8*off+0) 4) λv O=>?_;have gM:=gM I;have vm:v<16:=(by rw[<-O];exact Gk _ _ 4);have hI4:=kD.drop (b:=4) I;refine cJ (v1:=iW 4) J J J ((ahd (b:=4) (x:=x) (aE:=aE) (aU:=aU) (E:=E) h I avc kD).mono ?_);rintro e A ⟨he,h⟩;rw[O]at he;refine⟨_,he,?_⟩;rw[AW]at O;refine g_ 11 ?_;refine au J ?_ ?_<;>intro AO
 have vo:(fO (num (E.drop off)) (W E-off) mb (ms+1))=none:=au1 I O I;refine bY (fD (cJ J J J (aH (Zt h (aA (aA (D))) (G.sub aP) bZ I) ?_)));rintro e A ⟨be,rfl,h⟩;refine g_ 5 ?_;exact⟨0,0,_,cs,J,h.tail,J,bG ⟨Exists.intro be J,yh.none vo⟩⟩
 refine cM (gz (num (E.drop off)) (W E-off) (ms+1) (ms+1+1) (2^(v+5)) [] 4) λR nu=>?_;have hP:(fO (num (E.drop off)) (W E-off) mb (ms+1))=Sk (v+5) R:=(by rw[au0 I O I,nu]);have hp5:32<=2^(v+5):=Yk I;have M7:2^(v+5)<=512:=wI I;refine g_ 4 ?_;refine ak (gY (b:=v+5) J J dQ aG) ?_;refine g_ 6 ?_;refine ak (gY (b:=v+5) J J dQ aG) ?_;refine g_ 18 ?_;refine eN h J ?_;intro bm w h;refine aJ (bY (kp [(12,14),(18,22),(24,29),(53,204)] (λρ w=> ∃left:Nat,∃out:List Int,∃a o bi cn:Nat,Kn ρ [(18,af (left+1)),(21,af (W out))]/\H r w ((ah bf [bL br,.slice ad dl dc,bR o,bR bi,bR cn] 242)::(ah bm (nE out) 246)::(ah tb (dp cs) 227)::F)/\(pD (num E) (8*off+a) o bi cn)/\(cn<=31)/\(o<=W E)/\(W out<=ms+1)/\(left=0->R=some (out,a))/\(left≠0->R=none)/\(left+1<=1024)) ?_ ?_))
 rw[au7]at h;replace h:=h.zz [1] 0;refine cw (σ:=Nat×Nat×Nat×List Int×Nat×Nat×Nat×Nat×Bool) [(12,14),(18,22),(24,29),(53,204)] (λ⟨f,left,g,out,a,o,bi,cn,pz⟩ ρ w=>Kn ρ [(18,af (left+1)),(19,af (2^g)),(20,af (g+1)),(21,af (W out)),(22,.bool pz)]/\H r w ((ah bf [bL br,.slice ad dl dc,bR o,bR bi,bR cn] 242)::(ah bm (nE out) 246)::(ah tb (dp cs) 227)::F)/\(pD (num E) (8*off+a) o bi cn)/\(cn<=31)/\(o<=W E)/\(2^g<=left+1)/\(left+1<2^(g+1))/\(g<=9)/\(W out<=ms+1)/\(ms+1+1<=f+W out)/\((if pz=true then yg (num (E.drop off)) (W E-off) (ms+1) (f) (left) (ms+1+1) (out) (a)else gz (num (E.drop off)) (W E-off) (ms+1) (f) (left) (out) (a))=R)/\(pz=true->left≠0)) (λ⟨f,left,g,out,a,o,bi,cn,pz⟩=>2*(ms+1-W out)+(if pz=true then 1 else 0)) (ms+1+1,2^(v+5),v+5,[],4,o1,jo/2^4,fv-4,false) ⟨az,h,hI4,I,pF,I,(by have e:2^(v+5+1)=2^(v+5)*2:=jI ..;omega),I,(cj _),(aW _),nu,(λe=>by cases e)⟩ ?_;rintro⟨f,left,g,out,a,o,bi,cn,pz⟩ ρ w ⟨⟨mn,rfl⟩,h,C,ZW,ho,gi,Q,S,CQ,hfu,d,T⟩;have aIZ:=C.lt;have avd:=C.1;have hgp:2^g<=512:=wI S;have fY:=eA g;refine g_ 6 ?_;refine eM (t:=55) J (λave=>?_) (λave=>?_)
 refine g_ 5 ?_;refine au J ?_ ?_<;>intro sY
 refine g_ 5 ?_;refine d' J J (aH (Sc (b:=0) (p:=8*off+a) h (aA (aA D)) (G.sub aP) (N.sub aP) ho hE ZW C) ?_);rintro e A ⟨w7,o2,u,K,rfl,h,n7,L,U,V,Ka⟩;refine g_ 5 ?_;refine ak (kg w7 (8*off+a+16<=8*W E) J (λe=>(V e).1) (λe=>Ka I) J) (aJ (au J ?_ ?_))<;>intro GV
 have kW: ∀dh a',R=some (dh,a')->a<a':=λdh a' e=>by
  by_cases hp:pz=true
  rw[ao hp]at d;exact ahq (d.trans e)
  rw[aj hp]at d;exact(Sj (d.trans e)).2 I
 refine g_ 8 ?_;exact⟨0,0,_,cs,J,h.tail.tail,J,bG ⟨Ka I,yh.eof hP kW I⟩⟩
 have V:=V I;have aI0:=V.2;have aI1:=L.lt;have aI2:=L.1;have Kb:2^K<=2^31:=dF I U;refine g_ 6 ?_;refine eY J ?_ ?_<;>intro ua
 have Kc:=d;rw[ao ua]at Kc;refine g_ 7 ?_;refine cw (σ:=Nat×Nat×Nat×Nat×Nat) [(12,14),(25,26),(66,83)] (λ⟨z,a1,i,l,c⟩ ρ w=>Kn ρ [(25,af (W out+z))]/\H r w ((ah bf [bL br,.slice ad dl dc,bR i,bR l,bR c] 242)::(ah bm (nE out) 246)::(ah tb (dp cs) 227)::F)/\(pD (num E) (8*off+a1) i l c)/\(16<=c/\c<=31)/\(i<=W E)/\(8*off+a1+16<=8*W E)/\(2*z<=3*a1)/\(Zi (num (E.drop off)) (W E-off) (ms+1) f left R out z a1)) (λ⟨z,a1,i,l,c⟩=>8*W E-a1) (0,a,o2,u,K) ⟨az,h,L,⟨V.2,U⟩,n7,I,I,(Zi.init I Kc)⟩ ?_;rintro⟨z,a1,i,l,c⟩ ρ w ⟨⟨nz,rfl⟩,h,q,yk,X,Ke,vp,Y⟩;have avf:=q.lt;have avg:=q.1;have Kb:2^c<=2^31:=dF I yk.2;refine g_ 5 ?_;refine ak (kJ (n:=12) J J aG aG) ?_;refine g_ 2 ?_;refine au J ?_ ?_<;>intro JM
 have ZX:pD (num E) (8*off+(a1+12)) i (l/2^12) (c-12):=(by rw[<-fL];exact q.drop I);have ZY:dJ (num (E.drop off)) a1 12=4095:=(by rw[<-AW,<-q.take I];exact JM);have Sm:=Y.auX ZY I;refine g_ 14 ?_;refine cI ?_;intro w h;refine g_ 7 ?_;refine cI ?_;intro w h;refine g_ 3 ?_;refine d' J J (aH (Sc (b:=0) (p:=8*off+(a1+12)) h (aA (aA D)) (G.sub aP) (N.sub aP) X hE I ZX) ?_);rintro e A ⟨zN,o4,AY,AZ,rfl,h,Kf,ZZ,Z0,B,E8⟩;refine g_ 5 ?_;refine ak (kg zN (8*off+(a1+12)+16<=8*W E) J (λe=>(B e).1) (λe=>E8 I) J) (aJ (au J ?_ ?_))<;>intro Nl
 exact ahw
 have B:=B I;exact a8 ⟨aS,(z+18,a1+12,o4,AY,AZ),cQ,Kn.mk ⟨ie I,trivial⟩,h,ZZ,⟨B.2,Z0⟩,Kf,I,I,Sm⟩
 refine g_ 3 ?_;refine cw (σ:=Nat×Nat×Nat×Nat×Nat) [(12,14),(25,25),(27,27),(84,101)] (λ⟨z,a1,i,l,c⟩ ρ w=>Kn ρ [(25,af (W out+z))]/\H r w ((ah bf [bL br,.slice ad dl dc,bR i,bR l,bR c] 242)::(ah bm (nE out) 246)::(ah tb (dp cs) 227)::F)/\(pD (num E) (8*off+a1) i l c)/\(16<=c/\c<=31)/\(i<=W E)/\(8*off+a1+16<=8*W E)/\(2*z<=3*a1)/\(Zi (num (E.drop off)) (W E-off) (ms+1) f left R out z a1)) (λ⟨z,a1,i,l,c⟩=>8*W E-a1) (z,a1,i,l,c) ⟨az,h,q,yk,X,I,I,Y⟩ ?_;rintro⟨z,a1,i,l,c⟩ ρ w ⟨⟨r_,rfl⟩,h,q,yk,X,Ke,vp,Y⟩;have avf:=q.lt;have avg:=q.1;have Kb:2^c<=2^31:=dF I yk.2;refine g_ 5 ?_;refine ak (kJ (n:=2) J J aG aG) ?_;refine g_ 2 ?_;refine au J ?_ ?_<;>intro GK
 have ZX:pD (num E) (8*off+(a1+2)) i (l/2^2) (c-2):=(by rw[<-fL];exact q.drop I);have ZY:dJ (num (E.drop off)) a1 2=3:=(by rw[<-AW,<-q.take I];exact GK);have Sm:=Y.Hp ZY I;refine g_ 14 ?_;refine cI ?_;intro w h;refine g_ 7 ?_;refine cI ?_;intro w h;refine g_ 3 ?_;refine d' J J (aH (Sc (b:=0) (p:=8*off+(a1+2)) h (aA (aA D)) (G.sub aP) (N.sub aP) X hE I ZX) ?_);rintro e A ⟨zN,o4,AY,AZ,rfl,h,Kf,ZZ,Z0,B,E8⟩;refine g_ 5 ?_;refine ak (kg zN (8*off+(a1+2)+16<=8*W E) J (λe=>(B e).1) (λe=>E8 I) J) (aJ (au J ?_ ?_))<;>intro aI3
 exact ahw
 have B:=B I;exact a8 ⟨aS,(z+3,a1+2,o4,AY,AZ),cQ,Kn.mk ⟨ie I,trivial⟩,h,ZZ,⟨B.2,Z0⟩,Kf,I,I,Sm⟩
 refine g_ 4 ?_;refine cM (dJ (num E) (8*off+a1) 2) λZ hx=>?_;have gw:Z<4:=(by rw[<-hx];exact Gk _ _ 2);have avh:=q.drop (b:=2) I;have hxt:=q.take (b:=2) I;refine cJ (v1:=iW 2) J J J ((ahd (b:=2) (x:=x) (aE:=aE) (aU:=aU) (E:=E) h I I q).mono ?_);rintro e A ⟨he,h⟩;rw[hx]at he;refine⟨_,he,?_⟩;rw[hx]at hxt;rw[AW]at hx;have NB:=Y.last hx I I;refine g_ 11 ?_;refine au J ?_ ?_<;>intro Ep
 have Z1:R=none:=by
  by_cases hs:ms+1<W out+(z+Z)
  exact NB.1 hs
  exact ZP (NB.2 I) (T ua) (by rw[aF,dS];omega)
 refine bY (fD (cJ J J J (aH (Zt h (aA (aA (aA (D)))) (G.sub aP) bZ I) ?_)));rintro e A ⟨be,rfl,h⟩;refine g_ 5 ?_;exact⟨0,0,_,cs,J,h.tail.tail,J,bG ⟨Exists.intro be J,yh.none (by rw[hP,Z1];rfl)⟩⟩
 refine g_ 3 ?_;refine cw (σ:=Nat) [(21,21),(110,117)] (λj ρ w=>Kn ρ [(21,af (W out+j))]/\H r w ((ah bf [bL br,.slice ad dl dc,bR i,bR (l/2^2),bR (c-2)] 242)::(ah bm (nE out) 246)::(ah tb (dp cs) 227)::F)/\(j<=z+Z)) (λj=>z+Z-j) (0) ⟨az,h,I⟩ ?_;rintro j ρ w ⟨⟨sV,rfl⟩,h,hj⟩;refine g_ 7 ?_;refine au J ?_ ?_<;>intro avi
 refine g_ 7 ?_;refine ir (v:=i16 0) h J (ZU I I) J J J ?_;intro w h;dsimp only[bJ]at h;rw[ahv I]at h;refine g_ 6 ?_;exact⟨aS,j+1,cQ,az,h,I⟩
 refine g_ 6 ?_;exact⟨aS,(f,left,g,out++aT (z+Z) 0,a1+2,i,l/2^2,c-2,false),(by dsimp only;rw[aF,dS,ao ua,aj an];omega),Kn.mk ⟨J,J,J,ie (by rw[aF,dS];omega),J,trivial⟩,(by rw[au9 I];exact h),(by rw[<-fL];exact avh),I,X,gi,Q,S,(by rw[aF,dS];omega),(by rw[aF,dS];omega),(by rw[aj an];exact NB.2 I),(λe=>by cases e)⟩
 have Sn: ¬pz=true:=(by rw[ua];decide);refine aZ (show ∃f',f=f'+1 from⟨f-1,I⟩) (λf' Ha=>?_);rw[aj Sn,Ha]at d;have qX:2^(g+1)=2*2^g:=(by rw[jI];omega);have jD:u % 2^g=dJ (num (E.drop off)) a g:=(by rw[L.take I,AW]);have So:u % 2^(g+1)=dJ (num (E.drop off)) a (g+1):=(by rw[L.take I,AW]);have jL:u % 2^g<2^g:=dY _ fY;have aI4:u % 2^(g+1)<2^(g+1):=dY _ (eA _);refine g_ 14 ?_;refine cW [(29,29),(123,176)] (λρ w=> ∃v2 k:Nat,Kn ρ [(29,af v2)]/\H r w ((ah bf [bL br,.slice ad dl dc,bR o2,bR (u/2^k),bR (K-k)] 242)::(ah bm (nE out) 246)::(ah tb (dp cs) 227)::F)/\(1<=k/\k<=10)/\(ky (num (E.drop off)) (W E-off) a false (left+1)=(v2,a+k,false))) ?_ ?_
 refine g_ 7 ?_;refine ak (ZV g J J aG aG J) ?_;refine g_ 4 ?_;refine au J ?_ ?_<;>intro Kg
 have qA:1<=g:=(by rcases pd g with e|e;(· rw[e]at Q;omega);(· exact e));refine g_ 7 ?_;refine ak (ZV g J J aG aG J) ?_;refine g_ 11 ?_;refine cI ?_;intro w h;refine g_ 9 ?_;refine cI ?_;intro w h;exact aJ ⟨aS,u % 2^g,g,az,h,⟨qA,I⟩,(by rw[auS gi Q I (by rw[<-jD,qX];exact Kg),jD])⟩
 refine g_ 8 ?_;refine ak (ZV (g+1) J J aG aG (by rw[jI,im])) ?_;refine g_ 10 ?_;refine au J ?_ ?_<;>intro ahz
 refine g_ 13 ?_;refine cI ?_;intro w h;refine g_ 8 ?_;refine cI ?_;intro w h;exact aJ ⟨aS,u % 2^(g+1) - (2*2^g-1- (left+1)),g+1,az,h,⟨I,I⟩,(by rw[ahp gi Q I (by rw[<-jD,qX];exact Kg),ao (by rw[<-So];exact ahz),<-So,qX])⟩
 refine g_ 8 ?_;refine cI ?_;intro w h;refine g_ 8 ?_;refine cI ?_;intro w h;exact aJ ⟨aS,u % 2^(g+1),g+1,az,h,⟨I,I⟩,(by rw[ahp gi Q I (by rw[<-jD,qX];exact Kg),aj (by rw[<-So];exact ahz),<-So])⟩
 rintro ρ w ⟨v2,k,⟨wK,rfl⟩,h,hk,hvf⟩;have aI5:=afU I hvf;refine g_ 3 ?_;refine ak (pU J J I I) (ee (aJ (cW [(18,18),(179,185)] (λρ w=> ∃M:Nat,Kn ρ [(18,af (M+1))]/\H r w ((ah bf [bL br,.slice ad dl dc,bR o2,bR (u/2^k),bR (K-k)] 242)::(ah bm (nE out) 246)::(ah tb (dp cs) 227)::F)/\(M=if v2=0 then left-1 else left- (v2-1))/\(M<=left)) ?_ ?_)))
 refine g_ 3 ?_;refine ak (Am J J) (aJ (au J ?_ ?_))<;>intro aI6
 refine g_ 3 ?_;exact ak (pU J J I I) (ee (aJ ⟨aS,left- (v2-1),Kn.mk ⟨Sg I,trivial⟩,h,(by rw[aj I]),I⟩))
 exact fD (dg (ak (pU J J I I) (ee (aJ ⟨aS,left-1,Kn.mk ⟨Sg I,trivial⟩,h,(by rw[ao I]),I⟩))))
 rintro ρ w ⟨M,⟨J4,rfl⟩,h,dV,aI7⟩;refine g_ 6 ?_;refine au J ?_ ?_<;>intro avj
 exfalso;omega
 refine g_ 6 ?_;refine ak (ava J I I) ?_;refine g_ 1 ?_;refine ir (v:=i16 (((v2:Nat):Int) -1)) h J (ZU I I) J J J ?_;intro w h;dsimp only[bJ]at h;rw[au8 I]at h;refine g_ 10 ?_;refine ak (Mt J J) ?_;refine g_ 3 ?_;refine cw (σ:=Nat) [(19,20),(198,204)] (λg1 ρ w=>Kn ρ [(19,af (2^g1)),(20,af (g1+1))]/\H r w ((ah bf [bL br,.slice ad dl dc,bR o2,bR (u/2^k),bR (K-k)] 242)::(ah bm (nE (out++[(((v2:Nat):Int) -1)])) 246)::(ah tb (dp cs) 227)::F)/\(g1<=g)/\(M+1<2^(g1+1))) (λg1=>g1) (g) ⟨az,h,I,I⟩ ?_;rintro g1 ρ w ⟨⟨Ny,rfl⟩,h,Gw,zn⟩;have aI8:2^g1<=512:=wI I;refine g_ 7 ?_;refine au J ?_ ?_<;>intro Z2
 have aI9:1<=g1:=(by rcases pd g1 with e|e;(· rw[e]at Z2;simp at Z2);(· exact e));have n6:2^g1/2^1=2^(g1-1):=(by rw[show g1=(g1-1)+1 by omega,jI,DR,Nat.mul_div_cancel _ an];rfl);refine g_ 13 ?_;exact⟨aS,g1-1,I,Kn.mk ⟨ie n6,ie I,trivial⟩,h,I,(by rw[show g1-1+1=g1 by omega];exact Z2)⟩
 exact jl ⟨aS,((f',M,g1,out++[(((v2:Nat):Int) -1)],a+k,o2,u/2^k,K-k,decide ((((v2:Nat):Int) -1)=0))),(by dsimp only;rw[aF];have:= @au6 (decide ((((v2:Nat):Int) -1)=0));simp only[dL,eW];omega),Kn.mk ⟨J,J,J,ie (by rw[aF];rfl),J,trivial⟩,h,(by rw[<-fL];exact L.drop I),I,n7,I,zn,I,(by rw[aF];simp only[dL,eW];omega),(by rw[aF];simp only[dL,eW];omega),(by rw[au5,dV];exact auY d I I hvf),(λe=>by have e2:=tE e;rw[dV,aj I];omega)⟩
 have Z1:R=none:=by
  by_cases hp:pz=true
  rw[ao hp]at d;exact auZ d I I
  rw[aj hp]at d;exact ZP d I I
 exact jl ⟨aS,left,out,a,o,bi,cn,az,h,C,I,I,I,(λe=>I),(λ_=>Z1),I⟩
 refine g_ 5 ?_;exact gK J (jl ⟨aS,left,out,a,o,bi,cn,az,h,C,I,I,I,(λe=>by have hp: ¬pz=true:=λhp=>T hp e;rw[aj hp]at d;obtain⟨f1,qW⟩: ∃f1,f=f1+1:=⟨f-1,I⟩;rw[qW]at d;unfold gz at d;rw[ao e]at d;exact d.symm),(λe=>I),I⟩)
 rintro ρ w ⟨left,out,a,o,bi,cn,⟨ny,rfl⟩,h,C,ZW,ho,CQ,mh,dV,wL⟩;have avd:=C.1;refine g_ 6 ?_;refine au J ?_ ?_<;>intro aI_
 have vo:(fO (num (E.drop off)) (W E-off) mb (ms+1))=none:=(by rw[hP,dV I];rfl);refine bY (fD (cJ J J J (aH (Zt h (aA (aA (aA (D)))) (G.sub aP) bZ I) ?_)));rintro e A ⟨be,rfl,h⟩;refine g_ 5 ?_;exact⟨0,0,_,cs,J,h.tail.tail,J,bG ⟨Exists.intro be J,yh.none vo⟩⟩
 have NI:left=0:=I;have Sn:(fO (num (E.drop off)) (W E-off) mb (ms+1))=some (out,v+5,(a+7)/8):=(by rw[hP,mh NI];rfl);have vu:=Ez Sn qx I;refine g_ 3 ?_;refine cw (σ:=Nat) [(21,21),(208,215)] (λs ρ w=>Kn ρ [(21,af s)]/\H r w ((ah bf [bL br,.slice ad dl dc,bR o,bR bi,bR cn] 242)::(ah bm (nE out) 246)::(ah tb (dp cs) 227)::F)/\(W out<=s)/\(s<=ms+1)) (λs=>ms+1-s) (W out) ⟨az,h,I,I⟩ ?_;rintro s ρ w ⟨⟨Sr,rfl⟩,h,fe,fP⟩;refine g_ 7 ?_;refine au J ?_ ?_<;>intro aI'
 refine g_ 7 ?_;refine ir (v:=i16 0) h J (ZU I I) J J J ?_;intro w h;dsimp only[bJ]at h;rw[ahv I]at h;refine g_ 6 ?_;exact⟨aS,s+1,cQ,az,h,I,I⟩
 refine g_ 3 ?_;refine d' J J (aH (auw (b:=0) (x:=x) (aE:=aE) (aU:=aU) (E:=E) h ZW I C) ?_);rintro e A ⟨rfl,cn9,h⟩;refine g_ 8 ?_;refine ak (wq J J I) (dg (dg ?_));replace h:=h.zz [2] 0;refine cM (tf out (ms+1-W out)) λsh sQ=>?_;have NJ:W sh=ms+1:=(by rw[<-sQ,J_];omega);have E7:=au_ (out:=out) (m:=ms) CQ CP;rw[sQ]at E7;rw[E7]at h;have avk:iy sh (v+5):=(by rw[<-sQ];exact au2 vu.1 I);have Z3:dn sh (v+5)=dn out (v+5):=(by rw[<-sQ];exact au4 vu.1);have nD:=auL (rv:=bL br) (zo:=(off:Int)) (tn:=tn) (tc:=tc) (nc:=256) h (aA bZ) avk I (aM (dF I I) s7) Za;rw[NJ]at nD;refine D2 J J J J J J (nD.mono ?_);clear h nD;rintro e A ⟨rfl,cs9,h,avm,ahA⟩;refine⟨_,J,?_⟩;rw[Z3]at ahA;refine g_ 5 ?_;refine ak (ye J J) (aJ (gK J (a8 (bY (cm h [0,4,16,9,12,20,24] ?_)))));intro w h;refine aC 8 ?_;exact ju ⟨v+5,(8*off+a+7)/8,_,cs9,J,H.Zo (H.Zo h),avm,a_ ⟨J,out,(a+7)/8,Sn,I,ahA⟩⟩
structure Bl where
 bl:Nat
 bb:Nat
 bt:Nat
 bs:Nat
instance :Inhabited Bl:=⟨⟨0,0,0,0⟩⟩
def ym(c:Bl):List Value:=[dB c.bl,U8 c.bb,U8 c.bt,dG c.bs]
def bP(cs:List Bl):List Value:=cs.flatMap ym
def Hr(c:Bl):W (ym c)=4:=rfl
def Z4(cs:List Bl):W (bP cs)=W cs*4:=X_ ym 4 Hr cs
def Ss{cs:List Bl}{j:Nat}(hi:i<W cs)(a:j<4):(bP cs)[i*4+j]? =(ym (aa cs i default))[j]? :=MX ym 4 Hr default cs i j hi a
def Z5{cs:List Bl}(y:Bl)(hi:i<W cs):dm (bP cs) (i*4) (ym y)=bP (cs.set i y):=Rb ym 4 Hr y cs i hi
def Z6{c:dx}(hi:i<W cs)(h:aa cs i default=c):Rd (dp cs) (i*3) (wZ c):=by
 subst h;exact X' wZ 3 Sd default cs i hi
def l6(k:Nat)(c:dx):Bl:=⟨(codeF k c.sym).1- (if k=1/\2<=c.sym then 3 else 0),(codeF k c.sym).2,c.bits,c.base⟩
def ahB(h:s<16):codeF 0 s=(s,0):=by unfold codeF;rw[aj an,ao ⟨J,h⟩]
def ahC(h:s<32):codeF 2 s=(s+3,0):=by unfold codeF;rw[aj an,aj (λh=>by cases h.1),ao ⟨J,h⟩]
def avn{s:Nat}(h:16<=s)(h2:s<=35):(codeF 0 s).1=aa zJ (s-16) 0 % 2^24/\(codeF 0 s).2=aa zJ (s-16) 0/2^24/\aa zJ (s-16) 0<=4294967295:=by
 have: ∀s,s<36->16<=s->(codeF 0 s).1=aa zJ (s-16) 0 % 2^24/\(codeF 0 s).2=aa zJ (s-16) 0/2^24/\aa zJ (s-16) 0<=4294967295:=an;exact this s I h
def avo{s:Nat}(h:32<=s)(h2:s<=52):(codeF 2 s).1=aa zK (s-32) 0 % 2^24/\(codeF 2 s).2=aa zK (s-32) 0/2^24/\aa zK (s-32) 0<=4294967295:=by
 have: ∀s,s<53->32<=s->(codeF 2 s).1=aa zK (s-32) 0 % 2^24/\(codeF 2 s).2=aa zK (s-32) 0/2^24/\aa zK (s-32) 0<=4294967295:=an;exact this s I h
def ahD:codeF 1 s=(2^s,s):=by unfold codeF;rw[ao J]
def avp{X:List Nat}(a:Rd l q (X.map dB))(hi:i<W X):l[q+i]? =some (dB (aa X i 0)):=by
 rw[a.get i (by rw[cB];exact hi)];simp[hi]
variable {bs:List Bl}{bc tb tc:Nat}{p:Prop}{x:dk}
def ahE(k:Nat){s:Nat}:(codeF k s).2<=max s 16:=by
 unfold codeF;split
 exact Nat.le_max_left _ _
 split
 exact cj _
 split
 exact cj _
 split
 exact aM (X6 _) (Nat.le_max_right _ _)
 exact aM (X5 _) (Nat.le_max_right _ _)
def Z7{a:List Bl}{y:Bl}(hi:i<W a)(h: ∀j,j<i->aa a j default=l6 k (aa cs j default))(b:y=l6 k (aa cs i default)): ∀j,j<i+1->aa (a.set i y) j default=l6 k (aa cs j default):=by
 intro j c;rw[e_];by_cases e:i=j
 subst e;rw[ao ⟨J,hi⟩];exact b
 rw[aj (λh=>e h.1)];exact h j I
def aaa(h:p:=by refine g_ 4 ?_;refine eS J J J J (aH (re h (aA (aA (aA hR))) (hG.sub λ_ hh=>aA (aA (aA hh)))) ?_);rintro e w1 ⟨be,rfl,h⟩;refine g_ 3 ?_;exact⟨_,jq,J,h.tail.tail,dV,(λhh=>by have:=hh i I;rw[pE]at this;omega),(λ_=>Exists.intro be J)⟩):p:=h
def ahF(h:p:=by refine g_ 12 ?_;refine ak (da J J J (by rw[j_];omega)) ?_;refine aX h J (avp Gw (by rw[j_];omega)) ?_;refine g_ 5 ?_;refine ak (kJ (n:=24) J J hgb an) ?_;refine qm J (cI ?_);intro w h;refine g_ 3 ?_;refine ak (qT (b:=24) (h2:=av.lit _) J J hgb) (ak (eZ J (by rw[<-e2];simp only[aN];exact ahG)) ?_);refine qm J (cI ?_);intro w h;refine aJ ?_;replace h:=h.zz [2,1,2] 1;exact⟨aS,az,(by rw[e1,e2];exact h),I⟩):p:=h
def aab(h:p:=by refine g_ 6 ?_;exact⟨_,jq,J,h,dV,(λ_=>And.intro J (λj hj=>h1 j I)),(λhh=>by obtain⟨j,hj,e⟩:=hh;have:=h2 j I;omega)⟩):p:=h
def ahH(h:p:=by refine cI ?_;intro w h;refine g_ 3 ?_;refine iX (iW 0) ?_;intro w h;refine aJ ?_;replace h:=h.zz [2,1,2] 1;exact⟨aS,az,(by rw[e1,e2];exact h),I⟩):p:=h
def avq{bn:Nat}(h:H r w ((ah bb (bP bs) 214)::F))(hm:(ah tb (dp cs) 227)∈F)(hR:(ah br (aB x) 81)∈F)(hG:Gl F aE aU)(v:n<=W cs)(y:n<=512)(z:n<=bn)(A:bn<=W bs)(f: ∀i,i<n->(aa cs i default).sym<=255):Calls PP 121 #[bL br,.int .i64 zo,cK tb n tc,cK bb bn bc] w λe w'=> ∃er a,e= .returned er/\H r w' ((ah bb (bP a) 214)::F)/\W a=W bs/\((∀i,i<n->(aa cs i default).sym<=35)->er= .nilIface/\ ∀i,i<n->aa a i default=l6 0 (aa cs i default))/\((∃i,i<n/\35<(aa cs i default).sym)-> ∃be,er= .iface 182 (bL be)):=by
 obtain⟨it,B⟩:=dw hm;obtain⟨C,D,gc,E,G,g,k,l,Gw⟩:=hG.g4;obtain⟨m,o⟩:=dw k;obtain⟨p,q⟩:=dw l;have j_:W zJ=20:=rfl;refine xJ func121 ntmps121 [8] ?_;refine g_ 12 ?_;refine cw (σ:=Nat×List Bl) [(8,13),(16,58)] (λ⟨i,jq⟩ ρ w=>Kn ρ [(16,af i)]/\H r w ((ah bb (bP jq) 214)::F)/\(i<=n)/\(W jq=W bs)/\(∀j,j<i->aa jq j default=l6 0 (aa cs j default))/\(∀j,j<i->(aa cs j default).sym<=35)) (λ⟨i,jq⟩=>n-i) (0,bs) ⟨az,h,(cj _),J,(λj hj=>I),(λj hj=>I)⟩ ?_;rintro⟨i,jq⟩ ρ w ⟨⟨K,rfl⟩,h,hi,dV,h1,h2⟩;refine g_ 5 ?_;refine au J ?_ ?_<;>intro L
 refine cM (aa cs i default) λce pE=>?_;have s:ce.sym<=255:=(by rw[<-pE];exact f i I);refine g_ 6 ?_;refine ak (lu J J J I) (ak (jx (wZ ce) h J (Z6 I pE) J) (eN h J ?_));intro be w h;refine ee (cI ?_);intro w h;refine g_ 7 ?_;refine ak (At (XF _ _) J J) (eN h J ?_);intro t w h;refine cI ?_;intro w h;refine aJ (cW [(8,8),(12,13),(26,53)] (λρ w=>Kn ρ []/\H r w ((ah t [dB (codeF 0 ce.sym).1,U8 (codeF 0 ce.sym).2,U8 ce.bits,dG ce.base] 214)::(ah bb (bP jq) 214)::F)/\(ce.sym<=35)) ?_ ?_)
 refine g_ 6 ?_;refine au J ?_ ?_<;>intro d
 have e1:(codeF 0 ce.sym).1=ce.sym:=(by rw[ahB d]);have e2:(codeF 0 ce.sym).2=0:=(by rw[ahB d]);refine g_ 6 ?_;exact ahH
 refine g_ 7 ?_;refine au J ?_ ?_<;>intro M
 exact aaa
 have c:= @avn ce.sym I I;have e1:=c.1;have e2:=c.2.1;have hgb:aa zJ (ce.sym-16) 0<=aN .u32:=c.2.2;have ahG:(codeF 0 ce.sym).2<=255:=aM (ahE 0) I;exact ahF
 rintro ρ w ⟨⟨N,rfl⟩,h,u⟩;refine g_ 3 ?_;refine ak (jx [_,_,_,_] h J iG J) (ak (lu J J J I) (rW (vs:=ym (l6 0 ce)) h J J J J (by rw[Z4];have:=Hr (l6 0 ce);omega) J ?_));intro w h;dsimp only[bJ]at h;rw[Z5 _ I]at h;refine g_ 5 ?_;replace h:=h.tail;(try dsimp only[dX]at h);exact⟨aS,(i+1,jq.set i (l6 0 ce)),cQ,az,h,I,(by rw[dW];exact dV),Z7 I h1 (by rw[pE]),(λj hj=>by rcases dq j i with e|e;(· exact h2 j e);(· rw[show j=i by omega,pE];omega))⟩
 exact aab
def avu{bn:Nat}(h:H r w ((ah bb (bP bs) 214)::F))(hm:(ah tb (dp cs) 227)∈F)(hR:(ah br (aB x) 81)∈F)(hG:Gl F aE aU)(v:n<=W cs)(y:n<=512)(z:n<=bn)(A:bn<=W bs)(f: ∀i,i<n->(aa cs i default).sym<=255):Calls PP 125 #[bL br,.int .i64 zo,cK tb n tc,cK bb bn bc] w λe w'=> ∃er a,e= .returned er/\H r w' ((ah bb (bP a) 214)::F)/\W a=W bs/\((∀i,i<n->(aa cs i default).sym<=52)->er= .nilIface/\ ∀i,i<n->aa a i default=l6 2 (aa cs i default))/\((∃i,i<n/\52<(aa cs i default).sym)-> ∃be,er= .iface 182 (bL be)):=by
 obtain⟨it,B⟩:=dw hm;obtain⟨C,D,gc,E,G,g,k,l,Gw⟩:=hG.g5;obtain⟨m,o⟩:=dw k;obtain⟨p,q⟩:=dw l;have j_:W zK=21:=rfl;refine xJ func125 ntmps125 [8] ?_;refine g_ 12 ?_;refine cw (σ:=Nat×List Bl) [(8,13),(16,59)] (λ⟨i,jq⟩ ρ w=>Kn ρ [(16,af i)]/\H r w ((ah bb (bP jq) 214)::F)/\(i<=n)/\(W jq=W bs)/\(∀j,j<i->aa jq j default=l6 2 (aa cs j default))/\(∀j,j<i->(aa cs j default).sym<=52)) (λ⟨i,jq⟩=>n-i) (0,bs) ⟨az,h,(cj _),J,(λj hj=>I),(λj hj=>I)⟩ ?_;rintro⟨i,jq⟩ ρ w ⟨⟨K,rfl⟩,h,hi,dV,h1,h2⟩;refine g_ 5 ?_;refine au J ?_ ?_<;>intro L
 refine cM (aa cs i default) λce pE=>?_;have s:ce.sym<=255:=(by rw[<-pE];exact f i I);refine g_ 6 ?_;refine ak (lu J J J I) (ak (jx (wZ ce) h J (Z6 I pE) J) (eN h J ?_));intro be w h;refine ee (cI ?_);intro w h;refine g_ 7 ?_;refine ak (At (XF _ _) J J) (eN h J ?_);intro t w h;refine cI ?_;intro w h;refine aJ (cW [(8,8),(12,13),(26,54)] (λρ w=>Kn ρ []/\H r w ((ah t [dB (codeF 2 ce.sym).1,U8 (codeF 2 ce.sym).2,U8 ce.bits,dG ce.base] 214)::(ah bb (bP jq) 214)::F)/\(ce.sym<=52)) ?_ ?_)
 refine g_ 6 ?_;refine au J ?_ ?_<;>intro d
 have e1:(codeF 2 ce.sym).1=ce.sym+3:=(by rw[ahC d]);have e2:(codeF 2 ce.sym).2=0:=(by rw[ahC d]);refine g_ 7 ?_;exact ahH
 refine g_ 7 ?_;refine au J ?_ ?_<;>intro M
 exact aaa
 have c:= @avo ce.sym I I;have e1:=c.1;have e2:=c.2.1;have hgb:aa zK (ce.sym-32) 0<=aN .u32:=c.2.2;have ahG:(codeF 2 ce.sym).2<=255:=aM (ahE 2) I;exact ahF
 rintro ρ w ⟨⟨N,rfl⟩,h,u⟩;refine g_ 3 ?_;refine ak (jx [_,_,_,_] h J iG J) (ak (lu J J J I) (rW (vs:=ym (l6 2 ce)) h J J J J (by rw[Z4];have:=Hr (l6 2 ce);omega) J ?_));intro w h;dsimp only[bJ]at h;rw[Z5 _ I]at h;refine g_ 5 ?_;replace h:=h.tail;(try dsimp only[dX]at h);exact⟨aS,(i+1,jq.set i (l6 2 ce)),cQ,az,h,I,(by rw[dW];exact dV),Z7 I h1 (by rw[pE]),(λj hj=>by rcases dq j i with e|e;(· exact h2 j e);(· rw[show j=i by omega,pE];omega))⟩
 exact aab
def avv{bn:Nat}(h:H r w ((ah bb (bP bs) 214)::F))(hm:(ah tb (dp cs) 227)∈F)(hR:(ah br (aB x) 81)∈F)(hG:Gl F aE aU)(l:n<=W cs)(m:n<=512)(o:n<=bn)(p:bn<=W bs)(d: ∀i,i<n->(aa cs i default).sym<=255):Calls PP 123 #[bL br,.int .i64 zo,cK tb n tc,cK bb bn bc] w λe w'=> ∃er c,e= .returned er/\H r w' ((ah bb (bP c) 214)::F)/\W c=W bs/\((∀i,i<n->(aa cs i default).sym<=31)->er= .nilIface/\ ∀i,i<n->aa c i default=l6 1 (aa cs i default))/\((∃i,i<n/\31<(aa cs i default).sym)-> ∃be,er= .iface 182 (bL be)):=by
 obtain⟨it,q⟩:=dw hm;refine xJ func123 ntmps123 [8] ?_;refine g_ 12 ?_;refine cw (σ:=Nat×List Bl) [(8,11),(14,48)] (λ⟨i,jq⟩ ρ w=>Kn ρ [(14,af i)]/\H r w ((ah bb (bP jq) 214)::F)/\(i<=n)/\(W jq=W bs)/\(∀j,j<i->aa jq j default=l6 1 (aa cs j default))/\(∀j,j<i->(aa cs j default).sym<=31)) (λ⟨i,jq⟩=>n-i) (0,bs) ⟨az,h,(cj _),J,(λj hj=>I),(λj hj=>I)⟩ ?_;rintro⟨i,jq⟩ ρ w ⟨⟨s,rfl⟩,h,hi,dV,h1,h2⟩;refine g_ 5 ?_;refine au J ?_ ?_<;>intro t
 refine cM (aa cs i default) λce pE=>?_;have f:ce.sym<=255:=(by rw[<-pE];exact d i I);refine g_ 6 ?_;refine ak (lu J J J I) (ak (jx (wZ ce) h J (Z6 I pE) J) (eN h J ?_));intro be w h;refine ee (cI ?_);intro w h;refine g_ 7 ?_;refine ak (At (XF _ _) J J) (eN h J ?_);intro g w h;refine cI ?_;intro w h;refine g_ 8 ?_;refine au J ?_ ?_<;>intro u
 exact aaa
 have v:2^ce.sym<=2^31:=dF I I;refine g_ 5 ?_;refine ak (gY (b:=ce.sym) J J dQ aG) ?_;refine qm J (cI ?_);intro w h;refine aJ (cW [(34,40)] (λρ w=>Kn ρ []/\H r w ((ah g [dB (2^ce.sym- (if 1=1/\2<=ce.sym then 3 else 0)),U8 0,U8 ce.bits,dG ce.base] 214)::(ah be (wZ ce) 227)::(ah bb (bP jq) 214)::F)) ?_ ?_)
 refine g_ 6 ?_;refine au J ?_ ?_<;>intro a
 have k:3<=2^ce.sym:=aM (show 3<=2^2 by decide) (dF I a);refine g_ 3 ?_;refine ak (jm (b:=3) (h2:=av.lit _) J J k aG) (qm J (cI ?_));intro w h;exact aJ ⟨aS,az,(by first| (rw[ao ⟨J,a⟩];exact h)| (rw[aj (λe=>a e.2)];exact h))⟩
 exact a8 ⟨aS,az,(by first| (rw[ao ⟨J,a⟩];exact h)| (rw[aj (λe=>a e.2)];exact h))⟩
 rintro ρ w ⟨⟨y,rfl⟩,h⟩;refine g_ 5 ?_;refine cI ?_;intro w h;refine g_ 4 ?_;refine ak (jx [_,_,_,_] h J iG J) (ak (lu J J (by first|rfl|assumption|exact tK J I|exact eU J I|exact eU (by assumption) I) I) ?_);refine rW (vs:=ym (l6 1 ce)) h J J J J (by rw[Z4];have:=Hr (l6 1 ce);omega) J ?_;intro w h;dsimp only[bJ]at h;rw[Z5 _ I]at h;refine g_ 5 ?_;replace h:=h.tail.tail;(try dsimp only[dX]at h);exact⟨aS,(i+1,jq.set i (l6 1 ce)),cQ,az,h,I,(by rw[dW];exact dV),Z7 I h1 (by rw[pE]),(λj hj=>by rcases dq j i with e|e;(· exact h2 j e);(· rw[show j=i by omega,pE];omega))⟩
 exact aab
end Go.Z
