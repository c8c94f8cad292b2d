/- Part 12 of the proof. -/
import Derived.MapKept
import Derived.WalkSpells
import Derived.Test.YtmgkiicjpmihfaaGreatDoorQK
set_option linter.all false
set_option maxRecDepth 20000
set_option maxHeartbeats 400000000
namespace Go.Z
open Go Go.Proofs
variable {es:Array MapEntry}{S X:List UInt8}{c:Nat}{ob:Option Nat}
def Kg(B:Nat)(es:Array MapEntry):Prop:= ∀e∈es.toList,(∃k:Int,e.key= .int .i64 k)/\ ∃x:Nat,e.val=R x/\x<=B
def ou(B:Nat)(o:Obj):Prop:= ∃es ck,o= .map es ck/\Kg B es
section
variable {P:Program}{ρ:Env}{x y z:Operand}{ty:TypeId}{w:World}{r:dQ}{L:List aD}{T kt et:TypeId}{mb i B n:Nat}{o:Obj}{k:Int}
theorem abh [hu:bO P T (.slice et)]{ad:Option Addr}{n c:Nat}{v:Value}(hx:Env.ev ρ x= .slice ad n c)(hy:v= .slice none 0 0):run P ρ (.binOp .eql T x (.const v) kt) ty w= .ok (.value (.bool ad.isNone)) w:=by
 subst hy;have e:=Go.Lib.run_equalIn_slice_nil (P:=P) (w:=w) 9999 T et ad n c 0 0 hu.eq;have h:(binOp .eql T (.slice ad n c) (.slice none 0 0)).run P w= .ok (.bool ad.isNone) w:=(by simp only[binOp];simp[Op.equal,Op.maxDepth,e]);simp only[run,execOp,hx];simp[eqGuard,Env.ev,h]
theorem Kh [hu:bO P T (.slice et)]{ad:Option Addr}{n c:Nat}{v:Value}(hx:Env.ev ρ x= .slice ad n c)(hy:v= .slice none 0 0):run P ρ (.binOp .neq T x (.const v) kt) ty w= .ok (.value (.bool (!ad.isNone))) w:=by
 subst hy;have h:=run_neq_slice_nil_any (P:=P) w T et ad n c 0 0 hu.eq;simp only[run,execOp,hx];simp[eqGuard,Env.ev,h]
theorem akC{k:Int}(h:Kg B es):(Instr.findNow (.int .i64) (.int .i64 k) es.toList 0=some none)\/ ∃j e,Instr.findNow (.int .i64) (.int .i64 k) es.toList 0=some (some (j,e.val))/\es.toList[j]? =some e/\e.key= .int .i64 k:=by
 have hk:MapKept.IsKey (.int .i64) (.int .i64 k):=rfl;rcases MapKept.findNow_spec hk es.toList 0 (λx hx=>by obtain⟨⟨k',e⟩,_⟩:=h x hx;rw[e];exact J)with⟨W,_⟩| ⟨j,e,W,h2,h3⟩
 exact .inl W
 exact .inr ⟨j,e,by simpa using W,h2,h3⟩
theorem aBf [hu:bO P T (.map kt et)] [hk:bO P kt (.int .i64)](h:H r w L)(hi:L[i]? =some (some mb,o))(ho:ou B o)(hz:(zeroValue et).run P w= .ok (R 0) w)(hx:Env.ev ρ x= .map (some mb))(hy:Env.ev ρ y= .int .i64 k): ∃v ok,v<=B/\run P ρ (.lookup T x y true) ty w= .ok (.value (.tuple #[R v,.bool ok])) w:=by
 obtain⟨es,ck,rfl,Ki⟩:=ho;have hb:=h.eH mb _ (uJ hi);have W:=MapKept.run_getObj_map (P:=P) hb;have h2:=MapKept.run_checkKey (P:=P) (w:=w) hk.eq (show MapKept.IsKey (.int .i64) (.int .i64 k)from J) es.isEmpty 9999;rcases akC (k:=k) Ki with h3| ⟨j,e,h3,h4,h5⟩
 have h6:=MapKept.run_findKey (P:=P) (w:=w) hk.eq h3;refine⟨0,false,bP _,?_⟩;simp only[run,execOp,hx,hy];simp[Instr.lookup,run_underlying hu.eq,W,h2,h6,hz]
 obtain⟨_,v,hv,hvb⟩:=Ki e (uJ h4);have h6:=MapKept.run_findKey (P:=P) (w:=w) hk.eq h3;refine⟨v,true,hvb,?_⟩;simp only[run,execOp,hx,hy];simp[Instr.lookup,run_underlying hu.eq,W,h2,h6,hv]
theorem aBg{ck v:Nat}(h:Kg B es)(hv:v<=B):Kg B (es.push {key:= .int .i64 k,val:=R v,born:=ck}):=by
 intro e he;simp only[Array.toList_push,nL,je]at he;rcases he with he|rfl
 exact h e he
 exact⟨⟨k,J⟩,v,J,hv⟩
theorem aBh{j v:Nat}{kv:Value}(hkv: ∃k':Int,kv= .int .i64 k')(h:Kg B es)(hv:v<=B):Kg B (es.modify j λe=>{e with key:=kv,val:=R v}):=by
 intro e he;obtain⟨i,hi⟩:=HP he;have W:(es.modify j λe=>{e with key:=kv,val:=R v})[i]? =some e:=(by rw[<-VE];exact hi);rw[Vi]at W;by_cases e1:j=i
 rw[ai e1]at W
 cases hh:es[i]? with
 |none=>rw[hh]at W;cases W
 | some e2=>
   rw[hh]at W
   have:=vZ W
   rw[<-this]
   exact⟨hkv,v,J,hv⟩
 rw[ag e1]at W;exact h e (uJ (by rw[VE];exact W))
theorem aBi [hu:bO P T (.map kt et)] [hk:bO P kt (.int .i64)]{v:Nat}(h:H r w L)(hi:L[i]? =some (some mb,o))(ho:ou B o)(hx:Env.ev ρ x= .map (some mb))(hy:Env.ev ρ y= .int .i64 k)(hz:Env.ev ρ z=R v)(hv:v<=B): ∃o' w',ou B o'/\H r w' (L.set i (some mb,o'))/\run P ρ (.mapUpdate T x y z) ty w= .ok .skip w':=by
 obtain⟨es,ck,rfl,Ki⟩:=ho;have hb:=h.eH mb _ (uJ hi);have W:=MapKept.run_getObj_map (P:=P) hb;have h2:=MapKept.run_checkKey (P:=P) (w:=w) hk.eq (show MapKept.IsKey (.int .i64) (.int .i64 k)from J) false 9999;have wD: ∀o':Obj,H r {w with heap:=w.heap.setIfInBounds mb o'} (L.set i (some mb,o')):=λo'=>(by obtain⟨a,b⟩:=MapKept.heap_set (o':=o') hb;exact h.eX hi J a (λk' rA _=>b k' rA));rcases akC (k:=k) Ki with h3| ⟨j,e,h3,h4,h5⟩
 have h6:=MapKept.run_findKey (P:=P) (w:=w) hk.eq h3;have h7:=MapKept.run_setObj_map (P:=P) (.map (es.push {key:= .int .i64 k,val:=R v,born:=ck}) (ck+1)) hb;refine⟨.map (es.push {key:= .int .i64 k,val:=R v,born:=ck}) (ck+1),_,⟨_,_,J,aBg Ki hv⟩,wD _,?_⟩;simp only[run,execOp,hx,hy,hz];simp[Instr.mapUpdate,run_underlying hu.eq,W,h2,h6,h7]
 have h6:=MapKept.run_findKey (P:=P) (w:=w) hk.eq h3;have h8:((es[j]?).map (·.key)).getD (.int .i64 k)= .int .i64 k:=(by rw[<-VE,h4];exact h5);have h9:(Instr.keyThatStays (.int .i64 k) (.int .i64 k)).run P w= .ok (.int .i64 k) w:=(by simp[Instr.keyThatStays,Instr.sameBits]);have h7:=MapKept.run_setObj_map (P:=P) (.map (es.modify j λe=>{e with key:= .int .i64 k,val:=R v}) ck) hb;refine⟨.map (es.modify j λe=>{e with key:= .int .i64 k,val:=R v}) ck,_,⟨_,_,J,aBh (j:=j) (kv:= .int .i64 k) ⟨k,J⟩ Ki hv⟩,wD _,?_⟩;simp only[run,execOp,hx,hy,hz];simp[Instr.mapUpdate,run_underlying hu.eq,W,h2,h6,h8,h9,h7]
theorem aBj:run P ρ (.makeMap T none) ty w= .ok (.value (.map (some w.heap.size))) (w.alloc (.map #[] 0)):=by
 simp[run,execOp,Instr.makeMap,newObj,Sem.run]
end
section
variable {P:Program}{n:Nat}{K:gw}{ρ:Env}{all:Array Oper}{rest:List Oper}{d:Option Nat}{ty:TypeId}{pos:String}{aN:Array Edge}
variable {r:dQ}{w:World}{L:List aD}{x y:Operand}{b q i:Nat}{l:List Value}{T T':TypeId}{v:Value}
theorem aBk{T2 E2:TypeId}{zs:List Value}{eD size:Nat}[hu:bO P T (.slice T')] [hs:Sz P T' size] [hz:Zr P T' zs] [hb:By P T' eD] [j_:bO P T2 (.slice E2)](rD:zs.length=size){ob:Option Nat}{xs sp ys:List Value}{nn c m:Nat}{xv:Value}(h:H r w L)(hi:L[i]? =some (ob,C (xs++sp) T'))(eK:xs.length=nn*size)(fL:(xs++sp).length=c*size)(uZ:nn<=c)(uU:ob=none->c=0)(ia:0<size)(qO:Src P r L size m xv ys)(fF: ∀v∈ys,plain v=true)(eT:(2*(nn+m)+1000)*eD<=281474976710656)(We:nn+m<=281474976710656)(p:Value->Prop)(vC: ∀v∈sp,p v)(nz: ∀v∈zs,p v): ∃w' bH c' dm,(Builtin.append_ #[T,T2] ty #[.slice (aB ob) nn c,xv]).run P w= .ok (.slice (aB bH) (nn+m) c') w'/\H r w' (L.set i (bH,C (xs++ys++dm) T'))/\(xs++ys++dm).length=c'*size/\nn+m<=c'/\(bH=none->c'=0)/\ ∀v∈dm,p v:=by
 obtain⟨t,t1,t2⟩:=hb.bytes w;have e2:=hs.size w;have e3:=qO.len w;have e4:=qO.cells w h;have W:=qO.size;have nT:i<L.length:=(sf.1 hi).1;by_cases jD:nn+m<=c
 have hle:nn*size+ys.length<=(xs++sp).length:=(by have:(nn+m)*size<=c*size:=sj _ jD;rw[qH]at this;omega)
 cases ob with
 | none=>
   have hc:=uU J
   subst hc
   obtain rfl:nn=0:=I
   obtain rfl:m=0:=I
   have hy:ys=[]:=kq.1 I
   subst hy
   refine⟨w,none,0,sp,?_,?_,by simpa using fL,aR _,λ_=>rfl,vC⟩
   . simp[Builtin.append_,underlying,program,Sem.run,hu.eq,j_.eq,e2,e3,e4,aB]
   . rw[dP,Ip hi];exact h
 | some b=>
   obtain⟨w',s1,s2,_,_⟩:=CS (P:=P) ys w L (xs++sp) (nn*size) 0 h hi fF I
   refine⟨w',some b,c,sp.drop ys.length,?_,?_,?_,jD,(λe=>by cases e),λv hv=>vC v (List.mem_of_mem_drop hv)⟩
   . simp[Builtin.append_,underlying,program,Sem.run,hu.eq,j_.eq,e2,e3,jD,e4,aB,add_plain,s1]
   . have e5:cT (xs++sp) (nn*size+0) ys=xs++ys++sp.drop ys.length:=by
       rw[kU,AQ _ _ _ hle,<-eK]
       simp[EY]
     rw[e5]at s2;exact s2
   . simp only[aF,bV]at fL hle ⊢;omega
 have jt:c<nn+m:=I;have AR: ¬((281474976710656:Nat)<Builtin.nextslicecap (nn+m) c*eD):=(by have:=sj eD (PA jt);omega);have Fb: ¬((9223372036854775807:Int)<(nn:Int)+(m:Int)):=I;obtain⟨w1,mU⟩: ∃w1:World,w1=w.drew:=⟨_,J⟩;have h':H r w1 L:=(by rw[mU];exact h.drew);have xP:=qO.cells w1 h';obtain⟨zv,z1,z2⟩:=hz.zero w1;obtain⟨t',AS,AT⟩:=hb.bytes w1;obtain⟨iZ,xQ⟩: ∃iZ,iZ=(Question.appendCap (nn+m) c T').cut (w.tape w.drawn (Question.appendCap (nn+m) c T')):=⟨_,J⟩;have np:nn+m<=iZ:=(by rw[xQ];exact PB _ _ _ _);have oI: ∀k,(askRoom k).run P w1= .ok () w1:=λk=>(by unfold askRoom;split<;>simp[mark,Sem.run])
 have hold:(Builtin.firstCells size nn (.slice (aB ob) nn c)).run P w1= .ok xs.toArray w1:=by
  cases ob with
  | none=>
    have hc:=uU J
    have : xs = [] := kq.1 (by rw[eK]; have:nn=0:=I; subst this;simp)
    subst this;simp[Builtin.firstCells,aB]
  | some b=>
    simp only[Builtin.firstCells,aB]
    refine CR h' hi ?_ eK
    exact Rd.of λj hj=>by rw[im,ir hj]
 have sE:(Builtin.zeroCells zv.cells (iZ- (nn+m)))=⟨dj zs (iZ- (nn+m))⟩:=(by rw[z2];apply EX.1;simp[Builtin.zeroCells,dj,CC,se]);have Fc:(Question.appendCap (nn+m) c T').forced=false:=rfl;refine⟨w1.alloc (C (xs++ys++dj zs (iZ- (nn+m))) T'),some w1.heap.size,iZ,dj zs (iZ- (nn+m)),?_,(h'.alloc _).replace nT,?_,np,(λe=>by cases e),λv hv=>nz v (RU hv I)⟩
 simp[Builtin.append_,underlying,program,Sem.run,hu.eq,j_.eq,e2,e3,jD,t1,t2,AR,Fb,choose,Fc];simp only[<-xQ,show({w with drawn:=w.drawn+1}:World)=w1 from mU.symm,show w.drew=w1 from mU.symm];simp[C,AS,AT,oI,hold,xP,z1,sE,newRow,newObj,Sem.run,show aB (some w1.heap.size)=some ⟨w1.heap.size,0,none⟩from J]
 rw[aF,aF,CU,rD,eK,W,<-qH,<-qH];congr 1;omega
def BB(ob:Option Nat)(X S:List UInt8)(c:Nat):Prop:=(X++S).length=c/\(ob=none->c=0)
abbrev EB(ob:Option Nat)(X S:List UInt8):aD:=(ob,C (List.map u8 (X++S)) 5)
theorem BB.ok(h:BB ob X S c):bG ob X.length c (List.map u8 X) (List.map u8 S) 1:=
 ⟨by simp,by simp[<-h.1],by rw[<-h.1];simp,h.2⟩
theorem BB.sl{F:List aD}(h:BB ob X S c):aP (EB ob X S::F) (.slice (aB ob) X.length c) X:=by
 have:=aP.own (F:=F) (T:=5) h.ok;rw[<-f_]at this;exact this
theorem bytesOf{l:List Value}(h: ∀v∈l,∃x:UInt8,v=u8 x): ∃S:List UInt8,l=S.map u8:=by
 induction l with
 |nil=>exact⟨[],J⟩
 | cons v l ih=>
   obtain⟨S,hS⟩:=ih (λv hv=>h v (ar hv))
   obtain⟨x,hx⟩:=h v bF
   exact⟨x::S,by rw[hx,hS];rfl⟩
theorem akD [hu:bO P T (.slice 5)] [hs:Sz P 5 1] [hz:Zr P 5 [gR 0]] [hb:By P 5 1]{T2 E2:TypeId} [j_:bO P T2 (.slice E2)]{ob:Option Nat}{X S Y:List UInt8}{c:Nat}{xv:Value}{F:List aD}(h:H r w L)(hi:L[i]? =some (EB ob X S))(hB:BB ob X S c)(hY:aP F xv Y)(hF:Sub F L)(eT:X.length+Y.length<=70368744177664): ∃w' bH c' S',(Builtin.append_ #[T,T2] ty #[.slice (aB ob) X.length c,xv]).run P w= .ok (.slice (aB bH) (X++Y).length c') w'/\H r w' (L.set i (EB bH (X++Y) S'))/\BB bH (X++Y) S' c':=by
 have hk:=hB.ok
 have hyl:xv=xv/\Src P r L 1 Y.length xv (Y.map u8):=⟨J,by
   obtain⟨ad,n,c2,rfl,hl,hc,h3⟩:=id hY
   subst hl
   exact qg hY hF⟩
 obtain⟨w',bH,c',dm,W,h2,h3,h4,h5,h6⟩:=aBk (P:=P) (ty:=ty) (T:=T) (T2:=T2) (T':=5) (zs:=[gR 0]) (size:=1) (eD:=1) (m:=Y.length) (xv:=xv) (xs:=List.map u8 X) (sp:=List.map u8 S) (ys:=List.map u8 Y) J h (by rw[hi];simp;rfl) hk.1 hk.2.1 hk.2.2.1 hk.2.2.2 aj hyl.2
   (by intro v hv;obtain⟨z,_,rfl⟩:=jd.1 hv;rfl) I I (λv=> ∃x:UInt8,v=u8 x) (by intro v hv;obtain⟨z,_,rfl⟩:=jd.1 hv;exact⟨z,J⟩)
   (by intro v hv;exact⟨0,je.1 hv⟩)
 obtain⟨S',rfl⟩:=bytesOf h6;refine⟨w',bH,c',S',by rw[aF];exact W,by rw[<-f_,<-f_]at h2;exact h2,by simpa using h3,h5⟩
theorem lk [hu:bO P T (.slice 5)] [hs:Sz P 5 1] [hz:Zr P 5 [gR 0]] [hb:By P 5 1]{T2 E2:TypeId} [j_:bO P T2 (.slice E2)]{ob:Option Nat}{X S Y:List UInt8}{c:Nat}{xv:Value}{F:List aD}(h:H r w L)(i:Nat)(hx:Env.ev ρ x= .slice (aB ob) X.length c)(hy:Env.ev ρ y=xv)(hi:L[i]? =some (EB ob X S))(hB:BB ob X S c)(hY:aP F xv Y)(hF:Sub F L)(eT:X.length+Y.length<=70368744177664)(hd:aV n d=true)(hk: ∀w' bH c' S',H r w' (L.set i (EB bH (X++Y) S'))->BB bH (X++Y) S' c'->O P n all rest K (Env.put ρ d (.slice (aB bH) (X++Y).length c')) w'):O P n all ({dst:=d,op:= .call {callee:= .builtin .append,args:= #[x,y],argTypes:= #[T,T2]},type:=ty,pos:=pos,after:=aN,guard:=none}::rest) K ρ w:=by
 obtain⟨w',bH,c',S',W,h2,h3⟩:=akD (P:=P) (ty:=ty) (T:=T) (T2:=T2) h hi hB hY hF eT;exact gf (CV hx hy W) hd (hk w' bH c' S' h2 h3)
theorem Kj{ord:Ot}{j:Nat}[hu:bO P T (.slice 5)] [hs:Sz P 5 1] [hz:Zr P 5 [gR 0]] [hb:By P 5 1] {T2 E2:TypeId} [j_:bO P T2 (.slice E2)] {ob:Option Nat} {X S Y:List UInt8} {c:Nat} {xv:Value} {F:List aD}
   (hj:all[j]? =some {dst:=d,op:= .call {callee:= .builtin .append,args:= #[x,y],argTypes:= #[T,T2]},type:=ty,pos:=pos,after:=aN,guard:=none})
   (h:H r w L) (i:Nat) (hx:Env.ev ρ x= .slice (aB ob) X.length c) (hy:Env.ev ρ y=xv) (hi:L[i]? =some (EB ob X S)) (hB:BB ob X S c) (hY:aP F xv Y) (hF:Sub F L) (eT:X.length+Y.length<=70368744177664) (hd:aV n d=true)
   (hk: ∀w' bH c' S',H r w' (L.set i (EB bH (X++Y) S'))->BB bH (X++Y) S' c'->D P n all ord K (Env.put ρ d (.slice (aB bH) (X++Y).length c')) w'):D P n all (.cons (j,.h) ord) K ρ w:=by
 obtain⟨w',bH,c',S',W,h2,h3⟩:=akD (P:=P) (ty:=ty) (T:=T) (T2:=T2) h hi hB hY hF eT
 exact Le hj (CV hx hy W) hd (hk w' bH c' S' h2 h3)
end
section
variable {P:Program}{n i:Nat}{K:gw}{ρ:Env}{w:World}{ops:Array Oper}{rest:Ot}{d:Option Nat}{op:Op}{ty:TypeId}{pos:String}{aN:Array Edge}
theorem rj{g t:Nat}{want:Bool}{k:Kd}(hi:ops[i]? =some {dst:=d,op:=op,type:=ty,pos:=pos,after:=aN,guard:=some (g,want)})(hg:(ops[g]?).bind (·.dst)=some t)(ht:Nat.blt t n=true)(hv:ρ t=undef)(hd:aV n d=true)(h:D P n ops rest K (Env.put ρ d undef) w):D P n ops (.cons (i,k) rest) K ρ w:=by
 refine arA λa W h2 h3=>?_;have hy:yielded ops a.tmps g=none:=(by have qM:t<a.tmps.size:=(by rw[W];simpa [ES] using ht);have Hf:lx a t=undef:=(by rw[h3];exact hv);have:a.tmps[t]? =some undef:=(by simp only[lx,se]at Hf;simp[qM]at Hf ⊢;exact Hf);simp[yielded,hg,this,undef]);have hw:Region.wanted ({dst:=d,op:=op,type:=ty,pos:=pos,after:=aN,guard:=some (g,want)}:Oper) (yielded ops a.tmps)=false:=(by simp only[Region.wanted,hy];rfl);have h':=afI h (a:=a.put d undef) (by rw[size_put,W]) (by rw[nQ,h2]) (by rw[nR a d undef (by rw[W];exact hd),h3]);refine⟨_,hi,?_⟩;cases k
 exact⟨undef,.inr ⟨hw,J⟩,h'⟩
 exact⟨undef,.inr ⟨hw,J⟩,h'⟩
 exact .inr ⟨hw,h'⟩
 exact .inr ⟨hw,h'⟩
end
end Go.Z
namespace Go.Z
variable {N k:Nat}
def cu(N k:Nat):List UInt8:=(List.range k).map λi=>UInt8.ofNat (N/256^i)
theorem eP(N k:Nat):(cu N k).length=k:=by simp[cu]
theorem aBl{i:Nat}(h:i<k):((cu N k).getD i 0).toNat=N/256^i % 256:=by
 simp[cu,bS,h]
theorem akE(N k:Nat):cu N (k+1)=cu N k++[UInt8.ofNat (N/256^k)]:=by
 simp[cu,pU]
def rk:List Bool->Nat:=List.foldl (λa b=>2*a+b.toNat) 0
theorem aBm(l:List Bool): ∀a,l.foldl (λa b=>2*a+b.toNat) a=a*2^l.length+rk l:=by
 induction l with
 |nil=>intro a;simp[rk]
 | cons b l ih=>
   intro a
   rw[KV,ih]
   show _=a*2^(l.length+1)+l.foldl (λa b=>2*a+b.toNat) (2*0+b.toNat)
   rw[ih (2*0+b.toNat),jT]
   simp only[Vy,im,qH,<-gQ]
   congr 2
   rw[iu 2 a,tg,iu (2^l.length) 2]
theorem aBn(a b:List Bool):rk (a++b)=rk a*2^b.length+rk b:=by
 unfold rk;rw[OT];exact aBm b _
theorem akF(a:List Bool)(b:Bool):rk (a++[b])=2*rk a+b.toNat:=by
 rw[aBn];simp[rk];omega
def dG(v n:Nat):List Bool:=(List.range n).map λi=>decide (v/2^(n-1-i) % 2=1)
theorem yU(v n:Nat):(dG v n).length=n:=by simp[dG]
def fp(v n:Nat):List Bool:=(List.range n).map λi=>decide (v/2^i % 2=1)
theorem xm(v n:Nat):(fp v n).length=n:=by simp[fp]
def oA:List Bool->Nat
 | []=>0
 |b::l=>b.toNat+2*oA l
def qD(l:List Bool):List UInt8:=cu (2^l.length+rk l) (l.length/8+1)
def xo(l:List Bool):List UInt8:=cu (oA l) ((l.length+7)/8)
theorem NY(l:List Bool):(qD l).length=l.length/8+1:=eP _ _
theorem TY(l:List Bool):(xo l).length=(l.length+7)/8:=eP _ _
theorem aBo{m:Nat}(hk:k/8<m)(h0:N/2^k % 2=0):(cu N m).set (k/8) (UInt8.ofNat (((cu N m).getD (k/8) 0).toNat|||2^(k % 8)))=cu (N+2^k) m:=by
 have LG:N+2^k=N|||2^k:=by
  have e1:N=2^(k+1)*(N/2^(k+1))+N % 2^k:=(by have W:=K7 N (2^(k+1));have h2:N % 2^(k+1)=N % 2^k:=(by rw[ad6,h0];simp);omega);have cP:N % 2^k<2^k:=dH _ (ep _);apply O5;intro i;rw[VF,VG];have e2:N+2^k=2^(k+1)*(N/2^(k+1))+(2^k*1+N % 2^k):=I;have hb:(2^k*1+N % 2^k)<2^(k+1):=(by rw[jT];omega);have fh:N % 2^k<2^(k+1):=(by rw[jT];omega);rw[e2,VH _ hb];(conv=>rhs;rw[e1,VH _ fh]);by_cases hi:i<k+1
  rw[ai hi,ai hi,VH _ cP];by_cases hik:i<k
  rw[ai hik];simp;omega
  have:i=k:=I;subst this;rw[ag I];simp
  rw[ag hi,ag hi];simp;omega
 rw[LG];apply oF;intro i;rw[uK];by_cases hi:i<m
 have hl: ∀M,(cu M m)[i]? =some (UInt8.ofNat (M/256^i)):=λM=>(by simp[cu,hi]);rw[hl,hl];have hN: ∀M i,UInt8.ofNat (M/256^i)=UInt8.ofNat (M>>>(8*i)):=λM i=>(by rw[H2,Wl]);by_cases e:k/8=i
 rw[ai e,eP,ai hk];congr 1;rw[aBl I,e];apply K8.1;simp only[Pf];rw[show(256:Nat)=2^8 from J,<-KU,<-H2,<-H2,Nat.shiftRight_or_distrib];apply O5;intro j;simp only[Nat.testBit_mod_two_pow,VF,Vv,VG];by_cases hj:j<8
 simp only[hj,decide_true,Bool.true_and];congr 1;apply decide_eq_decide.2;omega
 simp[hj]
 rw[ag e];congr 1;apply K8.1;simp only[Pf];rw[show(256:Nat)=2^8 from J,<-KU,<-H2,<-H2,Nat.shiftRight_or_distrib];apply O5;intro j;simp only[Nat.testBit_mod_two_pow,VF,Vv,VG];by_cases hj:j<8
 have: ¬k=8*i+j:=I;simp[hj,this]
 simp[hj]
 have hl: ∀M,(cu M m)[i]? =none:=λM=>gP (by rw[eP];omega);rw[hl,hl];split
 rw[eP,ag I]
 rfl
end Go.Z
namespace Go.Z
open Go Go.Proofs
variable {bits:List Bool}{L:List aD}{sp:List Value}{bb c i j k n:Nat}{ob:Option Nat}{r:dQ}{w:World}
theorem xp:u8 (UInt8.ofNat n)=gR (n % (aG .u8+1)):=by unfold u8;rw[Pf];rfl
theorem gi{a:Option Addr}{n':Nat}{v:Value}(hv:v= .slice a n c)(h:n=n'):v= .slice a n' c:=by rw[hv,h]
theorem kI{cb nn nc at_:Nat}{na:Option Addr}{N:List Int}(h:H r w ((af cb [.slice na nn nc,R at_] 38)::L))(hN:nG L (.slice na nn nc) N)(jg:at_<=4611686018427387904)(hn:n<=4611686018427387904):Calls PP 12 #[aW cb,R n] w λe w'=> ∃v at',e= .returned (R v)/\v<=n-1/\at'<=at_+1/\H r w' ((af cb [.slice na nn nc,R at'] 38)::L):=by
 have hNl:nn=N.length:=(by obtain⟨_,_,_,e1,e2,_⟩:=hN;cases e1;exact e2);refine gS Tryz.func12 Tryz.ntmps12 [4] ?_;refine V 4 ?_;refine cD [(4,4),(6,15)] (λρ w=>Kn ρ []/\H r w ((af cb [.slice na nn nc,R at_] 38)::L)/\(0<nn)/\(2<=n)) ?_ ?_
 refine V 9 ?_;refine d' (t:=12) J (λNc=>?_) (λNc=>?_)
 refine V 4 ?_;refine iI J ?_;refine V 5 ?_;exact⟨0,at_,J,bP _,Nat.le_succ _,h⟩
 refine V 4 ?_;refine an J ?_ ?_<;>intro IM
 refine V 5 ?_;exact⟨0,at_,J,bP _,Nat.le_succ _,h⟩
 exact aQ ⟨aM,aq,h,I,I⟩
 rintro ρ w ⟨⟨mD,rfl⟩,h,ke,fW⟩;refine kC (aky hN (I:0<N.length)) λpb pq lp Tp q1=>?_;refine fx q1.2.1 λip qC=>?_;have lH:=dH at_ ke;have At:=akz hN (at_ % nn);refine cg (N.getD (at_ % nn) 0) λx hx=>?_;rw[hx]at At;have bY:((n:Nat):Int)≠0:=I;have pt:=Int.lt_tmod_of_pos x (I:0<((n:Nat):Int));have zD:=Int.tmod_lt_of_pos x (I:0<((n:Nat):Int));refine cg (x.tmod ((n:Nat):Int)) λy hy=>?_;rw[hy]at pt zD;have mL:=TV q1.2.2 (i:=at_ % nn) I;rw[hx]at mL;refine a9 (bL h [0,4,8,16,20,24,32,36,40,64,13,29,45,48,52,56,61,68,72] ?_);intro w h;refine av 14 ?_;refine aw J (AK J J ke) (aw J (cI J J q1.1 lH) (aK J h J mL (aw J (Ch hy (acJ J J bY)) (eY J (cm ?_)))));refine V 9 ?_;refine b7 ?_;intro w h;refine aC (cD [(5,5),(41,45)] (λρ w=> ∃k:Nat,Kn ρ [(5,R k)]/\H r w ((af cb [.slice na nn nc,R (at_+1)] 38)::L)/\(k<n)) ?_ ?_)
 refine V 3 ?_;refine ah (qL (v:=0) J J) (aC (an J ?_ ?_))<;>intro yw
 refine V 3 ?_;exact ah (H_ J J I I) (dI (aC ⟨aH 6,((y+((n:Nat):Int)).toNat),(Kn.mk ⟨(int_eq (I:y+((n:Nat):Int)=_)),trivial⟩),h,I⟩))
 exact aQ ⟨aH 2,y.toNat,Kn.mk ⟨(int_eq (I:y=_)),trivial⟩,h,I⟩
 rintro ρ w ⟨k,⟨qY,rfl⟩,h,hk⟩;refine V 6 ?_;exact⟨k,at_+1,J,I,aR _,h⟩
theorem qE{x:Nat}(h:H r w L)(hx:x<=18446744073709551615)(hk:k<=8):Calls PP 13 #[cy x,R k] w λe w'=> ∃ob S c,e= .returned (.slice (aB ob) k c)/\BB ob (cu x k) S c/\H r w' (EB ob (cu x k) S::L):=by
 replace h:=h.ghost (C (List.map u8 (cu x 0++[])) 5);refine gS Tryz.func13 Tryz.ntmps13 [4] ?_;refine V 15 ?_;refine bQ (σ:=Nat×Option Nat×List UInt8×Nat) [(0,0),(5,5),(7,16)] (λ⟨i,ob,S,c⟩ ρ w=>Kn ρ [(7,R i),(5,.slice (aB ob) (cu x i).length c),(0,cy (x/256^i))]/\H r w (EB ob (cu x i) S::L)/\(i<=k)/\(BB ob (cu x i) S c)) (λ⟨i,ob,S,c⟩=>k-i) (0,none,[],0) ⟨(Kn.mk ⟨J,J,(int_eq (by rw[K5,Nat.div_one])),trivial⟩),h,I,J,λ_=>rfl⟩ ?_;rintro⟨i,ob,S,c⟩ ρ w ⟨⟨sO,rfl⟩,h,hi,hB⟩;have Bt:x/256^i<=x:=j6 _ _;have DI:=eP x i;refine V 5 ?_;refine an J ?_ ?_<;>intro xY
 refine V 7 ?_;refine ah (CL J J) (kX J (kB _) h ?_);intro bz w h;refine lk (X:=cu x i) (Y:=[UInt8.ofNat (x/256^i)]) (F:=[(af bz [gR (x/256^i % (aG .u8+1))] 5)]) h 1 J J J hB ⟨_,_,_,J,J,aR _,λ_=>⟨bz,0,_,_,J,e_ ..,by rw[xp];rfl,trivial⟩⟩ (λe he=>by rcases je.1 he with rfl;exact e_ ..) (by rw[DI];simp only[ek,fE];omega) J ?_;intro w cr c2 S2 h rY;dsimp only[List.set]at h;rw[<-akE]at h rY;have wM:(cu x i++[UInt8.ofNat (x/256^i)]).length=(cu x (i+1)).length:=(by rw[akE]);replace h:=h.tail;refine V 11 ?_;exact⟨aH 12,(i+1,cr,S2,c2),cw,Kn.mk ⟨J,gi J wM,(int_eq (by rw[jT,sk];rfl)),trivial⟩,h,I,rY⟩
 refine V 7 ?_;obtain rfl:i=k:=I;exact⟨ob,S,c,b8 Ending.returned (gi J DI),hB,h⟩
abbrev bl(b:Bool):Value:= .bool b
theorem akG{v:Nat}(h:j<n):(dG v n).take (j+1)=(dG v n).take j++[decide (v/2^(n-1-j) % 2=1)]:=by
 rw[oK _ false j (by rw[yU];exact h)];congr 1;simp[dG,bS,h]
theorem akH{v:Nat}(h:j<n):(fp v n).take (j+1)=(fp v n).take j++[decide (v/2^j % 2=1)]:=by
 rw[oK _ false j (by rw[xm];exact h)];congr 1;simp[fp,bS,h]
theorem Hp{v:Nat}(h:H r w ((af bb [.slice (aB ob) (List.length (bits)) c] 120)::(ob,C (List.map bl (bits)++sp) 4)::L))(hk:bG ob (List.length (bits)) c (List.map bl (bits)) sp 1)(hn:n<=64)(hv:v<=4611686018427387904)(hl:bits.length<=1099511627776):Calls PP 43 #[aW bb,R v,R n] w λe w'=> ∃bH c' dm,e= .returned (.tuple #[])/\bG bH (List.length (bits++dG v n)) c' (List.map bl (bits++dG v n)) dm 1/\H r w' ((af bb [.slice (aB bH) (List.length (bits++dG v n)) c'] 120)::(bH,C (List.map bl (bits++dG v n)++dm) 4)::L):=by
 refine mW Tryz.func43 Tryz.ntmps43 [] ?_;refine V 3 ?_;refine ah (oH J J I I) ?_;refine V 3 ?_;refine bQ (σ:=Nat×Option Nat×Nat×List Value) [(6,6),(9,26)] (λ⟨j,bI,c1,bJ⟩ ρ w=>Kn ρ [(6,.int .i64 (((n:Nat):Int) -1- ((j:Nat):Int)))]/\H r w ((af bb [.slice (aB bI) (List.length (bits++(dG v n).take (j))) c1] 120)::(bI,C (List.map bl (bits++(dG v n).take (j))++bJ) 4)::L)/\(j<=n)/\(bG bI (List.length (bits++(dG v n).take (j))) c1 (List.map bl (bits++(dG v n).take (j))) bJ 1)) (λ⟨j,bI,c1,bJ⟩=>n-j) (0,ob,c,sp) ⟨(Kn.mk ⟨(int_eq I),trivial⟩),(by simpa using h),I,(by simpa using hk)⟩ ?_;rintro⟨j,bI,c1,bJ⟩ ρ w ⟨⟨vk,rfl⟩,h,hj,eF⟩;have Kk:((dG v n).take j).length=j:=(by rw[gk,yU];omega);refine V 4 ?_;refine ah (zf (v:=0) J J) (aC (an J ?_ ?_))<;>intro sF
 refine V 3 ?_;refine bL h [0,4,8,12,20,24,28,32,36,17,42,47,48,52,59] ?_;intro w h;refine av 6 ?_;refine aw J (pX (b:=n-1-j) (h2:=⟨I⟩) J J az) ?_;refine aw J (bZ (jO (n:=1) J J (aI (j6 _ _) az) aj) (show v/2^(n-1-j) % 2^1=v/2^(n-1-j) % 2 from J)) ?_;refine av 2 ?_;refine ka J J (adT _) h ?_;intro bz w h;refine mV (List.map bl (bits++(dG v n).take (j))) bJ [bl (decide (v/2^(n-1-j) % 2=1))] J h 2 J J J eF (Src.slice (j:=0) (q2:=0) J ⟨J,trivial⟩ J) (by intro x hx;simp at hx;subst hx;rfl) (by rw[aF,Kk];omega) aj J ?_;intro w cr c2 cG h dE hJ kZ;dsimp only[List.set]at h;have eb:List.map bl (bits++(dG v n).take (j))++[bl (decide (v/2^(n-1-j) % 2=1))]=List.map bl (bits++(dG v n).take (j+1)):=(by rw[akG I,f_,f_,f_,cF];rfl);rw[eb]at h dE;have el:(List.length (bits++(dG v n).take (j)))+1=List.length (bits++(dG v n).take (j+1)):=(by rw[akG I];simp only[aF,ek,fE];omega);have cK:bG cr (List.length (bits++(dG v n).take (j+1))) c2 (List.map bl (bits++(dG v n).take (j+1))) cG 1:=⟨by rw[bX,eC],dE,by rw[<-el];exact hJ,kZ⟩;replace h:=h.tail;refine av 2 ?_;refine v_ (v:= .slice (aB cr) (List.length (bits++(dG v n).take (j+1))) c2) J h J J (gi J el) J J ?_;intro w h;dsimp only[List.set]at h;exact cm (eS (cM (ah (oH J J I I) (dI (aC ⟨aH 20,(j+1,cr,c2,cG),cw,Kn.mk ⟨(int_eq I),trivial⟩,h,I,cK⟩)))))
 refine iy ?_;have ej:j=n:=I;rw[ej,jf (by rw[yU];exact aR _)]at h eF;exact⟨bI,c1,bJ,J,eF,h⟩
theorem Kl{v:Nat}(h:H r w ((af bb [.slice (aB ob) (List.length (bits)) c] 159)::(ob,C (List.map bl (bits)++sp) 4)::L))(hk:bG ob (List.length (bits)) c (List.map bl (bits)) sp 1)(hn:n<=64)(hv:v<=4611686018427387904)(hl:bits.length<=1099511627776):Calls PP 69 #[aW bb,R v,R n] w λe w'=> ∃bH c' dm,e= .returned (.tuple #[])/\bG bH (List.length (bits++fp v n)) c' (List.map bl (bits++fp v n)) dm 1/\H r w' ((af bb [.slice (aB bH) (List.length (bits++fp v n)) c'] 159)::(bH,C (List.map bl (bits++fp v n)++dm) 4)::L):=by
 refine mW Tryz.func69 Tryz.ntmps69 [] ?_;refine V 6 ?_;refine bQ (σ:=Nat×Option Nat×Nat×List Value) [(6,6),(8,25)] (λ⟨j,bI,c1,bJ⟩ ρ w=>Kn ρ [(8,R j)]/\H r w ((af bb [.slice (aB bI) (List.length (bits++(fp v n).take (j))) c1] 159)::(bI,C (List.map bl (bits++(fp v n).take (j))++bJ) 4)::L)/\(j<=n)/\(bG bI (List.length (bits++(fp v n).take (j))) c1 (List.map bl (bits++(fp v n).take (j))) bJ 1)) (λ⟨j,bI,c1,bJ⟩=>n-j) (0,ob,c,sp) ⟨aq,(by simpa using h),I,(by simpa using hk)⟩ ?_;rintro⟨j,bI,c1,bJ⟩ ρ w ⟨⟨I5,rfl⟩,h,hj,eF⟩;have Kk:((fp v n).take j).length=j:=(by rw[gk,xm];omega);refine V 5 ?_;refine an J ?_ ?_<;>intro fG
 refine V 8 ?_;refine bL h [0,4,8,12,20,24,28,32,36,17,42,47,48,52,59] ?_;intro w h;refine av 7 ?_;refine aw J (bZ (jO (n:=1) J J (aI (j6 _ _) az) aj) (show v/2^(j) % 2^1=v/2^(j) % 2 from J)) ?_;refine av 2 ?_;refine ka J J (adT _) h ?_;intro bz w h;refine mV (List.map bl (bits++(fp v n).take (j))) bJ [bl (decide (v/2^(j) % 2=1))] J h 2 J J J eF (Src.slice (j:=0) (q2:=0) J ⟨J,trivial⟩ J) (by intro x hx;simp at hx;subst hx;rfl) (by rw[aF,Kk];omega) aj J ?_;intro w cr c2 cG h dE hJ kZ;dsimp only[List.set]at h;have eb:List.map bl (bits++(fp v n).take (j))++[bl (decide (v/2^(j) % 2=1))]=List.map bl (bits++(fp v n).take (j+1)):=(by rw[akH I,f_,f_,f_,cF];rfl);rw[eb]at h dE;have el:(List.length (bits++(fp v n).take (j)))+1=List.length (bits++(fp v n).take (j+1)):=(by rw[akH I];simp only[aF,ek,fE];omega);have cK:bG cr (List.length (bits++(fp v n).take (j+1))) c2 (List.map bl (bits++(fp v n).take (j+1))) cG 1:=⟨by rw[bX,eC],dE,by rw[<-el];exact hJ,kZ⟩;replace h:=h.tail;refine av 2 ?_;refine v_ (v:= .slice (aB cr) (List.length (bits++(fp v n).take (j+1))) c2) J h J J (gi J el) J J ?_;intro w h;dsimp only[List.set]at h;refine cm ?_;refine V 4 ?_;exact⟨aH 20,(j+1,cr,c2,cG),cw,aq,h,I,cK⟩
 refine iy ?_;have ej:j=n:=I;rw[ej,jf (by rw[xm];exact aR _)]at h eF;exact⟨bI,c1,bJ,J,eF,h⟩
theorem aBp(n:Nat):cu 0 n=List.replicate n 0:=by
 apply oF;intro i;by_cases h:i<n
 simp[cu,h]
 rw[gP (by rw[eP];omega),gP (by simp;omega)]
theorem akI(n:Nat):dj [Value.int .u8 ((0:Nat):Int)] n=List.map u8 (cu 0 n):=by
 rw[CT,aBp,vX];rfl
theorem Hq{n:Nat}:2^(n % 8)<=128:=aI (dp aj (I:n % 8<=7)) aj
theorem aBq{x:UInt8}{n:Nat}:x.toNat|||1*2^(n % 8)<256:=by
 have W:=x.toNat_lt;have h2:= @Hq n;exact Nat.or_lt_two_pow (n:=8) W I
theorem abi{N m:Nat}(hk:k/8<m)(h0:N/2^k % 2=0):(List.map u8 (cu N m)).set (k/8) (.int .u8 ((((cu N m).getD (k/8) 0).toNat|||1*2^(k % 8):Nat):Int))=List.map u8 (cu (N+2^k) m):=by
 have e:Value.int .u8 ((((cu N m).getD (k/8) 0).toNat|||1*2^(k % 8):Nat):Int)=u8 (UInt8.ofNat (((cu N m).getD (k/8) 0).toNat|||2^(k % 8))):=(by have:= @aBq ((cu N m).getD (k/8) 0) k;rw[rz]at this ⊢;rw[xp];exact int_eq (b8 Int.ofNat (mw this).symm));rw[e,<-aBo hk h0,jM]
def s7(bits:List Bool)(i:Nat):Nat:=2^bits.length+rk (bits.take i)*2^(bits.length-i)
theorem aBr(bits:List Bool):s7 bits 0=2^bits.length:=by simp[s7,rk]
theorem aBs(bits:List Bool):s7 bits bits.length=2^bits.length+rk bits:=by simp[s7]
theorem aBt(h:i<bits.length):s7 bits i/2^(bits.length-1-i) % 2=0:=by
 unfold s7;have e1:2^(bits.length-i)=2^(bits.length-1-i)*2:=(by rw[<-jT];congr 1;omega);have e2:2^bits.length=2^(bits.length-1-i)*(2^i*2):=(by rw[<-jT,<-ks];congr 1;omega);rw[e1,e2,iu (rk _),tg,<-KT,Nat.mul_div_cancel_left _ (ep _)];omega
theorem aBu(h:i<bits.length)(hb:bits.getD i false=true):s7 bits i+2^(bits.length-1-i)=s7 bits (i+1):=by
 unfold s7;rw[oK _ false i h,hb,akF];have e1:2^(bits.length-i)=2*2^(bits.length-1-i):=(by rw[<-EZ];congr 1;omega);rw[show bits.length- (i+1)=bits.length-1-i by omega,e1];simp only[Bool.toNat_true,qH,rz];rw[<-tg,iu (rk _) 2];omega
theorem aBv(h:i<bits.length)(hb:bits.getD i false=false):s7 bits i=s7 bits (i+1):=by
 unfold s7;rw[oK _ false i h,hb,akF];have e1:2^(bits.length-i)=2*2^(bits.length-1-i):=(by rw[<-EZ];congr 1;omega);rw[show bits.length- (i+1)=bits.length-1-i by omega,e1];simp only[Bool.toNat_false,kU];rw[<-tg,iu (rk _) 2]
theorem Hr{size:Nat}{xs:List Value}(h:bG ob n c xs sp size)(hn:0<n): ∃b,ob=some b:=by
 cases ob with
 |none=>have W:=h.2.2.2 J;have h2:=h.2.2.1;omega
 |some b=>exact⟨b,J⟩
theorem akJ(h:i<bits.length):(List.map bl bits++sp)[i]? =some (bl (bits.getD i false)):=by
 rw[ir (by rw[bX];exact h)];simp[h]
theorem abj(h:H r w ((af bb [.slice (aB ob) (List.length (bits)) c] 120)::(ob,C (List.map bl (bits)++sp) 4)::L))(hk:bG ob (List.length (bits)) c (List.map bl (bits)) sp 1)(hl:bits.length<=1099511627776):Calls PP 44 #[aW bb] w λe w'=> ∃bd,e= .returned (cf bd (qD bits).length (qD bits).length)/\H r w' (EB (some bd) (qD bits) []::L):=by
 refine gD Tryz.func44 Tryz.ntmps44 [2] ?_;refine V 16 ?_;refine ah (mT (b:=8) (h2:=ao.lit _) J J aj az) ?_;refine V 1 ?_;refine tu h J J J I I I J ?_;intro bd w h;rw[akI]at h;refine V 3 ?_;refine bL h [0,4,8,12,20,24,28,17,32,36,43] ?_;intro w h;replace h:=h.zz [2,2,2] 0;refine av 2 ?_;refine aw J (mT (b:=8) (h2:=ao.lit _) J J aj az) ?_;refine av 2 ?_;refine aw J (AK (b:=8) (h2:=ao.lit _) J J aj) ?_;refine aw J (dN (a:=1) (W:=ao.lit _) J J dw (by rw[rz];exact aI Hq aj)) ?_;refine aK J h J (gl (by rw[eP];omega)) ?_;refine aw J (eI J J (dz _ aj) (by rw[rz];exact aI Hq aj)) ?_;refine av 1 ?_;refine v_ (v:=gR (((cu (0) (bits.length/8+1)).getD ((bits.length)/8) 0).toNat|||1*2^((bits.length) % 8))) J h J (gl (by rw[eP];omega)) J J J ?_;intro w h;dsimp only[List.set]at h;rw[abi I (by rw[Nat.zero_div]),im]at h;refine cm ?_;refine V 11 ?_;refine bQ (σ:=Nat) [(5,7),(32,52)] (λi ρ w=>Kn ρ [(32,R i)]/\H r w ((af bd (List.map u8 (cu (s7 bits i) (bits.length/8+1))) 5)::(af bb [.slice (aB ob) (List.length (bits)) c] 120)::(ob,C (List.map bl (bits)++sp) 4)::L)/\(i<=bits.length)) (λi=>bits.length-i) (0) ⟨aq,(by rw[aBr];exact h),I⟩ ?_;rintro i ρ w ⟨⟨Mo,rfl⟩,h,hi⟩;refine V 5 ?_;refine an J ?_ ?_<;>intro Bd
 refine(Hr hk I).elim λb0 e0=>?_;subst e0;refine aQ (a9 (jB [(5,7),(34,51)] (λρ w=>Kn ρ []/\H r w ((af bd (List.map u8 (cu (s7 bits (i+1)) (bits.length/8+1))) 5)::(af bb [.slice (aB (some b0)) (List.length (bits)) c] 120)::((some b0),C (List.map bl (bits)++sp) 4)::L)) ?_ ?_))
 refine V 4 ?_;refine aO h J (akJ I) ?_;refine V 15 ?_;refine eA J ?_ ?_<;>intro Rl
 refine bL h [0,4,8,12,20,24,28,17,32,36,43] ?_;intro w h;refine av 2 ?_;refine aw J (mT (b:=8) (h2:=ao.lit _) J J aj az) ?_;refine av 2 ?_;refine aw J (AK (b:=8) (h2:=ao.lit _) J J aj) ?_;refine aw J (dN (a:=1) (W:=ao.lit _) J J dw (by rw[rz];exact aI Hq aj)) ?_;refine aK J h J (gl (by rw[eP];omega)) ?_;refine aw J (eI J J (dz _ aj) (by rw[rz];exact aI Hq aj)) ?_;refine av 1 ?_;refine v_ (v:=gR (((cu (s7 bits i) (bits.length/8+1)).getD ((bits.length-1-i)/8) 0).toNat|||1*2^((bits.length-1-i) % 8))) J h J (gl (by rw[eP];omega)) J J J ?_;intro w h;dsimp only[List.set]at h;rw[abi I (aBt I),aBu I Rl]at h;exact cm ⟨aH 22,aq,h⟩
 refine aQ (⟨aH 11,?_⟩);rw[aBv I Rl]at h;exact⟨aq,h⟩
 rintro ρ w ⟨⟨Q6,rfl⟩,h⟩;refine V 4 ?_;exact⟨aH 4,i+1,cw,aq,h,I⟩
 refine V 7 ?_;have ei:i=bits.length:=I;rw[ei,aBs]at h;refine⟨bd,b8 Ending.returned (iJ J (NY _).symm (NY _).symm),?_⟩;have e:List.map u8 (cu (2^bits.length+rk bits) (bits.length/8+1))=List.map u8 (qD bits++[]):=(by rw[dP];rfl);rw[e]at h;exact(((h.mv 1).tail).mv 1).tail
variable {to:Int}{cs:List de}{F:List aD}{S:List Nat}{Y:List Value}{sym:Nat}{ad:Option Addr}{p:Prop}
def s8(c:de)(to:Int):Prop:=(c.base:Int)<=to/\to<((c.base+2^c.bits:Nat):Int)
def Au(cs:List de)(sym:Nat)(to:Int)(n:Nat)(k:Int):Prop:=
 (k= -1/\ ∀i,i<n->(cs.getD i default).sym=sym->0<=to/\ ¬s8 (cs.getD i default) to)\/(∃i:Nat,k=(i:Int)/\i<n/\(cs.getD i default).sym=sym/\(0<=to->s8 (cs.getD i default) to)/\(to<0-> ∀j,j<n->(cs.getD j default).sym=sym->(cs.getD j default).bits<=(cs.getD i default).bits))
theorem aBw{k:Int}(hb:Au cs sym to n k)(hs:(cs.getD n default).sym=sym)(h:0<=to->s8 (cs.getD n default) to)(h2:to<0->k<0\/(cs.getD k.toNat default).bits<(cs.getD n default).bits):Au cs sym to (n+1) (n:Int):=
 Or.inr ⟨n,J,E7 _,hs,h,λht j hj zg=>by
   rcases dh j n with h'|h'
   . rcases hb with⟨W,h3⟩| ⟨i,W,h3,h4,h5,h6⟩
     . have:=(h3 j h' zg).1;omega
     . have h7:=h6 ht j h' zg
       rcases h2 ht with h8|h8
       . omega
       . rw[W,VI]at h8;omega
   . have:j=n:=I
     subst this;exact aR _⟩
theorem akK{k:Int}(hb:Au cs sym to n k)(h:(cs.getD n default).sym=sym->(0<=to/\ ¬s8 (cs.getD n default) to)\/(to<0/\0<=k/\(cs.getD n default).bits<=(cs.getD k.toNat default).bits)):Au cs sym to (n+1) k:=by
 rcases hb with⟨W,h2⟩| ⟨i,W,h2,h3,h4,h5⟩
 refine Or.inl ⟨W,λi hi hs=>?_⟩;rcases dh i n with h'|h'
 exact h2 i h' hs
 have:i=n:=I;subst this;rcases h hs with h5|h5
 exact h5
 omega
 refine Or.inr ⟨i,W,I,h3,h4,λht j hj zg=>?_⟩;rcases dh j n with h'|h'
 exact h5 ht j h' zg
 have:j=n:=I;subst this;rcases h zg with h6|h6
 omega
 rw[W,VI]at h6;exact h6.2.2
theorem akL{k:Int}(hb:Au cs sym to n k)(h: ¬k<0):k.toNat<n:=by
 rcases hb with⟨W,h2⟩| ⟨i,W,h2,h3,h4,_⟩
 omega
 omega
theorem abk(h:p:=by refine V 4 ?_;replace h:=h.tail;(try dsimp only[dB]at h);exact⟨aM,(i:Int),Kn.mk ⟨J,trivial⟩,h,aBw hb (nj.1 oR) (λh0=>by unfold s8;rw[hp];first|omega|exact absurd h0 I) (λh0=>by first| (left;omega)| (right;omega))⟩):p:=h
theorem abl(h:p:=by replace h:=h.tail;(try dsimp only[dB]at h);exact⟨aM,k,Kn.mk ⟨J,trivial⟩,h,akK hb (λhs=>by unfold s8;rw[hp];first|exact absurd hs oR| (left;omega)| (right;omega))⟩):p:=h
theorem akM(h:p:=by refine rj J J J J J (rj J J J J J (rj J J J J J (rj J J J J J (rj J J J J J (rj J J J J J (rj J J J J J (rj J J J J J ?_)))))));refine av 3 ?_;refine iI J ?_;exact abk):p:=h
theorem akN(h:p:=by refine av 8 ?_;refine cZ J J J J (λw=>uW J) J ?_;refine av 2 ?_;refine fV J (aQ ?_);exact abl):p:=h
theorem abm{cb cc lg:Nat}(h:H r w F)(hm:(af cb (fQ cs) 126)∈F)(jv:cs.length<=65536)(zy: ∀i,i<cs.length->(cs.getD i default).bits<=9/\(cs.getD i default).base<=65536)(ht: -1<=to/\to<=4294967296):Calls PP 42 #[.agg #[cf cb cs.length cc,R lg],R sym,.int .i64 to] w λe w'=> ∃k,e= .returned (.int .i64 k)/\Au cs sym to cs.length k/\H r w' F:=by
 refine fx hm λic hic=>(mW Tryz.func42 Tryz.ntmps42 [6] ?_);refine a9 (eS (sB h J J J ?_));intro bx w h;refine V 15 ?_;refine bQ (σ:=Nat×Int) [(7,9),(13,56)] (λ⟨i,k⟩ ρ w=>Kn ρ [(13,R i),(7,.int .i64 k)]/\H r w ((af bx [cf cb cs.length cc,R lg] 124)::F)/\(i<=cs.length)/\(Au cs sym to i k)) (λ⟨i,k⟩=>cs.length-i) (0,-1) ⟨(Kn.mk ⟨J,J,trivial⟩),h,I,(Or.inl ⟨J,λi hi=>absurd hi (nP _)⟩)⟩ ?_;rintro⟨i,k⟩ ρ w ⟨⟨SD,rfl⟩,h,hi,hb⟩;refine V 5 ?_;refine an J ?_ ?_<;>intro FG
 have Et:=zy i I;refine cg (2^(cs.getD i default).bits) λp hp=>?_;have LS:p<=512:=(by rw[<-hp];exact aI (dp aj Et.1) aj);refine aQ (a9 (jB [(7,9),(15,55)] (λρ w=> ∃k2:Int,Kn ρ [(7,.int .i64 k2)]/\H r w ((af bx [cf cb cs.length cc,R lg] 124)::F)/\(Au cs sym to (i+1) k2)) ?_ ?_))
 refine V 3 ?_;refine ah (ky J J J I) (ah (iK (u9 (cs.getD i default)) h J (PY I) J) (eh h J ?_));intro bq w h;refine dI (b7 ?_);intro w h;refine V 9 ?_;refine an J ?_ ?_<;>intro oR
 refine iy ?_;replace h:=h.tail;(try dsimp only[dB]at h);exact⟨aH 10,k,Kn.mk ⟨J,trivial⟩,h,akK hb (λhs=>by unfold s8;rw[hp];first|exact absurd hs oR| (left;omega)| (right;omega))⟩
 refine aQ (a9 (bL h [0,4,8,12,16,20,24,32,40,29,37,44,48,53,56,60,64,68,72,76,81,84,88,92,96,104,101,109,112,116,120,124,128] ?_));intro w h;refine kA J (aw J (qL (v:=0) J J) (kA J (AN (t:=24) J (λaBx=>?_) (λaBx=>?_))))
 refine cZ J J J J (λw=>run_move) J (cZ J J J J (λw=>qL (v:=0) J J) J (cZ J J J J (λw=>run_move) J (AN (t:=27) J (λye=>?_) (λye=>?_))))
 refine av 9 ?_;refine cZ J J J J (λw=>sw J) J ?_;refine av 7 ?_;exact akM
 refine cZ J J J J (λw=>nS J) J (cZ J J J J (λw=>nS J) J (cZ J J J J (λw=>run_move) J (oZ J J J J (λw hk=>run_load (h.keeps hk) J J) J (oZ J J J J (λw hk=>run_load (h.keeps hk) J J) J (cZ J J J J (λw=>ky (a:=k.toNat) (W:=⟨I⟩) J J J (by have:=akL hb ye;omega)) J ?_)))));refine cZ J J J J (λw=>nS J) J (oZ J J J J (λw hk=>run_load (h.keeps hk) J (PZ (j:=1) (by have:=akL hb ye;omega) aj)) J ?_);refine cZ J J J J (λw=>La J J) J (cZ J J J J (λw=>uW J) J ?_);refine av 2 ?_;refine AN (t:=39) J (λaBy=>?_) (λaBy=>?_)
 refine av 5 ?_;exact akM
 refine cZ J J J J (λw=>run_move) J (cZ J J J J (λw=>nS J) J (oZ J J J J (λw hk=>run_load (h.keeps hk) J J) J (cZ J J J J (λw=>zf J J) J (cZ J J J J (λw=>run_move) J (AN (t:=44) J (λFt=>?_) (λFt=>?_))))))
 refine cZ J J J J (λw=>run_move) J (cZ J J J J (λw=>nS J) J (cZ J J J J (λw=>nS J) J (oZ J J J J (λw hk=>run_load (h.keeps hk) J J) J (oZ J J J J (λw hk=>run_load (h.keeps hk) J J) J (cZ J J J J (λw=>bZ (gn J J dw (by rw[hp];simp only[aG];omega)) hp) J ?_)))));refine cZ J J J J (λw=>d_ J J az) J (cZ J J J J (λw=>qL J J) J (cZ J J J J (λw=>sw J) J ?_));refine av 2 ?_;refine an J ?_ ?_<;>intro GI
 exact abk
 refine aQ ?_;exact abl
 exact akN
 refine av 3 ?_;refine rj J J J J J (rj J J J J J (rj J J J J J (rj J J J J J (rj J J J J J (rj J J J J J (rj J J J J J (rj J J J J J (rj J J J J J ?_))))))));refine av 3 ?_;refine cZ J J J J (λw=>run_move) J (cZ J J J J (λw=>nS J) J (oZ J J J J (λw hk=>run_load (h.keeps hk) J J) J (cZ J J J J (λw=>zf J J) J (cZ J J J J (λw=>run_move) J (AN (t:=44) J (λFt=>?_) (λFt=>?_))))))
 refine cZ J J J J (λw=>run_move) J (cZ J J J J (λw=>nS J) J (cZ J J J J (λw=>nS J) J (oZ J J J J (λw hk=>run_load (h.keeps hk) J J) J (oZ J J J J (λw hk=>run_load (h.keeps hk) J J) J (cZ J J J J (λw=>bZ (gn J J dw (by rw[hp];simp only[aG];omega)) hp) J ?_)))));refine cZ J J J J (λw=>d_ J J az) J (cZ J J J J (λw=>qL J J) J (cZ J J J J (λw=>sw J) J ?_));refine av 2 ?_;refine an J ?_ ?_<;>intro GI
 exact abk
 refine aQ ?_;exact abl
 exact akN
 rintro ρ w ⟨k2,⟨aat,rfl⟩,h,fh⟩;refine V 4 ?_;exact⟨aH 4,(i+1,k2),cw,Kn.mk ⟨J,J,trivial⟩,h,I,fh⟩
 refine V 7 ?_;obtain rfl:i=cs.length:=I;exact⟨k,J,hb,h.tail⟩
theorem aBz(hk:k<=2):(cj k).1<=52/\(cj k).2<=9:=by
 rcases(I:k=0\/k=1\/k=2)with rfl|rfl|rfl<;>decide
theorem aBA{a a' b b' c c':Value}(W:a=a')(h2:b=b')(h3:c=c'):Value.tuple #[a,b,c]= .tuple #[a',b',c']:=by rw[W,h2,h3]
theorem aBB(h0:1<=c)(h:c<=(cj k).1+1):k=1->c-1<=31:=λe=>by subst e;have:(cj 1).1=31:=rfl;omega
theorem aBC(h0:1<=c)(h:c<=(cj k).1+1):k=0->c-1<=35:=λe=>by subst e;have:(cj 0).1=35:=rfl;omega
theorem aBD(h0:1<=c)(h:c<=(cj k).1+1):k=2->c-1<=52:=λe=>by subst e;have:(cj 2).1=52:=rfl;omega
theorem aBE{kind:Nat}(h:H r w F)(hk:kind<=2)(hn:(codeF kind 0).1<=n)(fW:n<=1099511627776):Calls PP 40 #[R kind,R n] w λe w'=> ∃c,e= .returned (.tuple #[R c,R (n- (codeF kind c).1),R (codeF kind c).2])/\c<=(cj kind).1/\(codeF kind c).1<=n/\(c<(cj kind).1->n<(codeF kind (c+1)).1)/\H r w' F:=by
 have oP:=aBz hk;refine gS Tryz.func40 Tryz.ntmps40 [4,5,6] ?_;refine V 9 ?_;refine dJ J J (aA (PV hk) ?_);rintro e w1 ⟨rfl,rfl⟩;refine V 13 ?_;refine bQ (σ:=Nat) [(4,6),(9,11),(18,35)] (λc1 ρ w=>Kn ρ [(9,.int .i64 (((c1:Nat):Int) -1))]/\H r w (F)/\(c1<=(cj kind).1+1)/\(c1<=(cj kind).1->n<(codeF kind c1).1)) (λc1=>c1) ((cj kind).1+1) ⟨(Kn.mk ⟨(int_eq I),trivial⟩),h,(aR _),(λe=>absurd e I)⟩ ?_;rintro c1 ρ w ⟨⟨aBF,rfl⟩,h,mX,cP⟩;refine V 4 ?_;refine ah (zf (v:=0) J J) (aC (an J ?_ ?_))<;>intro L7
 refine V 7 ?_;refine b_ (v0:=R kind) (v1:=R (c1-1)) J (int_eq I) J (aA (aen h hk (aBB I mX) (aBC I mX) (aBD I mX)) ?_);rintro e w1 ⟨rfl,h⟩;refine V 12 ?_;refine an J ?_ ?_<;>intro Bg
 refine V 5 ?_;refine ah (iz J J Bg az) ?_;refine V 6 ?_;exact⟨c1-1,b8 Ending.returned (aBA (int_eq I) J J),I,Bg,λe=>by have:=cP I;rw[show c1-1+1=c1 by omega];exact this,h⟩
 refine V 3 ?_;exact ah (oH (v:=1) J J I I) (dI (aC ⟨aH 16,c1-1,cw,Kn.mk ⟨(int_eq I),trivial⟩,h,I,(λ_=>Nat.not_le.1 Bg)⟩))
 refine V 8 ?_;exfalso;obtain rfl:c1=0:=I;exact absurd (cP (bP _)) (CH.2 hn)
def gO(F:List aD)(v:Value)(Y:List Value):Prop:= ∃ad n c,v= .slice ad n c/\n=Y.length/\n<=c/\(0<n-> ∃b q l T,ad=some ⟨b,q,none⟩/\(some b,C l T)∈F/\Rd l q Y)
theorem gO.sub{F':List aD}{v:Value}(h:gO F v Y)(hs:Sub F F'):gO F' v Y:=by
 obtain⟨ad,n,c,W,h2,h3,h4⟩:=h;refine⟨ad,n,c,W,h2,h3,λh0=>?_⟩;obtain⟨b,q,l,T,e1,e2,e3⟩:=h4 h0;exact⟨b,q,l,T,e1,hs _ e2,e3⟩
theorem gO.len(h:gO F (.slice ad n c) Y):n=Y.length/\n<=c:=by
 obtain⟨_,_,_,e,W,h2,_⟩:=h;cases e;exact⟨W,h2⟩
theorem gO.eH(h:gO F (.slice ad n c) Y)(h0:0<Y.length): ∃b q l T,ad=some ⟨b,q,none⟩/\(af b l T)∈F/\Rd l q Y:=by
 obtain⟨_,_,_,e,W,h2,h3⟩:=h;cases e;exact h3 I
theorem gO.own{T:TT}(h:bG ob Y.length c Y sp 1):gO ((ob,C (Y++sp) T)::F) (.slice (aB ob) Y.length c) Y:=by
 refine⟨aB ob,_,c,J,J,h.2.2.1,λh0=>?_⟩;obtain⟨b,rfl⟩:=Hr h h0;exact⟨b,0,_,_,J,e_ ..,Rd.left _ _⟩
theorem nd{l:List Value}{q:Nat}(h:Rd l q (S.map R))(hi:i<S.length):l[q+i]? =some (R (S.getD i 0)):=by
 rw[h.get i (by rw[bX];exact hi)];exact jC hi
def akO(t:Tb):Prop:=t.cells.length<=65536/\ ∀i,i<t.cells.length->(t.cells.getD i default).bits<=9/\(t.cells.getD i default).base<=65536
def Av(t:Tb)(s:Nat):Prop:= ∃i,i<t.cells.length/\(t.cells.getD i default).sym=s
theorem aBG{k:Int}(hb:Au cs sym (-1) cs.length k)(h: ¬k<0): ∃i,i<cs.length/\(cs.getD i default).sym=sym:=by
 rcases hb with⟨W,_⟩| ⟨i,W,h2,h3,_,_⟩
 omega
 exact⟨i,h2,h3⟩
theorem aBH{v:Value}(h:H r w F):Calls PP 55 #[.pointer none,v] w λe w'=>e= .returned (.bool false)/\H r w' F:=by
 refine gS Tryz.func55 Tryz.ntmps55 [4] ?_;refine V 8 ?_;refine ah (W_ J J) (aC (iI J ?_));refine V 5 ?_;exact⟨J,h⟩
theorem akP{p:Value}{t:Tb}(h:H r w F)(ht:lI F p t)(hb:akO t)(hS:gO F (.slice ad n c) (S.map R))(hn:n<=1099511627776):Calls PP 55 #[p,.slice ad n c] w λe w'=> ∃b,e= .returned (.bool b)/\(b=true-> ∀s,s∈S->Av t s)/\H r w' F:=by
 obtain⟨tb,cb,rfl,jE,kE⟩:=ht;obtain⟨i1,n7⟩:=cX jE;have uz:=hS.len;rw[bX]at uz;refine gS Tryz.func55 Tryz.ntmps55 [4] ?_;refine V 8 ?_;refine ah (W_ J J) (aC (fV J ?_));refine V 9 ?_;refine bQ (σ:=Nat) [(4,4),(6,6),(11,21)] (λi ρ w=>Kn ρ [(11,R i)]/\H r w (F)/\(i<=n)/\(∀j,j<i->Av t (S.getD j 0))) (λi=>n-i) (0) ⟨aq,h,I,(λj hj=>absurd hj (nP _))⟩ ?_;rintro i ρ w ⟨⟨aBI,rfl⟩,h,hi,jr⟩;refine V 5 ?_;refine an J ?_ ?_<;>intro zS
 refine kC (hS.eH (show 0<(S.map R).length by rw[bX];omega)) λpb pq lp Tp q1=>?_;refine fx q1.2.1 λip qC=>?_;refine V 5 ?_;refine ah (cI J J q1.1 I) (aO h J (nd q1.2.2 I) ?_);refine V 6 ?_;refine ah (iK [_,_] h J ⟨J,J,trivial⟩ J) (cM (ee J J J J (aA (abm (to:= -1) h kE hb.1 hb.2 aj) ?_)));rintro e w1 ⟨k,rfl,eM,h⟩;refine ah (qL (v:=0) J J) (aC (an J ?_ ?_))<;>intro F6
 refine V 5 ?_;exact⟨false,J,(λe=>by cases e),h⟩
 refine V 5 ?_;exact⟨aH 12,i+1,cw,aq,h,I,(λj hj=>by rcases vY.1 hj with hh|rfl;exact jr j hh;exact aBG eM F6)⟩
 refine V 6 ?_;exact⟨true,J,(λ_ s hs=>by obtain⟨j,hj,rfl⟩:=CD hs;have:=jr j I;rw[bS,gv hj]at this;exact this),h⟩
structure Wr where
 cb:Nat
 ta:Option Addr
 tn:Nat
 tc:Nat
 at_:Nat
 cJ:Nat
 la:Option Addr
 ln:Nat
 lc:Nat
 p0:Value
 p1:Value
 p2:Value
 a:Nat
 b:Nat
 c:Nat
 mb:Nat
 seen:Nat
def aT(x:Wr):List Value:=[.pointer (some ⟨x.cb,0,none⟩),.slice x.ta x.tn x.tc,R x.at_,R x.cJ,.slice x.la x.ln x.lc,x.p0,x.p1,x.p2,R x.a,R x.b,R x.c,.map (some x.mb),R x.seen]
def WOf(x:Wr)(a b c:Nat):Wr:={x with a:=a,b:=b,c:=c}
section
variable {x:Wr}{n a b c:Nat}{v:Value}{ad:Option Addr}
theorem akQ:(((aT x).set 8 (R a)).set 9 (R b)).set 10 (R c)=aT (WOf x a b c):=rfl
end
theorem aBJ{wb bR:Nat}{none:Bool}{x:Wr}{nn nc at_:Nat}{na:Option Addr}{N:List Int}(h:H r w ((af wb (aT x) 49)::(some x.cb,C [.slice na nn nc,R at_] 38)::L))(hN:nG L (.slice na nn nc) N)(jg:at_<=2305843009213693952)(hf:1<=bR)(yB:bR<=1099511627776)(ha:1<=x.a)(A6:x.a<=1099511627776):Calls PP 27 #[.pointer (some ⟨wb,0,Option.none⟩),R bR,.bool none] w λe w'=> ∃v at' b' c',e= .returned (R v)/\1<=v/\v<=bR+3/\qW v none x.a x.b x.c=(bR,b',c')/\at'<=at_+3/\H r w' ((af wb (aT (WOf x bR b' c')) 49)::(some x.cb,C [.slice na nn nc,R at'] 38)::L):=by
 refine mW Tryz.func27 Tryz.ntmps27 [6] ?_;refine V 10 ?_;refine bQ (σ:=Nat×Nat) [(6,36)] (λ⟨v,gF⟩ ρ w=>Kn ρ [(7,R v)]/\H r w ((af wb (aT x) 49)::(some x.cb,C [.slice na nn nc,R gF] 38)::L)/\(1<=v)/\(v<=4)/\(gF+1<=at_+v)) (λ⟨v,gF⟩=>4-v) (1,at_) ⟨aq,h,I,I,I⟩ ?_;rintro⟨v,gF⟩ ρ w ⟨⟨aBK,rfl⟩,h,hv,hv4,abn⟩;refine V 6 ?_;refine an J ?_ ?_<;>intro sF
 refine aQ (a9 (jB [(6,6),(8,8),(13,36)] (λρ w=> ∃dX:Nat,Kn ρ []/\H r w ((af wb (aT x) 49)::(some x.cb,C [.slice na nn nc,R dX] 38)::L)/\(dX+1<=at_+(v+1))) ?_ ?_))
 refine V 5 ?_;refine ah (iK [_,_,_] h J ⟨J,J,J,trivial⟩ J) (ah (Fe (apa _ _ _) J) (eh h J ?_));intro bs w h;refine b7 ?_;intro w h;refine V 5 ?_;refine ee J J J J (aA (aep h hv I ha A6) ?_);rintro e w1 ⟨a',b',c',nZ,rfl,h⟩;refine V 3 ?_;refine d' (t:=23) J (λabo=>?_) (λabo=>?_)
 refine V 4 ?_;replace h:=h.zz [1,1,2] 0;refine yT (v1:=R 8) J J J J J J (aA (kI (n:=8) (at_:=gF) h (hN.sub aJ) I aj) ?_);rintro e w1 ⟨ov,dX,rfl,me,yV,h⟩;refine V 3 ?_;refine an J ?_ ?_<;>intro Bg
 refine V 4 ?_;refine ah (iK [_,_,_] h J ⟨J,J,J,trivial⟩ J) ?_;refine V 2 ?_;refine qP h J J J J (ff J) J ?_;intro w h;(try dsimp only[cT,List.set]at h);rw[akQ]at h;refine V 7 ?_;replace h:=h.zz [2,2] 1;exact⟨v,dX,b',c',J,hv,I,by rw[nZ,<-abo],I,abo▸h⟩
 refine aQ ?_;replace h:=h.zz [2,2] 1;exact⟨aM,dX,aq,h,I⟩
 refine V 8 ?_;refine fV J (aQ ?_);replace h:=h.tail;(try dsimp only[dB]at h);exact⟨aM,gF,aq,h,I⟩
 rintro ρ w ⟨dX,⟨aBL,rfl⟩,h,sT⟩;refine V 5 ?_;exact⟨aH 6,(v+1,dX),cw,aq,h,I,I,I⟩
 refine iy (a9 (bL h [0,4,8,12,16,20,28,32,36,40,25,45,48,52,56,63] ?_));intro w h;refine av 12 ?_;refine aw J (wg (Lp _ _ _) J J J) ?_;refine av 2 ?_;refine Lo J h J J J J (ff J) J ?_;intro w h;(try dsimp only[cT,List.set]at h);rw[akQ]at h;refine cm ?_;refine V 7 ?_;exact⟨bR+3,gF,x.a,x.b,J,I,aR _,by unfold qW;rw[ai I];rfl,I,h⟩
end Go.Z
namespace Go.Z
variable {l:List Int}{f i:Nat}
def yW(n:Nat):Nat:=n.log2+1
def nf(left v:Nat):List Bool:=
 if v<2^yW (left+1) -1- (left+1)then fp v (yW (left+1) -1)
 else if v<2^(yW (left+1) -1)then fp v (yW (left+1))
 else fp (v+(2^yW (left+1) -1- (left+1))) (yW (left+1))
def r8:Nat->Nat->List Bool
 |0,_=> []
 |f+1,z=>if 3<=z then fp 3 2++r8 f (z-3)else fp z 2
def rl:List Int->Nat
 | []=>0
 |p::l=>if p=0 then rl l+1 else 0
theorem akR: ∀(l:List Int) (z:Nat),(∀j,j<z->l.getD j 1=0)->(l.length<=z\/l.getD z 1≠0)->z<=l.length->rl l=z
 | [],z,_,_,h3=>by simp at h3;subst h3;rfl
 | p::l,0,_,h2,_=>by
  unfold rl;rcases h2 with h2|h2
  simp at h2
  rw[ag (by simpa using h2)]
 |p::l,z+1,W,h2,h3=>by unfold rl;have h0:=W 0 (H6 _);rw[ai (by simpa using h0),akR l z (λj hj=>by have:=W (j+1) I;simpa using this) (h2.imp (λh=>by simpa using h) (λh=>by simpa using h)) (by simpa using h3)]
def fY(p:Int):Nat:=if p= -1 then 1 else p.toNat
def Aw:Nat->Nat->List Int->List Bool
 |0,_,_=> []
 |_+1,_,[]=> []
 |f+1,left,p::l=>nf left (p+1).toNat++(if p=0 then r8 l.length (rl l)++Aw f left (l.drop (rl l))else Aw f (left-fY p) l)
theorem abp: ∀(f g left:Nat) (l:List Int),l.length<=f->l.length<=g->Aw f left l=Aw g left l
 |0,0,_,_,_,_=>rfl
 |0,g+1,left,l,h,_=>by have:l=[]:=kq.1 I;subst this;rfl
 |f+1,0,left,l,_,h=>by have:l=[]:=kq.1 I;subst this;rfl
 |f+1,g+1,left,[],_,_=>rfl
 |f+1,g+1,left,p::l,W,h2=>by simp only[ek]at W h2;unfold Aw;rw[abp f g left (l.drop (rl l)) (by rw[bV];omega) (by rw[bV];omega),abp f g (left-fY p) l I I]
def mM(left:Nat)(l:List Int):List Bool:=Aw l.length left l
theorem aBM{left:Nat}{p:Int}(h:p≠0):mM left (p::l)=nf left (p+1).toNat++mM (left-fY p) l:=by
 unfold mM;simp only[ek];(conv=>lhs;unfold Aw);rw[ag h]
theorem aBN{left:Nat}:mM left (0::l)=nf left 1++(r8 l.length (rl l)++mM left (l.drop (rl l))):=by
 unfold mM;simp only[ek];(conv=>lhs;unfold Aw);rw[ai J];have e:=abp l.length (l.drop (rl l)).length left (l.drop (rl l)) (by rw[bV];omega) (aR _);rw[e];rfl
theorem drop_cons(h:i<l.length):l.drop i=l.getD i 0::l.drop (i+1):=by
 rw[List.drop_eq_getElem_cons h];simp[h]
theorem aBO{z:Nat}(h:3<=z)(hf:z<=f):r8 f z=fp 3 2++r8 (f-1) (z-3):=by
 cases f with
 |zero=>omega
 |succ f=>rw[r8,ai h];rfl
theorem aBP{z:Nat}(h:z<3)(hf:0<f):r8 f z=fp z 2:=by
 cases f with
 |zero=>omega
 |succ f=>rw[r8,ag I]
theorem abq: ∀(f g z:Nat),z<f->z<g->r8 f z=r8 g z
 |0,_,_,h,_=>by omega
 |_,0,_,_,h=>by omega
 | f+1,g+1,z,W,h2=>by
  unfold r8;split
  rw[abq f g (z-3) I I]
  rfl
theorem abr: ∀a b:List Bool,oA (a++b)=oA a+2^a.length*oA b
 | [],b=>by simp[oA]
 |x::a,b=>by simp only[List.cons_append,oA,abr a b,ek,jT];rw[KT,<-tg,iu 2 (2^a.length)];omega
theorem akS: ∀l:List Bool,oA l<2^l.length
 | []=>by simp[oA]
 |b::l=>by have:=akS l;have:b.toNat<=1:=(by cases b<;>simp);simp only[oA,ek,jT];omega
theorem aBQ{l:List Bool}(h:i<l.length):oA (l.take i)/2^i % 2=0:=by
 have:=akS (l.take i);rw[gk,mx I]at this;rw[CB this]
theorem aBR{l:List Bool}(h:i<l.length)(hb:l.getD i false=true):oA (l.take i)+2^i=oA (l.take (i+1)):=by
 rw[oK _ false i h,hb,abr,gk,mx I];simp[oA]
theorem aBS{l:List Bool}(h:i<l.length)(hb:l.getD i false=false):oA (l.take i)=oA (l.take (i+1)):=by
 rw[oK _ false i h,hb,abr];simp[oA]
theorem aBT{m n:Nat}(hm:0<m)(W:2^(n-1)<=m)(h2:m<2^n):yW m=n:=by
 unfold yW;have h3:n≠0:=λe=>(by subst e;simp at h2;omega);have e1:n-1<=m.log2:=(H4 I).2 W;have e2:m.log2<n:=(qI I).2 h2;omega
end Go.Z
namespace Go.Z
open Go Go.Proofs
variable {l:List Int}{i n:Nat}
theorem akT(h:i<l.length):wt (l.take i)+fY (l.getD i 0)<=wt l/\wt (l.take (i+1))=wt (l.take i)+fY (l.getD i 0):=by
 have e:wt (l.take (i+1))=wt (l.take i)+fY (l.getD i 0):=(by rw[oK l 0 i h,Dr];rfl);refine⟨?_,e⟩;rw[<-e];(conv=>rhs;rw[<-xD (i+1) l,Dr]);exact mS _ _
theorem aBU{l:Nat}(h:0<(l+1)/2^n)(hl:l<=512):n<=9/\2^n<=l+1:=by
 have W:2^n<=l+1:=by
  rcases dh (l+1) (2^n)with h'|h'
  rw[CB h']at h;omega
  exact h'
 refine⟨?_,W⟩;rcases dh 9 n with h'|h'
 have:2^10<=2^n:=dp aj h';omega
 exact h'
theorem aBV{l:Nat}(h: ¬0<(l+1)/2^n):l+1<2^n:=by
 rcases dh (l+1) (2^n)with h'|h'
 exact h'
 exact absurd (OZ h' (ep n)) h
theorem akU{p:Int}(h: -1<=p):max p (-p)=((fY p:Nat):Int):=by
 unfold fY;split<;>omega
theorem akV{l:List Int}: ∀{z:Nat},(∀j,j<z->l.getD j 1=0)->z<=l.length->wt (l.take z)=0
 |0,_,_=>by simp[wt]
 |z+1,h,hl=>by have W:=h z (E7 _);rw[oK l 0 z I,Dr,akV (λj hj=>h j I) I];have e:l.getD z 0=0:=(by rw[bS,gv I]at W ⊢;exact W);rw[e];rfl
theorem abt{j:Nat}{d:Int}:(l.drop i).getD j d=l.getD (i+j) d:=by
 rw[bS,oE,bS]
theorem abu(h:i<l.length){d:Int}:l.getD i d=l.getD i 0:=by
 rw[bS,bS,gv h];rfl
theorem akW{left v:Nat}(hl:left<=512):(nf left v).length<=10:=by
 have h0:(left+1).log2<10:=(qI I).2 I;have hb:yW (left+1)<=10:=(by unfold yW;omega);unfold nf;split
 rw[xm];omega
 split<;>rw[xm]<;>omega
theorem akX{r:dQ}{w:World}{F:List aD}{sa:Option Addr}{sc log:Nat}{P:List Int}(h:H r w F)(hP:gO F (.slice sa P.length sc) (P.map i64))(IJ:5<=log/\log<=9)(pt: ∀i,-1<=P.getD i 0)(hwt:wt P=2^log)(Ho:P.length<=256)(yk:P.getD (P.length-1) 0≠0):Calls PP 60 #[.slice sa P.length sc,R log] w λe w'=> ∃bd,e= .returned (cf bd (xo (fp (log-5) 4++mM (2^log) P)).length (xo (fp (log-5) 4++mM (2^log) P)).length)/\H r w' (EB (some bd) (xo (fp (log-5) 4++mM (2^log) P)) []::F):=by
 refine cg (fp (log-5) 4++mM (2^log) P) λZ9 hR=>?_;rw[hR];have DT:2^log<=512:=aI (dp aj IJ.2) aj;refine cg (2^log) λZ_ hW=>?_;rw[hW]at hR hwt DT;replace h:=h.ghost (C (List.map bl []++[]) 4);refine gS Tryz.func60 Tryz.ntmps60 [4] ?_;refine V 6 ?_;refine ah (Iq apg) (sB h J J J ?_);intro bb w h;refine V 6 ?_;refine ah (iz (b:=5) (h2:=ao.lit _) J J IJ.1 az) (ee (v2:=R 4) J J J J (aA (Kl (bits:=[]) (ob:=none) (c:=0) (sp:=[]) h ⟨J,J,aR _,λ_=>rfl⟩ aj I (bP _)) ?_));rintro e w1 ⟨bI,c1,bJ,rfl,eF,h⟩;refine V 4 ?_;refine ah (bZ (gn J J dw (by rw[hW];simp only[aG];omega)) hW) ?_;refine V 8 ?_;refine bQ (σ:=Nat×Nat×List Bool×Option Nat×Nat×List Value) [(6,12),(24,112)] (λ⟨i,left,B,ob,c,sp⟩ ρ w=>Kn ρ [(7,R i),(6,R left)]/\H r w ((af bb [.slice (aB ob) (List.length (B)) c] 159)::(ob,C (List.map bl (B)++sp) 4)::F)/\(bG ob (List.length (B)) c (List.map bl (B)) sp 1)/\(i<=P.length)/\(B++mM left (P.drop i)=Z9)/\(left+wt (P.take i)=Z_)/\(B.length<=4+12*i)) (λ⟨i,left,B,ob,c,sp⟩=>P.length-i) (0,Z_,[]++fp (log-5) 4,bI,c1,bJ) ⟨aq,h,eF,I,hR,J,(by rw[List.nil_append,xm];omega)⟩ ?_;rintro⟨i,left,B,ob,c,sp⟩ ρ w ⟨⟨SD,rfl⟩,h,hk,hi,hRB,hw,GA⟩;refine V 8 ?_;refine an J ?_ ?_<;>intro rH
 refine kC (hP.eH (show 0<(P.map i64).length by rw[bX];omega)) λpb pq lp Tp q1=>?_;refine fx q1.2.1 λip qC=>?_;have aBW:=akT rH;have Af:=pt i;have yj:=drop_cons rH;refine cg (P.getD i 0) λp hp=>?_;have mL:=TV q1.2.2 rH;rw[hp]at aBW Af yj mL;have aIW:left<=Z_:=I;have fF:p<=left:=(by have:p<=((fY p:Nat):Int):=(by unfold fY;split<;>omega);omega);refine cg ((p+1).toNat) λv hv=>?_;have D':p+1=((v:Nat):Int):=I;have t_:v<=left+1:=I;refine aQ (a9 (jB [(6,12),(30,112)] (λρ w=> ∃i2 l2:Nat,∃B5:List Bool,∃m9:Option Nat,∃c5:Nat,∃pL:List Value,Kn ρ [(7,R i2),(6,R l2)]/\H r w ((af bb [.slice (aB m9) (List.length (B5)) c5] 159)::(m9,C (List.map bl (B5)++pL) 4)::F)/\(bG m9 (List.length (B5)) c5 (List.map bl (B5)) pL 1)/\(B5++mM l2 (P.drop (i2+1))=Z9)/\(l2+wt (P.take (i2+1))=Z_)/\(i<=i2/\i2+1<=P.length)/\(B5.length<=4+12*(i2+1))) ?_ ?_))
 refine V 4 ?_;refine ah (cI J J q1.1 I) (aO h J mL ?_);refine V 5 ?_;refine ah (Ch D' (H_ (v:=1) J J I I)) ?_;refine V 5 ?_;refine bQ (σ:=Nat) [(10,10),(36,42)] (λn ρ w=>Kn ρ [(10,R n)]/\H r w ((af bb [.slice (aB ob) (List.length (B)) c] 159)::(ob,C (List.map bl (B)++sp) 4)::F)/\(n<=10)/\(n=0\/2^(n-1)<=left+1)) (λn=>11-n) (0) ⟨aq,h,I,(Or.inl J)⟩ ?_;rintro n ρ w ⟨⟨aat,rfl⟩,h,aBX,g9⟩;refine V 9 ?_;refine an J ?_ ?_<;>intro LH
 have h9:=aBU LH I;refine V 7 ?_;exact⟨aH 8,n+1,cw,aq,h,I,Or.inr h9.2⟩
 have NZ:=aBV LH
 have gX:1<=n:=by
  rcases nO n with e|e
  subst e;rw[K5]at NZ;omega
  exact e
 have iW:yW (left+1)=n:=aBT (H6 _) (g9.resolve_left I) NZ;have aeW:2^n<=1024:=aI (dp aj aBX) aj;have LS:2^(n-1)<=1024:=aI (dp aj (I:n-1<=10)) aj;have JG:nf left v=if v<2^n-1- (left+1)then fp v (n-1)else if v<2^(n-1)then fp v n else fp (v+(2^n-1- (left+1))) n:=(by unfold nf;rw[iW]);have a8:= @akW left v I;refine V 4 ?_;refine ah (gn J J dw (aI aeW aj)) ?_;refine V 7 ?_;refine jB [(49,73)] (λρ w=> ∃mB:Option Nat,∃c3:Nat,∃pk:List Value,Kn ρ []/\H r w ((af bb [.slice (aB mB) (List.length (B++nf left v)) c3] 159)::(mB,C (List.map bl (B++nf left v)++pk) 4)::F)/\(bG mB (List.length (B++nf left v)) c3 (List.map bl (B++nf left v)) pk 1)) ?_ ?_
 refine V 7 ?_;refine an J ?_ ?_<;>intro Nj
 refine V 4 ?_;refine ah (iz (b:=1) (h2:=ao.lit _) J J gX az) (ee J J J J (aA (Kl h hk I I I) ?_));rintro e w1 ⟨cr,c2,cG,rfl,cK,h⟩;refine aC (⟨aH 9,?_⟩);have e1:fp v (n-1)=nf left v:=(by rw[JG,ai Nj]);rw[e1]at h cK;exact⟨cr,c2,cG,aq,h,cK⟩
 refine V 4 ?_;refine ah (iz (b:=1) (h2:=ao.lit _) J J gX az) (ah (gn J J dw (aI LS aj)) ?_);refine V 3 ?_;refine an J ?_ ?_<;>intro sQ
 refine V 4 ?_;refine ee J J J J (aA (Kl h hk I I I) ?_);rintro e w1 ⟨cr,c2,cG,rfl,cK,h⟩;refine aC (⟨aH 14,?_⟩);have e1:fp v n=nf left v:=(by rw[JG,ag Nj,ai sQ]);rw[e1]at h cK;exact⟨cr,c2,cG,aq,h,cK⟩
 refine V 6 ?_;refine ee J J J J (aA (Kl h hk I I I) ?_);rintro e w1 ⟨cr,c2,cG,rfl,cK,h⟩;refine aC (⟨aH 16,?_⟩);have e1:fp (v+(2^n-1- (left+1))) n=nf left v:=(by rw[JG,ag Nj,ag sQ]);rw[e1]at h cK;exact⟨cr,c2,cG,aq,h,cK⟩
 rintro ρ w ⟨mB,c3,pk,⟨aBF,rfl⟩,h,lK⟩;refine V 5 ?_;refine ah (VX J I I) (ah (Ch (akU Af) (V8 J J)) ?_);refine V 7 ?_;refine ah (VT (v:=0) J J) (aC (an J ?_ ?_))<;>intro Mm
 have mc:(B++nf left v)++mM (left-fY p) (P.drop (i+1))=Z9:=(by rw[cF,<-hv,<-aBM Mm,<-yj];exact hRB);exact iy ⟨aH 32,i,left-fY p,B++nf left v,mB,c3,pk,aq,h,lK,mc,I,I,(by rw[aF];omega)⟩
 have tZ:p=0:=nj.1 Mm;have ha0:fY p=0:=(by rw[tZ];rfl);have gr:v=1:=I;have Jd:(B++nf left v)++(r8 (P.drop (i+1)).length (rl (P.drop (i+1)))++mM left ((P.drop (i+1)).drop (rl (P.drop (i+1)))))=Z9:=(by rw[cF,gr,<-aBN];rw[tZ]at yj;rw[<-yj];exact hRB)
 have nX:i+1<P.length:=by
  rcases dh (i+1) P.length with e|e
  exact e
  exact absurd (by rw[show P.length-1=i by omega,hp,tZ]) yk
 have j1:(P.drop (i+1)).length=P.length- (i+1):=bV;refine V 6 ?_;refine jB [(12,12),(82,100)] (λρ w=> ∃z:Nat,Kn ρ [(12,R z)]/\H r w ((af bb [.slice (aB mB) (List.length (B++nf left v)) c3] 159)::(mB,C (List.map bl (B++nf left v)++pk) 4)::F)/\(rl (P.drop (i+1))=z)/\(i+1+z<P.length)/\(∀j,j<z->P.getD (i+1+j) 0=0)) ?_ ?_
 refine bQ (σ:=Nat) [(12,12),(82,100)] (λz ρ w=>Kn ρ [(12,R z)]/\H r w ((af bb [.slice (aB mB) (List.length (B++nf left v)) c3] 159)::(mB,C (List.map bl (B++nf left v)++pk) 4)::F)/\(∀j,j<z->P.getD (i+1+j) 0=0)/\(i+1+z<=P.length)) (λz=>P.length-z) (0) ⟨aq,h,(λj hj=>absurd hj (nP _)),I⟩ ?_;rintro z ρ w ⟨⟨aBI,rfl⟩,h,hz,Mr⟩;refine V 11 ?_;refine d' (t:=89) J (λTZ=>?_) (λTZ=>?_)
 refine V 5 ?_;refine dn J J J (cI J J q1.1 I) J (dn J J J (run_load h J (TV q1.2.2 (i:=i+1+z) TZ)) J (dn J J J (Lb (v:=0) J J) J ?_));refine V 2 ?_;refine an J ?_ ?_<;>intro akY
 have hzz:=akY;refine V 7 ?_;exact⟨aM,z+1,cw,aq,h,(λj hj=>by rcases vY.1 hj with hh|rfl;exact hz j hh;exact hzz),I⟩
 exact iy ⟨aM,z,aq,h,akR _ z (λj hj=>by rw[abt,abu I];exact hz j hj) (Or.inr (by rw[abt,abu TZ];exact akY)) (by rw[j1];omega),TZ,hz⟩
 refine V 10 ?_;refine fV J (iy (⟨aM,?_⟩));exfalso;have Tc:0<z:=I;have:=hz (z-1) I;rw[show i+1+(z-1)=P.length-1 by omega]at this;exact yk this
 rintro ρ w ⟨z,⟨aBK,rfl⟩,h,hzd,aIX,vG⟩;rw[hzd]at Jd;rw[abq (P.drop (i+1)).length (z+1) z (by rw[j1];omega) (E7 _),<-cF,j7]at Jd;have J7:wt (P.take (i+z+1))=wt (P.take (i+1)):=(by rw[show i+z+1=(i+1)+z by omega,Vw,Dr,akV (l:=P.drop (i+1)) (z:=z) (λj hj=>by rw[abt,abu I];exact vG j hj) (by rw[j1];omega),kU]);refine V 9 ?_;refine bQ (σ:=Nat×List Bool×Option Nat×Nat×List Value) [(12,12),(104,109)] (λ⟨zz,B3,yM,c4,Ak⟩ ρ w=>Kn ρ [(12,R zz)]/\H r w ((af bb [.slice (aB yM) (List.length (B3)) c4] 159)::(yM,C (List.map bl (B3)++Ak) 4)::F)/\(bG yM (List.length (B3)) c4 (List.map bl (B3)) Ak 1)/\(B3++r8 (zz+1) zz=(B++nf left v)++r8 (z+1) z)/\(zz<=z)/\(B3.length+zz<=B.length+10+z)) (λ⟨zz,B3,yM,c4,Ak⟩=>zz) (z,B++nf left v,mB,c3,pk) ⟨aq,h,lK,J,(aR _),(by rw[aF];omega)⟩ ?_;rintro⟨zz,B3,yM,c4,Ak⟩ ρ w ⟨⟨aBL,rfl⟩,h,rO,ub,aIY,xe⟩;refine V 6 ?_;refine an J ?_ ?_<;>intro zU
 refine V 5 ?_;refine ee (v1:=R 3) (v2:=R 2) J J J J (aA (Kl h rO I I I) ?_);rintro e w1 ⟨EC,c6,sp6,rfl,hk6,h⟩;refine V 3 ?_;exact ah (iz (b:=3) (h2:=ao.lit _) J J zU az) (dI (aC ⟨aH 7,(zz-3,B3++fp 3 2,EC,c6,sp6),cw,aq,h,hk6,(by rw[cF,abq (zz-3+1) (zz+1-1) (zz-3) I I,<-aBO zU I];exact ub),I,(by rw[aF,xm];omega)⟩))
 refine V 4 ?_;refine ee (v2:=R 2) J J J J (aA (Kl h rO I I I) ?_);rintro e w1 ⟨EC,c6,sp6,rfl,hk6,h⟩;exact aC ⟨aH 44,i+z,left-fY p,B3++fp zz 2,EC,c6,sp6,aq,h,hk6,(by rw[ha0,KX,show i+z+1=i+1+z by omega,<-Jd,<-ub,aBP I (H6 _)]),(by rw[J7];omega),I,(by rw[aF,xm];omega)⟩
 rintro ρ w ⟨i2,l2,B5,m9,c5,pL,⟨N0,rfl⟩,h,sS,hR5,hw5,hi5,Ad⟩;refine V 5 ?_;exact⟨aH 8,(i2+1,l2,B5,m9,c5,pL),cw,aq,h,sS,I,hR5,hw5,I⟩
 have hiP:i=P.length:=I;have hBR:B=Z9:=(by rw[<-hRB,hiP,List.drop_length];exact(dP B).symm);rw[hBR]at h hk GA;refine V 9 ?_;refine ah (mT (b:=8) (h2:=ao.lit _) J J aj az) ?_;refine tu h J J J I I I J ?_;intro bd w h;rw[akI]at h;refine V 5 ?_;replace h:=h.zz [2,2,2] 0;refine V 8 ?_;refine bQ (σ:=Nat) [(14,15),(126,142)] (λj ρ w=>Kn ρ [(126,R j)]/\H r w ((af bd (List.map u8 (cu (oA (Z9.take j)) ((Z9.length+7)/8))) 5)::(af bb [.slice (aB ob) (List.length (Z9)) c] 159)::(ob,C (List.map bl (Z9)++sp) 4)::F)/\(j<=Z9.length)) (λj=>Z9.length-j) (0) ⟨aq,h,I⟩ ?_;rintro j ρ w ⟨⟨N1,rfl⟩,h,hj⟩;refine V 5 ?_;refine an J ?_ ?_<;>intro ajv
 refine(Hr hk I).elim λb0 e0=>?_;subst e0;refine aQ (a9 (jB [(14,15),(128,141)] (λρ w=>Kn ρ []/\H r w ((af bd (List.map u8 (cu (oA (Z9.take (j+1))) ((Z9.length+7)/8))) 5)::(af bb [.slice (aB (some b0)) (List.length (Z9)) c] 159)::((some b0),C (List.map bl (Z9)++sp) 4)::F)) ?_ ?_))
 refine V 4 ?_;refine aO h J (akJ I) ?_;refine V 7 ?_;refine eA J ?_ ?_<;>intro Jg
 refine bL h [0,4,8,12,20,24,28,17,32,36,43] ?_;intro w h;refine av 2 ?_;refine aw J (mT (b:=8) (h2:=ao.lit _) J J aj az) ?_;refine av 2 ?_;refine aw J (AK (b:=8) (h2:=ao.lit _) J J aj) ?_;refine aw J (dN (a:=1) (W:=ao.lit _) J J dw (by rw[rz];exact aI Hq aj)) ?_;refine aK J h J (gl (by rw[eP];omega)) ?_;refine aw J (eI J J (dz _ aj) (by rw[rz];exact aI Hq aj)) ?_;refine av 1 ?_;refine v_ (v:=gR (((cu (oA (Z9.take j)) ((Z9.length+7)/8)).getD (j/8) 0).toNat|||1*2^(j % 8))) J h J (gl (by rw[eP];omega)) J J J ?_;intro w h;dsimp only[List.set]at h;rw[abi I (aBQ I),aBR I Jg]at h;exact cm ⟨aH 17,aq,h⟩
 refine aQ (⟨aH 6,?_⟩);rw[aBS I Jg]at h;exact⟨aq,h⟩
 rintro ρ w ⟨⟨N2,rfl⟩,h⟩;refine V 4 ?_;exact⟨aH 4,j+1,cw,aq,h,I⟩
 refine V 7 ?_;have ej:j=Z9.length:=I;rw[ej,jf (aR _)]at h;refine⟨bd,b8 Ending.returned (iJ J (TY _).symm (TY _).symm),?_⟩;have e:List.map u8 (cu (oA Z9) ((Z9.length+7)/8))=List.map u8 (xo Z9++[]):=(by rw[dP];rfl);rw[e]at h;exact(((h.mv 1).tail).mv 1).tail
variable {A S:List Nat}{sp:List Value}{M j log:Nat}
def nH:List Int->Nat
 | []=>0
 |p::l=>(if p=0 then 0 else 1)+nH l
theorem akZ: ∀{l:List Int},(∀j,-1<=l.getD j 0)->nH l<=wt l
 | [],_=>aR _
 | p::l,h=>by
  have W:= @akZ l (λj=>by have:=h (j+1);simpa using this);have h2:=h 0;rw[AF]at h2;show(if p=0 then 0 else 1)+nH l<=fY p+wt l;split
  omega
  have:1<=fY p:=(by unfold fY;split<;>omega);omega
theorem T3: ∀{l:List Int} {i:Nat},(∀j,-1<=l.getD j 0)->fY (l.getD i 0)+nH l<=wt l+1
 | [],i,_=>by simp[nH,wt,fY]
 |p::l,0,h=>by have W:= @akZ l (λj=>by have:=h (j+1);simpa using this);rw[AF];show fY p+((if p=0 then 0 else 1)+nH l)<=fY p+wt l+1;split<;>omega
 | p::l,i+1,h=>by
  have W:= @T3 l i (λj=>by have:=h (j+1);simpa using this);have h2:=h 0;rw[AF]at h2;rw[y'];show fY (l.getD i 0)+((if p=0 then 0 else 1)+nH l)<=fY p+wt l+1;split
  omega
  have:1<=fY p:=(by unfold fY;split<;>omega);omega
theorem T4: ∀{l:List Int} {i:Nat} {x:Int},i<l.length->wt (l.set i x)+fY (l.getD i 0)=wt l+fY x
 |p::l,0,x,_=>by show fY x+wt l+fY p=fY p+wt l+fY x;omega
 |p::l,i+1,x,h=>by have:= @T4 l i x (by simpa using h);rw[y'];show fY p+wt (l.set i x)+fY (l.getD i 0)=fY p+wt l+fY x;omega
theorem abv: ∀{l:List Int} {i:Nat} {x:Int},i<l.length->nH (l.set i x)+(if l.getD i 0=0 then 0 else 1)=nH l+(if x=0 then 0 else 1)
 |p::l,0,x,_=>by show(if x=0 then 0 else 1)+nH l+(if p=0 then 0 else 1)=(if p=0 then 0 else 1)+nH l+(if x=0 then 0 else 1);omega
 |p::l,i+1,x,h=>by have:= @abv l i x (by simpa using h);rw[y'];show(if p=0 then 0 else 1)+nH (l.set i x)+(if l.getD i 0=0 then 0 else 1)=(if p=0 then 0 else 1)+nH l+(if x=0 then 0 else 1);omega
structure vP(S:List Nat)(M log:Nat)(P:List Int):Prop where
 lo: ∀i,-1<=P.getD i 0
 sum:wt P=2^log
 len:P.length<=M
 IC:0<P.length
 last:P.getD (P.length-1) 0≠0
 sym: ∀s,s∈S->P.getD s 0≠0
 lt: ∀i,fY (P.getD i 0)<2^log
theorem aBY{v:Nat}(h:i<A.length):(List.map R A++sp).set i (R v)=List.map R (A.set i v)++sp:=by
 rw[KY _ _ (by rw[bX];exact h),jM]
theorem ED(h:i<A.length):(List.map R A++sp)[i]? =some (R (A.getD i 0)):=by
 rw[ir (by rw[bX];exact h)];exact jC h
theorem ak0:(A++[0]).getD j 0=A.getD j 0:=by
 rcases dh j A.length with h|h
 rw[bS,ir h,<-bS]
 have e1:A.getD j 0=0:=(by rw[bS,gP h];rfl);rw[e1,bS,nN h];cases j-A.length<;>rfl
theorem aBZ(n:Nat):dj [Value.int .i64 ((0:Nat):Int)] n=List.map i64 (List.replicate n 0):=by
 rw[CT,vX];rfl
theorem aB0:(List.replicate n (0:Int)).getD j 0=0:=by
 rw[bS,uM];split<;>rfl
theorem ak1:wt (List.replicate n 0)=0:=aeI n
theorem ak2: ∀{n:Nat},nH (List.replicate n 0)=0
 |0=>rfl
 |n+1=>by rw[HW,nH,ak2];rfl
theorem aB1{size len:Nat}(h:n<=len)(h0:0<len):n*size/len<=size:=by
 have:n*size<=len*size:=sj _ h;exact Nat.div_le_of_le_mul this
theorem aB2:fY ((n:Nat):Int)=n:=by unfold fY;rw[ag I];rfl
theorem abw{p:Int}(h:0<=p):((fY p:Nat):Int)=p:=by unfold fY;split<;>omega
theorem vP.neg{t:Nat}{P:List Int}(h:vP S M log P)(ht:t<P.length)(W:P.getD t 0=1):vP S M log (P.set t (-1)):=by
 have oB: ∀j,(P.set t (-1)).getD j 0=if t=j then-1 else P.getD j 0:=λj=>by
  rw[eE];by_cases e:t=j
  rw[ai ⟨e,ht⟩,ai e]
  rw[ag (λz=>e z.1),ag e]
 have a1:fY (-1)=1:=rfl;have a2:fY 1=1:=rfl;refine⟨λj=>?_,?_,by rw[dD];exact h.len,by rw[dD];exact h.IC,?_,λs hs=>?_,λj=>?_⟩
 rw[oB];split
 exact Pd _
 exact h.lo j
 have:= @T4 P t (-1) ht;rw[W,a1,a2]at this;rw[<-h.sum];omega
 rw[dD,oB];split
 decide
 exact h.last
 rw[oB];split
 decide
 exact h.sym s hs
 rw[oB];by_cases e:t=j
 subst e;rw[ai J,a1];have:=h.lt t;rw[W,a2]at this;exact this
 rw[ag e];exact h.lt j
theorem aB3{Cn:List Nat}{g:Nat}{O:List Int}{left:Int}(h0: ∀t,0<=O.getD t 0)(hz: ∀t,t<O.length->(O.getD t 0=0↔Cn.getD t 0=0))(hlen:O.length=Cn.length)(hM:Cn.length<=M)(hl:0<=left)(hw:left+((wt O:Nat):Int)=((2^log:Nat):Int))(hn:2<=nH O)(hg:g<O.length)(oO:0<Cn.getD (Cn.length-1) 0)(At: ∀s,s∈S->s<Cn.length/\0<Cn.getD s 0):vP S M log (O.set g (O.getD g 0+left)):=by
 have oB: ∀j,(O.set g (O.getD g 0+left)).getD j 0=if g=j then O.getD g 0+left else O.getD j 0:=λj=>by
  rw[eE];by_cases e:g=j
  rw[ai ⟨e,hg⟩,ai e]
  rw[ag (λz=>e z.1),ag e]
 have np: ∀j,O.getD j 0<=(O.set g (O.getD g 0+left)).getD j 0:=λj=>by
  rw[oB];by_cases e:g=j
  subst e;rw[ai J];omega
  rw[ag e];exact Pd _
 have pt: ∀j,0<=(O.set g (O.getD g 0+left)).getD j 0:=λj=>Int.le_trans (h0 j) (np j);have rP:= @T4 O g (O.getD g 0+left) hg;have e1:=abw (h0 g);have e2:=abw (show 0<=O.getD g 0+left by have:=h0 g;omega);have fW:= @abv O g (O.getD g 0+left) hg
 have tW:2<=nH (O.set g (O.getD g 0+left)):=by
  by_cases e:O.getD g 0=0
  rw[ai e]at fW;split at fW<;>omega
  rw[ag e]at fW;rw[ag (by have:=h0 g;omega)]at fW;omega
 have vj:wt (O.set g (O.getD g 0+left))=2^log:=I;refine⟨λj=>by have:=pt j;omega,vj,by rw[dD];omega,by rw[dD];omega,?_,λs hs=>?_,λj=>?_⟩
 have W:=(not_congr (hz (O.length-1) I)).2 (by rw[hlen];omega);have h2:=np (O.length-1);have h3:=h0 (O.length-1);rw[dD];omega
 have W:=At s hs;have h2:=(not_congr (hz s I)).2 I;have h3:=np s;have h4:=h0 s;omega
 have:= @T3 (O.set g (O.getD g 0+left)) j (λt=>by have:=pt t;omega);rw[vj]at this;omega
theorem abx{r:dQ}{w:World}{L:List aD}{wb sc:Nat}{x:Wr}{sa:Option Addr}{nn nc at_:Nat}{na:Option Addr}{N:List Int}(h:H r w ((af wb (aT x) 49)::(some x.cb,C [.slice na nn nc,R at_] 38)::L))(hN:nG L (.slice na nn nc) N)(jg:at_<=2305843009213693952)(hS:gO L (.slice sa S.length sc) (S.map R))(IJ:5<=log/\log<=9)(hM:M<=256)(Ci: ∀s,s∈S->s<M)(uz:S.length<=2147483648):Calls PP 58 #[aW wb,.slice sa S.length sc,R log] w λe w'=> ∃at',at'<=at_+256/\((e= .returned (.slice none 0 0)/\H r w' ((af wb (aT x) 49)::(some x.cb,C [.slice na nn nc,R at'] 38)::L))\/(∃bd P,e= .returned (cf bd P.length P.length)/\vP S M log P/\H r w' ((af bd (List.map i64 P) 3)::(af wb (aT x) 49)::(some x.cb,C [.slice na nn nc,R at'] 38)::L))):=by
 have DT:2^log<=512:=aI (dp aj IJ.2) aj;refine cg (2^log) λWt Km=>?_;rw[Km]at DT;have aB4: ∀j,j<S.length->S.getD j 0<M:=λj hj=>(by rw[bS,gv hj];exact Ci _ (za hj));replace h:=h.ghost (C (List.map R []++[]) 3);refine mW Tryz.func58 Tryz.ntmps58 [6] ?_;refine V 16 ?_;refine bQ (σ:=Nat×List Nat×Option Nat×Nat×List Value) [(7,7),(9,9),(21,38)] (λ⟨i,Cn,ko,kc,EE⟩ ρ w=>Kn ρ [(21,R i),(7,.slice (aB ko) (List.length Cn) kc)]/\H r w ((ko,C (List.map R (Cn)++EE) 3)::(af wb (aT x) 49)::(some x.cb,C [.slice na nn nc,R at_] 38)::L)/\(bG ko (List.length (Cn)) kc (List.map R (Cn)) EE 1)/\(i<=S.length)/\(∀j,j<i->S.getD j 0<Cn.length/\0<Cn.getD (S.getD j 0) 0)/\(∀j,Cn.getD j 0<=i)/\(Cn.length=0\/0<Cn.getD (Cn.length-1) 0)/\(Cn.length<=M)) (λ⟨i,Cn,ko,kc,EE⟩=>S.length-i) (0,[],none,0,[]) ⟨aq,h,⟨J,J,aR _,λ_=>rfl⟩,I,(λj hj=>absurd hj (nP _)),(λj=>aR _),(Or.inl J),(bP _)⟩ ?_;rintro⟨i,Cn,ko,kc,EE⟩ ρ w ⟨⟨N0,rfl⟩,h,hk,hi,At,hle,oO,zO⟩;refine V 5 ?_;refine an J ?_ ?_<;>intro Dc
 refine kC (hS.eH (show 0<(S.map R).length by rw[bX];omega)) λpb pq lp Tp q1=>?_;refine fx q1.2.1 λip qC=>(cg (S.getD i 0) λs hs=>?_);have hsM:=aB4 i Dc;have mL:=nd q1.2.2 Dc;rw[hs]at hsM mL;refine V 5 ?_;refine ah (cI J J q1.1 I) (aO h J mL ?_);refine V 4 ?_;refine bQ (σ:=List Nat×Option Nat×Nat×List Value) [(7,7),(25,31)] (λ⟨C2,N3,Ko,Hs⟩ ρ w=>Kn ρ [(7,.slice (aB N3) (List.length C2) Ko)]/\H r w ((N3,C (List.map R (C2)++Hs) 3)::(af wb (aT x) 49)::(some x.cb,C [.slice na nn nc,R at_] 38)::L)/\(bG N3 (List.length (C2)) Ko (List.map R (C2)) Hs 1)/\(∀j,j<i->S.getD j 0<C2.length/\0<C2.getD (S.getD j 0) 0)/\(∀j,C2.getD j 0<=i)/\((0<C2.length/\0<C2.getD (C2.length-1) 0)\/C2.length<=s+1)/\(C2.length<=M)) (λ⟨C2,N3,Ko,Hs⟩=>s+1-C2.length) (Cn,ko,kc,EE) ⟨aq,h,hk,At,hle,(oO.elim (λe=>Or.inr I) (λe=>by rcases nO Cn.length with e2|e2;exact Or.inr I;exact Or.inl ⟨e2,e⟩)),zO⟩ ?_;rintro⟨C2,N3,Ko,Hs⟩ ρ w ⟨⟨N1,rfl⟩,h,cK,ak3,aby,aB5,zP⟩;refine V 8 ?_;refine an J ?_ ?_<;>intro D3
 refine V 4 ?_;refine kX J (lB _) h ?_;intro bz w h;refine kW (List.map R C2) Hs [R 0] h 1 J J J cK (Src.slice (j:=0) (q2:=0) J ⟨J,trivial⟩ J) (by intro y hy;simp at hy;subst hy;rfl) I aj J ?_;intro w ko4 kc4 ak4 h dE hJ kZ;dsimp only[List.set]at h;have eb:List.map R C2++[R 0]=List.map R (C2++[0]):=(by rw[f_];rfl);rw[eb]at h dE;have rO:bG ko4 (List.length (C2++[0])) kc4 (List.map R (C2++[0])) ak4 1:=⟨by rw[bX,eC],dE,by rw[aF];exact hJ,kZ⟩;replace h:=h.tail;exact dI (aC ⟨aH 8,(C2++[0],ko4,kc4,ak4),(by show s+1- (C2++[0]).length<s+1-C2.length;rw[aF];simp only[ek,fE];omega),Kn.mk ⟨(gi J (by rw[aF];rfl)),trivial⟩,h,rO,(λj hj=>by have:=ak3 j hj;rw[aF,ak0];exact⟨I,this.2⟩),(λj=>by rw[ak0];exact aby j),Or.inr (by rw[aF];simp only[ek,fE];omega),(by rw[aF];simp only[ek,fE];omega)⟩)
 have a8:s<C2.length:=I;refine(Hr cK I).elim λb0 e0=>?_;subst e0;have ig:=aby s;refine V 4 ?_;refine ah (js J J J a8) (aO h J (ED a8) ?_);refine V 1 ?_;refine ah (js J J J a8) (cV (R (C2.getD s 0+1)) (ED a8) ?_);intro w h;rw[aBY a8]at h;have lK:bG (some b0) (List.length (C2.set s (C2.getD s 0+1))) Ko (List.map R (C2.set s (C2.getD s 0+1))) Hs 1:=(by obtain⟨x1,x2,x3,x4⟩:=cK;rw[aF,bX]at x2;exact⟨by rw[bX,eC],by rw[aF,bX,dD];exact x2,by rw[dD];exact x3,x4⟩)
 have oB: ∀j,(C2.set s (C2.getD s 0+1)).getD j 0=if s=j then C2.getD s 0+1 else C2.getD j 0:=λj=>by
  rw[eE];by_cases e:s=j
  rw[ai ⟨e,a8⟩,ai e]
  rw[ag (λz=>e z.1),ag e]
 have aB6: ∀j,j<i+1->S.getD j 0<(C2.set s (C2.getD s 0+1)).length/\0<(C2.set s (C2.getD s 0+1)).getD (S.getD j 0) 0:=λj hj=>by
  rw[dD,oB];rcases vY.1 hj with hh|rfl
  have:=ak3 j hh;refine⟨this.1,?_⟩;split<;>omega
  rw[hs,ai J];exact⟨a8,H6 _⟩
 have RS: ∀j,(C2.set s (C2.getD s 0+1)).getD j 0<=i+1:=λj=>(by rw[oB];have:=aby j;split<;>omega)
 have aB7:0<(C2.set s (C2.getD s 0+1)).getD ((C2.set s (C2.getD s 0+1)).length-1) 0:=by
  rw[dD,oB];rcases aB5 with e|e
  split<;>omega
  rw[ai I];exact H6 _
 refine V 5 ?_;exact⟨aH 18,(i+1,C2.set s (C2.getD s 0+1),some b0,Ko,Hs),cw,Kn.mk ⟨J,(gi J (by rw[dD])),trivial⟩,h,lK,I,aB6,RS,Or.inr aB7,(by rw[dD];exact zP)⟩
 have hiS:i=S.length:=I;rw[hiS]at At hle;refine iy (a9 (bL h [0,4,8,12,16,20,24] ?_));intro w h;refine kA J (aw J (bZ (gn J J dw (by rw[Km];simp only[aG];omega)) Km) ?_);refine kA J (aw J (bZ (gn J J dw (by rw[Km];simp only[aG];omega)) Km) ?_);refine eY J (aw J (zl 0 J (ao.lit _).eq) (eY J (cm ?_)));refine V 8 ?_;refine tu h J J J I I I J ?_;intro bd w h;rw[aBZ]at h;refine V 5 ?_;replace h:=h.zz [3,3,3,3] 0;refine V 5 ?_;refine bQ (σ:=Nat×List Int×Nat×Int×Nat) [(11,13),(15,16),(48,84)] (λ⟨j,O,u,left,g⟩ ρ w=>Kn ρ [(48,R j),(11,R u),(12,.int .i64 left),(13,R g)]/\H r w ((af bd (List.map i64 (O)) 3)::(ko,C (List.map R (Cn)++EE) 3)::(af wb (aT x) 49)::(some x.cb,C [.slice na nn nc,R at_] 38)::L)/\(j<=Cn.length)/\(O.length=Cn.length)/\(∀t,0<=O.getD t 0/\(j<=t->O.getD t 0=0)/\(t<j->(O.getD t 0=0↔Cn.getD t 0=0)))/\(left+((wt O:Nat):Int)=((Wt:Nat):Int))/\(wt O<=512*j)/\(nH O=u)/\(g=0\/g<j)) (λ⟨j,O,u,left,g⟩=>Cn.length-j) (0,List.replicate Cn.length 0,0,((Wt:Nat):Int),0) ⟨aq,h,I,(dR),(λt=>by rw[aB0];exact⟨Pd _,λ_=>rfl,λe=>absurd e (nP _)⟩),(by rw[ak1];simp),(by rw[ak1];exact bP _),ak2,(Or.inl J)⟩ ?_;rintro⟨j,O,u,left,g⟩ ρ w ⟨⟨N2,rfl⟩,h,hj,N4,Cj,hlw,hwO,hu,hg⟩;refine V 5 ?_;refine an J ?_ ?_<;>intro A8
 refine(Hr hk (I:0<Cn.length)).elim λb0 e0=>?_;subst e0;have Ht:=hle j;have hOj:=(Cj j).2.1 (aR _);refine aQ (a9 (jB [(11,13),(15,16),(50,83)] (λρ w=> ∃O2:List Int,∃u2:Nat,∃l2:Int,∃g2:Nat,Kn ρ [(11,R u2),(12,.int .i64 l2),(13,R g2)]/\H r w ((af bd (List.map i64 (O2)) 3)::((some b0),C (List.map R (Cn)++EE) 3)::(af wb (aT x) 49)::(some x.cb,C [.slice na nn nc,R at_] 38)::L)/\(O2.length=Cn.length)/\(∀t,0<=O2.getD t 0/\(j+1<=t->O2.getD t 0=0)/\(t<j+1->(O2.getD t 0=0↔Cn.getD t 0=0)))/\(l2+((wt O2:Nat):Int)=((Wt:Nat):Int))/\(wt O2<=512*(j+1))/\(nH O2=u2)/\(g2=0\/g2<j+1)) ?_ ?_))
 refine V 3 ?_;refine ah (js J J J A8) (aO h J (ED A8) ?_);refine V 9 ?_;refine an J ?_ ?_<;>intro GI
 exact iy ⟨aH 7,O,u,left,g,aq,h,N4,(λt=>by have:=Cj t;refine⟨this.1,λe=>this.2.1 I,λe=>?_⟩;rcases vY.1 e with hh|rfl;exact this.2.2 hh;exact⟨λ_=>GI,λ_=>hOj⟩),hlw,I,hu,I⟩
 have w8:0<S.length:=I;have MK:=aB1 (size:=Wt) Ht w8;have lH:Cn.getD j 0*Wt<=2147483648*512:=sr I DT;refine cg (max 1 (Cn.getD j 0*Wt/S.length/2)) λy hy=>?_;have w_:1<=y/\y<=512:=I;have ak5:= @T4 O j ((y:Nat):Int) I;rw[hOj,aB2]at ak5;have aB8:fY (0:Int)=0:=rfl;rw[aB8]at ak5;have Ng:= @abv O j ((y:Nat):Int) I;rw[hOj,ai J,ag (I: ¬((y:Nat):Int)=0)]at Ng;have vK:nH (O.set j ((y:Nat):Int))=u+1:=I;have MA:nH O<=wt O+1:=(by have:= @T3 O O.length (λt=>by have:=(Cj t).1;omega);omega)
 have oB: ∀t,(O.set j ((y:Nat):Int)).getD t 0=if j=t then((y:Nat):Int)else O.getD t 0:=λt=>by
  rw[eE];by_cases e:j=t
  rw[ai ⟨e,I⟩,ai e]
  rw[ag (λz=>e z.1),ag e]
 have Z5: ∀t,0<=(O.set j ((y:Nat):Int)).getD t 0/\(j+1<=t->(O.set j ((y:Nat):Int)).getD t 0=0)/\(t<j+1->((O.set j ((y:Nat):Int)).getD t 0=0↔Cn.getD t 0=0)):=λt=>by
  rw[oB];have h0:=Cj t;by_cases e:j=t
  subst e;rw[ai J];exact⟨I,λz=>by omega,λ_=>⟨λz=>by omega,λz=>absurd z GI⟩⟩
  rw[ag e];exact⟨h0.1,λz=>h0.2.1 I,λz=>h0.2.2 I⟩
 refine V 16 ?_;refine ah (mT J J w8 az) (ah (mT (b:=2) (h2:=ao.lit _) J J aj az) ?_);refine ah (bZ (Lf (a:=1) (W:=ao.lit _) J J) hy) (ah (js J J J A8) (gC (v:=i64 ((y:Nat):Int)) h J (xO I) J J J ?_));intro w h;dsimp only[List.set]at h;rw[<-jM]at h;have mL:=xO (D:=O.set j ((y:Nat):Int)) (i:=j) (by rw[dD];omega);rw[oB,ai J]at mL;have aB9:=xO (D:=O.set j ((y:Nat):Int)) (i:=g) (by rw[dD];omega);refine V 6 ?_;refine ah (js J J J A8) (aO h J mL (ah (oH J J I I) ?_));refine V 3 ?_;refine bL h [0,4,8,16,20,24,13,29,32] ?_;intro w h;refine av 2 ?_;refine aw J (js J J J A8) ?_;refine av 3 ?_;refine aK J h J mL (aK J h J aB9 (aw J (zf J J) (cm (an J ?_ ?_))))<;>intro Ma
 refine V 4 ?_;exact⟨aH 40,(O.set j ((y:Nat):Int)),u+1,(left- ((y:Nat):Int)),j,aq,h,(by rw[dD];exact N4),Z5,I,I,vK,I⟩
 exact aQ ⟨aH 38,(O.set j ((y:Nat):Int)),u+1,(left- ((y:Nat):Int)),g,aq,h,(by rw[dD];exact N4),Z5,I,I,vK,I⟩
 rintro ρ w ⟨O2,u2,l2,g2,⟨T6,rfl⟩,h,aB_,RX,aB',aCa,j_,jw⟩;refine V 4 ?_;exact⟨aH 4,(j+1,O2,u2,l2,g2),cw,aq,h,I,aB_,RX,aB',aCa,j_,jw⟩
 have hOg: ∀t,O.getD t 0<=200000:=λt=>(by have W:= @T3 O t (λz=>by have:=(Cj z).1;omega);have h2:=abw (Cj t).1;omega);refine iy (cD [(6,6),(85,90)] (λρ w=>Kn ρ []/\H r w ((af bd (List.map i64 (O)) 3)::(ko,C (List.map R (Cn)++EE) 3)::(af wb (aT x) 49)::(some x.cb,C [.slice na nn nc,R at_] 38)::L)/\(2<=u)/\(0<=left)) ?_ ?_)
 refine V 5 ?_;refine d' (t:=87) J (λaCb=>?_) (λaCb=>?_)
 refine V 4 ?_;refine iI J ?_;refine V 5 ?_;exact⟨at_,mS _ _,Or.inl ⟨J,h.tail.tail⟩⟩
 refine V 1 ?_;refine dn J J J (qL (v:=0) J J) J ?_;refine V 2 ?_;refine an J ?_ ?_<;>intro aze
 refine V 5 ?_;exact⟨at_,mS _ _,Or.inl ⟨J,h.tail.tail⟩⟩
 exact aQ ⟨aM,aq,h,I,I⟩
 rintro ρ w ⟨⟨T7,rfl⟩,h,vK,kZ⟩;have hjC:j=Cn.length:=I;have hOz: ∀t,t<O.length->(O.getD t 0=0↔Cn.getD t 0=0):=λt ht=>(Cj t).2.2 I
 have hC0:0<Cn.length:=by
  rcases nO Cn.length with e|e
  have:O=[]:=kq.1 I;rw[this]at hu;have:nH []=0:=rfl;omega
  exact e
 have ju:g<O.length:=I;have pP:=aB3 (S:=S) (M:=M) (log:=log) (g:=g) (left:=left) (λt=>(Cj t).1) hOz N4 zO kZ (by rw[Km];exact hlw) I ju (oO.resolve_left I) (λs hs=>by obtain⟨t,ht,rfl⟩:=CD hs;have:=At t ht;rw[bS,gv ht]at this;exact this);have hgO:=(Cj g).1;have hgg:=hOg g;refine V 5 ?_;refine aO h J (xO ju) (cM (ah (H_ J J I I) ?_));refine V 1 ?_;refine cV (i64 (O.getD g 0+left)) (xO ju) ?_;intro w h;rw[<-jM]at h;have Ho:(O.set g (O.getD g 0+left)).length=Cn.length:=(by rw[dD];exact N4);refine V 9 ?_;refine bQ (σ:=Nat×List Int×Nat) [(17,18),(100,118)] (λ⟨t,P,gF⟩ ρ w=>Kn ρ [(100,R t)]/\H r w ((af bd (List.map i64 (P)) 3)::(af wb (aT x) 49)::(some x.cb,C [.slice na nn nc,R gF] 38)::L)/\(t<=Cn.length)/\(vP S M log P)/\(P.length=Cn.length)/\(gF<=at_+t)) (λ⟨t,P,gF⟩=>Cn.length-t) (0,O.set g (O.getD g 0+left),at_) ⟨aq,(h.mv 1).tail,I,pP,Ho,I⟩ ?_;rintro⟨t,P,gF⟩ ρ w ⟨⟨T8,rfl⟩,h,ht,T9,abz,abn⟩;refine V 5 ?_;refine an J ?_ ?_<;>intro QB
 refine aQ (a9 (jB [(17,18),(102,117)] (λρ w=> ∃P2:List Int,∃dX:Nat,Kn ρ []/\H r w ((af bd (List.map i64 (P2)) 3)::(af wb (aT x) 49)::(some x.cb,C [.slice na nn nc,R dX] 38)::L)/\(vP S M log P2)/\(P2.length=Cn.length)/\(dX<=at_+(t+1))) ?_ ?_))
 refine V 4 ?_;refine aO h J (xO I) ?_;refine V 6 ?_;refine ah (Lb (v:=1) J J) (cM (d' (t:=107) J (λak6=>?_) (λak6=>?_)))
 refine V 4 ?_;replace h:=h.zz [1,1,2] 0;refine yT (v1:=R 2) J J J J J J (aA (kI (n:=2) (at_:=gF) h (hN.sub aJ) I aj) ?_);rintro e w1 ⟨ov,iX,rfl,me,sT,h⟩;refine V 3 ?_;refine an J ?_ ?_<;>intro aIZ
 refine V 4 ?_;refine gC (v:=i64 (-1)) h J (xO I) J J J ?_;intro w h;dsimp only[List.set]at h;rw[<-jM]at h;refine aC ?_;replace h:=h.zz [2,2] 0;exact⟨aM,P.set t (-1),iX,aq,h,T9.neg I ak6,(by rw[dD];exact abz),I⟩
 refine aQ ?_;replace h:=h.zz [2,2] 0;exact⟨aM,P,iX,aq,h,T9,abz,I⟩
 refine V 8 ?_;exact fV J (aQ ⟨aM,P,gF,aq,h,T9,abz,I⟩)
 rintro ρ w ⟨P2,dX,⟨abA,rfl⟩,h,aCc,aCd,yV⟩;refine V 4 ?_;exact⟨aH 4,(t+1,P2,dX),cw,aq,h,I,aCc,aCd,I⟩
 refine V 7 ?_;exact⟨gF,I,Or.inr ⟨bd,P,b8 Ending.returned (iJ J I I),T9,h⟩⟩
end Go.Z
namespace Go.Z
variable {Cs:List Nat}{j:Nat}
def cR(Cs:List Nat)(j:Nat):List Nat:=(List.range j).filter λs=>decide (0<Cs.getD s 0)
theorem Kp(h:0<Cs.getD j 0):cR Cs (j+1)=cR Cs j++[j]:=by
 simp only[cR,pU,Pg,List.filter_cons,List.filter_nil];rw[ai (by simpa using h)]
theorem Kq(h: ¬0<Cs.getD j 0):cR Cs (j+1)=cR Cs j:=by
 simp only[cR,pU,Pg,List.filter_cons,List.filter_nil];rw[ag (by simpa using h),dP]
theorem Kr{s:Nat}:s∈cR Cs j↔s<j/\0<Cs.getD s 0:=by simp[cR]
theorem ak7(Cs:List Nat)(j:Nat):(cR Cs j).Pairwise (· < ·):=List.pairwise_lt_range.filter _
theorem T_(Cs:List Nat)(j:Nat):(cR Cs j).length<=j:=by
 have:=List.length_filter_le (λs=>decide (0<Cs.getD s 0)) (List.range j);rw[AG]at this;exact this
def pQ(n:Nat):Nat:=if n=0 then 0 else 2^(11-n)
def kr:List Nat->Nat
 | []=>0
 |n::l=>pQ n+kr l
theorem ak8: ∀n,kr (List.replicate n 0)=0
 |0=>rfl
 |n+1=>by rw[HW,kr,ak8 n];rfl
theorem ak9: ∀{l:List Nat} {i x:Nat},i<l.length->kr (l.set i x)+pQ (l.getD i 0)=kr l+pQ x
 |p::l,0,x,_=>by show pQ x+kr l+pQ p=pQ p+kr l+pQ x;omega
 |p::l,i+1,x,h=>by have:= @ak9 l i x (by simpa using h);rw[y'];show pQ p+kr (l.set i x)+pQ (l.getD i 0)=pQ p+kr l+pQ x;omega
structure N5(Cs l:List Nat):Prop where
 len:l.length<=Cs.length
 N6:2<=l.length
 last:0<l.getD (l.length-1) 0
 used: ∀s,0<l.getD s 0↔0<Cs.getD s 0
 le: ∀s,l.getD s 0<=11
 ak_:kr l=2048
 two: ∃s,s+1<l.length/\0<l.getD s 0
def ng(l:List Nat)(n:Nat):Nat->Nat
 |0=>0
 |i+1=>ng l n i+(if l.getD i 0=n then 1 else 0)
theorem abB(l:List Nat)(n:Nat): ∀i,ng l n i<=i
 |0=>aR _
 |i+1=>by have:=abB l n i;unfold ng;split<;>omega
def lvl(l:List Nat)(ak:Nat):Nat->Nat
 |0=>0
 |k+1=>lvl l ak k+ng l (ak-k) l.length*2^k
theorem ak'(l:List Nat)(ak:Nat): ∀k,k<=11->lvl l ak k<=l.length*2048*k
 |0,_=>aR _
 |k+1,h=>by have W:=ak' l ak k I;have h2:=abB l (ak-k) l.length;have h3:2^k<=2048:=aI (dp aj (I:k<=11)) aj;have h4:ng l (ak-k) l.length*2^k<=l.length*2048:=sr h2 h3;unfold lvl;rw[Pb];omega
def abC(l:List Nat)(ak s:Nat):Nat:=lvl l ak (ak-l.getD s 0)+ng l (l.getD s 0) s*2^(ak-l.getD s 0)
def nh:List Nat->Nat
 | []=>0
 |n::l=>max n (nh l)
theorem ala(l:List Nat)(n:Nat):nh (l++[n])=max (nh l) n:=by
 induction l with
 |nil=>simp[nh]
 |cons a l ih=>simp only[List.cons_append,nh,ih];omega
theorem Ua{l:List Nat}{b:Nat}(h: ∀s,l.getD s 0<=b):nh l<=b:=by
 induction l with
 |nil=>exact bP _
 | cons a l ih=>
   have h0:=h 0
   have:=ih (λs=>by have:=h (s+1);simpa using this)
   simp only[AF]at h0
   simp only[nh];omega
theorem abD: ∀{l:List Nat} {s:Nat},l.getD s 0<=nh l
 | [],s=>by simp
 |a::l,0=>by simp only[AF,nh];omega
 |a::l,s+1=>by have:= @abD l s;simp only[y',nh];omega
structure abE(l Cd:List Nat):Prop where
 len:Cd.length=l.length
 code: ∀s,s<l.length->0<l.getD s 0->Cd.getD s 0=abC l (nh l) s/2^(nh l-l.getD s 0)
end Go.Z
namespace Go.Z
open Go Go.Proofs
variable {F:List aD}{Cd Cs U l:List Nat}{i k m n:Nat}{r:dQ}{w:World}
theorem Ub(n:Nat):dj [Value.int .i64 ((0:Nat):Int)] n=List.map R (List.replicate n 0):=by
 rw[CT,vX]
theorem alb{j:Nat}:(List.replicate n 0).getD j 0=0:=by
 rw[bS,uM];split<;>rfl
structure LI(U Li:List Nat)(i m K:Nat):Prop where
 len:Li.length=m
 z: ∀s,0<Li.getD s 0↔s∈U.take i
 le: ∀s,Li.getD s 0<=11
 k:kr Li=K
theorem LI.zero:LI U (List.replicate m 0) 0 m 0:=
 ⟨dR,λs=>by rw[alb];simp,λs=>by rw[alb];exact bP _,ak8 m⟩
theorem aCe{s:Nat}(h:i<U.length):s∈U.take (i+1)↔s∈U.take i\/s=U.getD i 0:=by
 rw[oK U 0 i h];simp
theorem LI.step{Li:List Nat}{K x:Nat}(h:LI U Li i m K)(hU:U.Pairwise (· < ·))(hi:i<U.length)(hp:U.getD i 0<m)(hx:0<x)(fL:x<=11):LI U (Li.set (U.getD i 0) x) (i+1) m (K+pQ x):=by
 have hl:U.getD i 0<Li.length:=(by rw[h.len];exact hp);have hn:U.getD i 0 ∉ U.take i:=λhm=>(by obtain⟨j,hj,e⟩:=CD hm;rw[gk]at hj;rw[List.getElem_take]at e;have:=VJ.1 hU j i I hi I;rw[e,bS,gv hi]at this;exact xC _ this)
 have h0:Li.getD (U.getD i 0) 0=0:=by
  rcases nO (Li.getD (U.getD i 0) 0)with e|e
  exact e
  exact absurd ((h.z _).1 e) hn
 have oB: ∀s,(Li.set (U.getD i 0) x).getD s 0=if U.getD i 0=s then x else Li.getD s 0:=λs=>by
  rw[eE];by_cases e:U.getD i 0=s
  rw[ai ⟨e,hl⟩,ai e]
  rw[ag (λz=>e z.1),ag e]
 refine⟨by rw[dD];exact h.len,λs=>?_,λs=>?_,?_⟩
 rw[oB,aCe hi];by_cases e:U.getD i 0=s
 rw[ai e];exact⟨λ_=>Or.inr e.symm,λ_=>hx⟩
 rw[ag e,h.z];exact⟨Or.inl,λz=>z.resolve_right (λe2=>e e2.symm)⟩
 rw[oB];split
 exact fL
 exact h.le s
 have:= @ak9 Li (U.getD i 0) x hl;have e0:pQ 0=0:=rfl;rw[h0,e0]at this;rw[<-h.k];omega
theorem aCf(hU:U.Pairwise (· < ·)){i:Nat}(hi:i<U.length):U.getD i 0<=U.getD (U.length-1) 0:=by
 rw[bS,gv hi,bS,gv (I:U.length-1<U.length)];rcases dh i (U.length-1)with h|h
 exact AB (VJ.1 hU i (U.length-1) hi I h)
 have:i=U.length-1:=I;subst this;exact aR _
theorem aCg(hU:U.Pairwise (· < ·))(h2:2<=U.length):U.getD 0 0<U.getD (U.length-1) 0:=by
 rw[bS,gv (I:0<U.length),bS,gv (I:U.length-1<U.length)];exact VJ.1 hU 0 (U.length-1) I I I
theorem aCh{L:List Nat}(h2:2<=(cR Cs Cs.length).length)(h:LI (cR Cs Cs.length) L (cR Cs Cs.length).length ((cR Cs Cs.length).getD ((cR Cs Cs.length).length-1) 0+1) 2048):N5 Cs L:=by
 have hS:=ak7 Cs Cs.length;have hm: ∀i,i<(cR Cs Cs.length).length->(cR Cs Cs.length).getD i 0∈cR Cs Cs.length:=λi hi=>(by rw[bS,gv hi];exact za hi);have hz: ∀s,0<L.getD s 0↔s∈cR Cs Cs.length:=λs=>(by rw[h.z,K1]);have hl:=hm _ (I:(cR Cs Cs.length).length-1<(cR Cs Cs.length).length);have h0:=hm 0 I;have cP:=aCg hS h2;have DI:=(Kr.1 hl).1;refine⟨by rw[h.len];exact DI,by rw[h.len];omega,by rw[h.len];exact(hz _).2 hl,λs=>?_,h.le,h.k,_,by rw[h.len];omega,(hz _).2 h0⟩;rw[hz,Kr];refine⟨λe=>e.2,λe=>⟨?_,e⟩⟩;rcases dh s Cs.length with h'|h'
 exact h'
 rw[bS,gP h']at e;exact absurd e (xC 0)
def KA(n i:Nat):Nat:=if i<n then 2048-2^(11-i)else 2048
theorem aCi(hn:2<=n)(fW:n<=12)(hi:i<n):KA n i+pQ (min (i+1) (n-1))=KA n (i+1):=by
 unfold KA pQ;rw[ai hi,ag I];have hp:2^(11-i)<=2048:=aI (dp aj (I:11-i<=11)) aj;by_cases h:i+1<n
 rw[ai h,mx I];have e:2^(11-i)=2*2^(11- (i+1)):=(by rw[<-EZ];congr 1;omega);omega
 rw[ag h,EU I,show n-1=i by omega];omega
def KB(m k i:Nat):Nat:=2^(11-m)*(i+min i k)
theorem aCj(hm:2<=m)(kE:m<=8)(h:i<k):KB m k i+pQ (m-1)=KB m k (i+1):=by
 unfold KB pQ;rw[ag I,show 11- (m-1)=11-m+1 by omega,jT,mx I,mx I,<-KT];congr 1;omega
theorem aCk(hm:1<=m)(h: ¬i<k):KB m k i+pQ m=KB m k (i+1):=by
 unfold KB pQ;rw[ag I,EU I,EU I];have:i+1+k=(i+k)+1:=I;rw[this,Pb]
theorem aCl(hm:m<=8)(h:n<=2^m)(h2:2^m<=2*n):KB m (2^m-n) n=2048:=by
 unfold KB;rw[EU I,show n+(2^m-n)=2^m by omega,<-ks,show 11-m+m=11 by omega]
theorem Ks{A:List Nat}{v:Nat}:(List.map R A).set i (R v)=List.map R (A.set i v):=by rw[jM]
theorem alc(h:2^m<256):m+1<=8:=by
 rcases dh m 8 with h'|h'
 exact h'
 have:2^8<=2^m:=dp aj h';omega
theorem LI.aCm(h:0<n):LI U (List.replicate m 0) 0 m (KA n 0):=by
 have:KA n 0=0:=(by unfold KA;rw[ai h]);rw[this];exact LI.zero
theorem LI.aCn{m':Nat}:LI U (List.replicate m 0) 0 m (KB m' k 0):=by
 have:KB m' k 0=0:=(by unfold KB;simp);rw[this];exact LI.zero
theorem ald{p:Prop}(h:p:=by exact⟨bd,Li,b8 Ending.returned (iJ J vQ.len.symm vQ.len.symm),JN Li h2 vQ,(h.mv 1).tail⟩):p:=h
theorem ale{ca:Option Addr}{cc:Nat}{abF:Bool}(h:H r w F)(hC:gO F (.slice ca Cs.length cc) (Cs.map R))(hCl:Cs.length<=256)(hCb: ∀s,Cs.getD s 0<=4611686018427387904)(h2:2<=(cR Cs Cs.length).length):Calls PP 49 #[.slice ca Cs.length cc,.bool abF] w λe w'=> ∃bd l,e= .returned (cf bd l.length l.length)/\N5 Cs l/\H r w' ((af bd (List.map R l) 3)::F):=by
 have MA:=T_ Cs Cs.length;refine kC (hC.eH (show 0<(Cs.map R).length by rw[bX];omega)) λpb pq lp Tp q1=>?_;refine fx q1.2.1 λip qC=>?_;replace h:=h.ghost (C (List.map R (cR Cs 0)++[]) 3);refine gS Tryz.func49 Tryz.ntmps49 [4] ?_;refine V 16 ?_;refine bQ (σ:=Nat×Option Nat×Nat×List Value) [(5,7),(17,28)] (λ⟨j,uo,uc,mh⟩ ρ w=>Kn ρ [(17,R j),(5,.slice (aB uo) (List.length (cR Cs j)) uc)]/\H r w ((uo,C (List.map R (cR Cs (j))++mh) 3)::F)/\(j<=Cs.length)/\(bG uo (List.length (cR Cs (j))) uc (List.map R (cR Cs (j))) mh 1)) (λ⟨j,uo,uc,mh⟩=>Cs.length-j) (0,none,0,[]) ⟨aq,h,I,J,J,aR _,λ_=>rfl⟩ ?_;rintro⟨j,uo,uc,mh⟩ ρ w ⟨⟨N0,rfl⟩,h,hj,hk⟩;refine V 5 ?_;refine an J ?_ ?_<;>intro ajL
 have aI0:=T_ Cs j;refine aQ (a9 (jB [(5,7),(19,27)] (λρ w=> ∃N7:Option Nat,∃Uc:Nat,∃Ud:List Value,Kn ρ [(5,.slice (aB N7) (List.length (cR Cs (j+1))) Uc)]/\H r w ((N7,C (List.map R (cR Cs (j+1))++Ud) 3)::F)/\(bG N7 (List.length (cR Cs (j+1))) Uc (List.map R (cR Cs (j+1))) Ud 1)) ?_ ?_))
 refine V 3 ?_;refine ah (cI J J q1.1 I) (aO h J (nd q1.2.2 ajL) ?_);refine V 8 ?_;refine an J ?_ ?_<;>intro tQ
 refine V 3 ?_;refine kX J (lB _) h ?_;intro bz w h;refine kW (List.map R (cR Cs j)) mh [R j] h 1 J J J hk (Src.slice (j:=0) (q2:=0) J ⟨J,trivial⟩ J) (by intro y hy;simp at hy;subst hy;rfl) I aj J ?_;intro w N8 N9 N_ h dE hJ kZ;dsimp only[List.set]at h;have eb:List.map R (cR Cs j)++[R j]=List.map R (cR Cs (j+1)):=(by rw[Kp tQ,f_];rfl);rw[eb]at h dE;have el:(List.length (cR Cs j))+1=List.length (cR Cs (j+1)):=(by rw[Kp tQ,aF];rfl);have lK:bG N8 (List.length (cR Cs (j+1))) N9 (List.map R (cR Cs (j+1))) N_ 1:=⟨by rw[bX,eC],dE,by rw[<-el];exact hJ,kZ⟩;replace h:=h.tail;exact dI (aC ⟨aH 12,N8,N9,N_,Kn.mk ⟨(gi J el),trivial⟩,h,lK⟩)
 refine aQ (⟨aH 7,?_⟩);have eu:cR Cs j=cR Cs (j+1):=(Kq tQ).symm;rw[eu]at h;exact⟨uo,uc,mh,Kn.mk ⟨(gi J (by rw[Kq tQ])),trivial⟩,h,(by rw[Kq tQ];exact hk)⟩
 rintro ρ w ⟨N7,Uc,Ud,⟨N1,rfl⟩,h,cK⟩;refine V 4 ?_;exact⟨aH 4,(j+1,N7,Uc,Ud),cw,aq,h,I,cK⟩
 obtain rfl:j=Cs.length:=I;have Ue:=ak7 Cs Cs.length;have Kt: ∀i,i<(cR Cs Cs.length).length->(cR Cs Cs.length).getD i 0<Cs.length:=λi hi=>(by have:(cR Cs Cs.length).getD i 0∈cR Cs Cs.length:=(by rw[bS,gv hi];exact za hi);exact(Kr.1 this).1);have abG: ∀i,i<(cR Cs Cs.length).length->(cR Cs Cs.length).getD i 0<=(cR Cs Cs.length).getD ((cR Cs Cs.length).length-1) 0:=λi hi=>aCf Ue hi;have JN: ∀Lx,2<=(cR Cs Cs.length).length->LI (cR Cs Cs.length) Lx (cR Cs Cs.length).length ((cR Cs Cs.length).getD ((cR Cs Cs.length).length-1) 0+1) 2048->N5 Cs Lx:=λLx a b=>aCh a b;refine(Hr hk I).elim λb0 e0=>?_;subst e0;refine cg ((cR Cs Cs.length).getD ((cR Cs Cs.length).length-1) 0) λlast yk=>?_;have DI:=Kt ((cR Cs Cs.length).length-1) I;rw[yk]at abG JN DI;have alf:=ED (A:=cR Cs Cs.length) (sp:=mh) (i:=(cR Cs Cs.length).length-1) I;rw[yk]at alf;refine V 8 ?_;refine aO h J alf ?_;refine V 1 ?_;refine tu h J J J I I I J ?_;intro bd w h;rw[Ub]at h;refine V 4 ?_;replace h:=h.zz [1,1] 0;refine V 4 ?_;refine cD [(4,4),(10,11),(39,60)] (λρ w=>Kn ρ []/\H r w ((af bd (List.map R (List.replicate (last+1) 0)) 3)::(af b0 (List.map R (cR Cs Cs.length)++mh) 3)::F)) ?_ ?_
 refine V 4 ?_;refine we (t:=40) J (λYk=>?_) (λYk=>?_)
 refine V 4 ?_;refine an J ?_ ?_<;>intro DZ
 refine V 8 ?_;refine bQ (σ:=Nat×List Nat) [(10,11),(46,59)] (λ⟨i,Li⟩ ρ w=>Kn ρ [(46,R i)]/\H r w ((af bd (List.map R (Li)) 3)::(af b0 (List.map R (cR Cs Cs.length)++mh) 3)::F)/\(i<=(cR Cs Cs.length).length)/\(LI (cR Cs Cs.length) Li i (last+1) (KA (cR Cs Cs.length).length i))) (λ⟨i,Li⟩=>(cR Cs Cs.length).length-i) (0,List.replicate (last+1) 0) ⟨aq,h,I,(LI.aCm I)⟩ ?_;rintro⟨i,Li⟩ ρ w ⟨⟨T6,rfl⟩,h,hi,vQ⟩;refine V 5 ?_;refine an J ?_ ?_<;>intro tN
 have yw:=DZ;have tm:=abG i I;have abH:=ED (A:=(cR Cs Cs.length)) (sp:=mh) (i:=i) I;refine V 7 ?_;refine aO h J abH ?_;refine V 10 ?_;refine ah (zh J J) ?_;refine V 1 ?_;refine gC (v:=R (min (i+1) ((cR Cs Cs.length).length-1))) h J (jC (by rw[vQ.len];omega)) J J J ?_;intro w h;dsimp only[List.set]at h;rw[Ks]at h;refine V 5 ?_;exact⟨aH 17,(i+1,Li.set ((cR Cs Cs.length).getD i 0) (min (i+1) ((cR Cs Cs.length).length-1))),cw,aq,h,I,aCi h2 yw I▸vQ.step Ue I I I I⟩
 refine V 7 ?_;obtain rfl:i=(cR Cs Cs.length).length:=I;have hK:KA (cR Cs Cs.length).length (cR Cs Cs.length).length=2048:=(by unfold KA;rw[ag (xC _)]);rw[hK]at vQ;exact ald
 exact aQ ⟨aM,aq,h⟩
 refine V 4 ?_;exact fV J (aQ ⟨aM,aq,h⟩)
 rintro ρ w ⟨⟨N2,rfl⟩,h⟩;have alg:(cR Cs Cs.length).length<=256:=I;refine V 6 ?_;refine bQ (σ:=Nat) [(12,12),(61,66)] (λm ρ w=>Kn ρ [(12,R m)]/\H r w ((af bd (List.map R (List.replicate (last+1) 0)) 3)::(af b0 (List.map R (cR Cs Cs.length)++mh) 3)::F)/\(m=0\/2^(m-1)<(cR Cs Cs.length).length)/\(m<=8)) (λm=>9-m) (0) ⟨aq,h,(Or.inl J),(bP _)⟩ ?_;rintro m ρ w ⟨⟨T7,rfl⟩,h,hm,hm8⟩;refine V 4 ?_;refine ah (gn J J dw (aI (dp aj hm8) aj)) ?_;refine V 3 ?_;refine an J ?_ ?_<;>intro sQ
 refine V 7 ?_;exact⟨aH 7,m+1,(by have:=alc (ry sQ alg);omega),aq,h,Or.inr sQ,alc (ry sQ alg)⟩
 have jE:1<=m:=by
  rcases nO m with e|e
  subst e;rw[K5]at sQ;omega
  exact e
 have tS:=hm.resolve_left I;have kE:2^m<=2*(cR Cs Cs.length).length:=(by have:2^m=2*2^(m-1):=(by rw[<-EZ];congr 1;omega);omega);have hp8:2^m<=256:=aI (dp aj hm8) aj;refine V 9 ?_;refine bQ (σ:=Nat×List Nat) [(13,14),(69,90)] (λ⟨i,Li⟩ ρ w=>Kn ρ [(69,R i)]/\H r w ((af bd (List.map R (Li)) 3)::(af b0 (List.map R (cR Cs Cs.length)++mh) 3)::F)/\(i<=(cR Cs Cs.length).length)/\(LI (cR Cs Cs.length) Li i (last+1) (KB m (2^m- (cR Cs Cs.length).length) i))) (λ⟨i,Li⟩=>(cR Cs Cs.length).length-i) (0,List.replicate (last+1) 0) ⟨aq,h,I,LI.aCn⟩ ?_;rintro⟨i,Li⟩ ρ w ⟨⟨T8,rfl⟩,h,hi,vQ⟩;refine V 5 ?_;refine an J ?_ ?_<;>intro Fv
 have tm:=abG i I;have abH:=ED (A:=(cR Cs Cs.length)) (sp:=mh) (i:=i) I;refine aQ (a9 (jB [(13,14),(71,89)] (λρ w=> ∃L2:List Nat,Kn ρ []/\H r w ((af bd (List.map R (L2)) 3)::(af b0 (List.map R (cR Cs Cs.length)++mh) 3)::F)/\(LI (cR Cs Cs.length) L2 (i+1) (last+1) (KB m (2^m- (cR Cs Cs.length).length) (i+1)))) ?_ ?_))
 refine V 4 ?_;refine aO h J abH ?_;refine V 9 ?_;refine gC (v:=R (m)) h J (jC (by rw[vQ.len];omega)) J J J ?_;intro w h;dsimp only[List.set]at h;rw[Ks]at h;have Oa:=jC (D:=Li.set ((cR Cs Cs.length).getD i 0) m) (i:=(cR Cs Cs.length).getD i 0) (by rw[dD,vQ.len];omega);rw[eE,ai ⟨J,by rw[vQ.len];omega⟩]at Oa;refine V 5 ?_;refine ah (gn J J dw (aI hp8 aj)) ?_;refine V 4 ?_;refine an J ?_ ?_<;>intro abI
 have hmk:2<=m:=by
  rcases dh m 2 with e|e
  obtain rfl:m=1:=I;rw[CF]at abI;omega
  exact e
 refine V 4 ?_;refine aO h J Oa (ah (iz (b:=1) (h2:=ao.lit _) J J jE az) ?_);refine V 1 ?_;refine cV (R (m-1)) Oa ?_;intro w h;rw[Ks,KZ]at h;exact aC ⟨aH 23,Li.set ((cR Cs Cs.length).getD i 0) (m-1),aq,h,aCj hmk I abI▸vQ.step Ue I I I I⟩
 exact aQ ⟨aH 16,Li.set ((cR Cs Cs.length).getD i 0) m,aq,h,aCk jE abI▸vQ.step Ue I I I I⟩
 rintro ρ w ⟨L2,⟨abA,rfl⟩,h,aCo⟩;refine V 4 ?_;exact⟨aH 4,(i+1,L2),cw,aq,h,I,aCo⟩
 refine V 7 ?_;obtain rfl:i=(cR Cs Cs.length).length:=I;rw[aCl hm8 I kE]at vQ;exact ald
def xq(l:List Nat)(m n i:Nat)(Cd:List Nat):Prop:=Cd.length=l.length/\ ∀s,s<l.length->(n<l.getD s 0\/(l.getD s 0=n/\s<i))->Cd.getD s 0=abC l m s/2^(m-l.getD s 0)
theorem xq.set(h:xq l m n i Cd)(hi:i<l.length)(hn:l.getD i 0=n):xq l m n (i+1) (Cd.set i ((lvl l m (m-n)+ng l n i*2^(m-n))/2^(m-n))):=by
 refine⟨by rw[dD];exact h.1,λs hs hx=>?_⟩;rw[eE];by_cases e:i=s
 subst e;rw[ai ⟨J,by rw[h.1];exact hi⟩];unfold abC;rw[hn]
 rw[ag (λz=>e z.1)];exact h.2 s hs (hx.imp_right (λz=>⟨z.1,I⟩))
theorem xq.skip(h:xq l m n i Cd)(hn: ¬l.getD i 0=n):xq l m n (i+1) Cd:=
 ⟨h.1,λs hs hx=>h.2 s hs (hx.imp_right (λz=>⟨z.1,by rcases vY.1 z.2 with e|rfl;exact e;exact absurd z.1 hn⟩))⟩
theorem xq.next(h:xq l m n l.length Cd)(hn:0<n):xq l m (n-1) 0 Cd:=
 ⟨h.1,λs hs hx=>h.2 s hs I⟩
theorem aCp(h:l.getD i 0=n):ng l n (i+1)=ng l n i+1:=by
 (conv=>lhs;unfold ng);rw[ai h]
theorem aCq(h: ¬l.getD i 0=n):ng l n (i+1)=ng l n i:=by
 (conv=>lhs;unfold ng);rw[ag h,kU]
theorem aCr(h:l.getD i 0=n):lvl l m (m-n)+ng l n i*2^(m-n)+2^(m-n)=lvl l m (m-n)+ng l n (i+1)*2^(m-n):=by
 rw[aCp h,vU,gQ]
theorem aCs(hn:0<n)(h:n<=m):lvl l m (m-n)+ng l n l.length*2^(m-n)=lvl l m (m- (n-1)):=by
 have e:m- (n-1)=(m-n)+1:=I;rw[e];(conv=>rhs;unfold lvl);rw[show m- (m-n)=n by omega]
theorem alh{l:List Nat}{n m i:Nat}(hl:l.length<=256)(hi:i<=l.length)(hm:m<=11):lvl l m (m-n)+ng l n i*2^(m-n)<=10000000/\2^(m-n)<=2048:=by
 have W:=ak' l m (m-n) I;have h2:=abB l n i;have h3:2^(m-n)<=2048:=aI (dp aj (I:m-n<=11)) aj;have h4:ng l n i*2^(m-n)<=256*2048:=sr I h3;have h5:l.length*2048*(m-n)<=256*2048*11:=sr (sj _ hl) I;exact⟨I,h3⟩
theorem ali{P:Program}{ρ:Env}{x y:Operand}{T T' ty:TypeId}{a:Nat}(e:a=m)(hx:Env.ev ρ x=R a)(hy:Env.ev ρ y=R n)(h:n<=m)(hk:m<=aG .i64):run P ρ (.binOp .sub T x y T') ty w= .ok (.value (R (m-n))) w:=by
 subst e;exact iz hx hy h hk
theorem aCt{la:Option Addr}{lc:Nat}(h:H r w F)(hL:gO F (.slice la l.length lc) (l.map R))(hl:l.length<=256)(hb: ∀s,l.getD s 0<=11)(h0:0<l.length):Calls PP 51 #[.slice la l.length lc] w λe w'=> ∃bd Cd,e= .returned (cf bd l.length l.length)/\abE l Cd/\H r w' ((af bd (List.map R Cd) 3)::F):=by
 refine kC (hL.eH (show 0<(l.map R).length by rw[bX];omega)) λpb pq lp Tp q1=>?_;refine fx q1.2.1 λip qC=>?_;have yp:=Ua hb;refine gD Tryz.func51 Tryz.ntmps51 [2] ?_;refine V 16 ?_;refine bQ (σ:=Nat) [(3,3),(5,5),(13,20)] (λi ρ w=>Kn ρ [(13,R i),(3,R (nh (l.take i)))]/\H r w (F)/\(i<=l.length)) (λi=>l.length-i) (0) ⟨aq,h,I⟩ ?_;rintro i ρ w ⟨⟨aCu,rfl⟩,h,hi⟩;refine V 5 ?_;refine an J ?_ ?_<;>intro FG
 refine V 5 ?_;refine ah (cI J J q1.1 I) (aO h J (nd q1.2.2 I) ?_);refine V 5 ?_;refine ah (Lf J J) ?_;refine V 6 ?_;exact⟨aH 10,i+1,cw,Kn.mk ⟨J,(int_eq (by rw[oK l 0 i I,ala])),trivial⟩,h,I⟩
 have Uf:nh (l.take i)=nh l:=(by rw[jf I]);refine cg (nh l) λm hm=>?_;rw[hm]at yp Uf;refine V 5 ?_;refine tu h J J J I I I J ?_;intro bd w h;rw[Ub]at h;refine V 13 ?_;refine bQ (σ:=Nat×List Nat) [(7,10),(25,53)] (λ⟨n,Cd⟩ ρ w=>Kn ρ [(8,R n),(7,R (lvl l m (m-n)))]/\H r w ((af bd (List.map R (Cd)) 3)::F)/\(n<=m)/\(xq l m n 0 Cd)) (λ⟨n,Cd⟩=>n) (m,List.replicate l.length 0) ⟨(Kn.mk ⟨(int_eq (b8 Int.ofNat Uf)),(int_eq (by rw[AE];rfl)),trivial⟩),h,(aR _),dR,λs hs hx=>by have:= @abD l s;omega⟩ ?_;rintro⟨n,Cd⟩ ρ w ⟨⟨aCv,rfl⟩,h,hn,hCP⟩;refine V 6 ?_;refine an J ?_ ?_<;>intro DM
 . refine V 10 ?_;refine bQ (σ:=Nat×List Nat) [(7,7),(9,10),(31,53)] (λ⟨i,C3⟩ ρ w=>Kn ρ [(31,R i),(7,R (lvl l m (m-n)+ng l n i*2^(m-n)))]/\H r w ((af bd (List.map R (C3)) 3)::F)/\(i<=l.length)/\(xq l m n i C3)) (λ⟨i,C3⟩=>l.length-i) (0,Cd) ⟨(Kn.mk ⟨J,(int_eq (by simp[ng])),trivial⟩),h,I,hCP⟩ ?_;rintro⟨i,C3⟩ ρ w ⟨⟨aCw,rfl⟩,h,hi,Ob⟩;refine V 5 ?_;refine an J ?_ ?_<;>intro tK
   have jg:= @alh l n m i hl hi yp;refine aQ (a9 (jB [(7,7),(9,10),(33,52)] (λρ w=> ∃C4:List Nat,Kn ρ [(7,R (lvl l m (m-n)+ng l n (i+1)*2^(m-n)))]/\H r w ((af bd (List.map R (C4)) 3)::F)/\(xq l m n (i+1) C4)) ?_ ?_))
   refine V 3 ?_;refine ah (cI J J q1.1 I) (aO h J (nd q1.2.2 I) ?_);refine V 9 ?_;refine an J ?_ ?_<;>intro rN
   refine V 7 ?_;refine ah (ali Uf J J hn az) ?_;refine V 2 ?_;refine gC (v:=R ((lvl l m (m-n)+ng l n i*2^(m-n))/2^(m-n))) h J (jC (by rw[Ob.1];omega)) J J J ?_;intro w h;dsimp only[List.set]at h;rw[Ks]at h;refine V 5 ?_;refine ah (ali Uf J J hn az) (ah (gn J J dw (aI jg.2 aj)) ?_);refine V 3 ?_;exact⟨aH 24,C3.set i ((lvl l m (m-n)+ng l n i*2^(m-n))/2^(m-n)),Kn.mk ⟨(int_eq (b8 Int.ofNat (aCr rN))),trivial⟩,h,Ob.set I rN⟩
   exact aQ ⟨aH 8,C3,Kn.mk ⟨(int_eq (by rw[aCq rN])),trivial⟩,h,Ob.skip rN⟩
   rintro ρ w ⟨C4,⟨aCx,rfl⟩,h,hC4⟩;refine V 4 ?_;exact⟨aH 4,(i+1,C4),cw,aq,h,I,hC4⟩
   have nX:i=l.length:=I;rw[nX]at Ob;refine V 3 ?_;exact ah (iz (b:=1) (h2:=ao.lit _) J J DM az) (dI (aC ⟨aH 10,(n-1,C3),cw,Kn.mk ⟨J,(int_eq (b8 Int.ofNat (by rw[nX];exact aCs DM hn))),trivial⟩,h,I,Ob.next DM⟩))
 refine V 7 ?_;obtain rfl:n=0:=I;exact⟨bd,Cd,J,⟨hCP.1,λs hs hp=>by rw[hm];exact hCP.2 s hs (Or.inl hp)⟩,h⟩
theorem alj{wb:Nat}{x:Wr}{ta sa:Option Addr}{tc sc:Nat}{T:List UInt8}(h:H r w F)(hW:(af wb (aT x) 49)∈F)(hL:gO F (.slice x.la x.ln x.lc) (l.map R))(Ck:gO F (.slice sa Cd.length sc) (Cd.map R))(hT:aP F (.slice ta T.length tc) T)(hlC:Cd.length=l.length)(NX:T.length<=2147483648)(hx: ∀i,i<T.length->(T.getD i 0).toNat<l.length)(vl: ∀s,l.getD s 0<=11)(zy: ∀i,i<T.length->Cd.getD (T.getD i 0).toNat 0<=10000000):Calls PP 52 #[aW wb,.slice ta T.length tc,.slice sa Cd.length sc] w λe w'=> ∃bd,e= .returned (cf bd (qD (T.flatMap λy=>dG (Cd.getD y.toNat 0) (l.getD y.toNat 0))).length (qD (T.flatMap λy=>dG (Cd.getD y.toNat 0) (l.getD y.toNat 0))).length)/\H r w' (EB (some bd) (qD (T.flatMap λy=>dG (Cd.getD y.toNat 0) (l.getD y.toNat 0))) []::F):=by
 refine fx hW λiw hiw=>(cg (λk=>(T.take k).flatMap λy=>dG (Cd.getD y.toNat 0) (l.getD y.toNat 0)) λBT Hu=>?_);have z8:BT 0=[]:=(by rw[<-Hu];rfl);have lh: ∀k,k<T.length->BT (k+1)=BT k++dG (Cd.getD (T.getD k 0).toNat 0) (l.getD (T.getD k 0).toNat 0):=λk hk=>(by rw[<-Hu];simp only[];rw[oK T 0 k hk,K6];simp);have hBe:(T.flatMap λy=>dG (Cd.getD y.toNat 0) (l.getD y.toNat 0))=BT T.length:=(by rw[<-Hu];simp only[];rw[K1]);rw[hBe];replace h:=h.ghost (C (List.map bl (BT 0)++[]) 4);refine mW Tryz.func52 Tryz.ntmps52 [6] ?_;refine V 6 ?_;refine ah (Iq Wf) (sB h J J J ?_);intro bb w h;have jm:H r w ((af bb [.slice (aB none) (List.length (BT 0)) 0] 120)::(none,C (List.map bl (BT 0)++[]) 4)::F):=(by rw[z8]at h ⊢;exact h);replace h:=jm;refine V 10 ?_;refine bQ (σ:=Nat×Option Nat×Nat×List Value) [(9,9),(14,31)] (λ⟨i,ob,c,sp⟩ ρ w=>Kn ρ [(14,R i)]/\H r w ((af bb [.slice (aB ob) (List.length (BT i)) c] 120)::(ob,C (List.map bl (BT i)++sp) 4)::F)/\(i<=T.length)/\(bG ob (List.length (BT i)) c (List.map bl (BT i)) sp 1)/\((BT i).length<=11*i)) (λ⟨i,ob,c,sp⟩=>T.length-i) (0,none,0,[]) ⟨aq,h,I,(by rw[z8];exact⟨J,J,aR _,λ_=>rfl⟩),(by rw[z8];exact bP _)⟩ ?_;rintro⟨i,ob,c,sp⟩ ρ w ⟨⟨aCy,rfl⟩,h,hi,hk,jG⟩;refine V 5 ?_;refine an J ?_ ?_<;>intro IM
 refine kC (akA hT I) λvb vq lv Tv q2=>?_;refine fx q2.2.1 λiv Dp=>?_;have Bt:=hx i I;refine kC (hL.eH (show 0<(l.map R).length by rw[bX];omega)) λpb pq lp Tp q1=>?_;refine fx q1.2.1 λip qC=>?_;refine kC (Ck.eH (show 0<(Cd.map R).length by rw[bX];omega)) λpb3 pq3 lp3 Tp3 q3=>?_;refine fx q3.2.1 λip3 aI1=>?_;have hLl:=hL.len;rw[bX]at hLl;have aI2:=vl (T.getD i 0).toNat;have aCz:=zy i I;have hBi:=lh i I;refine V 5 ?_;refine ah (cI J J q2.1 I) (aO h J (jy q2.2.2 I) (dI (aC (bL h [0,4,8,12,20,24,28,36,17,33,40,45,51] ?_))));intro w h;refine av 3 ?_;refine aw J (cI J J q3.1 I) ?_;refine av 4 ?_;refine aK J h J (nd q3.2.2 I) ?_;refine av 1 ?_;refine aw J (cI J J q1.1 I) (aK J h J (nd q1.2.2 I) (zk J J J J J ((Hp h hk I I I).mono ?_)));rintro e w1 ⟨cr,c2,cG,rfl,cK,h⟩;rw[<-hBi]at h cK;refine⟨_,J,?_⟩;refine cm ?_;refine V 4 ?_;exact⟨aH 19,(i+1,cr,c2,cG),cw,aq,h,I,cK,(by rw[lh i I,aF,yU];omega)⟩
 refine V 4 ?_;refine dJ J J ?_;obtain rfl:i=T.length:=I;refine(abj h hk I).mono ?_;rintro e w1 ⟨bd,rfl,h⟩;refine⟨_,J,?_⟩;refine V 3 ?_;exact⟨bd,J,h⟩
end Go.Z
