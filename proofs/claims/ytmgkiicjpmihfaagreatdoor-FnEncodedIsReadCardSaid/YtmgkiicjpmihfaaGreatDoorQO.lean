/- FnEncodedIsRead returns true, and its arguments read afterwards as before, for every input that its row lets in; conditions: those of the row (laid, recurses, unfollowed) and its tie. -/
import Derived.ChangeAt
import Derived.ChangeSame
import Derived.ChangeSlices
import Derived.Deep.DeepHandedRow
import Derived.Deep.DeepWitnessRowRef
import Derived.LaidLaws
import Derived.OpenShut
import Derived.ProofKit
import Derived.RowKit3
import Derived.SevenTiedAt
import Derived.Test.YtmgkiicjpmihfaaGreatDoorCards
import Derived.Test.YtmgkiicjpmihfaaGreatDoorTie
import Derived.Test.YtmgkiicjpmihfaaGreatDoorQN
set_option linter.all false
set_option maxRecDepth 100000
set_option maxHeartbeats 400000000
open List renaming length -> W, getD -> aa, map -> ar, replicate -> aT, set -> bJ, range -> cL
open UInt8 renaming ofNat -> bS
open Or renaming inl -> a_, inr -> bG
open Go.Z.Env renaming ev -> aL, put -> fU
namespace Go.Z
open Go Go.Proofs
theorem aHO:Vd adA:=by
 intro r w F n o T N h a hN f g;obtain⟨ta,tn,tc,rfl,p⟩:=id a;obtain⟨q,nn,nc,rfl,i⟩:=id hN;refine(aGM h a hN f).mono ?_;rintro e w' ⟨ob,B,S,c,rfl,d,j,k,l,h⟩;have m:=d.1;rw[aF]at m
 obtain⟨b,rfl⟩: ∃b,ob=some b:=by
  cases ob with
  |none=>have:=d.2 J;omega
  |some b=>exact⟨b,J⟩
 have hs:ag (B++S) 0 (W B)=B:=(by unfold ag;rw[xA,List.take_left]);exact⟨b,B++S,W B,c,J,h,j,by rw[aF];omega,I,k,by rw[hs];exact l⟩
end Go.Z
namespace Go.Z
open Go Go.Proofs Go.ChangeShapes Go.WideShapes Go.ChangeAt Go.RowKit
variable {cs:Array Value}{p:List MemPlace}{fuel g0 t:Nat}{n:String}{W':World}
def uB(Z_:World):List aK:=(cL Z_.heap.size).map λb=>(some b,Z_.heap.getD b default)
def P0{Z_:World}{b:Nat}{o:Obj}(h:Z_.heap[b]? =some o):(some b,o)∈uB Z_:=by
 have a:=(Qa.1 h).1;refine jS.2 ⟨b,oY.2 a,?_⟩;rw[tD,h];rfl
def aHP(Z_:World):H (DU Z_) Z_ (uB Z_):=by
 refine⟨J,?_,λb o hm=>?_⟩
 unfold uB;rw[List.filterMap_map];have:((λx:aK=>x.1)∘λb=>(some b,Z_.heap.getD b default))=λb=>some b:=rfl;rw[this];simp only[List.filterMap_some];exact WO
 obtain⟨y,a,e⟩:=jS.1 hm;simp only[qO,P_]at e;obtain⟨rfl,rfl⟩:=e;have c:=oY.1 a;simp[c]
def aHQ{r:fT}{Z_:World}(h:H r W' (uB Z_))(c:r=DU Z_):ft Z_ W':=by
 have hb: ∀k,k<Z_.heap.size->W'.heap[k]? =Z_.heap[k]? :=λk d=>(by have a:Z_.heap[k]? =some Z_.heap[k]:=(by simp[d]);rw[h.fp k _ (P0 a),a]);refine⟨h.rest.trans c,?_,hb⟩;rcases dq W'.heap.size Z_.heap.size with b|e
 have:=hb W'.heap.size b;rw[FV (aW _)]at this;simp[b]at this
 exact e
def ft.cell{Z_:World}(h:ft Z_ W'){a:Addr}{v:Value}(b:Z_.cell? a=some v):W'.cell? a=some v:=by
 have c:a.block<Z_.heap.size:=by
  rcases dq a.block Z_.heap.size with e|e
  exact e
  simp[World.cell?,FV e]at b
 unfold World.cell? at b ⊢;rw[h.fp _ c];exact b
def P6{Z_:World}{a:Addr}{v:Value}(h:Z_.cell? a=some v):a=⟨a.block,a.off,none⟩/\ ∃l T,Z_.heap[a.block]? =some (C l T)/\l[a.off]? =some v:=by
 obtain⟨b,o,s⟩:=a;unfold World.cell? at h;simp only at h;split at h
 rename_i c t f d
 cases s with
 |none=>exact⟨J,c.toList,(t,f),d,by simpa using h⟩
 |some z=>simp at h
 cases h
def aoP{H':Type}{P:Program}{enc:TypeId×Value->H'}{Z_:World}{base:Nat}{t e:TypeId}{k:IntKind}{v:Value}{d:DataW H'}(c:P.underlying t=some (.slice e))(he:P.underlying e=some (.int k))(r:P.cellsOf e=1)(H:Value.okWide P Z_ .any base t v)(h:DataW.Trod enc P Z_ 0 (λ_=>true) true t v d p): ∃ad len cap,∃zs:List Int,v= .slice ad len cap/\len=W (zs.take len)/\len<=cap/\(∀n∈zs,(Lit.int k n).wf=true)/\(0<len-> ∃b q l T,ad=some ⟨b,q,none⟩/\(ah b l T)∈uB Z_/\Rd l q ((zs.take len).map (Value.int k)))/\ ∀W',ft Z_ W'-> ∀sp:Nat->Bool,(∀x∈p,sp x.block=true)->DataW.Trod enc P W' 0 sp true t v d p:=by
 obtain⟨a0,len,cap,rfl⟩:=okWide_slice c H;obtain⟨fuel,K⟩:=h;rcases open_ints c he r K with⟨f,g⟩| ⟨a,sE,X,zs,f,_,z,hm,A,g,s,u⟩
 simp[Value.cells]at f;obtain⟨rfl,rfl,rfl⟩:=f;simp only[qO]at g;obtain⟨rfl,rfl⟩:=g;exact⟨none,0,0,[],J,J,aW _,(λn L=>by cases L),λB=>absurd B (vT _),λW' _ sp _=>shut_slice_nil c⟩
 simp[Value.cells]at f;obtain⟨rfl,rfl,rfl⟩:=f;simp only[qO]at g;obtain⟨rfl,rfl⟩:=g;simp only[FU]at A;refine⟨some a,len,cap,zs,J,by rw[fR];omega,z,u,λB=>?_,λW' M sp N=>?_⟩
 have o:=s 0 I;have O:a.add 0=a:=(by simp[Addr.add]);rw[O]at o;obtain⟨D,l,T,E,_⟩:=P6 o;refine⟨a.block,a.off,l,T,by rw[<-D],P0 E,Rd.of λj Q=>?_⟩;rw[cB,fR]at Q;have F:=s j I;rw[D,add_plain]at F;obtain⟨_,R,T2,G,S⟩:=P6 F;rw[E]at G;have e2:l=R:=(by have:=xC G;simp only[C,Obj.cells.injEq,Xa]at this;exact this.1);rw[e2,S,kP,qg,ao I];simp[aa,show j<W zs by omega]
 have m: ∀i,i<W zs->W'.cell? (a.add i)=some (.int k (aa zs i 0)):=λi hi=>M.cell (s i hi);by_cases U:W zs=0
 have o:cap=0:=I;have V:len=0:=I;subst o;subst V;have t0:=shut_ints (enc:=enc) (P:=P) (w:=W') (base:=0) (spare:=sp) (held:=true) (a:=a) (len:=0) (cap:=0) (zs:=zs) 0 c he r (cj _) (aW _) hm (by simp[U]) m u;exact⟨2,by simpa [Value.cells] using t0⟩
 have y:sp a.block=true:=(by have:=N (.cell a.block a.off) (MemPlace.mem_row.2 ⟨0,I,by simp⟩);exact this);have t0:=shut_ints (enc:=enc) (P:=P) (w:=W') (base:=0) (spare:=sp) (held:=true) (a:=a) (len:=len) (cap:=cap) (zs:=zs) 0 c he r (cj _) z hm (by simp[y,A]) m u;exact⟨2,by simpa [Value.cells] using t0⟩
def aoR: "*" ++ "errors.errorString" = "*errors.errorString" :=by decide
def aHS(u:TypeId)(h:PP.typeName? 3 u=some "*errors.errorString"):u=199:=
 typeName_ptr_named (nm:= "errors.errorString") (by rw[aoR];kernel_rfl) (by kernel_rfl) an u (by rw[aoR];exact h)
def aHT:PP.globalNamed "io.EOF" =some 0:=by kernel_rfl
def aHU:PP.globalNamed "io.ErrUnexpectedEOF" =some 1:=by kernel_rfl
def aHV:PP.globalNamed "framesunpacked/pub/zstd.fuzzing" =some 2:=by kernel_rfl
def aHW:PP.globalNamed "framesunpacked/pub/zstd.literalLengthBase" =some 4:=by kernel_rfl
def aHX:PP.globalNamed "framesunpacked/pub/zstd.matchLengthBase" =some 5:=by kernel_rfl
def aHY:(PP.globals[0]?).map (·.type)=some 103:=by kernel_rfl
def aHZ:(PP.globals[1]?).map (·.type)=some 103:=by kernel_rfl
def aH0:(PP.globals[2]?).map (·.type)=some 4:=by kernel_rfl
def aH1:(PP.globals[4]?).map (·.type)=some 249:=by kernel_rfl
def aH2:(PP.globals[5]?).map (·.type)=some 249:=by kernel_rfl
def aH3:PP.cellsOf 51=1:=by kernel_rfl
def aH4:PP.cellsOf 201=1:=by kernel_rfl
def adR{Z_:World}{g:Nat}(d:PP.globalNamed n=some g)(a:Z_.var? PP n=some cs): ∃T,(ah g cs.toList T)∈uB Z_/\ ∀o v,cs.toList[o]? =some v->Z_.cell? ⟨g,o,none⟩=some v:=by
 unfold World.var? at a;rw[d]at a;simp only[rO]at a;split at a
 rename_i c t f b;cases a;refine⟨(t,f),P0 b,λo v e=>?_⟩;unfold World.cell?;simp only[b];simpa using e
 cases a
def aoS{Z_:World}{g:Nat}{text:List UInt8}(m:PP.globalNamed n=some g0)(o:(PP.globals[g0]?).map (·.type)=some 103)(d:PP.globalNamed n=some g)(i:(PP.globals[g]?).map (·.type)=some t)(q:Z_.var? PP n=some cs)(hd:DataW.trod (λ_=>()) PP Z_ 0 (λ_=>true) false fuel t cs.toList=some (.iface "*errors.errorString" (.ptr (.agg [.lit (.string text)])),p))(j: ∀b off,MemPlace.cell b off∈MemPlace.row ⟨g,0,none⟩ cs.size++p->(∃c t,Z_.heap[b]? =some (.cells c t (0,0)))/\ ∀u v,Z_.cell? ⟨b,off,none⟩=some (.iface u v)->Value.okWide PP Z_ .any 0 u v): ∃a:Addr,(∃T,(ah g0 [.iface 199 (.pointer (some a))] T)∈uB Z_)/\(∃l,∃T:TypeId,(some a.block,C l T)∈uB Z_)/\MemPlace.cell a.block a.off∈p/\a=⟨a.block,a.off,none⟩:=by
 have e:g=g0:=(by rw[m]at d;exact(xC d).symm);subst e;have e:t=103:=(by rw[o]at i;exact(xC i).symm);subst e;obtain⟨T,hm,r⟩:=adR d q
 obtain⟨a,s,w,f,_,_,hp⟩:=errorString_of_trod CJ aHS Tryz.underlying199 Tryz.underlying201 J J (by kernel_rfl) aH4 (by kernel_rfl) hd (λu v h=>by
   have y:cs.size=1:=by have:=cD W h;simpa using this
   refine(j g 0 (oA _ (MemPlace.mem_row.2 ⟨0,I,by simp⟩))).2 u v (r 0 _ ?_)
   rw[h];rfl)
 rw[w]at hm;have k:MemPlace.cell a.block a.off∈p:=(by rw[hp];exact MemPlace.mem_row.2 ⟨0,I,by simp⟩);obtain⟨⟨c,t,x⟩,_⟩:=j a.block a.off (fM _ k);exact⟨a,⟨T,hm⟩,⟨c.toList,t,P0 x⟩,k,(P6 f).1⟩
def adS{H':Type}{k:IntKind}: ∀{a b:List Int},(lits (H:=H') k a)=lits k b->a=b
 | [],[],_=>rfl
 | [],_::_,h=>by simp[lits]at h
 |_::_,[],h=>by simp[lits]at h
 | x::a,y::b,h=>by
   simp only[lits,DM,List.cons.injEq,DataW.lit.injEq,Lit.int.injEq,true_and]at h
   rw[h.1,adS (a:=a) (b:=b) h.2]
def aoT{Z_:World}{g:Nat}{Ns:List Nat}(hN:0<W Ns)(u:PP.globalNamed n=some g0)(v:(PP.globals[g0]?).map (·.type)=some 249)(c:PP.globalNamed n=some g)(f:(PP.globals[g]?).map (·.type)=some t)(w:Z_.var? PP n=some cs)(hd:DataW.trod (λ_=>()) PP Z_ 0 (λ_=>true) false fuel t cs.toList=some (.slice (lits .u32 (Ns.map λz=>((z:Nat):Int))) [],p)):J6 (uB Z_) g0 Ns:=by
 have e:g=g0:=(by rw[u]at c;exact(xC c).symm);subst e;have e:t=249:=(by rw[v]at f;exact(xC f).symm);subst e;obtain⟨T,hm,_⟩:=adR c w;rcases open_ints (P:=PP) (k:= .u32) (by kernel_rfl:PP.underlying 249=some (.slice 51)) Tryz.underlying51 aH3 hd with⟨_,b⟩| ⟨a,len,cap,zs,x,_,H,_,y,b,h,_⟩
 cases b
 simp only[qO,DataW.slice.injEq]at b;have i:=adS b.1.1;have e2:zs.drop len=[]:=(adS (a:=[]) (k:= .u32) b.1.2).symm;simp only[FU]at y;have hlen:len=W Ns:=(by have h1:=cD W i;have h2:=cD W e2;simp at h1 h2;omega);rw[x]at hm;have m:=h 0 I;have A:a.add 0=a:=(by simp[Addr.add]);rw[A]at m;obtain⟨o,l,T',q,_⟩:=P6 m;refine⟨a.block,a.off,cap,T,l,T',by rw[<-hlen,<-o];exact hm,P0 q,Rd.of λj d=>?_⟩;rw[cB]at d;have r:=h j I;rw[o,add_plain]at r;obtain⟨_,B,T2,s,D⟩:=P6 r;rw[q]at s;have E:l=B:=(by have:=xC s;simp only[C,Obj.cells.injEq,Xa]at this;exact this.1);rw[E,D];have F:aa zs j 0=((aa Ns j 0:Nat):Int):=(by have G:aa (zs.take len) j 0=aa zs j 0:=(by simp only[bX,qg];rw[ao I]);rw[<-G,<-i];simp[aa,d]);rw[F];simp[aa,d]
def aH5{Z_:World}{g:Nat}(h:PP.globalNamed n=some g0)(i:(PP.globals[g0]?).map (·.type)=some 4)(a:PP.globalNamed n=some g)(c:(PP.globals[g]?).map (·.type)=some t)(j:Z_.var? PP n=some cs)(hd:DataW.trod (λ_=>()) PP Z_ 0 (λ_=>true) false fuel t cs.toList=some (.lit (.bool false),p)): ∃T,(ah g0 [.bool false] T)∈uB Z_:=by
 have e:g=g0:=(by rw[h]at a;exact(xC a).symm);subst e;have e:t=4:=(by rw[i]at c;exact(xC c).symm);subst e;obtain⟨T,hm,_⟩:=adR a j;have hb:PP.underlying 4=some .bool:=Tryz.underlying4;obtain⟨b,d,f⟩:=DataW.trod_bool hb hd;simp only[qO,DataW.lit.injEq,Lit.bool.injEq]at f;rw[<-f.1]at d;rw[d]at hm;exact⟨T,hm⟩
def aH6{Z_:World}(o:laidMetH PP YtmgkiicjpmihfaaGreatDoor.Rows.fnChangedIsReadOrToldRow.laid Z_): ∃aE aU,Gl (uB Z_) aE aU:=by
 have c:laidMet PP YtmgkiicjpmihfaaGreatDoor.Rows.fnChangedIsReadOrToldRow.laid Z_:=o;obtain⟨L,a,p,n⟩:=c;obtain⟨M,t3,N,f3,O,P,Q,R,q,S,a,rfl⟩:=a;obtain⟨g0,t0,c0,f0,p0,T,r,s,t,u,a,rfl⟩:=a;obtain⟨g1,t1,c1,f1,p1,U,v,w,x,y,a,rfl⟩:=a;obtain⟨g4,t4,V,f4,W,X,z,d,f,g,a,rfl⟩:=a;obtain⟨g5,t5,Y,f5,Z,q5,h,i,j,k,a,rfl⟩:=a;obtain⟨g2,t2,c2,f2,p2,q2,A,B,C,D,a,rfl⟩:=a;obtain⟨aE,E,F,G,H⟩:=aoS aHT aHY r s t u (λb off hm=>n b off (fM _ (oA _ hm)));obtain⟨aU,I,l,m,K⟩:=aoS aHU aHZ v w x y (λb off hm=>n b off (fM _ (fM _ (oA _ hm))));refine⟨aE,aU,E,I,aH5 aHV aH0 A B C D,F,l,λe=>?_,aoT (Ns:=zJ) an aHW aH1 z d f g,aoT (Ns:=zK) an aHX aH2 h i j k⟩;subst e;have h1:=(P9.1 p).2.1;have h2:=(P9.1 h1).2.2 _ (fM _ G) _ (oA _ (fM _ m));exact h2 J
end Go.Z
namespace Go.Proofs.YtmgkiicjpmihfaaGreatDoor
open Go Go.Z Go.ChangeShapes Go.WideShapes Go.ChangeAt Go.RowKit
def own:ownKnob Tryz.prog.godebug=none:=by kernel_rfl
section
variable {H':Type}{enc:TypeId×Value->H'}
def aH7{P:Program}{f:Func}{s:ChangeSpec}{apart fresh handsOn again:Bool}{Z_ W':World}{args:Array Value}{v:Value}{a gs:List (DataW H')}{before pa pv:List MemPlace}(h:ft Z_ W')(e:DataW.Whole enc P f.params.toList s.vars apart Z_ args.toList a gs before)(l: ∀(b:Nat) (sp:Nat->Bool) (hd:Bool),DataW.TrodAll enc P W' b sp hd f.resultTypes.toList (v.resultList f.resultTypes.size) (s.fn H' (a++gs)).results [])(c: ∀sp:Nat->Bool,(∀p∈before,sp p.block=true)->DataW.TrodAll enc P W' 0 sp true f.params.toList args.toList (s.fn H' (a++gs)).args pa)(d: ∀sp:Nat->Bool,(∀p∈before,sp p.block=true)->DataW.TrodVars enc P W' sp s.vars (s.fn H' (a++gs)).vars pv)(g:before=pa++pv)(n: ∀(j:Nat) (t:TypeId) (r:Value),f.resultTypes[j]? =some t->(v.resultList f.resultTypes.size)[j]? =some r->Value.okWide P W' .any 0 t r):s.post enc P f apart fresh handsOn again Z_ args v W':=by
 have hold: ∀p∈before,(λb=>decide (b<Z_.heap.size)) p.block=true:=λp hp=>(by simpa using e.lt p hp);have o:Z_.keptBut W' (· ∈before):=(by have q:=World.keptBut_refl Z_ (· ∈before);have k:=h.rest;simp only[DU,qO]at k;refine⟨k.2.1,k.2.2,λi hi=>?_⟩;rw[h.fp i hi];exact q.2.2 i hi);refine⟨a,gs,before,[],pa,pv,e,l _ _ _,c _ hold,d _ hold,World.keptBut_mono (λp hp=>⟨hp,?_⟩) o,λ_=>?_⟩
 rw[g,oX]at hp;exact bG hp
 have u:=e.lt;obtain⟨_,_,_,_,_,w,x⟩:=e;refine⟨n,_,_,([]++pa)++pv,⟨[]++pa,pv,trodAll_append (c _ (λ_ _=>rfl)) (l _ _ _),d _ (λ_ _=>rfl),J,?_,?_⟩,?_⟩
 intro b off hp;have m:MemPlace.cell b off∈before:=(by rw[g];simpa using hp);have hb:b<Z_.heap.size:=u _ m;have:W'.frozen? ⟨b,off,none⟩=Z_.frozen? ⟨b,off,none⟩:=(by unfold World.frozen?;simp only[h.fp b hb]);rw[this];exact w b off m
 intro y;have:=x y;rw[g]at this;simpa using this
 intro p hp _;rw[g];simpa using hp
def aH8{Z_:World}{ad:Option Addr}{len cap:Nat}{zs:List Int}(h1:len=W (zs.take len))(h2:len<=cap)(hw: ∀n∈zs,(Lit.int .u8 n).wf=true)(c:0<len-> ∃b q l T,ad=some ⟨b,q,none⟩/\(ah b l T)∈uB Z_/\Rd l q ((zs.take len).map (Value.int .u8))): ∃X:List UInt8,aY (uB Z_) (.slice ad len cap) X:=by
 have hm:(zs.take len).map (Value.int .u8)=((zs.take len).map λz=>bS z.toNat).map u8:=(by rw[F3];refine I_ λz d=>?_;have:=hw z (List.mem_of_mem_take d);simp only[Lit.wf,oZ,decide_eq_true_eq]at this;have a:IntKind.u8.min=0:=rfl;have e2:IntKind.u8.max=255:=rfl;rw[a,e2]at this;show Value.int .u8 z=u8 (bS z.toNat);rw[yC];refine int_eq ?_;have e:aN .u8+1=256:=rfl;rw[e];omega);refine⟨(zs.take len).map λz=>bS z.toNat,ad,len,cap,J,by rw[cB];exact h1,h2,λf=>?_⟩;obtain⟨b,q,l,T,a,e2,g⟩:=c f;exact⟨b,q,l,T,a,e2,by rw[<-hm];exact g⟩
def aH9{Z_:World}{ad:Option Addr}{len cap:Nat}{zs:List Int}(h1:len=W (zs.take len))(h2:len<=cap)(hw: ∀n∈zs,(Lit.int .i64 n).wf=true)(a:0<len-> ∃b q l T,ad=some ⟨b,q,none⟩/\(ah b l T)∈uB Z_/\Rd l q ((zs.take len).map (Value.int .i64))): ∃N:List Int,og (uB Z_) (.slice ad len cap) N:=
 ⟨zs.take len,ad,len,cap,J,h1,h2,λe=>a I,λi=>by
   rcases dq i (W (zs.take len)) with hi|hi
   . have c:aa (zs.take len) i 0∈zs:=by
       rw[bX,gW hi]
       exact List.mem_of_mem_take (Ai hi)
     have:=hw _ c
     simp only[Lit.wf,oZ,decide_eq_true_eq]at this
     have d:IntKind.i64.min= -9223372036854775808:=rfl
     have e2:IntKind.i64.max=9223372036854775807:=rfl
     rw[d,e2]at this
     omega
   . rw[bX,gB hi]
     exact⟨by decide,by decide⟩⟩
def aH_:PP.cellsOf 3=1:=by kernel_rfl
def aH':PP.cellsOf 5=1:=by kernel_rfl
end
noncomputable def low:Nat:=(World.holding Tryz.prog default ⟨#[],#[],[]⟩).heap.size
def strOf(l:List UInt8):Value:= .string ⟨l.toArray⟩
noncomputable def adU (os:Os):World:=
 let w0:=World.holding Tryz.prog os ⟨#[.cells #[strOf [115,104,111,114,116,32,98,117,102,102,101,114]] 201,.cells #[strOf [69,79,70]] 201,.cells #[strOf [117,110,101,120,112,101,99,116,101,100,32,69,79,70]] 201,.cells (zJ.map dB).toArray 51,.cells (zK.map dB).toArray 51],#[],[]⟩
 let put (h:Array Obj) (g:Nat) (cs:Array Value):Array Obj:=h.modify g fun
   | .cells _ t frozen=> .cells cs t frozen
   |o=>o
 {w0 with heap:=put (put (put (put (put w0.heap 3 #[.iface 199 (.pointer (some ⟨low,0,none⟩))]) 0 #[.iface 199 (.pointer (some ⟨low+1,0,none⟩))]) 1 #[.iface 199 (.pointer (some ⟨low+2,0,none⟩))]) 4 #[.slice (some ⟨low+3,0,none⟩) 20 20]) 5 #[.slice (some ⟨low+4,0,none⟩) 21 21]}
def aIa:Vd (λT D=>(mx D).1=0\/mx D=(1,T)):=λr w F d f T N h g hN a i=>
 (aHO r w F d f T N h g hN a i).mono λe w' ⟨b,j,n,c,h1,h2,k,l,m,o,p⟩=>⟨b,j,n,c,h1,h2,k,l,m,o,aHM p a⟩
section
variable {H':Type}{enc:TypeId×Value->H'}
def aIb{Z_:World}{base:Nat}{args:Array Value}{f gs:List (DataW H')}{before:List MemPlace}(a: ∀(j:Nat) t v,Tryz.f4.params[j]? =some t->args[j]? =some v->Value.okWide Tryz.prog Z_ .any base t v)(g:DataW.Whole enc Tryz.prog Tryz.f4.params.toList Rows.fnEncodedIsReadSpec.vars false Z_ args.toList f gs before)(l:laidMetH Tryz.prog Rows.fnEncodedIsReadRow.laid Z_):Calls Tryz.prog 4 args Z_ λe W'=> ∃v,e= .returned v/\Rows.fnEncodedIsReadSpec.post enc Tryz.prog Tryz.f4 false true false false Z_ args v W':=by
 have i:=g;obtain⟨p,q,b,m,rfl,E,F⟩:=g;have hA:DataW.TrodAll enc Tryz.prog Z_ 0 (λ_=>true) true Tryz.f4.params.toList args.toList f p:=b;rw[Tryz.params4]at hA a;obtain⟨v0,n,d0,o,p0,G,r,rfl,rfl,s,u⟩:=trodAll_cons hA;obtain⟨v1,w,d1,y,p1,I,rfl,rfl,rfl,h1,r1⟩:=trodAll_cons u;obtain⟨rfl,rfl,rfl⟩:=trodAll_nil r1;obtain rfl:args= #[v0,v1]:=(by cases args;simp_all);obtain⟨rfl,rfl⟩:=trodVars_none m;obtain⟨ta,tn,tc,K,rfl,t1,t2,t3,t4,t5⟩:=aoP Tryz.underlying22 Tryz.underlying5 aH' (a 0 22 v0 J J) s;obtain⟨L,cn,M,O,rfl,c1,c2,z,A,B⟩:=aoP Tryz.underlying23 Tryz.underlying3 aH_ (a 1 23 v1 J J) h1;obtain⟨T,C⟩:=aH8 t1 t2 t3 t4;obtain⟨N,hN⟩:=aH9 c1 c2 z A;obtain⟨aE,aU,D⟩:=aH6 l;refine(aCK aIa (aHP Z_) D C hN).mono λe W' ⟨he,Z,h⟩=>?_;have c:ft Z_ W':=aHQ (H.adB h) J;subst he;simp only[dN]at i;refine⟨_,J,aH7 (pa:=p0++p1) (pv:=[]) c i (λ_ _ _=>trodAll_mk1 (shut_bool Tryz.underlying4 _)) (λsp k=>?_) (λ_ _=>rfl) (by simp) (ok_one (by kernel_rfl) J (okWide_bool_mk Tryz.underlying4 _))⟩;rw[Tryz.params4];exact⟨p0,_,t5 W' c sp (λx d=>k x (by simp[d])),⟨p1,[],B W' c sp (λx d=>k x (by simp[d])),J,by simp⟩,J⟩
end
def aIc(os:Os)(args:Array Value):laidMet Tryz.prog Rows.fnEncodedIsReadRow.laid ((adU os).forCall (λ_ _=>0) ⟨#[],args,[]⟩).memory:=
 laidMet_of_run' 8 (by kernel_rfl) (by kernel_rfl)
abbrev adV:Array Value:= #[.slice none 0 0,.slice none 0 0]
def aId(os:Os){H:Type}(enc:TypeId×Value->H): ∃places,DataW.whole enc Tryz.prog ((adU os).forCall (λ_ _=>0) ⟨#[],adV,[]⟩).memory Tryz.f4.params.toList Rows.fnEncodedIsReadSpec.vars false adV.toList 8=some ([.nil,.nil],[],places):=
 ⟨[],by kernel_rfl⟩
def aIe(os:Os)(started:os.Started)(H:Type)(enc:TypeId×Value->H)(F:Stop.Interp):ReturnsInHanded {} Tryz.checked os 4 .any ((OpenSpec.ofChange Rows.fnEncodedIsReadSpec).preRow enc Tryz.prog Tryz.f4 Rows.fnEncodedIsReadRow.domain false Rows.fnEncodedIsReadRow.laid) (((OpenSpec.ofChange Rows.fnEncodedIsReadSpec).at F).post enc Tryz.prog Tryz.f4 false true false false):=by
 obtain⟨places,a⟩:=aId os enc
 refine returnsInHanded_of_row (C:=Tryz.checked) (s:=OpenSpec.ofChange Rows.fnEncodedIsReadSpec) own started (by kernel_rfl) Tryz.func4
   (witness_row_atRef (enc:=enc) (C:=Tryz.checked) false (adU os) adV J (by kernel_rfl) (by kernel_rfl) (by kernel_rfl)
     (OpenSpec.preRow_of_cond 8 a (by kernel_rfl) (λk b=>by cases b) (by kernel_rfl) (aIc os _))) ?_
 intro Z_ base args f gs before c d _ _ _ e _ _;exact aIb c d e
def aIf:Rows.FnEncodedIsReadSaid:=
 OpenClaim.holds_of_cond 4 Tryz.f4 J J J J J J J iG J J J J J (by kernel_rfl) Tryz.func4 (by kernel_rfl)
   (tE (by kernel_rfl)) (by unfold Func.isWrapper;first| (rw[ao (by decide+kernel)];kernel_rfl)| (rw[aj (by decide+kernel)];exact⟨J,J⟩))
   (λos started H enc _ F=>by rw[OpenClaim.pre_eq_preRow];exact aIe os started H enc F)
def aIg(f:FuncId)(fn:Func)(c:Tryz.pinned.checked.prog.funcNamed "framesunpacked/laws.FnEncodedIsRead" =some f)(a:Tryz.pinned.checked.prog.funcs[f]? =some fn):true=Tryz.pinned.checked.prog.looks []/\ ∀(j:Nat) t,fn.params[j]? =some t->Tryz.pinned.checked.prog.wantsStandIn t=false:=by
 obtain rfl:f=4:=xC ((show Tryz.prog.funcNamed "framesunpacked/laws.FnEncodedIsRead" =some 4 by kernel_rfl).symm.trans c)|>.symm;obtain rfl:fn=Tryz.f4:=(xC (Tryz.func4.symm.trans a)).symm;refine⟨by kernel_rfl,λj t b=>?_⟩;rw[Tryz.params4]at b;have hm:=Array.mem_of_getElem? b;(have:t=22\/t=23:=by simp at hm;(first|exact hm| (rcases hm with h|h|h|h<;>first|exact .inl h|exact .inr h)| (rcases hm with h|h|h<;>first|exact .inl h|exact .inr h)));rcases this with rfl|rfl
 exact(show Tryz.prog.wantsStandIn 22=false by kernel_rfl)
 exact(show Tryz.prog.wantsStandIn 23=false by kernel_rfl)
theorem fnEncoded_card:Rows.FnEncodedIsReadCardSaid:=
 Claim7.holds_tied_plain_at .later [] _ _ _ _ aIf (λ_ h=>by cases h) (by kernel_rfl) (λ_ h=>by cases h) fnEncodedIsRead_row_tie J ⟨J,J⟩ (by kernel_rfl) J aIg (by kernel_rfl)
end Go.Proofs.YtmgkiicjpmihfaaGreatDoor
