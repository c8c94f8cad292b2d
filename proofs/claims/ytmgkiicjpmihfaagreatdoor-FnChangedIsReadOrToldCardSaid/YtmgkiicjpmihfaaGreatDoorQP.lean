/- FnChangedIsReadOrTold returns true, and its arguments read afterwards as before, for every input that its row lets in; conditions: those of the row (laid, recurses, unfollowed) and its tie. -/
import Derived.ChangeAt
import Derived.ChangeSame
import Derived.ChangeSlices
import Derived.Deep.DeepHandedRow
import Derived.Deep.DeepWitnessRowRef
import Derived.LaidLaws
import Derived.OpenShut
import Derived.ProofKit
import Derived.RowKit3
import Derived.SevenTiedAt
import Derived.Test.YtmgkiicjpmihfaaGreatDoorCards
import Derived.Test.YtmgkiicjpmihfaaGreatDoorTie
import Derived.Test.YtmgkiicjpmihfaaGreatDoorQO
set_option linter.all false
set_option maxRecDepth 100000
set_option maxHeartbeats 400000000
namespace Go.Z
open Go Go.Proofs
theorem aFE:akx amW:=by
 intro r w F vt vc T N h hT hN NX hNl;obtain⟨ta,tn,tc,rfl,rT⟩:=id hT;obtain⟨na,nn,nc,rfl,hN2⟩:=id hN;refine(aFp h hT hN NX).mono ?_;rintro e w' ⟨ob,B,S,c,rfl,hB,h0,hl,hF,h⟩;have hc:=hB.1;rw[aF]at hc
 obtain⟨b,rfl⟩: ∃b,ob=some b:=by
  cases ob with
  |none=>have:=hB.2 J;omega
  |some b=>exact⟨b,J⟩
 have hs:aa (B++S) 0 B.length=B:=(by unfold aa;rw[CG,List.take_left]);exact⟨b,B++S,B.length,c,J,h,h0,by rw[aF];omega,I,hl,by rw[hs];exact hF⟩
end Go.Z
namespace Go.Z
open Go Go.Proofs Go.ChangeShapes Go.WideShapes Go.ChangeAt Go.RowKit
variable {cs:Array Value}{p:List MemPlace}{fuel g0 t:Nat}{n:String}{W':World}
def td(Z_:World):List aD:=(List.range Z_.heap.size).map λb=>(some b,Z_.heap.getD b default)
theorem OI{Z_:World}{b:Nat}{o:Obj}(h:Z_.heap[b]? =some o):(some b,o)∈td Z_:=by
 have cP:=(OP.1 h).1;refine jd.2 ⟨b,oX.2 cP,?_⟩;rw[se,h];rfl
theorem aFF(Z_:World):H (CI Z_) Z_ (td Z_):=by
 refine⟨J,?_,λb o hm=>?_⟩
 unfold td;rw[List.filterMap_map];have:((λx:aD=>x.1)∘λb=>(some b,Z_.heap.getD b default))=λb=>some b:=rfl;rw[this];simp only[List.filterMap_some];exact Vp
 obtain⟨y,hy,e⟩:=jd.1 hm;simp only[pS,ON]at e;obtain⟨rfl,rfl⟩:=e;have cP:=oX.1 hy;simp[cP]
theorem aFG{r:dQ}{Z_:World}(h:H r W' (td Z_))(hr:r=CI Z_):eJ Z_ W':=by
 have hb: ∀k,k<Z_.heap.size->W'.heap[k]? =Z_.heap[k]? :=λk hk=>(by have rA:Z_.heap[k]? =some Z_.heap[k]:=(by simp[hk]);rw[h.eH k _ (OI rA),rA]);refine⟨h.rest.trans hr,?_,hb⟩;rcases dh W'.heap.size Z_.heap.size with cP|np
 have:=hb W'.heap.size cP;rw[ET (aR _)]at this;simp[cP]at this
 exact np
theorem eJ.cell{Z_:World}(h:eJ Z_ W'){a:Addr}{v:Value}(hc:Z_.cell? a=some v):W'.cell? a=some v:=by
 have cP:a.block<Z_.heap.size:=by
  rcases dh a.block Z_.heap.size with e|e
  exact e
  simp[World.cell?,ET e]at hc
 unfold World.cell? at hc ⊢;rw[h.eH _ cP];exact hc
theorem OJ{Z_:World}{a:Addr}{v:Value}(h:Z_.cell? a=some v):a=⟨a.block,a.off,none⟩/\ ∃l T,Z_.heap[a.block]? =some (C l T)/\l[a.off]? =some v:=by
 obtain⟨b,o,s⟩:=a;unfold World.cell? at h;simp only at h;split at h
 rename_i c t f hh
 cases s with
 |none=>exact⟨J,c.toList,(t,f),hh,by simpa using h⟩
 |some z=>simp at h
 cases h
theorem Vd{H':Type}{P:Program}{enc:TypeId×Value->H'}{Z_:World}{base:Nat}{t e:TypeId}{k:IntKind}{v:Value}{d:DataW H'}(ht:P.underlying t=some (.slice e))(he:P.underlying e=some (.int k))(hc:P.cellsOf e=1)(pg:Value.okWide P Z_ .any base t v)(h:DataW.Trod enc P Z_ 0 (λ_=>true) true t v d p): ∃ad len cap,∃zs:List Int,v= .slice ad len cap/\len=(zs.take len).length/\len<=cap/\(∀n∈zs,(Lit.int k n).wf=true)/\(0<len-> ∃b q l T,ad=some ⟨b,q,none⟩/\(af b l T)∈td Z_/\Rd l q ((zs.take len).map (Value.int k)))/\ ∀W',eJ Z_ W'-> ∀sp:Nat->Bool,(∀x∈p,sp x.block=true)->DataW.Trod enc P W' 0 sp true t v d p:=by
 obtain⟨a0,len,cap,rfl⟩:=okWide_slice ht pg;obtain⟨fuel,hf⟩:=h;rcases open_ints ht he hc hf with⟨ig,hx⟩| ⟨a,ri,iZ,zs,ig,_,hl,hm,hz,hx,p7,J7⟩
 simp[Value.cells]at ig;obtain⟨rfl,rfl,rfl⟩:=ig;simp only[pS]at hx;obtain⟨rfl,rfl⟩:=hx;exact⟨none,0,0,[],J,J,aR _,(λn hn=>by cases hn),λh0=>absurd h0 (xC _),λW' _ sp _=>shut_slice_nil ht⟩
 simp[Value.cells]at ig;obtain⟨rfl,rfl,rfl⟩:=ig;simp only[pS]at hx;obtain⟨rfl,rfl⟩:=hx;simp only[HO]at hz;refine⟨some a,len,cap,zs,J,by rw[gk];omega,hl,J7,λh0=>?_,λW' hk sp Cg=>?_⟩
 have lY:=p7 0 I;have ha:a.add 0=a:=(by simp[Addr.add]);rw[ha]at lY;obtain⟨e1,l,T,hh,_⟩:=OJ lY;refine⟨a.block,a.off,l,T,by rw[<-e1],OI hh,Rd.of λj hj=>?_⟩;rw[bX,gk]at hj;have Ht:=p7 j I;rw[e1,add_plain]at Ht;obtain⟨_,l2,T2,oN,hJ⟩:=OJ Ht;rw[hh]at oN;have e2:l=l2:=(by have:=vZ oN;simp only[C,Obj.cells.injEq,VK]at this;exact this.1);rw[e2,hJ,kK,pT,ai I];simp[List.getD,show j<zs.length by omega]
 have am': ∀i,i<zs.length->W'.cell? (a.add i)=some (.int k (zs.getD i 0)):=λi hi=>hk.cell (p7 i hi);by_cases Mx:zs.length=0
 have lY:cap=0:=I;have kY:len=0:=I;subst lY;subst kY;have t0:=shut_ints (enc:=enc) (P:=P) (w:=W') (base:=0) (spare:=sp) (held:=true) (a:=a) (len:=0) (cap:=0) (zs:=zs) 0 ht he hc (bP _) (aR _) hm (by simp[Mx]) am' J7;exact⟨2,by simpa [Value.cells] using t0⟩
 have aFH:sp a.block=true:=(by have:=Cg (.cell a.block a.off) (MemPlace.mem_row.2 ⟨0,I,by simp⟩);exact this);have t0:=shut_ints (enc:=enc) (P:=P) (w:=W') (base:=0) (spare:=sp) (held:=true) (a:=a) (len:=len) (cap:=cap) (zs:=zs) 0 ht he hc (bP _) hl hm (by simp[aFH,hz]) am' J7;exact⟨2,by simpa [Value.cells] using t0⟩
theorem ana: "*" ++ "errors.errorString" = "*errors.errorString" :=by decide
theorem aFI(u:TypeId)(h:PP.typeName? 3 u=some "*errors.errorString"):u=199:=
 typeName_ptr_named (nm:= "errors.errorString") (by rw[ana];kernel_rfl) (by kernel_rfl) aj u (by rw[ana];exact h)
theorem aFJ:PP.globalNamed "io.EOF" =some 0:=by kernel_rfl
theorem aFK:PP.globalNamed "io.ErrUnexpectedEOF" =some 1:=by kernel_rfl
theorem aFL:PP.globalNamed "framesunpacked/pub/zstd.fuzzing" =some 2:=by kernel_rfl
theorem aFM:PP.globalNamed "framesunpacked/pub/zstd.literalLengthBase" =some 4:=by kernel_rfl
theorem aFN:PP.globalNamed "framesunpacked/pub/zstd.matchLengthBase" =some 5:=by kernel_rfl
theorem aFO:(PP.globals[0]?).map (·.type)=some 103:=by kernel_rfl
theorem aFP:(PP.globals[1]?).map (·.type)=some 103:=by kernel_rfl
theorem aFQ:(PP.globals[2]?).map (·.type)=some 4:=by kernel_rfl
theorem aFR:(PP.globals[4]?).map (·.type)=some 249:=by kernel_rfl
theorem aFS:(PP.globals[5]?).map (·.type)=some 249:=by kernel_rfl
theorem aFT:PP.cellsOf 51=1:=by kernel_rfl
theorem aFU:PP.cellsOf 201=1:=by kernel_rfl
theorem acz{Z_:World}{g:Nat}(hg:PP.globalNamed n=some g)(hv:Z_.var? PP n=some cs): ∃T,(af g cs.toList T)∈td Z_/\ ∀o v,cs.toList[o]? =some v->Z_.cell? ⟨g,o,none⟩=some v:=by
 unfold World.var? at hv;rw[hg]at hv;simp only[ss]at hv;split at hv
 rename_i c t f hh;cases hv;refine⟨(t,f),OI hh,λo v me=>?_⟩;unfold World.cell?;simp only[hh];simpa using me
 cases hv
theorem anb{Z_:World}{g:Nat}{text:List UInt8}(fq:PP.globalNamed n=some g0)(ur:(PP.globals[g0]?).map (·.type)=some 103)(hg:PP.globalNamed n=some g)(ht:(PP.globals[g]?).map (·.type)=some t)(hv:Z_.var? PP n=some cs)(hd:DataW.trod (λ_=>()) PP Z_ 0 (λ_=>true) false fuel t cs.toList=some (.iface "*errors.errorString" (.ptr (.agg [.lit (.string text)])),p))(OK: ∀b off,MemPlace.cell b off∈MemPlace.row ⟨g,0,none⟩ cs.size++p->(∃c t,Z_.heap[b]? =some (.cells c t (0,0)))/\ ∀u v,Z_.cell? ⟨b,off,none⟩=some (.iface u v)->Value.okWide PP Z_ .any 0 u v): ∃a:Addr,(∃T,(af g0 [.iface 199 (.pointer (some a))] T)∈td Z_)/\(∃l,∃T:TypeId,(some a.block,C l T)∈td Z_)/\MemPlace.cell a.block a.off∈p/\a=⟨a.block,a.off,none⟩:=by
 have e:g=g0:=(by rw[fq]at hg;exact(vZ hg).symm);subst e;have e:t=103:=(by rw[ur]at ht;exact(vZ ht).symm);subst e;obtain⟨T,hm,p7⟩:=acz hg hv
 obtain⟨a,s,ig,hca,_,_,hp⟩:=errorString_of_trod Bw aFI Tryz.underlying199 Tryz.underlying201 J J (by kernel_rfl) aFU (by kernel_rfl) hd (λu v h=>by
   have ia:cs.size=1:=by have:=b8 List.length h;simpa using this
   refine(OK g 0 (ni _ (MemPlace.mem_row.2 ⟨0,I,by simp⟩))).2 u v (p7 0 _ ?_)
   rw[h];rfl)
 rw[ig]at hm;have Kt:MemPlace.cell a.block a.off∈p:=(by rw[hp];exact MemPlace.mem_row.2 ⟨0,I,by simp⟩);obtain⟨⟨c,t,hh⟩,_⟩:=OK a.block a.off (fe _ Kt);exact⟨a,⟨T,hm⟩,⟨c.toList,t,OI hh⟩,Kt,(OJ hca).1⟩
theorem acA{H':Type}{k:IntKind}: ∀{a b:List Int},(lits (H:=H') k a)=lits k b->a=b
 | [],[],_=>rfl
 | [],_::_,h=>by simp[lits]at h
 |_::_,[],h=>by simp[lits]at h
 | x::a,y::b,h=>by
   simp only[lits,EW,List.cons.injEq,DataW.lit.injEq,Lit.int.injEq,true_and]at h
   rw[h.1,acA (a:=a) (b:=b) h.2]
theorem anc{Z_:World}{g:Nat}{Ns:List Nat}(hN:0<Ns.length)(fq:PP.globalNamed n=some g0)(ur:(PP.globals[g0]?).map (·.type)=some 249)(hg:PP.globalNamed n=some g)(ht:(PP.globals[g]?).map (·.type)=some t)(hv:Z_.var? PP n=some cs)(hd:DataW.trod (λ_=>()) PP Z_ 0 (λ_=>true) false fuel t cs.toList=some (.slice (lits .u32 (Ns.map λz=>((z:Nat):Int))) [],p)):I7 (td Z_) g0 Ns:=by
 have e:g=g0:=(by rw[fq]at hg;exact(vZ hg).symm);subst e;have e:t=249:=(by rw[ur]at ht;exact(vZ ht).symm);subst e;obtain⟨T,hm,_⟩:=acz hg hv;rcases open_ints (P:=PP) (k:= .u32) (by kernel_rfl:PP.underlying 249=some (.slice 51)) Tryz.underlying51 aFT hd with⟨_,hx⟩| ⟨a,len,cap,zs,ig,_,hl,_,hz,hx,p7,_⟩
 cases hx
 simp only[pS,DataW.slice.injEq]at hx;have e1:=acA hx.1.1;have e2:zs.drop len=[]:=(acA (a:=[]) (k:= .u32) hx.1.2).symm;simp only[HO]at hz;have hlen:len=Ns.length:=(by have W:=b8 List.length e1;have h2:=b8 List.length e2;simp at W h2;omega);rw[ig]at hm;have lY:=p7 0 I;have ha:a.add 0=a:=(by simp[Addr.add]);rw[ha]at lY;obtain⟨ea,l,T',hh,_⟩:=OJ lY;refine⟨a.block,a.off,cap,T,l,T',by rw[<-hlen,<-ea];exact hm,OI hh,Rd.of λj hj=>?_⟩;rw[bX]at hj;have Ht:=p7 j I;rw[ea,add_plain]at Ht;obtain⟨_,l2,T2,oN,hJ⟩:=OJ Ht;rw[hh]at oN;have e3:l=l2:=(by have:=vZ oN;simp only[C,Obj.cells.injEq,VK]at this;exact this.1);rw[e3,hJ];have e4:zs.getD j 0=((Ns.getD j 0:Nat):Int):=(by have h5:(zs.take len).getD j 0=zs.getD j 0:=(by simp only[bS,pT];rw[ai I]);rw[<-h5,<-e1];simp[List.getD,hj]);rw[e4];simp[List.getD,hj]
theorem aFV{Z_:World}{g:Nat}(fq:PP.globalNamed n=some g0)(ur:(PP.globals[g0]?).map (·.type)=some 4)(hg:PP.globalNamed n=some g)(ht:(PP.globals[g]?).map (·.type)=some t)(hv:Z_.var? PP n=some cs)(hd:DataW.trod (λ_=>()) PP Z_ 0 (λ_=>true) false fuel t cs.toList=some (.lit (.bool false),p)): ∃T,(af g0 [.bool false] T)∈td Z_:=by
 have e:g=g0:=(by rw[fq]at hg;exact(vZ hg).symm);subst e;have e:t=4:=(by rw[ur]at ht;exact(vZ ht).symm);subst e;obtain⟨T,hm,_⟩:=acz hg hv;have hb:PP.underlying 4=some .bool:=Tryz.underlying4;obtain⟨b,ig,hx⟩:=DataW.trod_bool hb hd;simp only[pS,DataW.lit.injEq,Lit.bool.injEq]at hx;rw[<-hx.1]at ig;rw[ig]at hm;exact⟨T,hm⟩
theorem aFW{Z_:World}(hL:laidMetH PP YtmgkiicjpmihfaaGreatDoor.Rows.fnChangedIsReadOrToldRow.laid Z_): ∃aE aU,Gl (td Z_) aE aU:=by
 have hL':laidMet PP YtmgkiicjpmihfaaGreatDoor.Rows.fnChangedIsReadOrToldRow.laid Z_:=hL;obtain⟨ps,hv,xL,OK⟩:=hL';obtain⟨g3,t3,c3,f3,p3,q3,Fo,Qe,hv3,MG,hv,rfl⟩:=hv;obtain⟨g0,t0,c0,f0,p0,q0,fq,ur,u7,Aj,hv,rfl⟩:=hv;obtain⟨g1,t1,c1,f1,p1,q1,fy,m4,gr,BI,hv,rfl⟩:=hv;obtain⟨g4,t4,c4,f4,p4,q4,yc,ht4,hv4,Z0,hv,rfl⟩:=hv;obtain⟨g5,t5,c5,f5,p5,q5,hg5,ht5,hv5,Z1,hv,rfl⟩:=hv;obtain⟨g2,t2,c2,f2,p2,q2,jw,zE,k4,oV,hv,rfl⟩:=hv;obtain⟨aE,A4,FU,Iy,hE4⟩:=anb aFJ aFO fq ur u7 Aj (λb off hm=>OK b off (fe _ (ni _ hm)));obtain⟨aU,Oo,hU2,hU3,hU4⟩:=anb aFK aFP fy m4 gr BI (λb off hm=>OK b off (fe _ (fe _ (ni _ hm))));refine⟨aE,aU,A4,Oo,aFV aFL aFQ jw zE k4 oV,FU,hU2,λe=>?_,anc (Ns:=yy) aj aFM aFR yc ht4 hv4 Z0,anc (Ns:=yz) aj aFN aFS hg5 ht5 hv5 Z1⟩;subst e;have W:=(OM.1 xL).2.1;have h2:=(OM.1 W).2.2 _ (fe _ Iy) _ (ni _ (fe _ hU3));exact h2 J
end Go.Z
namespace Go.Proofs.YtmgkiicjpmihfaaGreatDoor
open Go Go.Z Go.ChangeShapes Go.WideShapes Go.ChangeAt Go.RowKit
theorem own:ownKnob Tryz.prog.godebug=none:=by kernel_rfl
section
variable {H':Type}{enc:TypeId×Value->H'}
theorem aFX{P:Program}{f:Func}{s:ChangeSpec}{apart fresh handsOn again:Bool}{Z_ W':World}{args:Array Value}{v:Value}{ds gs:List (DataW H')}{before pa pv:List MemPlace}(og:eJ Z_ W')(hW:DataW.Whole enc P f.params.toList s.vars apart Z_ args.toList ds gs before)(Rk: ∀(b:Nat) (sp:Nat->Bool) (hd:Bool),DataW.TrodAll enc P W' b sp hd f.resultTypes.toList (v.resultList f.resultTypes.size) (s.fn H' (ds++gs)).results [])(acB: ∀sp:Nat->Bool,(∀p∈before,sp p.block=true)->DataW.TrodAll enc P W' 0 sp true f.params.toList args.toList (s.fn H' (ds++gs)).args pa)(ane: ∀sp:Nat->Bool,(∀p∈before,sp p.block=true)->DataW.TrodVars enc P W' sp s.vars (s.fn H' (ds++gs)).vars pv)(p8:before=pa++pv)(cS: ∀(j:Nat) (t:TypeId) (r:Value),f.resultTypes[j]? =some t->(v.resultList f.resultTypes.size)[j]? =some r->Value.okWide P W' .any 0 t r):s.post enc P f apart fresh handsOn again Z_ args v W':=by
 have hold: ∀p∈before,(λb=>decide (b<Z_.heap.size)) p.block=true:=λp hp=>(by simpa using hW.lt p hp);have hk:Z_.keptBut W' (· ∈before):=(by have h0:=World.keptBut_refl Z_ (· ∈before);have hr:=og.rest;simp only[CI,pS]at hr;refine⟨hr.2.1,hr.2.2,λi hi=>?_⟩;rw[og.eH i hi];exact h0.2.2 i hi);refine⟨ds,gs,before,[],pa,pv,hW,Rk _ _ _,acB _ hold,ane _ hold,World.keptBut_mono (λp hp=>⟨hp,?_⟩) hk,λ_=>?_⟩
 rw[p8,nL]at hp;exact Or.inr hp
 have cP:=hW.lt;obtain⟨_,_,_,_,_,hz,hn⟩:=hW;refine⟨cS,_,_,([]++pa)++pv,⟨[]++pa,pv,trodAll_append (acB _ (λ_ _=>rfl)) (Rk _ _ _),ane _ (λ_ _=>rfl),J,?_,?_⟩,?_⟩
 intro b off hp;have LW:MemPlace.cell b off∈before:=(by rw[p8];simpa using hp);have hb:b<Z_.heap.size:=cP _ LW;have:W'.frozen? ⟨b,off,none⟩=Z_.frozen? ⟨b,off,none⟩:=(by unfold World.frozen?;simp only[og.eH b hb]);rw[this];exact hz b off LW
 intro ha;have:=hn ha;rw[p8]at this;simpa using this
 intro p hp _;rw[p8];simpa using hp
theorem anf{Z_:World}{ad:Option Addr}{len cap:Nat}{zs:List Int}(W:len=(zs.take len).length)(h2:len<=cap)(hw: ∀n∈zs,(Lit.int .u8 n).wf=true)(h3:0<len-> ∃b q l T,ad=some ⟨b,q,none⟩/\(af b l T)∈td Z_/\Rd l q ((zs.take len).map (Value.int .u8))): ∃X:List UInt8,aP (td Z_) (.slice ad len cap) X:=by
 have hm:(zs.take len).map (Value.int .u8)=((zs.take len).map λz=>UInt8.ofNat z.toNat).map u8:=(by rw[HV];refine VA λz hz=>?_;have:=hw z (List.mem_of_mem_take hz);simp only[Lit.wf,nM,decide_eq_true_eq]at this;have e1:IntKind.u8.min=0:=rfl;have e2:IntKind.u8.max=255:=rfl;rw[e1,e2]at this;show Value.int .u8 z=u8 (UInt8.ofNat z.toNat);rw[xp];refine int_eq ?_;have hk:aG .u8+1=256:=rfl;rw[hk];omega);refine⟨(zs.take len).map λz=>UInt8.ofNat z.toNat,ad,len,cap,J,by rw[bX];exact W,h2,λh0=>?_⟩;obtain⟨b,q,l,T,e1,e2,e3⟩:=h3 h0;exact⟨b,q,l,T,e1,e2,by rw[<-hm];exact e3⟩
theorem ang{Z_:World}{ad:Option Addr}{len cap:Nat}{zs:List Int}(W:len=(zs.take len).length)(h2:len<=cap)(hw: ∀n∈zs,(Lit.int .i64 n).wf=true)(h3:0<len-> ∃b q l T,ad=some ⟨b,q,none⟩/\(af b l T)∈td Z_/\Rd l q ((zs.take len).map (Value.int .i64))): ∃N:List Int,nG (td Z_) (.slice ad len cap) N:=
 ⟨zs.take len,ad,len,cap,J,W,h2,λh0=>h3 I,λi=>by
   rcases dh i (zs.take len).length with hi|hi
   . have Kt:(zs.take len).getD i 0∈zs:=by
       rw[bS,gv hi]
       exact List.mem_of_mem_take (za hi)
     have:=hw _ Kt
     simp only[Lit.wf,nM,decide_eq_true_eq]at this
     have e1:IntKind.i64.min= -9223372036854775808:=rfl
     have e2:IntKind.i64.max=9223372036854775807:=rfl
     rw[e1,e2]at this
     omega
   . rw[bS,gP hi]
     exact⟨by decide,by decide⟩⟩
theorem anh:PP.cellsOf 3=1:=by kernel_rfl
theorem ani:PP.cellsOf 5=1:=by kernel_rfl
theorem aFY{Z_:World}{base:Nat}{args:Array Value}{ds gs:List (DataW H')}{before:List MemPlace}(pg: ∀(j:Nat) t v,Tryz.f3.params[j]? =some t->args[j]? =some v->Value.okWide Tryz.prog Z_ .any base t v)(hW:DataW.Whole enc Tryz.prog Tryz.f3.params.toList Rows.fnChangedIsReadOrToldSpec.vars false Z_ args.toList ds gs before)(hL:laidMetH Tryz.prog Rows.fnChangedIsReadOrToldRow.laid Z_):Calls Tryz.prog 3 args Z_ λe W'=> ∃v,e= .returned v/\Rows.fnChangedIsReadOrToldSpec.post enc Tryz.prog Tryz.f3 false true false false Z_ args v W':=by
 have TN:=hW;obtain⟨p,q,hA0,hV,rfl,U',xL⟩:=hW;have hA:DataW.TrodAll enc Tryz.prog Z_ 0 (λ_=>true) true Tryz.f3.params.toList args.toList ds p:=hA0;rw[Tryz.params3]at hA pg;obtain⟨v0,vs0,d0,ds0,p0,q0,acB,rfl,rfl,h0,r0⟩:=trodAll_cons hA;obtain⟨v1,vs1,d1,ds1,p1,q1,rfl,rfl,rfl,W,r1⟩:=trodAll_cons r0;obtain⟨v2,vs2,d2,ds2,p2,q2,rfl,rfl,rfl,h2,r2⟩:=trodAll_cons r1;obtain⟨v3,vs3,d3,ds3,p3,q3,rfl,rfl,rfl,h3,r3⟩:=trodAll_cons r2;obtain⟨rfl,rfl,rfl⟩:=trodAll_nil r3;obtain rfl:args= #[v0,v1,v2,v3]:=(by cases args;simp_all);obtain⟨rfl,rfl⟩:=trodVars_none hV;obtain⟨ta,tn,tc,tz,rfl,t1,t2,t3,t4,t5⟩:=Vd Tryz.underlying22 Tryz.underlying5 ani (pg 0 22 v0 J J) h0;obtain⟨ca,cn,cc,cz,rfl,c1,c2,c3,c4,c5⟩:=Vd Tryz.underlying23 Tryz.underlying3 anh (pg 1 23 v1 J J) W;obtain⟨pa,pn,pc,pz,rfl,s1,s2,s3,s4,s5⟩:=Vd Tryz.underlying23 Tryz.underlying3 anh (pg 2 23 v2 J J) h2;obtain⟨va,vn,vc,vz,rfl,u1,u2,u3,u4,u5⟩:=Vd Tryz.underlying22 Tryz.underlying5 ani (pg 3 22 v3 J J) h3;obtain⟨T,hT⟩:=anf t1 t2 t3 t4;obtain⟨N,hN⟩:=ang c1 c2 c3 c4;obtain⟨Ps,hPs⟩:=ang s1 s2 s3 s4;obtain⟨Z8,TW⟩:=anf u1 u2 u3 u4;obtain⟨aE,aU,hG⟩:=aFW hL;refine(aBc aFE (aFF Z_) hG hT hN hPs TW).mono λe W' ⟨he,Z,h⟩=>?_;have hk:eJ Z_ W':=aFG (H.acu h) J;subst he;simp only[dP]at TN;refine⟨_,J,aFX (pa:=p0++(p1++(p2++p3))) (pv:=[]) hk TN (λ_ _ _=>trodAll_mk1 (shut_bool Tryz.underlying4 _)) (λsp Cg=>?_) (λ_ _=>rfl) (by simp) (ok_one (by kernel_rfl) J (okWide_bool_mk Tryz.underlying4 _))⟩;rw[Tryz.params3];exact⟨p0,_,t5 W' hk sp (λx hx=>Cg x (by simp[hx])),⟨p1,_,c5 W' hk sp (λx hx=>Cg x (by simp[hx])),⟨p2,_,s5 W' hk sp (λx hx=>Cg x (by simp[hx])),⟨p3,[],u5 W' hk sp (λx hx=>Cg x (by simp[hx])),J,by simp⟩,J⟩,J⟩,J⟩
end
noncomputable def low:Nat:=(World.holding Tryz.prog default ⟨#[],#[],[]⟩).heap.size
def strOf(l:List UInt8):Value:= .string ⟨l.toArray⟩
noncomputable def acC (os:Os):World:=
 let w0:=World.holding Tryz.prog os ⟨#[.cells #[strOf [115,104,111,114,116,32,98,117,102,102,101,114]] 201,.cells #[strOf [69,79,70]] 201,.cells #[strOf [117,110,101,120,112,101,99,116,101,100,32,69,79,70]] 201,.cells (yy.map da).toArray 51,.cells (yz.map da).toArray 51],#[],[]⟩
 let put (h:Array Obj) (g:Nat) (cs:Array Value):Array Obj:=h.modify g fun
   | .cells _ t frozen=> .cells cs t frozen
   |o=>o
 {w0 with heap:=put (put (put (put (put w0.heap 3 #[.iface 199 (.pointer (some ⟨low,0,none⟩))]) 0 #[.iface 199 (.pointer (some ⟨low+1,0,none⟩))]) 1 #[.iface 199 (.pointer (some ⟨low+2,0,none⟩))]) 4 #[.slice (some ⟨low+3,0,none⟩) 20 20]) 5 #[.slice (some ⟨low+4,0,none⟩) 21 21]}
theorem aFZ(os:Os)(args:Array Value):laidMet Tryz.prog Rows.fnChangedIsReadOrToldRow.laid ((acC os).forCall (λ_ _=>0) ⟨#[],args,[]⟩).memory:=
 laidMet_of_run' 8 (by kernel_rfl) (by kernel_rfl)
abbrev acD:Array Value:= #[.slice none 0 0,.slice none 0 0,.slice none 0 0,.slice none 0 0]
theorem aF0(os:Os){H:Type}(enc:TypeId×Value->H): ∃places,DataW.whole enc Tryz.prog ((acC os).forCall (λ_ _=>0) ⟨#[],acD,[]⟩).memory Tryz.f3.params.toList Rows.fnChangedIsReadOrToldSpec.vars false acD.toList 8=some ([.nil,.nil,.nil,.nil],[],places):=
 ⟨[],by kernel_rfl⟩
theorem aF1(os:Os)(started:os.Started)(H:Type)(enc:TypeId×Value->H)(F:Stop.Interp):ReturnsInHanded {} Tryz.checked os 3 .any ((OpenSpec.ofChange Rows.fnChangedIsReadOrToldSpec).preRow enc Tryz.prog Tryz.f3 Rows.fnChangedIsReadOrToldRow.domain false Rows.fnChangedIsReadOrToldRow.laid) (((OpenSpec.ofChange Rows.fnChangedIsReadOrToldSpec).at F).post enc Tryz.prog Tryz.f3 false true false false):=by
 obtain⟨places,hx⟩:=aF0 os enc
 refine returnsInHanded_of_row (C:=Tryz.checked) (s:=OpenSpec.ofChange Rows.fnChangedIsReadOrToldSpec) own started (by kernel_rfl) Tryz.func3
   (witness_row_atRef (enc:=enc) (C:=Tryz.checked) false (acC os) acD J (by kernel_rfl) (by kernel_rfl) (by kernel_rfl)
     (OpenSpec.preRow_of_cond 8 hx (by kernel_rfl) (λk hk=>by cases hk) (by kernel_rfl) (aFZ os _))) ?_
 intro Z_ base args ds gs before pg hW _ _ _ hL _ _;exact aFY pg hW hL
theorem aF2:Rows.FnChangedIsReadOrToldSaid:=
 OpenClaim.holds_of_cond 3 Tryz.f3 J J J J J J J gJ J J J J J (by kernel_rfl) Tryz.func3 (by kernel_rfl)
   (tf (by kernel_rfl)) (by unfold Func.isWrapper;first| (rw[ai (by decide+kernel)];kernel_rfl)| (rw[ag (by decide+kernel)];exact⟨J,J⟩))
   (λos started H enc _ F=>by rw[OpenClaim.pre_eq_preRow];exact aF1 os started H enc F)
theorem aF3(f:FuncId)(fn:Func)(hf:Tryz.pinned.checked.prog.funcNamed "framesunpacked/laws.FnChangedIsReadOrTold" =some f)(hfn:Tryz.pinned.checked.prog.funcs[f]? =some fn):true=Tryz.pinned.checked.prog.looks []/\ ∀(j:Nat) t,fn.params[j]? =some t->Tryz.pinned.checked.prog.wantsStandIn t=false:=by
 obtain rfl:f=3:=vZ ((show Tryz.prog.funcNamed "framesunpacked/laws.FnChangedIsReadOrTold" =some 3 by kernel_rfl).symm.trans hf)|>.symm;obtain rfl:fn=Tryz.f3:=(vZ (Tryz.func3.symm.trans hfn)).symm;refine⟨by kernel_rfl,λj t ht=>?_⟩;rw[Tryz.params3]at ht;have hm:=Array.mem_of_getElem? ht;(have:t=22\/t=23:=by simp at hm;(first|exact hm| (rcases hm with h|h|h|h<;>first|exact .inl h|exact .inr h)| (rcases hm with h|h|h<;>first|exact .inl h|exact .inr h)));rcases this with rfl|rfl
 exact(show Tryz.prog.wantsStandIn 22=false by kernel_rfl)
 exact(show Tryz.prog.wantsStandIn 23=false by kernel_rfl)
theorem fnChanged_card:Rows.FnChangedIsReadOrToldCardSaid:=
 Claim7.holds_tied_plain_at .later [] _ _ _ _ aF2 (λ_ h=>by cases h) (by kernel_rfl) (λ_ h=>by cases h) fnChangedIsReadOrTold_row_tie J ⟨J,J⟩ (by kernel_rfl) J aF3 (by kernel_rfl)
end Go.Proofs.YtmgkiicjpmihfaaGreatDoor
