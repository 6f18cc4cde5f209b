import Derived.Test.YtlfcbbcdiecelaaGreatDoorZ10
namespace Go.Proofs.YtlfcbbcdiecelaaGreatDoor
open Go Go.Proofs.Tryz
set_option maxRecDepth 100000
set_option maxHeartbeats 4000000
set_option linter.all false
section
open Go.Shelf Go.Sort Go.Lib
variable {M:Mem}{pk:Int->Nat}
theorem Xc{α:Type}[Inhabited α]{g n:Nat}{w:World}(f:α->bD×Nat)(hT:fA M)(dW:∀p,cN p->∃x,Bk M (pk p) [.string (dY p),x])(hx:∀x,uu M pk (f x))(hM:∀m d os,M.Le (Wm (sortWorld (fun x=>vp (f x).2) w g 0 m d os))):
 CmpLays1 prog 177 #[] (fun x:α=>vp (f x).2) (fun x y=>mD (f x).1 (f y).1) g 0 n w:=fun m os dk _ x y=>
 (qa func177 rfl (by kernel_rfl) (W_ hT (hM m dk os) dW (hx x) (hx y))).mono fun e w' ⟨v,h1,h2,h3⟩=>⟨by rw[h1,h2],Fr.grown h3⟩
theorem Lt{w0:World}{l:List (bD×Nat)}{v:Value}(hT:fA M)(dW:∀p,cN p->∃x,Bk M (pk p) [.string (dY p),x])
 (hf:∀q∈l,M.cell q.2 1=some (vp (pk q.1.aC))/\M.cell q.2 2=some (.string (bZ q.1.name))/\M.own q.2/\cN q.1.aC/\bL q.1.name) (hlen:l.length<=2^40)
 (h:SH w0 M (cp [.own v 1 128 (l.map fun q=>[vp q.2])]) M [.own v 1 128 (l.map fun q=>[vp q.2])] w0):
 az prog 130 [v] w0 fun r w'=>∃M' A',(∃l':List (bD×Nat),l'.Perm l/\Ew (l'.map (·.1))/\r= .tuple #[]/\M'=M/\A'=[.own v 1 128 (l'.map fun q=>[vp q.2])])/\SH w0 M (cp [.own v 1 128 (l.map fun q=>[vp q.2])]) M' A' w':=by
 refine aL mixed func130 Vi ?_;by_cases hl:l=[]
 .have ho:eG w0 1 128 v (l.map fun q=>[vp q.2]):=h.ok _ qal;obtain⟨a,cap,hv,wQ⟩:=ho.shape;subst hl;have iQ:v= .slice a 0 cap:=hv;have yD:az prog 176 [.slice a 0 cap,.func (.func 177) #[] #[]] w0 fun v w'=>v= .tuple #[]/\w'=w0:=
   uC func176 (c:=_) rfl (by kernel_rfl) ((AnyF.slices_SortFunc_none (P:=prog) (ρ:=Lg) {ST with} a cap (.func (.func 177) #[] #[]) w0).mono fun e w' ⟨h1,h2⟩=>⟨_,h1,rfl,h2⟩)
  rw[<-iQ]at yD;refine az.mono yD ?_;clear yD;rintro _ w' ⟨rfl,rfl⟩;exact⟨M,_,⟨[],.refl _,.nil,rfl,rfl,rfl⟩,h⟩
 have ho:eG w0 1 128 v (l.map fun q=>[vp q.2]):=h.ok _ qal;have aT:(l.map fun q:bD×Nat=>[vp q.2])≠[]:=by simpa using hl
 rcases ho.open_ with⟨_,h0⟩|⟨g,cap,rfl,wQ,tO,aO⟩
 .exact absurd h0 aT
 rw[qat]at wQ ho h⊢;have yG:g<w0.heap.size:=iE.lt tO;have zgo:Inhabited {q:bD×Nat//q∈l}:=⟨⟨l.head hl,List.head_mem hl⟩⟩;obtain⟨d,hd⟩:∃d:Array {q:bD×Nat//q∈l},d=l.attach.toArray:=⟨_,rfl⟩;have wT:d.size=l.length:=by rw[hd];simp
 have OD:d.toList.map (fun x=>x.1)=l:=by rw[hd];exact List.attach_map_subtype_val l
 have OC:(d.toList.map fun x=>[vp x.1.2])=l.map fun q=>[vp q.2]:=by
  have:=qaL (List.map fun q:bD×Nat=>[vp q.2]) OD;rw[qbE]at this;exact this
 have N9:∀m d' os,M.Le (Wm (sortWorld (fun x:{q:bD×Nat//q∈l}=>vp x.1.2) w0 g 0 m d' os)):=fun m d' os=>
  h.le.fr (SV _ w0 g m d' os) fun b hb=>by
   simp only[qac]at hb;subst hb;have aW:b∈cZ (.slice (some ⟨b,0,none⟩) l.length cap):=by simp[cZ,Value.ownBlock]
   exact⟨fun o=>h.off _ qal b o aW,fun hx=>absurd hx (h.mF _ qal b aW)⟩
 have HZ:∀x:{q:bD×Nat//q∈l},uu M pk x.1:=fun x=>by
  obtain⟨h1,h2,h3,h4,h5⟩:=hf x.1 x.2;exact⟨h1,h2,h3,h4,h5⟩
 have Aq:∀x:{q:bD×Nat//q∈l},p5 x.1.1:=fun x=>⟨(HZ x).pO,(HZ x).pN⟩;have hH:Holds (fun x:{q:bD×Nat//q∈l}=>vp x.1.2) w0 g 0 d:=fun j hj=>by
  obtain⟨cur,T,hc⟩:=tO;refine⟨?_,sa (t:=T) (cs:=cur.toList) (by simpa[a_]using hc)⟩;have hjl:j<d.toList.length:=by simpa using hj
  have ki:(l.map fun q=>[vp q.2])[j]? =some [vp d[j]!.1.2]:=by
   rw[<-OC,qaE,qbv,getElem!_pos d j hj,qbN hj];rfl
  have:=aO (j*1+0) (vp d[j]!.1.2) (yn ho.len ki 0 _ rfl);simpa using this
 have eg:∀args w,(callFunc 177 args).run prog w= .ok (.enter 177 args) w:=enters_of func177 (by kernel_rfl) rfl;have nt:=Xc (n:=d.size) (fun x:{q:bD×Nat//q∈l}=>x.1) hT dW HZ N9;have JS:SWO (ltOf fun x y:{q:bD×Nat//q∈l}=>mD x.1.1 y.1.1):=zfc (fun x=>x.1.1.rk) fun x y=>QV (Aq x) (Aq y);have dF:d.size<4611686018427387904:=by rw[wT];omega
 have yD:=Any.slices_SortFunc (P:=prog) (ρ:=Lg) ST (fun x:{q:bD×Nat//q∈l}=>vp x.1.2) (fun _=>rfl) (fun x y=>mD x.1.1 y.1.1) JS 177 #[] g 0 cap d w0 eg nt hH yG dF;have Oz:az prog 176 [.slice (some ⟨g,0,none⟩) l.length cap,.func (.func 177) #[] #[]] w0 fun v w'=>v= .tuple #[]/\∃d' n os,PermIn 0 l.length d d'/\SortedIn (ltOf fun x y:{q:bD×Nat//q∈l}=>mD x.1.1 y.1.1) 0 l.length d'/\w'=sortWorld (fun x:{q:bD×Nat//q∈l}=>vp x.1.2) w0 g 0 n d' os:=by
  rw[wT]at yD;exact uC func176 (c:=_) rfl (by kernel_rfl) (yD.mono fun e w' ⟨h1,h2⟩=>⟨_,h1,rfl,h2⟩)
 clear yD;refine az.mono Oz ?_;clear Oz;rintro _ w' ⟨rfl,d',n,os,hp,hs,rfl⟩;obtain⟨jI,_,oA⟩:=hp;have zaZ:d'.size=l.length:=jI.trans wT;have yV:d'.toList.Perm d.toList:=by
  have e1:d'.extract 0 l.length=d':=by rw[<-zaZ];exact Array.extract_size
  have e2:d.extract 0 l.length=d:=by rw[<-wT];exact Array.extract_size
  rw[e1,e2]at oA;exact oA
 have za1:(d'.toList.map fun x=>[vp x.1.2])=(d'.toList.map (fun x=>x.1)).map fun q=>[vp q.2]:=by rw[qbE];rfl
 refine⟨M,_,⟨d'.toList.map (fun x=>x.1),?_,?_,rfl,rfl,rfl⟩,?_⟩
 .have:=yV.map (fun x=>x.1);rw[OD]at this;exact this
 .unfold Ew;rw[qbl,qbl,qb8];intro i j hi hj dc;simp only[Array.length_toList]at hi hj;have h1:=hs i j (qae _) dc (by omega);rw[getElem!_pos d' j hj,getElem!_pos d' i hi]at h1;have h2:decide (mD d'[j].1.1 d'[i].1.1<0)=false:=h1;rw[QV (Aq _) (Aq _),<-F6 (Aq _) (Aq _)]at h2;simpa using h2
 have Ar:=ze6 (m:=n) (d:=d) (d':=d') (os:=os) (by rw[wT,OC];exact ho) jI;rw[wT,za1]at Ar;have fD:cZ (.slice (some ⟨g,0,none⟩) l.length cap)=[g]:=by simp[cZ,Value.ownBlock]
 have iK:=SV (fun x:{q:bD×Nat//q∈l}=>vp x.1.2) w0 g n d' os;exact h.s6 (w':=sortWorld (fun x:{q:bD×Nat//q∈l}=>vp x.1.2) w0 g 0 n d' os) (e':= .own (.slice (some ⟨g,0,none⟩) l.length cap) 1 128 ((d'.toList.map (fun x:{q:bD×Nat//q∈l}=>x.1)).map fun q:bD×Nat=>[vp q.2])) (by show Fr (cZ _) _ _;rw[fD];exact iK) Ar (fun b hb=> .inl hb) (N9 n d' os) (fun b o hm=>h.off _ qal b o hm) (fun b hm=>h.mF _ qal b hm)
end
section
variable {w0:World}{M:Mem}
section
variable {u:World}{M0:Mem}{D:List Nat}{M:Mem}{L:List aB}{w:World}{P:Program}{S:List Nat}
theorem SH.RW{a:Option Addr}{n c k:Nat}{T:TypeId}{css:List (List Value)}{L':List aB}{i:Nat}{cs:List Value}(h:SH u M0 D M L w)(hi:css[i]? =some cs)(hp:Pk L (.own (.slice a n c) k T css) L':=by repeat(first|exact Pk.here|apply Pk.there)):
 n=css.length/\∃g,a=some ⟨g,0,none⟩/\∀j x,cs[j]? =some x->w.cell? ⟨g,0+i*k+j,none⟩=some x:=by
 obtain⟨a',c',he,_,cE⟩:=h.DH hp;simp only[qa5]at he;obtain⟨rfl,rfl,rfl⟩:=he;have ho:eG w k T _ css:=h.ok _ hp.mem;rcases ho.open_ with⟨he,rfl⟩|⟨g,cap,he,hc,hg,hr⟩
 .simp at hi
 simp only[qa5,qco]at he;obtain⟨rfl,rfl⟩:=he;refine⟨rfl,g,rfl,fun j x hj=> ?_⟩;have:=hr (i*k+j) x (yn ho.len hi j x hj)
 rwa [show 0+i*k+j=0+(i*k+j) by omega]
end
theorem G_(hM:M.Le (Wm w0)):az prog 149 [] w0 fun r w'=>∃M',iV M' r/\Gr M w0 M' w':=by
 have h:=SH.start hM;refine aL mixed func149 Vq ?_;refine au h ?_;clear h;intro q w h;refine au (cs:=[vp q]) h ?_;clear h;intro b2 w h;obtain⟨M1,bG,hq,h⟩:=h.dA q;obtain⟨M2,aQ,cV,h⟩:=h.dA b2;exact⟨M2,⟨q,⟨_,1,rfl,qad _,fun i x hi=>by
  cases i with
  |zero=>simp at hi;subst hi;exact⟨b2,0,_,rfl,rfl,by simpa using cV.rw,rfl⟩
  |succ i=>simp at hi⟩,hq.le aQ⟩,h.gr⟩
theorem zfl(hM:M.Le (Wm w0)):az prog 128 [] w0 fun r w'=>∃M',(∃tb vt,r=vp tb/\Bk M' tb [.bool false,.slice none 0 0,vt,.bool false]/\iV M' vt)/\Gr M w0 M' w':=by
 have h:=SH.start hM;refine aL mixed func128 Vf ?_;refine fk h (G_ h.le) ?_;clear h;rintro _ M1 w ht bG h;obtain⟨q,⟨a,c,rfl,hc,cE⟩,hq⟩:=ht;refine au (cs:=[.bool false,.slice none 0 0,.slice a 1 c,.bool false]) h ?_;clear h;intro tb w h;obtain⟨M2,aQ,cV,h⟩:=h.dA tb;exact⟨M2,⟨tb,_,rfl,cV,q,⟨a,c,rfl,hc,cE.mono aQ fun _ _ _ h=>h⟩,hq.le aQ⟩,h.gr⟩
@[reducible]def kL:List Value:=[.pointer none,.pointer none,.pointer none,.pointer none,.bool false]
structure T1(M:Mem)(pk:Int->Nat)(l:List (bD×Nat))(ew:List Value)(ib:Nat)(A:List aB):Prop where
 own:M.own ib
 c0:M.cell ib 0=some (.pointer none)
 c3:M.cell ib 3=some (.pointer none)
 c4:M.cell ib 4=some (.bool false)
 c5:M.cell ib 5=some (.bool true)
 all:∃vm ve,∃l':List (bD×Nat),M.cell ib 1=some vm/\M.cell ib 2=some ve/\Sl M 1 gz vm (l'.map fun q=>[vp q.2])/\Sl M 1 gz ve (ew.map fun v=>[v])/\l'.Perm l/\∀q∈l,fY M pk q.1.aC q.1.name false q.2
 ts:(∃cs,cs[6]? =some (.pointer none)/\A=[.part ib 247 cs 6])\/(l=[]/\ew=[]/\A=[]/\∃tb vt,M.cell ib 6=some (vp tb)/\Bk M tb [.bool false,.slice none 0 0,vt,.bool false]/\iV M vt)
theorem zdt{pk:Int->Nat}{l:List (bD×Nat)}{gK:List Nat}{v ve:Value}{ew:List Value}(hT:fA M)(dW:∀p,cN p->∃x,Bk M (pk p) [.string (dY p),x])
 (hf:bC (fun(q:bD×Nat) sg=>Bk M q.2 [.int .i64 0,vp (pk q.1.aC),.string (bZ q.1.name),.iface 235 (vp sg),.bool false,.bool false]/\cN q.1.aC/\bL q.1.name) l gK) (FQ:Sl M 1 gz ve (ew.map fun v=>[v])) (hlen:l.length<=2^40)
 (h:SH w0 M (cp (.own v 1 128 (l.map fun q=>[vp q.2])::gK.map fun b=> .ah b 291 kL)) M (.own v 1 128 (l.map fun q=>[vp q.2])::gK.map fun b=> .ah b 291 kL) w0):
 az prog 96 [v,ve] w0 fun r w'=>∃M' A',(∃ib,r=vp ib/\(w0.heap.size<=ib\/ib∈cp (.own v 1 128 (l.map fun q=>[vp q.2])::gK.map fun b=> .ah b 291 kL))/\T1 M' pk l ew ib A')/\SH w0 M (cp (.own v 1 128 (l.map fun q=>[vp q.2])::gK.map fun b=> .ah b 291 kL)) M' A' w':=by
 generalize hD:cp (.own v 1 128 (l.map fun q=>[vp q.2])::gK.map fun b=> .ah b 291 kL)=D at h⊢;obtain⟨av,cv,rfl,sv,_⟩:=h.DH (v:=v);obtain⟨ae,ce,rfl,kW,CP⟩:=FQ;have nB:(l.map fun q:bD×Nat=>[vp q.2]).length=l.length:=qat _;have cR:(ew.map fun v:Value=>[v]).length=ew.length:=qat _;have tR:=hf.len;rw[nB]at h sv;rw[nB];rw[cR]at kW;rw[cR];refine aL mixed func96 W2 ?_;refine aI (fun h0=> ?_) (fun aT=> ?_)
 .have qi:l=[]:=qaD (by omega);refine aI (fun h1=> ?_) (fun aT=> ?_)
  .have iH:ew=[]:=qaD (by omega);refine fk h (zfl h.le) ?_;clear h;rintro _ M1 w ht bG h;obtain⟨tb,vt,rfl,oF,zc⟩:=ht;refine au (cs:=[.pointer none,.slice none 0 0,.slice none 0 0,.pointer none,.bool false,.bool true,vp tb]) h ?_;clear h;intro ib w h;have yI:w0.heap.size<=ib\/ib∈D:=(h.iG _ qal ib (by simp[aB.bX])).symm;obtain⟨M2,aQ,qq,h⟩:=h.dA ib;subst qi iH;exact⟨M2,[],⟨ib,rfl,yI,qq.own,qq.at 0 rfl,qq.at 3 rfl,qq.at 4 rfl,qq.at 5 rfl,⟨_,_,[],qq.at 1 rfl,qq.at 2 rfl,Sl.nil _ _ _,Sl.nil _ _ _,.refl _,by simp⟩,.inr ⟨rfl,rfl,rfl,tb,vt,qq.at 6 rfl,oF.le aQ,zc.le aQ⟩⟩,h.sub (by simp) .nil⟩
  refine sX h Ri ?_;clear h;intro ib w h;have yI:w0.heap.size<=ib\/ib∈D:=(h.iG _ qal ib (by simp[aB.bX])).symm;refine fB (X:=Nat×Mem) (Y:=Mem) 0 (fun y=>[(0,.slice av l.length cv),(1,.slice ae ew.length ce),(5,vp ib),(21,.slice av l.length cv),(22,.int .i64 (l.length:Int)),(23,.int .i64 (y.1:Int))])
   (fun y w=>y.1<=l.length/\M.Le y.2/\(∀i q,i<y.1->l[i]? =some q->fY y.2 pk q.1.aC q.1.name false q.2)/\SH w0 M D y.2 (.ah ib 247 [.pointer none,.slice none 0 0,.slice none 0 0,.pointer none,.bool false,.bool false,.pointer none]:: .own (.slice av l.length cv) 1 128 (l.map fun q=>[vp q.2])::(gK.drop y.1).map fun b=> .ah b 291 kL) w) (fun y=>l.length-y.1)
   (fun _=>[(0,.slice av l.length cv),(1,.slice ae ew.length ce),(5,vp ib)])
   (fun y w=>M.Le y/\(∀q∈l,fY y pk q.1.aC q.1.name false q.2)/\SH w0 M D y [.ah ib 247 [.pointer none,.slice none 0 0,.slice none 0 0,.pointer none,.bool false,.bool false,.pointer none],.own (.slice av l.length cv) 1 128 (l.map fun q=>[vp q.2])] w) (0,M) ⟨rfl,rfl,rfl,rfl,rfl,rfl,tV⟩ ⟨qae _,.refl _,fun i q hi=>absurd hi (qav _),by simpa using h⟩ ?_ ?_
  .clear h;rintro⟨k,Mk⟩ aK w N Z ⟨hk,hle,cz,h⟩ hN hZ;simp only at hk hle cz h;refine aI (fun aG=> ?_) (fun aY=> ?_);rotate_left 1
   .obtain rfl:k=l.length:=by omega
    rw[show gK.drop l.length=[]from by rw[tR];exact List.drop_length]at h;exact hZ Mk _ _ ⟨rfl,rfl,rfl,tV⟩ ⟨hle,fun q hq=>by obtain⟨i,hi,rfl⟩:=qak hq;exact cz i _ hi (by simp[hi]),h⟩
   have ad:k<l.length:=by omega
   have fh:k<gK.length:=by omega
   obtain⟨sg,vq,dQ,CX,jG⟩:=hf.get (i:=k) (x:=l[k]) (by simp[ad]);rw[List.drop_eq_getElem_cons fh,show gK[k]=sg from by rw[qaa fh]at vq;exact qaF vq,qaB]at h;obtain⟨_,g,rfl,kX⟩:=h.RW (i:=k) (cs:=[vp l[k].2]) (show(l.map fun q:bD×Nat=>[vp q.2])[k]? =some [vp l[k].2] by simp[ad]);refine aJ (k) ?_;refine qai _ (aI (by simpa using kX 0 _ rfl) ?_);refine aP h ((dQ.le hle).at 3 rfl) ?_;refine ak h ?_;have hS:=h.xA sg (hc:=(dQ.le hle).at 0 rfl);refine b_ [sg] h ?_;clear h;intro w h;refine cd h ((dQ.le hle).at 0 rfl) ?_ hS;refine cd h ((dQ.le hle).at 1 rfl) ?_ hS;refine aI ?_ trivial;refine xG h Ga ?_;clear h;intro rb w h;refine aI ?_ trivial;refine sV h ?_;clear h;intro w h;obtain⟨M1,bG,yX,h⟩:=h.dA rb;obtain⟨M2,aQ,sK,h⟩:=h.dA sg;refine aA (((k+1:Nat):Int)) ?_;refine hN (k+1,M2) _ _ ⟨rfl,rfl,rfl,rfl,rfl,rfl,tV⟩ ⟨ad,hle.trans (bG.trans aQ),fun i q hi hq=> ?_,h⟩ (by simp only;omega);rcases qa1 i k with kh|kh
   .exact(cz i q kh hq).le (bG.trans aQ)
   obtain rfl:i=k:=by omega
   obtain rfl:l[i]=q:=by rw[qaa ad]at hq;exact qaF hq
   exact⟨sg,rb,_,_,dQ.le (hle.trans (bG.trans aQ)),sK,yX.le aQ,.inr ⟨rfl,_,_,rfl,.inr rfl⟩⟩
  clear h;rintro Mk aK w ⟨hle,cz,h⟩;have h:=h.aF (L':=[.own (.slice av l.length cv) 1 128 (l.map fun q=>[vp q.2]),.ah ib 247 [.pointer none,.slice none 0 0,.slice none 0 0,.pointer none,.bool false,.bool false,.pointer none]]);refine du [.own (.slice av l.length cv) 1 128 (l.map fun q=>[vp q.2])] [.ah ib 247 [.pointer none,.slice none 0 0,.slice none 0 0,.pointer none,.bool false,.bool false,.pointer none]] h (fun h=>Lt (hT.le hle) (fun p hp=>by obtain⟨x,hx⟩:=dW p hp;exact⟨x,hx.le hle⟩) (fun q hq=> ?_) hlen h) ?_
  .obtain⟨sg,rb,rt,k,h1,_⟩:=cz q hq;obtain⟨i,hi,rfl⟩:=qak hq;obtain⟨_,_,_,CX,jG⟩:=hf.get (i:=i) (x:=l[i]) (by simp[hi]);exact⟨h1.at 1 rfl,h1.at 2 rfl,h1.own,CX,jG⟩
  clear h;rintro r M' A' w' ⟨l',yV,JQ,rfl,rfl,rfl⟩ _ _ h;simp only[qa_,qbk,qaC]at h;refine eQ h ?_;clear h;intro w h;refine eQ h ?_;clear h;intro w h;refine eQ h ?_;clear h;intro w h;obtain⟨M1,bG,y8,h⟩:=h.d6 (.slice av l.length cv);obtain⟨M2,aQ,d9,fG,h⟩:=h.NA 6;exact⟨M2,_,⟨ib,rfl,yI,fG,d9 0 _ (by decide) rfl,d9 3 _ (by decide) rfl,d9 4 _ (by decide) rfl,d9 5 _ (by decide) rfl,
   ⟨_,_,l',d9 1 _ (by decide) rfl,d9 2 _ (by decide) rfl,y8.mono aQ fun _ _ _ h=>h,⟨ae,ce,by rw[cR],by rw[cR];exact kW,CP.mono (hle.trans (bG.trans aQ)) fun _ _ _ h=>h⟩,yV,fun q hq=>(cz q hq).le (bG.trans aQ)⟩,.inl ⟨_,rfl,rfl⟩⟩,h⟩
 refine sX h Ri ?_;clear h;intro ib w h;have yI:w0.heap.size<=ib\/ib∈D:=(h.iG _ qal ib (by simp[aB.bX])).symm;refine fB (X:=Nat×Mem) (Y:=Mem) 0 (fun y=>[(0,.slice av l.length cv),(1,.slice ae ew.length ce),(5,vp ib),(21,.slice av l.length cv),(22,.int .i64 (l.length:Int)),(23,.int .i64 (y.1:Int))])
  (fun y w=>y.1<=l.length/\M.Le y.2/\(∀i q,i<y.1->l[i]? =some q->fY y.2 pk q.1.aC q.1.name false q.2)/\SH w0 M D y.2 (.ah ib 247 [.pointer none,.slice none 0 0,.slice none 0 0,.pointer none,.bool false,.bool false,.pointer none]:: .own (.slice av l.length cv) 1 128 (l.map fun q=>[vp q.2])::(gK.drop y.1).map fun b=> .ah b 291 kL) w) (fun y=>l.length-y.1)
  (fun _=>[(0,.slice av l.length cv),(1,.slice ae ew.length ce),(5,vp ib)])
  (fun y w=>M.Le y/\(∀q∈l,fY y pk q.1.aC q.1.name false q.2)/\SH w0 M D y [.ah ib 247 [.pointer none,.slice none 0 0,.slice none 0 0,.pointer none,.bool false,.bool false,.pointer none],.own (.slice av l.length cv) 1 128 (l.map fun q=>[vp q.2])] w) (0,M) ⟨rfl,rfl,rfl,rfl,rfl,rfl,tV⟩ ⟨qae _,.refl _,fun i q hi=>absurd hi (qav _),by simpa using h⟩ ?_ ?_
 .clear h;rintro⟨k,Mk⟩ aK w N Z ⟨hk,hle,cz,h⟩ hN hZ;simp only at hk hle cz h;refine aI (fun aG=> ?_) (fun aY=> ?_);rotate_left 1
  .obtain rfl:k=l.length:=by omega
   rw[show gK.drop l.length=[]from by rw[tR];exact List.drop_length]at h;exact hZ Mk _ _ ⟨rfl,rfl,rfl,tV⟩ ⟨hle,fun q hq=>by obtain⟨i,hi,rfl⟩:=qak hq;exact cz i _ hi (by simp[hi]),h⟩
  have ad:k<l.length:=by omega
  have fh:k<gK.length:=by omega
  obtain⟨sg,vq,dQ,CX,jG⟩:=hf.get (i:=k) (x:=l[k]) (by simp[ad]);rw[List.drop_eq_getElem_cons fh,show gK[k]=sg from by rw[qaa fh]at vq;exact qaF vq,qaB]at h;obtain⟨_,g,rfl,kX⟩:=h.RW (i:=k) (cs:=[vp l[k].2]) (show(l.map fun q:bD×Nat=>[vp q.2])[k]? =some [vp l[k].2] by simp[ad]);refine aJ (k) ?_;refine qai _ (aI (by simpa using kX 0 _ rfl) ?_);refine aP h ((dQ.le hle).at 3 rfl) ?_;refine ak h ?_;have hS:=h.xA sg (hc:=(dQ.le hle).at 0 rfl);refine b_ [sg] h ?_;clear h;intro w h;refine cd h ((dQ.le hle).at 0 rfl) ?_ hS;refine cd h ((dQ.le hle).at 1 rfl) ?_ hS;refine aI ?_ trivial;refine xG h Ga ?_;clear h;intro rb w h;refine aI ?_ trivial;refine sV h ?_;clear h;intro w h;obtain⟨M1,bG,yX,h⟩:=h.dA rb;obtain⟨M2,aQ,sK,h⟩:=h.dA sg;refine aA (((k+1:Nat):Int)) ?_;refine hN (k+1,M2) _ _ ⟨rfl,rfl,rfl,rfl,rfl,rfl,tV⟩ ⟨ad,hle.trans (bG.trans aQ),fun i q hi hq=> ?_,h⟩ (by simp only;omega);rcases qa1 i k with kh|kh
  .exact(cz i q kh hq).le (bG.trans aQ)
  obtain rfl:i=k:=by omega
  obtain rfl:l[i]=q:=by rw[qaa ad]at hq;exact qaF hq
  exact⟨sg,rb,_,_,dQ.le (hle.trans (bG.trans aQ)),sK,yX.le aQ,.inr ⟨rfl,_,_,rfl,.inr rfl⟩⟩
 clear h;rintro Mk aK w ⟨hle,cz,h⟩;have h:=h.aF (L':=[.own (.slice av l.length cv) 1 128 (l.map fun q=>[vp q.2]),.ah ib 247 [.pointer none,.slice none 0 0,.slice none 0 0,.pointer none,.bool false,.bool false,.pointer none]]);refine du [.own (.slice av l.length cv) 1 128 (l.map fun q=>[vp q.2])] [.ah ib 247 [.pointer none,.slice none 0 0,.slice none 0 0,.pointer none,.bool false,.bool false,.pointer none]] h (fun h=>Lt (hT.le hle) (fun p hp=>by obtain⟨x,hx⟩:=dW p hp;exact⟨x,hx.le hle⟩) (fun q hq=> ?_) hlen h) ?_
 .obtain⟨sg,rb,rt,k,h1,_⟩:=cz q hq;obtain⟨i,hi,rfl⟩:=qak hq;obtain⟨_,_,_,CX,jG⟩:=hf.get (i:=i) (x:=l[i]) (by simp[hi]);exact⟨h1.at 1 rfl,h1.at 2 rfl,h1.own,CX,jG⟩
 clear h;rintro r M' A' w' ⟨l',yV,JQ,rfl,rfl,rfl⟩ _ _ h;simp only[qa_,qbk,qaC]at h;refine eQ h ?_;clear h;intro w h;refine eQ h ?_;clear h;intro w h;refine eQ h ?_;clear h;intro w h;obtain⟨M1,bG,y8,h⟩:=h.d6 (.slice av l.length cv);obtain⟨M2,aQ,d9,fG,h⟩:=h.NA 6;exact⟨M2,_,⟨ib,rfl,yI,fG,d9 0 _ (by decide) rfl,d9 3 _ (by decide) rfl,d9 4 _ (by decide) rfl,d9 5 _ (by decide) rfl,
  ⟨_,_,l',d9 1 _ (by decide) rfl,d9 2 _ (by decide) rfl,y8.mono aQ fun _ _ _ h=>h,⟨ae,ce,by rw[cR],by rw[cR];exact kW,CP.mono (hle.trans (bG.trans aQ)) fun _ _ _ h=>h⟩,yV,fun q hq=>(cz q hq).le (bG.trans aQ)⟩,.inl ⟨_,rfl,rfl⟩⟩,h⟩
end
end Go.Proofs.YtlfcbbcdiecelaaGreatDoor
