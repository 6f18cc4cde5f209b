import Derived.Test.YtlfcbbcdiecelaaGreatDoorZ02
namespace Go.Proofs.YtlfcbbcdiecelaaGreatDoor
open Go Go.Proofs.Tryz
set_option maxRecDepth 100000
set_option maxHeartbeats 4000000
set_option linter.all false
section
variable {W:Wd}{f:FuncId}{args:List Value}{s:Sp}
theorem cP.ok{d:Int}{t:Ty}{v:Bool}(h:cP W d t v):Ok W t:=by
 have e:∀{α:Type} {p:α->Prop} {l:List α},(false=true\/l=[])->∀x∈l,p x:=fun h x hx=>by
  rcases h with h|rfl
  .simp at h
  simp at hx
 have e2:∀{α β:Type} {p:β->Prop} {l:List α} {m:List β},(false=true\/(l=[]/\m=[]))->∀x∈m,p x:=fun h x hx=>by
  rcases h with h|⟨_,rfl⟩
  .simp at h
  simp at hx
 induction h with
 |basic hk hh=>exact .mk _ (fun h=>by omega) (fun h=>by omega) (e hh.1) (e hh.2.1) (e hh.2.1) (e2 hh.2.2.1)
 |named hk hh hn=>exact .mk _ (fun _=>hn) (fun h=>by omega) (e hh.1) (e hh.2.1) (e hh.2.1) (e2 hh.2.2.1)
 |to hk hh he hf ih=>exact .mk _ (fun h=>by omega) (fun _=>by rw[he];simp) (by rw[he];simpa using ih) (e hh.2.1) (e hh.2.1) (e2 hh.2.2.1)
 |struct hk hh hf hn ih=>exact .mk _ (fun h=>by omega) (fun h=>by omega) (e hh.1) ih (fun f hf he=>by
  rcases((hn f hf).2 he).2 with h|⟨h,e,h1,h2⟩
  .exact .inl h
  exact .inr ⟨h,by rw[h1];simpa using h2⟩) (e2 hh.2.2.1)
 |iface hk hh hm ad he ih=>exact .mk _ (fun h=>by omega) (fun h=>by omega) (e hh.1) (e hh.2.1) (e hh.2.1) ih
section
variable {u:World}{M0:Mem}{D:List Nat}{M:Mem}{L:List aB}{w:World}{P:Program}{S:List Nat}
theorem i9{G:Value->World->Prop}(h:SH u M0 D M L w)(c:az P f args w fun r w'=>r9 M s r/\Fr [] w w')
 (k:∀a1 c1 a2 c2 a3 c3 a4 c4 w',cC M s.of (bh s.of a1 c1 a2 c2 a3 c3 a4 c4)->SH u M0 D M L w'->G (.agg (dZ s a1 c1 a2 c2 a3 c3 a4 c4).toArray) w'):az P f args w G:=
 c.mono fun r w' ⟨⟨cs,hr,hs⟩,hf⟩=>by
  obtain⟨a1,c1,a2,c2,a3,c3,a4,c4,rfl,ht,_⟩:=hs.lit;rw[hr];exact k _ _ _ _ _ _ _ _ w' ht (h.lu hf)
theorem rO{G:Value->List Nat->World->Prop}(h:SH u M0 D M L w)(c:az P f args w fun r w'=>r9 M s r/\Fr [] w w')
 (k:∀a1 c1 a2 c2 a3 c3 a4 c4 w',cC M s.of (bh s.of a1 c1 a2 c2 a3 c3 a4 c4)->SH u M0 D M L w'->G (.agg (dZ s a1 c1 a2 c2 a3 c3 a4 c4).toArray) S w'):
 az P f args w fun v w'=>∃S',(Fr S w w'/\∀b∈S',b∈S\/w.heap.size<=b)/\G v S' w':=
 c.mono fun r w' ⟨⟨cs,hr,hs⟩,hf⟩=>by
  obtain⟨a1,c1,a2,c2,a3,c3,a4,c4,rfl,ht,_⟩:=hs.lit;rw[hr];exact⟨S,⟨hf.nil,fun _ hb=> .inl hb⟩,k _ _ _ _ _ _ _ _ w' ht (h.lu hf)⟩
end
def Sp.base(s:Sp):Sp:=if s.of.kind=2 then s.elem else s
def rX(W:Wd)(p:Int)(s:Sp):Prop:=
 (W.under s.base).of.kind≠2/\(s.of.kind=2->(W.under s.base).of.kind≠5)/\((W.at s.base.of.num).aC=p\/exported (W.at s.base.of.num).name=true)
theorem Sp.UO(ho:Ok W s.of):Ok W s.base.of:=by
 unfold Sp.base;split
 .rename_i h;exact Sp.tD ho (ho.el (.inl h))
 exact ho
theorem XM{M:Mem}{w0:World}{a:Option Addr}{c:Nat}{cs:List Value}{p:Int}(hM:M.Le (Wm w0))(hW:eK M W a c)(hs:aS M s cs)(hk:o6 W)(ho:Ok W s.of)(hb:W.aj<=2^40)(hkd:s.of.kind=1\/(s.of.kind=2/\∀u∈s.of.elem,u.kind=1)):
 az prog 87 [bK W a c,.int .i64 p,.agg cs.toArray] w0 fun r w'=>RB r (rX W p s)/\Fr [] w0 w':=by
 have eT:=Sp.UO ho;have hn:W.has s.base.of.num:=by
  rcases hkd with h1|⟨h1,h2⟩
  .exact eT.num (by rw[Sp.base,if_neg (by omega)];exact h1)
  refine eT.num ?_;rw[Sp.base,if_pos h1];have aT:=ho.el (.inl h1);unfold Sp.elem;cases he:s.of.elem with
  |nil=>exact absurd he aT
  |cons x r=>exact h2 x (by rw[he];simp)
 obtain⟨b',o',ci,rfl,gR,jV,jj⟩:=hW.el.at hn.2;have Oy:=jj.one;rw[Wd.p7 hn]at jj;obtain⟨z1,f1,z2,f2,z3,f3,z4,f4,z5,f5,rfl,_⟩:=jj.lit;obtain⟨x1,d1,x2,d2,x3,d3,x4,d4,rfl,bA,_⟩:=hs.lit;have h:=SH.start hM;refine aL mixed func87 WU ?_;refine au h ?_;clear h;intro b5 w h;refine ak h ?_;refine aI (fun k2=> ?_) (fun k2=> ?_)
 .have ge:s.base=s.elem:=by rw[Sp.base,if_pos k2]
  refine bj h ?_;refine i9 h (tD h.le (aS.mk bA) (ho.el (.inl k2))) ?_;clear h;rw[<-ge];intro x1 d1 x2 d2 x3 d3 x4 d4 w bA h;refine br h (aS.one (aS.mk bA)) ?_;clear h;intro w h;refine b_ [] h ?_;clear h;intro w h;refine lc h ?_;refine bI h ?_;refine aJ _ ?_ hn.2 (Wd.ji hn);refine ug h jV ?_ gR;refine aI ?_ (aI ?_ trivial);refine rO h (pU h.le hW (aS.mk bA) hk eT hb) ?_;clear h;intro v1 g1 v2 g2 v3 g3 v4 g4 w gT h;refine aI ?_ trivial;refine sU h ?_;clear h;intro b9 w h;rotate_left;refine sU h ?_;clear h;intro b9 w h;refine aI ?_ trivial;refine rO h (pU h.le hW (aS.mk bA) hk eT hb) ?_;clear h;intro v1 g1 v2 g2 v3 g3 v4 g4 w gT h
  all_goals
   refine aI ?_ trivial;refine pP h Oy ?_;clear h;intro w h;refine aI (fun _=>⟨.inr rfl,h.fr⟩) (fun q1=> ?_);refine aI (fun _=>⟨.inr rfl,h.fr⟩) (fun q2=> ?_);refine ak h ?_;refine aI (fun q3=>⟨.inl ⟨rfl,(fun x=>(⟨q1,fun _=>q2,x⟩:rX W p s)) (.inl q3)⟩,h.fr⟩) (fun _=> ?_);refine ak h ?_;refine s_call h (HK) ?_;clear h;rintro _ w rfl h;by_cases q4:exported (W.at s.base.of.num).name=true
   .rw[q4];exact⟨.inl ⟨rfl,(fun x=>(⟨q1,fun _=>q2,x⟩:rX W p s)) (.inr q4)⟩,h.fr⟩
   rw[qaZ]at q4;rw[q4];exact⟨.inr rfl,h.fr⟩
 have ge:s.base=s:=by rw[Sp.base,if_neg k2]
 have rK:=bA;rw[<-ge]at bA;have e:dZ s x1 d1 x2 d2 x3 d3 x4 d4=dZ s.base x1 d1 x2 d2 x3 d3 x4 d4:=by rw[ge]
 rw[e]at h;clear e rK;refine b_ [] h ?_;clear h;intro w h;refine lc h ?_;refine bI h ?_;refine aJ _ ?_ hn.2 (Wd.ji hn);refine ug h jV ?_ gR;refine aI ?_ (aI ?_ trivial);refine rO h (pU h.le hW (aS.mk bA) hk eT hb) ?_;clear h;intro v1 g1 v2 g2 v3 g3 v4 g4 w gT h;refine aI ?_ trivial;refine sU h ?_;clear h;intro b9 w h;rotate_left;refine sU h ?_;clear h;intro b9 w h;refine aI ?_ trivial;refine rO h (pU h.le hW (aS.mk bA) hk eT hb) ?_;clear h;intro v1 g1 v2 g2 v3 g3 v4 g4 w gT h
 all_goals
  refine aI ?_ trivial;refine pP h Oy ?_;clear h;intro w h;refine aI (fun _=>⟨.inr rfl,h.fr⟩) (fun q1=> ?_);refine ak h ?_;refine aI (fun q3=>⟨.inl ⟨rfl,(fun x=>(⟨q1,fun hh=>absurd hh k2,x⟩:rX W p s)) (.inl q3)⟩,h.fr⟩) (fun _=> ?_);refine ak h ?_;refine s_call h (HK) ?_;clear h;rintro _ w rfl h;by_cases q4:exported (W.at s.base.of.num).name=true
  .rw[q4];exact⟨.inl ⟨rfl,(fun x=>(⟨q1,fun hh=>absurd hh k2,x⟩:rX W p s)) (.inr q4)⟩,h.fr⟩
  rw[qaZ]at q4;rw[q4];exact⟨.inr rfl,h.fr⟩
end
section
variable {s:Sp}{i:Nat}
inductive Valid(W:Wd):Sp->Prop where
 |mk (s:Sp) (hm:∀j m,s.of.methods[j]? =some m->m.1∉(s.of.methods.take j).map (·.1))
  (he:∀i,i<s.of.aD.length->(W.under (s.bE i)).of.kind=5) (dD:∀i,i<s.of.aD.length->Valid W (s.bE i))
  (hf:∀j f,s.of.fields[j]? =some f->W.fieldName f≠8->W.fieldName f∉(s.of.fields.take j).map W.fieldName)
  (gh:∀i,i<s.of.fields.length->Valid W (s.field i)) (iu:∀i f,s.of.fields[i]? =some f->f.2.1=true->rX W s.aC (s.field i))
  (cE:s.of.elem≠[]->Valid W s.elem):Valid W s
theorem Sp.pj(h:i<s.of.aD.length):(s.bE i).of=s.of.aD[i]:=by simp[Sp.bE,h]
theorem Sp.tE(h:i<s.of.fields.length):(s.field i).of=s.of.fields[i].2.2:=by simp[Sp.field,h]
theorem Sp.uF(h:s.of.elem≠[]):s.elem.of∈s.of.elem:=by
 unfold Sp.elem;cases he:s.of.elem with
 |nil=>exact absurd he h
 |cons x r=>simp
theorem Ez{α:Type}{l:List α}{p:Nat->α->Prop}{k:Nat}(hk:k<l.length)(h:∀j x,j<k->l[j]? =some x->p j x)(hx:p k l[k]):∀j x,j<k+1->l[j]? =some x->p j x:=by
 intro j x hj IG;rcases qa1 j k with h1|h1
 .exact h j x h1 IG
 obtain rfl:j=k:=by omega
 rw[qaa hk]at IG;cases IG;exact hx
theorem TB{W:Wd}:∀(n:Nat) (s:Sp),s.of.aj<n->∀{M:Mem} (w0:World) (cs:List Value) (a:Option Addr) (c:Nat),M.Le (Wm w0)->eK M W a c->aS M s cs->o6 W->Ok W s.of->s.top<=2^40->W.aj<=2^40->
 az prog 37 [bK W a c,.agg cs.toArray] w0 fun r w'=>RB r (Valid W s)/\Fr [] w0 w':=by
 intro n
 induction n with
 |zero=>intro t h;omega
 |succ n ih=>
 intro s hn M w0 cs a c hM hW hs hk ho xh hb;obtain⟨a1,c1,a2,c2,a3,c3,a4,c4,rfl,bA,he,hf,hm,OI,Bh,Bi,Bj,Bl⟩:=hs.lit;have zb_:=xh;unfold Sp.top at zb_;have l1:=s.of.yh;have l2:=s.of.lB;have l3:=s.of.qX;have l4:=s.of.zp;have h:=SH.start hM;refine aL mixed func37 Wc ?_;refine au h ?_;clear h;intro b3 w h;refine ak h ?_;refine bN (X:=Nat) (fun k=>[(0,bK W a c),(3,.pointer (some ⟨b3,0,none⟩)),(20,.slice a3 s.of.methods.length c3),(21,.int .i64 (s.of.methods.length:Int)),(22,.int .i64 (k:Int))])
  (fun k w=>k<=s.of.methods.length/\(∀j m,j<k->s.of.methods[j]? =some m->m.1∉(s.of.methods.take j).map (·.1))/\SH w0 M [] M [.ah b3 89 (dZ s a1 c1 a2 c2 a3 c3 a4 c4)] w) (fun k=>s.of.methods.length-k) 0 ⟨rfl,rfl,rfl,rfl,rfl,tV⟩ ⟨qae _,by intros;omega,h⟩ ?_
 clear h;intro i aK w N ⟨hi,yz,h⟩ hN;refine aI (fun aG=> ?_) (fun aY=> ?_)
 .have hi':i<s.of.methods.length:=by omega
  obtain⟨b,o,ci,rfl,hl,aO,aE⟩:=hm.at hi';have aZ:=aE.one;obtain rfl:=aE;obtain⟨nm,cD⟩:∃x,x=s.of.methods[i].1:=⟨_,rfl⟩;refine aJ (i) ?_;refine cG h aO ?_;refine au h ?_;clear h;intro b6 w h;refine br h aZ ?_;clear h;intro w h;refine ak h ?_;refine qai i (qai c3 (aI ⟨rfl,rfl,by omega,qad _⟩ ?_));refine bN (X:=Nat) (fun k=>[(0,bK W a c),(3,.pointer (some ⟨b3,0,none⟩)),(6,.pointer (some ⟨b6,0,none⟩)),(20,.slice (some ⟨b,o,none⟩) s.of.methods.length c3),(21,.int .i64 (s.of.methods.length:Int)),(22,.int .i64 (i:Int)),(31,.slice (some ⟨b,o,none⟩) i c3),(32,.int .i64 (i:Int)),(33,.int .i64 (k:Int))])
   (fun k w=>k<=i/\nm∉(s.of.methods.take k).map (·.1)/\SH w0 M [] M [.ah b3 89 (dZ s a1 c1 a2 c2 (some ⟨b,o,none⟩) c3 a4 c4),.ah b6 87 [.int .i64 nm,.bool s.of.methods[i].2]] w) (fun k=>i-k) 0 ⟨rfl,rfl,rfl,rfl,rfl,rfl,rfl,rfl,rfl,tV⟩ ⟨qae _,by simp,by rw[cD];exact h.aF⟩ ?_
  clear h;intro k aK w N2 ⟨dE,k7,h⟩ d7;refine aI (fun jU=> ?_) (fun tN=> ?_)
  .have ad:k<s.of.methods.length:=by omega
   obtain⟨b',o',ci,e_,hl,aO,aE⟩:=hm.at ad;cases e_;have aZ:=aE.one;obtain rfl:=aE;have dS:=dN ad;refine aJ (k) ?_;refine cG h aO ?_;refine au h ?_;clear h;intro b8 w h;refine br h aZ ?_;clear h;intro w h;refine ak h ?_;refine ak h ?_;refine aI (fun _=>⟨.inr rfl,h.fr⟩) (fun q=> ?_);refine aA (((k+1:Nat):Int)) ?_;exact d7 (k+1) _ _ ⟨rfl,rfl,rfl,rfl,rfl,rfl,rfl,rfl,rfl,tV⟩ ⟨by omega,by rw[<-dS,qaq,qah,not_or];exact⟨k7,by simpa using q⟩,h.aF⟩ (by omega)
  obtain rfl:k=i:=by omega
  rw[cD]at k7;refine aA (((k+1:Nat):Int)) ?_;exact hN (k+1) _ _ ⟨rfl,rfl,rfl,rfl,rfl,tV⟩ ⟨hi',Ez hi' yz k7,h.aF⟩ (by omega)
 obtain rfl:i=s.of.methods.length:=by omega
 have zbw:∀j m,s.of.methods[j]? =some m->m.1∉(s.of.methods.take j).map (·.1):=fun j m hj=>yz j m (qab.1 hj).1 hj;clear hN yz hi aY;refine ak h ?_;refine bN (X:=Nat) (fun k=>[(0,bK W a c),(3,.pointer (some ⟨b3,0,none⟩)),(47,.int .i64 (s.of.aD.length:Int)),(48,.int .i64 (k:Int))])
  (fun k w=>k<=s.of.aD.length/\(∀i,i<k->(W.under (s.bE i)).of.kind=5/\Valid W (s.bE i))/\SH w0 M [] M [.ah b3 89 (dZ s a1 c1 a2 c2 a3 c3 a4 c4)] w) (fun k=>s.of.aD.length-k) 0 ⟨rfl,rfl,rfl,rfl,tV⟩ ⟨qae _,by intros;omega,h⟩ ?_
 clear h;intro i aK w N ⟨hi,kU,h⟩ hN;refine aI (fun aG=> ?_) (fun aY=> ?_)
 .have hi':i<s.of.aD.length:=by omega
  have cQ:=Sp.yi ho hi';have JX:=Sp.Nd hi';have fu:(s.bE i).of.aj<s.of.aj:=by rw[Sp.pj hi'];exact Ty.nY (by simp)
  refine bj h ?_;refine i9 h (yi h.le (aS.mk bA) hi' xh) ?_;clear h;intro x1 d1 x2 d2 x3 d3 x4 d4 w gT h;refine au h ?_;clear h;intro er w h;refine br h (aS.one (aS.mk gT)) ?_;clear h;intro w h;refine bj h ?_;refine i9 h (pU h.le hW (aS.mk gT) hk cQ hb) ?_;clear h;intro v1 g1 v2 g2 v3 g3 v4 g4 w zca h;refine aI (fun q1=> ?_) (fun _=>⟨.inr rfl,h.fr⟩);refine bj h ?_;refine s_call h (ih (s.bE i) (by omega) w _ _ _ h.le hW (aS.mk gT) hk cQ (by omega) hb) ?_;clear h;rintro _ w (⟨rfl,hv⟩|rfl) h;rotate_left 1
  .exact⟨.inr rfl,h.fr⟩
  refine aA (((i+1:Nat):Int)) ?_;refine hN (i+1) _ _ ⟨rfl,rfl,rfl,rfl,tV⟩ ⟨hi',fun j hj=> ?_,h.aF⟩ (by omega);rcases qa1 j i with h1|h1
  .exact kU j h1
  obtain rfl:j=i:=by omega
  exact⟨q1,hv⟩
 obtain rfl:i=s.of.aD.length:=by omega
 clear hN hi aY;refine ak h ?_;have fF:∀f∈s.of.fields,Ok W f.2.2/\(f.2.1=true->f.2.2.kind=1\/(f.2.2.kind=2/\∀u∈f.2.2.elem,u.kind=1)):=fun f hf=>⟨ho.fields f hf,ho.np f hf⟩;refine bN (X:=Nat) (fun k=>[(0,bK W a c),(3,.pointer (some ⟨b3,0,none⟩)),(69,.slice a2 s.of.fields.length c2),(70,.int .i64 (s.of.fields.length:Int)),(71,.int .i64 (k:Int))])
  (fun k w=>k<=s.of.fields.length/\(∀i f,i<k->s.of.fields[i]? =some f->(W.fieldName f≠8->W.fieldName f∉(s.of.fields.take i).map W.fieldName)/\Valid W (s.field i)/\(f.2.1=true->rX W s.aC (s.field i)))/\SH w0 M [] M [.ah b3 89 (dZ s a1 c1 a2 c2 a3 c3 a4 c4)] w) (fun k=>s.of.fields.length-k) 0 ⟨rfl,rfl,rfl,rfl,rfl,tV⟩ ⟨qae _,by intros;omega,h⟩ ?_
 clear h;intro i aK w N ⟨hi,rh,h⟩ hN;refine aI (fun aG=> ?_) (fun aY=> ?_)
 .have hi':i<s.of.fields.length:=by omega
  have cQ:=Sp.Ak ho hi';have JX:=Sp.Nl hi';have fg:=Sp.tE hi';have fu:(s.field i).of.aj<s.of.aj:=by rw[fg];exact Ty.sj (by simp)
  obtain⟨b,o,ci,rfl,hl,aO,aE⟩:=hf.at hi';have aZ:=aE.one;obtain⟨f,jE⟩:∃f,f=s.of.fields[i]:=⟨_,rfl⟩;have kg:f∈s.of.fields:=by rw[jE];simp
  rw[<-jE]at aE;have yB:=aE;obtain⟨tc,rfl,aE⟩:=aE;obtain⟨y1,e1,y2,e2,y3,e3,y4,e4,rfl,_⟩:=aE.lit;by_cases mh:f.2.1=true
  .rw[mh]at aO aZ yB;have ri:kO M f (.int .i64 f.1:: .bool true::bh f.2.2 y1 e1 y2 e2 y3 e3 y4 e4):=⟨_,by rw[mh],aE⟩;have ct:Rw M b (o+i*8) (.int .i64 f.1:: .bool true::bh f.2.2 y1 e1 y2 e2 y3 e3 y4 e4):=aO;refine aJ (i) ?_;refine cG h ct ?_ hl;refine au h ?_;clear h;intro lw w h;refine br h aZ ?_;clear h;intro w h;refine bj h ?_;refine s_call h (Ak h.le (aS.mk bA) hi' xh) ?_;clear h;rintro _ w ⟨_,rfl,⟨gD,rfl,pH⟩⟩ h;obtain⟨x1,d1,x2,d2,x3,d3,x4,d4,rfl,gT,_⟩:=pH.lit;refine au h ?_;clear h;intro dv w h;refine br h (aS.one (aS.mk gT)) ?_;clear h;intro w h;refine bj h ?_;refine s_call h (Aj h.le hW ri (fF f kg).1 (fF f kg).2) ?_;clear h;rintro _ w rfl h;refine ak h ?_;refine qai i (qai c2 (aI ⟨rfl,rfl,by omega,qad _⟩ ?_));refine bN (X:=Nat) (fun k=>[(0,bK W a c),(3,.pointer (some ⟨b3,0,none⟩)),(12,.pointer (some ⟨lw,0,none⟩)),(13,.pointer (some ⟨dv,0,none⟩)),(15,.int .i64 (W.fieldName f)),(69,.slice (some ⟨b,o,none⟩) s.of.fields.length c2),(70,.int .i64 (s.of.fields.length:Int)),(71,.int .i64 (i:Int)),(89,.slice (some ⟨b,o,none⟩) i c2),(90,.int .i64 (i:Int)),(91,.int .i64 (k:Int))])
    (fun k w=>k<=i/\(W.fieldName f≠8->W.fieldName f∉(s.of.fields.take k).map W.fieldName)/\SH w0 M [] M [.ah b3 89 (dZ s a1 c1 (some ⟨b,o,none⟩) c2 a3 c3 a4 c4),.ah lw 103 (.int .i64 f.1:: .bool true::bh f.2.2 y1 e1 y2 e2 y3 e3 y4 e4),.ah dv 89 (dZ (s.field i) x1 d1 x2 d2 x3 d3 x4 d4)] w) (fun k=>i-k) 0 ⟨rfl,rfl,rfl,rfl,rfl,rfl,rfl,rfl,rfl,rfl,rfl,tV⟩ ⟨qae _,by simp,h.aF⟩ ?_
   clear h;intro k aK w N2 ⟨dE,k7,h⟩ d7;refine aI (fun jU=> ?_) (fun tN=> ?_)
   .have ad:k<s.of.fields.length:=by omega
    obtain⟨b',o',ci,e_,hl,aO,aE⟩:=hf.at ad;cases e_;have aZ:=aE.one;have yC:=aE;obtain⟨tc,rfl,aE⟩:=aE;obtain⟨u1,g1,u2,g2,u3,g3,u4,g4,rfl,_⟩:=aE.lit;have dS:=dN ad;have uU:s.of.fields[k]∈s.of.fields:=by simp
    refine aJ (k) ?_;refine cG h aO ?_;refine au h ?_;clear h;intro b8 w h;refine br h aZ ?_;clear h;intro w h;refine aI (fun q8=> ?_) (fun q8=> ?_)
    .refine aA (((k+1:Nat):Int)) ?_;exact d7 (k+1) _ _ ⟨rfl,rfl,rfl,rfl,rfl,rfl,rfl,rfl,rfl,rfl,rfl,tV⟩ ⟨by omega,fun hx=>absurd q8 hx,h.aF⟩ (by omega)
    refine bj h ?_;refine s_call h (Aj h.le hW yC (fF _ uU).1 (fF _ uU).2) ?_;clear h;rintro _ w rfl h;refine aI (fun _=>⟨.inr rfl,h.fr⟩) (fun q=> ?_);refine aA (((k+1:Nat):Int)) ?_;exact d7 (k+1) _ _ ⟨rfl,rfl,rfl,rfl,rfl,rfl,rfl,rfl,rfl,rfl,rfl,tV⟩ ⟨by omega,fun hx=>by rw[<-dS,qaq,qah,not_or];exact⟨k7 hx,by simpa using q⟩,h.aF⟩ (by omega)
   obtain rfl:k=i:=by omega
   have iM:=k7;refine bj h ?_;refine s_call h (ih (s.field k) (by omega) w _ _ _ h.le hW (aS.mk gT) hk cQ (by omega) hb) ?_;clear h;rintro _ w (⟨rfl,hv⟩|rfl) h;rotate_left 1
   .exact⟨.inr rfl,h.fr⟩
   refine ak h ?_;refine ak h ?_;refine bj h ?_;refine s_call h (XM h.le hW (aS.mk gT) hk cQ hb (by rw[fg];exact jE▸(fF f kg).2 mh)) ?_;clear h;rintro _ w (⟨rfl,jk⟩|rfl) h;rotate_left 1
   .exact⟨.inr rfl,h.fr⟩
   refine aA (((k+1:Nat):Int)) ?_;exact hN (k+1) _ _ ⟨rfl,rfl,rfl,rfl,rfl,tV⟩ ⟨hi',Ez hi' rh (by rw[<-jE];exact⟨iM,hv,fun _=>jk⟩),h.aF⟩ (by omega)
  rw[qaZ]at mh;rw[mh]at aO aZ;have ri:kO M f (.int .i64 f.1:: .bool false::bh f.2.2 y1 e1 y2 e2 y3 e3 y4 e4):=⟨_,by rw[mh],aE⟩;have ct:Rw M b (o+i*8) (.int .i64 f.1:: .bool false::bh f.2.2 y1 e1 y2 e2 y3 e3 y4 e4):=aO;refine aJ (i) ?_;refine cG h ct ?_ hl;refine au h ?_;clear h;intro lw w h;refine br h aZ ?_;clear h;intro w h;refine bj h ?_;refine s_call h (Ak h.le (aS.mk bA) hi' xh) ?_;clear h;rintro _ w ⟨_,rfl,⟨gD,rfl,pH⟩⟩ h;obtain⟨x1,d1,x2,d2,x3,d3,x4,d4,rfl,gT,_⟩:=pH.lit;refine au h ?_;clear h;intro dv w h;refine br h (aS.one (aS.mk gT)) ?_;clear h;intro w h;refine bj h ?_;refine s_call h (Aj h.le hW ri (fF f kg).1 (fF f kg).2) ?_;clear h;rintro _ w rfl h;refine ak h ?_;refine qai i (qai c2 (aI ⟨rfl,rfl,by omega,qad _⟩ ?_));refine bN (X:=Nat) (fun k=>[(0,bK W a c),(3,.pointer (some ⟨b3,0,none⟩)),(12,.pointer (some ⟨lw,0,none⟩)),(13,.pointer (some ⟨dv,0,none⟩)),(15,.int .i64 (W.fieldName f)),(69,.slice (some ⟨b,o,none⟩) s.of.fields.length c2),(70,.int .i64 (s.of.fields.length:Int)),(71,.int .i64 (i:Int)),(89,.slice (some ⟨b,o,none⟩) i c2),(90,.int .i64 (i:Int)),(91,.int .i64 (k:Int))])
   (fun k w=>k<=i/\(W.fieldName f≠8->W.fieldName f∉(s.of.fields.take k).map W.fieldName)/\SH w0 M [] M [.ah b3 89 (dZ s a1 c1 (some ⟨b,o,none⟩) c2 a3 c3 a4 c4),.ah lw 103 (.int .i64 f.1:: .bool false::bh f.2.2 y1 e1 y2 e2 y3 e3 y4 e4),.ah dv 89 (dZ (s.field i) x1 d1 x2 d2 x3 d3 x4 d4)] w) (fun k=>i-k) 0 ⟨rfl,rfl,rfl,rfl,rfl,rfl,rfl,rfl,rfl,rfl,rfl,tV⟩ ⟨qae _,by simp,h.aF⟩ ?_
  clear h;intro k aK w N2 ⟨dE,k7,h⟩ d7;refine aI (fun jU=> ?_) (fun tN=> ?_)
  .have ad:k<s.of.fields.length:=by omega
   obtain⟨b',o',ci,e_,hl,aO,aE⟩:=hf.at ad;cases e_;have aZ:=aE.one;have yC:=aE;obtain⟨tc,rfl,aE⟩:=aE;obtain⟨u1,g1,u2,g2,u3,g3,u4,g4,rfl,_⟩:=aE.lit;have dS:=dN ad;have uU:s.of.fields[k]∈s.of.fields:=by simp
   refine aJ (k) ?_;refine cG h aO ?_;refine au h ?_;clear h;intro b8 w h;refine br h aZ ?_;clear h;intro w h;refine aI (fun q8=> ?_) (fun q8=> ?_)
   .refine aA (((k+1:Nat):Int)) ?_;exact d7 (k+1) _ _ ⟨rfl,rfl,rfl,rfl,rfl,rfl,rfl,rfl,rfl,rfl,rfl,tV⟩ ⟨by omega,fun hx=>absurd q8 hx,h.aF⟩ (by omega)
   refine bj h ?_;refine s_call h (Aj h.le hW yC (fF _ uU).1 (fF _ uU).2) ?_;clear h;rintro _ w rfl h;refine aI (fun _=>⟨.inr rfl,h.fr⟩) (fun q=> ?_);refine aA (((k+1:Nat):Int)) ?_;exact d7 (k+1) _ _ ⟨rfl,rfl,rfl,rfl,rfl,rfl,rfl,rfl,rfl,rfl,rfl,tV⟩ ⟨by omega,fun hx=>by rw[<-dS,qaq,qah,not_or];exact⟨k7 hx,by simpa using q⟩,h.aF⟩ (by omega)
  obtain rfl:k=i:=by omega
  have iM:=k7;refine bj h ?_;refine s_call h (ih (s.field k) (by omega) w _ _ _ h.le hW (aS.mk gT) hk cQ (by omega) hb) ?_;clear h;rintro _ w (⟨rfl,hv⟩|rfl) h;rotate_left 1
  .exact⟨.inr rfl,h.fr⟩
  refine ak h ?_
  skip
  refine aA (((k+1:Nat):Int)) ?_;exact hN (k+1) _ _ ⟨rfl,rfl,rfl,rfl,rfl,tV⟩ ⟨hi',Ez hi' rh (by rw[<-jE];exact⟨iM,hv,fun hx=>by rw[mh]at hx;cases hx⟩),h.aF⟩ (by omega)
 obtain rfl:i=s.of.fields.length:=by omega
 clear hN hi aY;have fin:(s.of.elem≠[]->Valid W s.elem)->Valid W s:=fun cE=> .mk s zbw (fun i hi=>(kU i hi).1) (fun i hi=>(kU i hi).2) (fun j f hj=>(rh j f (qab.1 hj).1 hj).1)
  (fun i hi=>(rh i s.of.fields[i] hi (by simp[hi])).2.1) (fun i f hi=>(rh i f (qab.1 hi).1 hi).2.2) cE
 refine ak h ?_;refine aI (fun q1=> ?_) (fun q1=> ?_)
 .exact⟨.inl ⟨rfl,fin fun aT=>absurd (qE q1) aT⟩,h.fr⟩
 have aT:s.of.elem≠[]:=fun h0=>q1 (by rw[h0];rfl);have fu:s.elem.of.aj<s.of.aj:=Ty.pe (Sp.uF aT);have JX:=Sp.Nb aT;refine bj h ?_;refine i9 h (tD h.le (aS.mk bA) aT) ?_;clear h;intro x1 d1 x2 d2 x3 d3 x4 d4 w gT h;refine s_call h (ih s.elem (by omega) w _ _ _ h.le hW (aS.mk gT) hk (Sp.tD ho aT) (by omega) hb) ?_;clear h;rintro _ w (⟨rfl,hv⟩|rfl) h
 .exact⟨.inl ⟨rfl,fin fun _=>hv⟩,h.fr⟩
 exact⟨.inr rfl,h.fr⟩
end
structure wi(W:Wd)(d:Int):Prop where
 pp:(W.under (W.spot d)).of.kind=2->(W.under (W.under (W.spot d)).elem).of.kind≠2
 no:(W.at d).methods≠[]->(W.under (W.spot d)).of.kind≠2/\(W.under (W.spot d)).of.kind≠5
 name:∀m∈(W.at d).methods,bL m.1/\m.1≠8
 once:∀j m,(W.at d).methods[j]? =some m->m.1∉((W.at d).methods.take j).map (·.1)
 eS:∀m∈(W.at d).methods,∀f∈(W.under (W.spot d)).of.fields,aM (W.under (W.spot d)).aC (W.fieldName f)≠aM (W.at d).aC m.1
theorem Xy{M:Mem}{w0:World}{W:Wd}{a:Option Addr}{c:Nat}{d:Int}(hM:M.Le (Wm w0))(hW:eK M W a c)(hk:o6 W)(hb:W.aj<=2^40)(hd:W.has d)(dW:cN (W.at d).aC)
 (eF:cN (W.under (W.spot d)).aC) (oK:∀f∈(W.under (W.spot d)).of.fields,bL (W.fieldName f)):
 az prog 39 [bK W a c,.int .i64 d] w0 fun r w'=>RB r (wi W d)/\Fr [] w0 w':=by
 obtain⟨b,o,ci,rfl,hl,aO,aE⟩:=hW.el.at hd.2;rw[Wd.p7 hd]at aE;obtain⟨z1,f1,z2,f2,z3,f3,z4,f4,z5,f5,rfl,_,iZ,_⟩:=aE.lit;have JP:=Wd.rT hk hd;have vd:Ok W (W.under (W.spot d)).of:=Wd.LG hk _ _ JP;have hut:(W.under (W.spot d)).top<=2^40:=Wd.Ts hk hb _ _ JP (qaQ (Wd.Gs hd) hb);have c_:=(W.under (W.spot d)).of.lB;unfold Sp.top at hut;have h:=SH.start hM;refine aL mixed func39 Wf ?_;refine i9 h (rT h.le hW hd hb) ?_;clear h;intro y1 e1 y2 e2 y3 e3 y4 e4 w vB h;refine i9 h (pU h.le hW (aS.mk vB) hk JP hb) ?_;clear h;intro x1 d1 x2 d2 x3 d3 x4 d4 w bA h;obtain⟨_,_,oq⟩:True/\True/\bQ M 8 (kO M) x2 (W.under (W.spot d)).of.fields:=by
  obtain⟨_,_,_,_,_,_,_,_,he,_,hf,_⟩:=bA.lit;simp only[qbS,qa5,qcg,qca,qco]at he;obtain⟨_,⟨rfl,rfl⟩,_⟩:=he;exact⟨tV,tV,hf⟩
 refine au h ?_;clear h;intro b5 w h;refine br h (aS.one (aS.mk bA)) ?_;clear h;intro w h;refine ak h ?_;refine aI (fun k2=> ?_) (fun k2=> ?_);refine bj h ?_;refine i9 h (tD h.le (aS.mk bA) (vd.el (.inl k2))) ?_;clear h;intro u1 g1 u2 g2 u3 g3 u4 g4 w gT h;refine i9 h (pU h.le hW (aS.mk gT) hk (Sp.tD vd (vd.el (.inl k2))) hb) ?_;clear h;intro v1 j1 v2 j2 v3 j3 v4 j4 w zca h;refine aI (fun _=>⟨.inr rfl,h.fr⟩) (fun q0=> ?_);have jo:(W.under (W.spot d)).of.kind=2->(W.under (W.under (W.spot d)).elem).of.kind≠2:=fun _=>q0;rotate_left;have jo:(W.under (W.spot d)).of.kind=2->(W.under (W.under (W.spot d)).elem).of.kind≠2:=fun hx=>absurd hx k2
 all_goals
  refine aJ _ ?_ hd.2 (Wd.ji hd);refine aP h (aO 9 _ rfl) ?_;refine aI (fun m1=> ?_) (fun m1=> ?_);refine ak h ?_;refine aI (fun _=>⟨.inr rfl,h.fr⟩) (fun q2=> ?_);refine ak h ?_;refine aI (fun _=>⟨.inr rfl,h.fr⟩) (fun q5=> ?_);have bz:(W.at d).methods≠[]->(W.under (W.spot d)).of.kind≠2/\(W.under (W.spot d)).of.kind≠5:=fun _=>⟨q2,q5⟩;rotate_left;have bz:(W.at d).methods≠[]->(W.under (W.spot d)).of.kind≠2/\(W.under (W.spot d)).of.kind≠5:=fun hx=>absurd (qaD (by omega)) hx
  all_goals
   have Ou:(W.at d).methods.length<=W.aj:=by
    have:=sm hd.2;rw[Wd.p7 hd]at this;exact this.2
   refine aJ _ ?_ hd.2 (Wd.ji hd);refine aP h (aO 9 _ rfl) ?_;refine bN (X:=Nat) (fun k=>[(0,bK W (some ⟨b,o,none⟩) c),(1,.int .i64 d),(5,.pointer (some ⟨b5,0,none⟩)),(53,.slice z5 (W.at d).methods.length f5),(54,.int .i64 ((W.at d).methods.length:Int)),(55,.int .i64 (k:Int))])
    (fun k w=>k<=(W.at d).methods.length/\(∀j m,j<k->(W.at d).methods[j]? =some m->(bL m.1/\m.1≠8)/\m.1∉((W.at d).methods.take j).map (·.1)/\∀f∈(W.under (W.spot d)).of.fields,aM (W.under (W.spot d)).aC (W.fieldName f)≠aM (W.at d).aC m.1)/\SH w0 M [] M [.ah b5 89 (dZ (W.under (W.spot d)) x1 d1 x2 d2 x3 d3 x4 d4)] w) (fun k=>(W.at d).methods.length-k) 0 ⟨rfl,rfl,rfl,rfl,rfl,rfl,tV⟩ ⟨qae _,by intros;omega,h⟩ ?_
   clear h;intro i aK w N ⟨hi,yz,h⟩ hN;refine aI (fun aG=> ?_) (fun aY=> ?_)
   .have hi':i<(W.at d).methods.length:=by omega
    obtain⟨b2,o2,ci,rfl,cR,ct,fE⟩:=iZ.at hi';have aZ:=fE.one;obtain rfl:=fE;obtain⟨nm,cD⟩:∃x,x=(W.at d).methods[i].1:=⟨_,rfl⟩;rw[<-cD]at ct aZ;refine aJ (i) ?_;refine cG h ct ?_ cR;refine au h ?_;clear h;intro b7 w h;refine br h aZ ?_;clear h;intro w h;refine ak h ?_;refine s_call h (oP) ?_;clear h;rintro _ w rfl h;by_cases q1:bL nm;rotate_left 1
    .rw[qaK q1];exact⟨.inr rfl,h.fr⟩
    rw[qaH q1];refine ak h ?_;refine aI (fun _=>⟨.inr rfl,h.fr⟩) (fun q2=> ?_);refine aJ _ ?_ hd.2 (Wd.ji hd);refine aP h (aO 9 _ rfl) ?_;refine qai i (qai f5 (aI ⟨rfl,rfl,by omega,qad _⟩ ?_));refine bN (X:=Nat) (fun k=>[(0,bK W (some ⟨b,o,none⟩) c),(1,.int .i64 d),(5,.pointer (some ⟨b5,0,none⟩)),(7,.pointer (some ⟨b7,0,none⟩)),(53,.slice (some ⟨b2,o2,none⟩) (W.at d).methods.length f5),(54,.int .i64 ((W.at d).methods.length:Int)),(55,.int .i64 (i:Int)),(75,.slice (some ⟨b2,o2,none⟩) i f5),(76,.int .i64 (i:Int)),(77,.int .i64 (k:Int))])
     (fun k w=>k<=i/\nm∉((W.at d).methods.take k).map (·.1)/\SH w0 M [] M [.ah b5 89 (dZ (W.under (W.spot d)) x1 d1 x2 d2 x3 d3 x4 d4),.ah b7 87 [.int .i64 nm,.bool (W.at d).methods[i].2]] w) (fun k=>i-k) 0 ⟨rfl,rfl,rfl,rfl,rfl,rfl,rfl,rfl,rfl,rfl,tV⟩ ⟨qae _,by simp,h.aF⟩ ?_
    clear h;intro k aK w N2 ⟨dE,k7,h⟩ d7;refine aI (fun jU=> ?_) (fun tN=> ?_)
    .have ad:k<(W.at d).methods.length:=by omega
     obtain⟨b',o',ci,e_,hl,yZ,aE⟩:=iZ.at ad;cases e_;have aZ:=aE.one;obtain rfl:=aE;have dS:=dN ad;refine aJ (k) ?_;refine cG h yZ ?_;refine au h ?_;clear h;intro b8 w h;refine br h aZ ?_;clear h;intro w h;refine ak h ?_;refine ak h ?_;refine aI (fun _=>⟨.inr rfl,h.fr⟩) (fun q=> ?_);refine aA (((k+1:Nat):Int)) ?_;exact d7 (k+1) _ _ ⟨rfl,rfl,rfl,rfl,rfl,rfl,rfl,rfl,rfl,rfl,tV⟩ ⟨by omega,by rw[<-dS,qaq,qah,not_or];exact⟨k7,by simpa using q⟩,h.aF⟩ (by omega)
    obtain rfl:k=i:=by omega
    clear d7 tN dE;refine ak h ?_;refine bN (X:=Nat) (fun j=>[(0,bK W (some ⟨b,o,none⟩) c),(1,.int .i64 d),(5,.pointer (some ⟨b5,0,none⟩)),(7,.pointer (some ⟨b7,0,none⟩)),(53,.slice (some ⟨b2,o2,none⟩) (W.at d).methods.length f5),(54,.int .i64 ((W.at d).methods.length:Int)),(55,.int .i64 (k:Int)),(89,.slice x2 (W.under (W.spot d)).of.fields.length d2),(90,.int .i64 ((W.under (W.spot d)).of.fields.length:Int)),(91,.int .i64 (j:Int))])
     (fun j w=>j<=(W.under (W.spot d)).of.fields.length/\(∀f∈(W.under (W.spot d)).of.fields.take j,aM (W.under (W.spot d)).aC (W.fieldName f)≠aM (W.at d).aC nm)/\SH w0 M [] M [.ah b5 89 (dZ (W.under (W.spot d)) x1 d1 x2 d2 x3 d3 x4 d4),.ah b7 87 [.int .i64 nm,.bool (W.at d).methods[k].2]] w) (fun j=>(W.under (W.spot d)).of.fields.length-j) 0 ⟨rfl,rfl,rfl,rfl,rfl,rfl,rfl,rfl,rfl,rfl,tV⟩ ⟨qae _,by simp,h.aF⟩ ?_
    clear h;intro j aK w N3 ⟨hj,c_,h⟩ kc;refine aI (fun zbv=> ?_) (fun zbe=> ?_)
    .have eM:j<(W.under (W.spot d)).of.fields.length:=by omega
     obtain⟨b4,o4,ci,rfl,C6,zbW,Ff⟩:=oq.at eM;have aZ:=Ff.one;obtain⟨f,jE⟩:∃f,f=(W.under (W.spot d)).of.fields[j]:=⟨_,rfl⟩;have kg:f∈(W.under (W.spot d)).of.fields:=by rw[jE];simp
     have dS:=dN eM;rw[<-jE]at Ff dS;have yC:=Ff;obtain⟨tc,rfl,aE⟩:=Ff;obtain⟨u1,g1,u2,g2,u3,g3,u4,g4,rfl,_⟩:=aE.lit;refine aJ (j) ?_;refine cG h zbW ?_;refine au h ?_;clear h;intro fJ w h;refine br h aZ ?_;clear h;intro w h;refine b_ [] h ?_;clear h;intro w h;refine bI h ?_;refine lc h ?_;refine aJ _ ?_ hd.2 (Wd.ji hd);refine cd h (aO 1 _ rfl) ?_;refine bI h ?_;refine aI ?_ trivial;refine dg h (Aj h.le hW yC (vd.fields _ kg) (vd.np _ kg)) ?_;clear h;rintro _ w rfl h;refine aI ?_ trivial;refine dg h (qB eF (oK _ kg)) ?_;clear h;rintro _ w rfl h;refine aI ?_ trivial;refine dg h (qB dW q1) ?_;clear h;rintro _ w rfl h;refine aI (fun _=>⟨.inr rfl,h.fr⟩) (fun q=> ?_);refine aA (((j+1:Nat):Int)) ?_;exact kc (j+1) _ _ ⟨rfl,rfl,rfl,rfl,rfl,rfl,rfl,rfl,rfl,rfl,tV⟩ ⟨eM,by rw[<-dS];intro g hg;rcases qah.1 hg with hg|hg;exact c_ g hg;simp at hg;subst hg;exact q,h.aF⟩ (by omega)
    obtain rfl:j=(W.under (W.spot d)).of.fields.length:=by omega
    rw[qay]at c_;refine aA (((k+1:Nat):Int)) ?_;exact hN (k+1) _ _ ⟨rfl,rfl,rfl,rfl,rfl,rfl,tV⟩ ⟨hi',Ez hi' yz (by rw[<-cD];exact⟨⟨q1,q2⟩,k7,c_⟩),h.aF⟩ (by omega)
   obtain rfl:i=(W.at d).methods.length:=by omega
   have all:∀m∈(W.at d).methods,(bL m.1/\m.1≠8)/\∀f∈(W.under (W.spot d)).of.fields,aM (W.under (W.spot d)).aC (W.fieldName f)≠aM (W.at d).aC m.1:=by
    intro m hm;obtain⟨j,hj,C1⟩:=qak hm;have h1:=yz j m hj (by rw[qaa hj,C1]);exact⟨h1.1,h1.2.2⟩
   exact⟨.inl ⟨rfl,jo,bz,fun m hm=>(all m hm).1,fun j m hj=>(yz j m (qab.1 hj).1 hj).2.1,fun m hm=>(all m hm).2⟩,h.fr⟩
section
variable {b k:Nat}{M:Mem}{cs:List Value}{zs:List Int}{z:Int}{W:Wd}
theorem EY{e:Env}{w:World}{x:Operand}{a b:Int}{K:Value->World->Prop}(hx:ev e x= .int .i64 a)(hk:K (.int .i64 (if b<a then b else a)) w):
 bB prog (.gen (.call (Call.mk (.builtin .min) #[x,.const (.int .i64 b)] #[3,3])) 3) e w K:=by
 refine .inl ⟨_,w,?_,hk⟩;have:=run_min_int2 (P:=prog) w #[3,3] 3 .i64 .i64 a b;simp[execOp,resolve,invoke,builtin,hx,show ev e (.const (.int .i64 b))= .int .i64 b from rfl,this]
theorem Rw.UJ{o:Nat}{v:Value}(h:Rw M b o cs)(hv:cs[k]? =some v):M.cell b (o+k*1)=some v:=by rw[qb1];exact h k v hv
theorem fQ.QU(h:k<zs.length):fQ (zs.map (Value.int .i64)) (0+k*1) (.int .i64 z) ((zs.set k z).map (Value.int .i64)):=by
 have:=fQ.of (l:=zs.map (Value.int .i64)) (n:=0+k*1) (u:= .int .i64 z) (by simp;omega);simpa[List.map_set]using this
theorem K0(mC:∀z∈zs,0<=z/\z<=2001)(kq:zs.length=W.length):∀(n:Nat) (t:Ty),t.aj<n->∀{M:Mem} (w0:World) (cs:List Value) (bp:Nat),M.Le (Wm w0)->cC M t cs->Ok W t->
 Rw M bp 0 (zs.map (Value.int .i64))->t.aj<=2^32->
 az prog 83 [.agg cs.toArray,.slice (some ⟨bp,0,none⟩) zs.length zs.length] w0 fun r w'=>(∃z,r= .int .i64 z/\0<=z/\z<=2001)/\Fr [] w0 w':=by
 intro n
 induction n with
 |zero=>intro t h;omega
 |succ n ih=>
 intro t hn M w0 cs bp hM eo cQ hp dF;obtain⟨a1,c1,a2,c2,a3,c3,a4,c4,rfl,he,hf,hm,hs,Bh,Bi,Bj,Bl⟩:=eo.lit;have l1:=t.yh;have l2:=t.lB;have l3:=t.qX;have h:=SH.start hM;refine aL mixed func83 WQ ?_;refine au h ?_;clear h;intro b2 w h;refine ak h ?_;refine aI (fun k1=> ?_) (fun k1=> ?_);have hn:=cQ.num k1;have aG:t.num.toNat<zs.length:=by rw[kq];exact hn.2
 refine ak h ?_;refine aJ _ ?_ aG (Wd.ji hn);refine aP h (hp.UJ (v:= .int .i64 zs[t.num.toNat]) (by simp[aG])) ?_;have hz:=mC zs[t.num.toNat] (by simp);refine ak h ?_;refine bN (X:=Nat×Int) (fun x=>[(1,.slice (some ⟨bp,0,none⟩) zs.length zs.length),(2,.pointer (some ⟨b2,0,none⟩)),(5,.int .i64 x.2),(21,.slice a1 t.elem.length c1),(22,.int .i64 (t.elem.length:Int)),(23,.int .i64 (x.1:Int))])
  (fun x w=>x.1<=t.elem.length/\(0<=x.2/\x.2<=2001)/\SH w0 M [] M [.ah b2 45 (bh t a1 c1 a2 c2 a3 c3 a4 c4)] w) (fun x=>t.elem.length-x.1) (0,zs[t.num.toNat]) ⟨rfl,rfl,rfl,rfl,rfl,rfl,tV⟩ ⟨qae _,hz,h⟩ ?_
 rotate_left;have hz:(0:Int)<=1/\(1:Int)<=2001:=by omega
 refine ak h ?_;refine bN (X:=Nat×Int) (fun x=>[(1,.slice (some ⟨bp,0,none⟩) zs.length zs.length),(2,.pointer (some ⟨b2,0,none⟩)),(5,.int .i64 x.2),(21,.slice a1 t.elem.length c1),(22,.int .i64 (t.elem.length:Int)),(23,.int .i64 (x.1:Int))])
  (fun x w=>x.1<=t.elem.length/\(0<=x.2/\x.2<=2001)/\SH w0 M [] M [.ah b2 45 (bh t a1 c1 a2 c2 a3 c3 a4 c4)] w) (fun x=>t.elem.length-x.1) (0,1) ⟨rfl,rfl,rfl,rfl,rfl,rfl,tV⟩ ⟨qae _,hz,h⟩ ?_
 all_goals
  clear h hz;rintro⟨k,z⟩ aK w N ⟨hk,hz,h⟩ hN;simp only at hk hz h;refine aI (fun aG=> ?_) (fun aY=> ?_)
  .have ad:k<t.elem.length:=by omega
   obtain⟨b,o,ci,rfl,hl,aO,aE⟩:=he.at ad;have aZ:=aE.one;have fu:t.elem[k].aj<t.aj:=Ty.pe (by simp);obtain⟨x1,d1,x2,d2,x3,d3,x4,d4,rfl,_⟩:=aE.lit;refine aJ (k) ?_;refine cG h aO ?_;refine au h ?_;clear h;intro b7 w h;refine br h aZ ?_;clear h;intro w h;refine bj h ?_;refine s_call h (ih t.elem[k] (by omega) w _ bp h.le aE (cQ.elem _ (by simp)) hp (by omega)) ?_;clear h;rintro _ w ⟨z1,rfl,t_⟩ h;refine aA ((z+z1)) ?_;refine EY rfl ?_;have xl:0<=(if(2001:Int)<z+z1 then(2001:Int)else z+z1)/\(if(2001:Int)<z+z1 then(2001:Int)else z+z1)<=2001:=by split<;>omega
   refine aA (((k+1:Nat):Int)) ?_;exact hN (k+1,_) _ _ ⟨rfl,rfl,rfl,rfl,rfl,rfl,tV⟩ ⟨ad,xl,h.aF⟩ (by simp only;omega)
  obtain rfl:k=t.elem.length:=by omega
  clear hN aY hk;refine ak h ?_;refine bN (X:=Nat×Int) (fun x=>[(1,.slice (some ⟨bp,0,none⟩) zs.length zs.length),(2,.pointer (some ⟨b2,0,none⟩)),(5,.int .i64 x.2),(35,.slice a2 t.fields.length c2),(36,.int .i64 (t.fields.length:Int)),(37,.int .i64 (x.1:Int))])
   (fun x w=>x.1<=t.fields.length/\(0<=x.2/\x.2<=2001)/\SH w0 M [] M [.ah b2 45 (bh t a1 c1 a2 c2 a3 c3 a4 c4)] w) (fun x=>t.fields.length-x.1) (0,z) ⟨rfl,rfl,rfl,rfl,rfl,rfl,tV⟩ ⟨qae _,hz,h⟩ ?_
  clear h hz;rintro⟨k,z⟩ aK w N ⟨hk,hz,h⟩ hN;simp only at hk hz h;refine aI (fun aG=> ?_) (fun aY=> ?_)
  .have ad:k<t.fields.length:=by omega
   obtain⟨b,o,ci,rfl,hl,aO,aE⟩:=hf.at ad;have aZ:=aE.one;have fu:t.fields[k].2.2.aj<t.aj:=Ty.sj (by simp);obtain⟨tc,rfl,aE⟩:=aE;obtain⟨x1,d1,x2,d2,x3,d3,x4,d4,rfl,_⟩:=aE.lit;refine aJ (k) ?_;refine cG h aO ?_;refine au h ?_;clear h;intro b7 w h;refine br h aZ ?_;clear h;intro w h;refine i_ h (bh t.fields[k].2.2 x1 d1 x2 d2 x3 d3 x4 d4) ?_;refine s_call h (ih t.fields[k].2.2 (by omega) w _ bp h.le aE (cQ.fields _ (by simp)) hp (by omega)) ?_;clear h;rintro _ w ⟨z1,rfl,t_⟩ h;refine aA ((z+z1)) ?_;refine EY rfl ?_;have xl:0<=(if(2001:Int)<z+z1 then(2001:Int)else z+z1)/\(if(2001:Int)<z+z1 then(2001:Int)else z+z1)<=2001:=by split<;>omega
   refine aA (((k+1:Nat):Int)) ?_;exact hN (k+1,_) _ _ ⟨rfl,rfl,rfl,rfl,rfl,rfl,tV⟩ ⟨ad,xl,h.aF⟩ (by simp only;omega)
  obtain rfl:k=t.fields.length:=by omega
  clear hN aY hk;refine ak h ?_;refine bN (X:=Nat×Int) (fun x=>[(1,.slice (some ⟨bp,0,none⟩) zs.length zs.length),(2,.pointer (some ⟨b2,0,none⟩)),(5,.int .i64 x.2),(50,.slice a4 t.aD.length c4),(51,.int .i64 (t.aD.length:Int)),(52,.int .i64 (x.1:Int))])
   (fun x w=>x.1<=t.aD.length/\(0<=x.2/\x.2<=2001)/\SH w0 M [] M [.ah b2 45 (bh t a1 c1 a2 c2 a3 c3 a4 c4)] w) (fun x=>t.aD.length-x.1) (0,z) ⟨rfl,rfl,rfl,rfl,rfl,rfl,tV⟩ ⟨qae _,hz,h⟩ ?_
  clear h hz;rintro⟨k,z⟩ aK w N ⟨hk,hz,h⟩ hN;simp only at hk hz h;refine aI (fun aG=> ?_) (fun aY=> ?_)
  .have ad:k<t.aD.length:=by omega
   obtain⟨b,o,ci,rfl,hl,aO,aE⟩:=hs.at ad;have aZ:=aE.one;have fu:t.aD[k].aj<t.aj:=Ty.nY (by simp);obtain⟨x1,d1,x2,d2,x3,d3,x4,d4,rfl,_⟩:=aE.lit;refine aJ (k) ?_;refine cG h aO ?_;refine au h ?_;clear h;intro b7 w h;refine br h aZ ?_;clear h;intro w h;refine bj h ?_;refine s_call h (ih t.aD[k] (by omega) w _ bp h.le aE (cQ.aD _ (by simp)) hp (by omega)) ?_;clear h;rintro _ w ⟨z1,rfl,t_⟩ h;refine aA ((z+z1)) ?_;refine EY rfl ?_;have xl:0<=(if(2001:Int)<z+z1 then(2001:Int)else z+z1)/\(if(2001:Int)<z+z1 then(2001:Int)else z+z1)<=2001:=by split<;>omega
   refine aA (((k+1:Nat):Int)) ?_;exact hN (k+1,_) _ _ ⟨rfl,rfl,rfl,rfl,rfl,rfl,tV⟩ ⟨ad,xl,h.aF⟩ (by simp only;omega)
  obtain rfl:k=t.aD.length:=by omega
  clear hN aY hk;refine EY rfl ?_;exact⟨⟨_,rfl,by split<;>omega⟩,h.fr⟩
theorem Rw.KZ{w:World}{t:TypeId}(h:a_ w b t cs):Rw (Wm w) b 0 cs:=fun i v hi=>h.DS i v hi
theorem Mem.Le.w{M:Mem}{w:World}(h:M.Le (Wm w)):(Wm w).Le (Wm w):= .refl _
theorem Sv(h:∀z∈zs,0<=z/\z<=2001)(hz:0<=z/\z<=2001):∀y∈zs.set k z,0<=y/\y<=2001:=by
 intro y hy;rcases qb7 hy with h1|h1
 .exact h y h1
 subst h1;exact hz
theorem ze3{w0:World}{a:Option Addr}{c:Nat}{t:Ty}(hM:M.Le (Wm w0))(hW:eK M W a c)(eo:cC M t cs)(iL:o6 W)(cQ:Ok W t)(hb:W.aj<=2^32)(dF:t.aj<=2^32):
 az prog 36 [bK W a c,.agg cs.toArray] w0 fun r w'=>(∃b,r= .bool b)/\Fr [] w0 w':=by
 obtain⟨a1,c1,a2,c2,a3,c3,a4,c4,rfl,_⟩:=eo.lit;have vE:=W.len;have h:=SH.start hM;refine aL mixed func36 Wb ?_;refine au h ?_;clear h;intro b3 w h;refine qai W.length (aI ⟨rfl,by omega,by omega⟩ ?_);refine au h ?_;clear h;intro bp w h;have e0:(List.replicate W.length (Value.int .i64 0))=(List.replicate W.length (0:Int)).map (Value.int .i64):=by simp
 rw[e0]at h;refine bN (X:=Nat×List Int) (fun x=>[(0,bK W a c),(3,.pointer (some ⟨b3,0,none⟩)),(5,.slice (some ⟨bp,0,none⟩) W.length W.length),(13,.int .i64 (W.length:Int)),(14,.int .i64 (x.1:Int))])
  (fun x w=>x.1<=W.length/\x.2.length=W.length/\(∀z∈x.2,0<=z/\z<=2001)/\SH w0 M [] M [.ah bp 3 (x.2.map (Value.int .i64)),.ah b3 45 (bh t a1 c1 a2 c2 a3 c3 a4 c4)] w) (fun x=>W.length-x.1) (0,List.replicate W.length 0) ⟨rfl,rfl,rfl,rfl,rfl,tV⟩ ⟨qae _,by simp,by intro z hz;simp at hz;omega,h⟩ ?_
 clear h;rintro⟨k,zs⟩ aK w N ⟨hk,kq,mC,h⟩ hN;simp only at hk kq mC h;refine aI (fun aG=> ?_) (fun aY=> ?_)
 .have ad:k<W.length:=by omega
  refine aJ (k) ?_;refine eQ h ?_ (hs:=fQ.QU (by omega));clear h;intro w h;refine aA (((k+1:Nat):Int)) ?_;exact hN (k+1,zs.set k 1) _ _ ⟨rfl,rfl,rfl,rfl,rfl,tV⟩ ⟨ad,by simpa using kq,Sv mC (by omega),h⟩ (by simp only;omega)
 clear hN aY hk;refine aA (((W.length:Int)-1)) ?_;refine bN (X:=Nat×List Int) (fun x=>[(0,bK W a c),(3,.pointer (some ⟨b3,0,none⟩)),(5,.slice (some ⟨bp,0,none⟩) W.length W.length),(7,.int .i64 ((x.1:Int)-1))])
  (fun x w=>x.1<=W.length/\x.2.length=W.length/\(∀z∈x.2,0<=z/\z<=2001)/\SH w0 M [] M [.ah bp 3 (x.2.map (Value.int .i64)),.ah b3 45 (bh t a1 c1 a2 c2 a3 c3 a4 c4)] w) (fun x=>x.1) (W.length,zs) ⟨rfl,rfl,rfl,rfl,tV⟩ ⟨qad _,kq,mC,h⟩ ?_
 clear h kq mC zs;rintro⟨k,zs⟩ aK w N ⟨hk,kq,mC,h⟩ hN;simp only at hk kq mC h;refine aI (fun aG=> ?_) (fun aY=> ?_)
 .have ad:k-1<W.length:=by omega
  obtain⟨b,o,ci,rfl,hl,aO,aE⟩:=hW.el.at ad;have zaU:=sm ad;have I7:=iL W[k-1] (by simp);have hti:∃x1 d1 x2 d2 x3 d3 x4 d4 x5 d5,Rw M b (o+(k-1)*10) (jz W[k-1] x1 d1 x2 d2 x3 d3 x4 d4 x5 d5)/\cC M W[k-1].of (bh W[k-1].of x1 d1 x2 d2 x3 d3 x4 d4):=by
   obtain⟨x1,d1,x2,d2,x3,d3,x4,d4,x5,d5,rfl,bA,_⟩:=aE.lit;exact⟨x1,d1,x2,d2,x3,d3,x4,d4,x5,d5,aO,bA⟩
  obtain⟨x1,d1,x2,d2,x3,d3,x4,d4,x5,d5,aO,bA⟩:=hti;refine aJ (k-1) ?_ ad (by omega);by_cases iI:W[k-1].bU=true
  .have hc:=aO 2 _ rfl;rw[iI]at hc;refine aP h hc ?_;refine aJ (k-1) ?_ ad (by omega);refine cG h (aO.sub 3 (bh W[k-1].of x1 d1 x2 d2 x3 d3 x4 d4) rfl) ?_;rw[<-kq];refine s_call h (K0 (W:=W) mC kq _ W[k-1].of (qam _) w _ bp (Mem.Le.refl _) (bA.le h.le) I7 (Rw.KZ (h.fK .here)) (by omega)) ?_;clear h;rintro _ w ⟨z1,rfl,t_⟩ h;refine aJ (k-1) ?_ (by omega) (by omega);refine eQ h ?_ (hs:=fQ.QU (by omega));clear h;intro w h;refine aA (((k-1:Nat):Int)-1) ?_;exact hN (k-1,zs.set (k-1) z1) _ _ ⟨rfl,rfl,by rw[kq],rfl,tV⟩ ⟨by simp only;omega,by simpa using kq,Sv mC t_,h⟩ (by simp only;omega)
  have hc:=aO 2 _ rfl;rw[qaZ]at iI;rw[iI]at hc;refine aP h hc ?_;refine aA (((k-1:Nat):Int)-1) ?_;exact hN (k-1,zs) _ _ ⟨rfl,rfl,rfl,rfl,tV⟩ ⟨by simp only;omega,kq,mC,h⟩ (by simp only;omega)
 clear hN aY hk;refine bN (X:=Nat) (fun x=>[(0,bK W a c),(3,.pointer (some ⟨b3,0,none⟩)),(5,.slice (some ⟨bp,0,none⟩) W.length W.length),(44,.int .i64 (W.length:Int)),(45,.int .i64 (x:Int))])
  (fun x w=>x<=W.length/\SH w0 M [] M [.ah bp 3 (zs.map (Value.int .i64)),.ah b3 45 (bh t a1 c1 a2 c2 a3 c3 a4 c4)] w) (fun x=>W.length-x) 0 ⟨rfl,rfl,rfl,rfl,rfl,tV⟩ ⟨qae _,h⟩ ?_
 clear h;rintro k aK w N ⟨hk,h⟩ hN;refine aI (fun aG=> ?_) (fun aY=> ?_)
 .have ad:k<W.length:=by omega
  obtain⟨b,o,ci,rfl,hl,aO,aE⟩:=hW.el.at ad;have zaU:=sm ad;have I7:=iL W[k] (by simp);obtain⟨x1,d1,x2,d2,x3,d3,x4,d4,x5,d5,rfl,bA,_⟩:=aE.lit;refine aJ (k) ?_;refine cG h (aO.sub 3 (bh W[k].of x1 d1 x2 d2 x3 d3 x4 d4) rfl) ?_;rw[<-kq];refine s_call h (K0 (W:=W) mC kq _ W[k].of (qam _) w _ bp (Mem.Le.refl _) (bA.le h.le) I7 (Rw.KZ (h.fK .here)) (by omega)) ?_;clear h;rintro _ w ⟨z1,rfl,t_⟩ h;refine aI (fun _=>⟨⟨_,rfl⟩,h.fr⟩) (fun _=> ?_);refine aA (((k+1:Nat):Int)) ?_;exact hN (k+1) _ _ ⟨rfl,rfl,by rw[kq],by rw[kq],rfl,tV⟩ ⟨ad,h⟩ (by omega)
 refine bj h ?_;rw[<-kq];refine s_call h (K0 (W:=W) mC kq _ t (qam _) w _ bp (Mem.Le.refl _) (eo.le h.le) cQ (Rw.KZ (h.fK .here)) (by omega)) ?_;clear h;rintro _ w ⟨z1,rfl,t_⟩ h;refine aI (fun _=>⟨⟨_,rfl⟩,h.fr⟩) (fun _=>⟨⟨_,rfl⟩,h.fr⟩)
end
section
variable {W:Wd}{d:Int}{t:Ty}{v:Bool}{f:Int×Bool×Ty}{i:Nat}
structure ej(W:Wd)(t:Ty):Prop where
 name:∀d∈W,bL d.name/\d.name≠8
 aC:∀d∈W,cN d.aC
 form:∀i,i<W.length->cP W (i:Nat) (W.at (i:Nat)).of true
 tj:∀d∈W,d.bU=true->d.methods=[]
 once:∀i j,i<j->j<W.length->¬((W.at (j:Nat)).name=(W.at (i:Nat)).name/\(W.at (j:Nat)).aC=(W.at (i:Nat)).aC)
 EX:cP W (-1) t true
 valid:∀i,i<W.length->Valid W (W.spot (i:Nat))
 decl:∀i,i<W.length->wi W (i:Nat)
 GQ:Valid W (W.operand t)
theorem cP.fields(h:cP W d t v)(hf:f∈t.fields):t.kind=4/\cP W d f.2.2 v/\bL f.1/\(f.2.1=true->f.1=0/\(f.2.2.kind=1\/(f.2.2.kind=2/\∃e,f.2.2.elem=[e]/\e.kind=1))):=by
 have e:(false=true\/t.fields=[])->False:=fun h=>by
  rcases h with h|h
  .simp at h
  rw[h]at hf;simp at hf
 cases h with
 |basic hk hh=>exact(e hh.2.1).elim
 |named hk hh=>exact(e hh.2.1).elim
 |to hk hh=>exact(e hh.2.1).elim
 |struct hk hh h1 h2=>exact⟨hk,h1 f hf,h2 f hf⟩
 |iface hk hh=>exact(e hh.2.1).elim
theorem nq(xb:∀d∈W,bL d.name/\d.name≠8)(h:cP W d t v)(hf:f∈t.fields):bL (W.fieldName f):=by
 obtain⟨_,h1,h2,h3⟩:=h.fields hf;unfold Wd.fieldName;split
 .exact h2
 rename_i he;rw[Bool.not_eq_false]at he;have ho:=h1.ok;split
 .rename_i hk;rcases(h3 he).2 with h4|⟨_,e,h4,h5⟩
  .rw[h4]at hk;exact absurd hk (by decide)
  rw[h4];have:=ho.elem e (by rw[h4];simp);exact(xb _ (W.mem _ (this.num h5))).1
 rename_i hk;rcases(h3 he).2 with h4|⟨h4,_⟩
 .exact(xb _ (W.mem _ (ho.num h4))).1
 exact absurd h4 hk
theorem GL{W:Wd}(hk:o6 W):∀(n:Nat) (i:Int),W.has i->∃j,W.has j/\Wd.ja W n (W.spot i)=W.spot j
 |0,i,h=>⟨i,h,rfl⟩
 |n+1,i,h=>by
  rw[rU];split
  .exact⟨i,h,rfl⟩
  rename_i h1;simp only[ne_eq,qbC]at h1;exact GL hk n _ ((Wd.rT hk h).num h1)
theorem Wd.pc(h:i<W.length):W.at (i:Nat)=W[i]:=W.wx i h
theorem Wd.wL(h:i<W.length):W.has (i:Nat):=⟨by omega,by simpa using h⟩
theorem XW{M:Mem}{w0:World}{a:Option Addr}{c:Nat}{cs:List Value}(hM:M.Le (Wm w0))(hW:eK M W a c)(eo:cC M t cs)(hb:W.aj<=2^32)(dF:t.aj<=2^32):
 az prog 19 [bK W a c,.agg cs.toArray] w0 fun r w'=>RB r (ej W t)/\Fr [] w0 w':=by
 obtain⟨a1,c1,a2,c2,a3,c3,a4,c4,rfl,_⟩:=eo.lit;have vE:=W.len;have h:=SH.start hM;refine aL mixed func19 VB ?_;refine au h ?_;clear h;intro b3 w h;refine bN (X:=Nat) (fun k=>[(0,bK W a c),(3,.pointer (some ⟨b3,0,none⟩)),(10,bK W a c),(11,.int .i64 (W.length:Int)),(12,.int .i64 (k:Int))])
  (fun k w=>k<=W.length/\(∀j,j<k->(bL (W.at (j:Nat)).name/\(W.at (j:Nat)).name≠8)/\cN (W.at (j:Nat)).aC/\cP W (j:Nat) (W.at (j:Nat)).of true/\((W.at (j:Nat)).bU=true->(W.at (j:Nat)).methods=[])/\∀i,i<j->¬((W.at (j:Nat)).name=(W.at (i:Nat)).name/\(W.at (j:Nat)).aC=(W.at (i:Nat)).aC))/\SH w0 M [] M [.ah b3 45 (bh t a1 c1 a2 c2 a3 c3 a4 c4)] w) (fun k=>W.length-k) 0 ⟨rfl,rfl,rfl,rfl,rfl,tV⟩ ⟨qae _,by intros;omega,h⟩ ?_
 clear h;intro i aK w N ⟨hi,cz,h⟩ hN;refine aI (fun aG=> ?_) (fun aY=> ?_)
 .have hi':i<W.length:=by omega
  have fD:=sm hi';obtain⟨b,o,ci,rfl,hl,aO,aE⟩:=hW.el.at hi';obtain⟨dd,kC⟩:∃x,x=W.at (i:Nat):=⟨_,rfl⟩;rw[<-Wd.pc hi',<-kC]at aE fD;obtain⟨x1,d1,x2,d2,x3,d3,x4,d4,x5,d5,rfl,bA,_⟩:=aE.lit;by_cases iI:dd.bU=true
  focus
   have ct:Rw M b (o+i*10) [.int .i64 dd.name,.int .i64 dd.aC,.bool true,.int .i64 dd.of.kind,.int .i64 dd.of.num,.slice x1 dd.of.elem.length d1,.slice x2 dd.of.fields.length d2,.slice x3 dd.of.methods.length d3,.slice x4 dd.of.aD.length d4,.slice x5 dd.methods.length d5]:=by rw[<-iI];exact aO
   refine aJ (i) ?_;refine cG h ct ?_;refine au h ?_;clear h;intro b6 w h;refine br h (cO (vs:=[.int .i64 dd.name,.int .i64 dd.aC,.bool true,.int .i64 dd.of.kind,.int .i64 dd.of.num,.slice x1 dd.of.elem.length d1,.slice x2 dd.of.fields.length d2,.slice x3 dd.of.methods.length d3,.slice x4 dd.of.aD.length d4,.slice x5 dd.methods.length d5]) rfl) ?_;clear h;intro w h;refine ak h ?_;refine s_call h (oP) ?_;clear h;rintro _ w rfl h;by_cases iM:bL dd.name;rotate_left 1
   .rw[qaK iM];exact⟨.inr rfl,h.fr⟩
   rw[qaH iM];refine ak h ?_;refine aI (fun _=>⟨.inr rfl,h.fr⟩) (fun mt=> ?_);refine ak h ?_;refine aI (fun _=>⟨.inr rfl,h.fr⟩) (fun jI=> ?_);refine ak h ?_;refine aI (fun _=>⟨.inr rfl,h.fr⟩) (fun oA=> ?_);refine i_ h (bh dd.of x1 d1 x2 d2 x3 d3 x4 d4) ?_;refine s_call h (HQ _ dd.of (qam _) w _ _ _ (i:Nat) true h.le hW bA (.inr (Wd.wL hi')) (by omega)) ?_;clear h;rintro _ w (⟨rfl,fg⟩|rfl) h;rotate_left 1
   .exact⟨.inr rfl,h.fr⟩
   refine ak h ?_;refine ak h ?_;refine aI (fun _=>⟨.inr rfl,h.fr⟩) (fun FB=> ?_);have Og:dd.bU=true->dd.methods=[]:=fun _=>qaD (by omega);refine qai i (qai c (aI ⟨rfl,rfl,by have:=hW.le;omega,qad _⟩ ?_));refine bN (X:=Nat) (fun k=>[(0,bK W (some ⟨b,o,none⟩) c),(3,.pointer (some ⟨b3,0,none⟩)),(6,.pointer (some ⟨b6,0,none⟩)),(10,bK W (some ⟨b,o,none⟩) c),(11,.int .i64 (W.length:Int)),(12,.int .i64 (i:Int)),(56,.slice (some ⟨b,o,none⟩) i c),(57,.int .i64 (i:Int)),(58,.int .i64 (k:Int))])
    (fun k w=>k<=i/\(∀j,j<k->¬(dd.name=(W.at (j:Nat)).name/\dd.aC=(W.at (j:Nat)).aC))/\SH w0 M [] M [.ah b3 45 (bh t a1 c1 a2 c2 a3 c3 a4 c4),.ah b6 84 [.int .i64 dd.name,.int .i64 dd.aC,.bool true,.int .i64 dd.of.kind,.int .i64 dd.of.num,.slice x1 dd.of.elem.length d1,.slice x2 dd.of.fields.length d2,.slice x3 dd.of.methods.length d3,.slice x4 dd.of.aD.length d4,.slice x5 dd.methods.length d5]] w) (fun k=>i-k) 0 ⟨rfl,rfl,rfl,rfl,rfl,rfl,rfl,rfl,rfl,tV⟩ ⟨qae _,by intros;omega,h.aF⟩ ?_
  rotate_left
  focus
   rw[qaZ]at iI;have ct:Rw M b (o+i*10) [.int .i64 dd.name,.int .i64 dd.aC,.bool false,.int .i64 dd.of.kind,.int .i64 dd.of.num,.slice x1 dd.of.elem.length d1,.slice x2 dd.of.fields.length d2,.slice x3 dd.of.methods.length d3,.slice x4 dd.of.aD.length d4,.slice x5 dd.methods.length d5]:=by rw[<-iI];exact aO
   refine aJ (i) ?_;refine cG h ct ?_;refine au h ?_;clear h;intro b6 w h;refine br h (cO (vs:=[.int .i64 dd.name,.int .i64 dd.aC,.bool false,.int .i64 dd.of.kind,.int .i64 dd.of.num,.slice x1 dd.of.elem.length d1,.slice x2 dd.of.fields.length d2,.slice x3 dd.of.methods.length d3,.slice x4 dd.of.aD.length d4,.slice x5 dd.methods.length d5]) rfl) ?_;clear h;intro w h;refine ak h ?_;refine s_call h (oP) ?_;clear h;rintro _ w rfl h;by_cases iM:bL dd.name;rotate_left 1
   .rw[qaK iM];exact⟨.inr rfl,h.fr⟩
   rw[qaH iM];refine ak h ?_;refine aI (fun _=>⟨.inr rfl,h.fr⟩) (fun mt=> ?_);refine ak h ?_;refine aI (fun _=>⟨.inr rfl,h.fr⟩) (fun jI=> ?_);refine ak h ?_;refine aI (fun _=>⟨.inr rfl,h.fr⟩) (fun oA=> ?_);refine i_ h (bh dd.of x1 d1 x2 d2 x3 d3 x4 d4) ?_;refine s_call h (HQ _ dd.of (qam _) w _ _ _ (i:Nat) true h.le hW bA (.inr (Wd.wL hi')) (by omega)) ?_;clear h;rintro _ w (⟨rfl,fg⟩|rfl) h;rotate_left 1
   .exact⟨.inr rfl,h.fr⟩
   refine ak h ?_;have Og:dd.bU=true->dd.methods=[]:=fun hx=>by rw[iI]at hx;cases hx
   refine qai i (qai c (aI ⟨rfl,rfl,by have:=hW.le;omega,qad _⟩ ?_));refine bN (X:=Nat) (fun k=>[(0,bK W (some ⟨b,o,none⟩) c),(3,.pointer (some ⟨b3,0,none⟩)),(6,.pointer (some ⟨b6,0,none⟩)),(10,bK W (some ⟨b,o,none⟩) c),(11,.int .i64 (W.length:Int)),(12,.int .i64 (i:Int)),(56,.slice (some ⟨b,o,none⟩) i c),(57,.int .i64 (i:Int)),(58,.int .i64 (k:Int))])
    (fun k w=>k<=i/\(∀j,j<k->¬(dd.name=(W.at (j:Nat)).name/\dd.aC=(W.at (j:Nat)).aC))/\SH w0 M [] M [.ah b3 45 (bh t a1 c1 a2 c2 a3 c3 a4 c4),.ah b6 84 [.int .i64 dd.name,.int .i64 dd.aC,.bool false,.int .i64 dd.of.kind,.int .i64 dd.of.num,.slice x1 dd.of.elem.length d1,.slice x2 dd.of.fields.length d2,.slice x3 dd.of.methods.length d3,.slice x4 dd.of.aD.length d4,.slice x5 dd.methods.length d5]] w) (fun k=>i-k) 0 ⟨rfl,rfl,rfl,rfl,rfl,rfl,rfl,rfl,rfl,tV⟩ ⟨qae _,by intros;omega,h.aF⟩ ?_
  all_goals
   clear h;intro k aK w N2 ⟨dE,k7,h⟩ d7;refine aI (fun jU=> ?_) (fun tN=> ?_)
   .have ad:k<W.length:=by omega
    obtain⟨b',o',ci,e_,hl,zbX,aE⟩:=hW.el.at ad;cases e_;have aZ:=aE.one;obtain⟨y1,e1,y2,e2,y3,e3,y4,e4,y5,e5,rfl,_⟩:=aE.lit;refine aJ (k) ?_;refine cG h zbX ?_;refine au h ?_;clear h;intro b8 w h;refine br h aZ ?_;clear h;intro w h;refine ak h ?_;refine ak h ?_;refine aI (fun q1=> ?_) (fun q1=> ?_)
    .refine ak h ?_;refine ak h ?_;refine aI (fun _=>⟨.inr rfl,h.fr⟩) (fun q=> ?_);refine aA (((k+1:Nat):Int)) ?_;refine d7 (k+1) _ _ ⟨rfl,rfl,rfl,rfl,rfl,rfl,rfl,rfl,rfl,tV⟩ ⟨by omega,fun j hj hx=> ?_,h.aF⟩ (by omega);rcases qa1 j k with h1|h1
     .exact k7 j h1 hx
     obtain rfl:j=k:=by omega
     rw[Wd.pc ad]at hx;exact q hx.2
    refine aA (((k+1:Nat):Int)) ?_;refine d7 (k+1) _ _ ⟨rfl,rfl,rfl,rfl,rfl,rfl,rfl,rfl,rfl,tV⟩ ⟨by omega,fun j hj hx=> ?_,h.aF⟩ (by omega);rcases qa1 j k with h1|h1
    .exact k7 j h1 hx
    obtain rfl:j=k:=by omega
    rw[Wd.pc ad]at hx;exact q1 hx.1
   obtain rfl:k=i:=by omega
   refine aA (((k+1:Nat):Int)) ?_;refine hN (k+1) _ _ ⟨rfl,rfl,rfl,rfl,rfl,tV⟩ ⟨hi',fun j hj=> ?_,h.aF⟩ (by omega);rcases qa1 j k with h1|h1
   .exact cz j h1
   obtain rfl:j=k:=by omega
   rw[<-kC];exact⟨⟨iM,mt⟩,by unfold cN;omega,fg,Og,k7⟩
 obtain rfl:i=W.length:=by omega
 clear hN hi aY;refine bj h ?_;refine s_call h (HQ _ t (qam _) w _ _ _ (-1) true h.le hW eo (.inl (by omega)) (by omega)) ?_;clear h;rintro _ w (⟨rfl,AG⟩|rfl) h;rotate_left 1
 .exact⟨.inr rfl,h.fr⟩
 have Pt:=AG.ok;have iL:o6 W:=fun d hd=>by
  obtain⟨j,hj,sE⟩:=qak hd;have:=(cz j hj).2.2.1.ok;rw[Wd.pc hj,sE]at this;exact this
 have xb:∀d∈W,bL d.name/\d.name≠8:=fun d hd=>by
  obtain⟨j,hj,sE⟩:=qak hd;have:=(cz j hj).1;rw[Wd.pc hj,sE]at this;exact this
 have nI:∀d∈W,cN d.aC:=fun d hd=>by
  obtain⟨j,hj,sE⟩:=qak hd;have:=(cz j hj).2.1;rw[Wd.pc hj,sE]at this;exact this
 have zax:∀d∈W,d.bU=true->d.methods=[]:=fun d hd=>by
  obtain⟨j,hj,sE⟩:=qak hd;have:=(cz j hj).2.2.2.1;rw[Wd.pc hj,sE]at this;exact this
 refine bj h ?_;refine s_call h (ze3 h.le hW eo iL Pt hb dF) ?_;clear h;rintro _ w ⟨sb,rfl⟩ h;rcases(by cases sb<;>simp:sb=true\/sb=false)with rfl|rfl;rotate_left 1
 .exact⟨.inr rfl,h.fr⟩
 refine bN (X:=Nat) (fun k=>[(0,bK W a c),(3,.pointer (some ⟨b3,0,none⟩)),(87,.int .i64 (W.length:Int)),(88,.int .i64 (k:Int))])
  (fun k w=>k<=W.length/\(∀j,j<k->Valid W (W.spot (j:Nat))/\wi W (j:Nat))/\SH w0 M [] M [.ah b3 45 (bh t a1 c1 a2 c2 a3 c3 a4 c4)] w) (fun k=>W.length-k) 0 ⟨rfl,rfl,rfl,rfl,tV⟩ ⟨qae _,by intros;omega,h⟩ ?_
 clear h;intro i aK w N ⟨hi,J4,h⟩ hN;refine aI (fun aG=> ?_) (fun aY=> ?_)
 .have hi':i<W.length:=by omega
  have hh:=Wd.wL hi';have JX:=Wd.Gs hh;obtain⟨j,hj,AJ⟩:=GL iL (W.length+1) _ hh;have hjn:=Wd.ji hj;refine i9 h (rT h.le hW hh (by omega)) ?_;clear h;intro x1 d1 x2 d2 x3 d3 x4 d4 w bA h;refine s_call h (TB _ (W.spot (i:Nat)) (qam _) w _ _ _ h.le hW (aS.mk bA) iL (Wd.rT iL hh) (by omega) (by omega)) ?_;clear h;rintro _ w (⟨rfl,hv⟩|rfl) h;rotate_left 1
  .exact⟨.inr rfl,h.fr⟩
  refine s_call h (Xy h.le hW iL (by omega) hh (nI _ (W.mem _ hh)) (by show cN (Wd.ja W _ _).aC;rw[AJ];exact nI _ (W.mem _ hj)) (by show∀f∈(Wd.ja W _ _).of.fields,_;rw[AJ];intro f hf;have:=(cz j.toNat hj.2).2.2.1;rw[<-hjn]at this;exact nq xb this hf)) ?_;clear h;rintro _ w (⟨rfl,iz⟩|rfl) h;rotate_left 1
  .exact⟨.inr rfl,h.fr⟩
  refine aA (((i+1:Nat):Int)) ?_;refine hN (i+1) _ _ ⟨rfl,rfl,rfl,rfl,tV⟩ ⟨hi',fun j hj=> ?_,h.aF⟩ (by omega);rcases qa1 j i with h1|h1
  .exact J4 j h1
  obtain rfl:j=i:=by omega
  exact⟨hv,iz⟩
 obtain rfl:i=W.length:=by omega
 clear hN hi aY;refine bj h ?_;refine i9 h (RS h.le hW eo (by omega)) ?_;clear h;intro x1 d1 x2 d2 x3 d3 x4 d4 w bA h;have aU:=W.v_ W.length;refine s_call h (TB _ (W.operand t) (qam _) w _ _ _ h.le hW (aS.mk bA) iL Pt (by unfold Sp.top Wd.operand;simp only;omega) (by omega)) ?_;clear h;rintro _ w (⟨rfl,hv⟩|rfl) h;rotate_left 1
 .exact⟨.inr rfl,h.fr⟩
 exact⟨.inl ⟨rfl,xb,nI,fun i hi=>(cz i hi).2.2.1,zax,fun i j dc hj=>(cz j hj).2.2.2.2 i dc,AG,fun i hi=>(J4 i hi).1,fun i hi=>(J4 i hi).2,hv⟩,h.fr⟩
end
section
variable {a b:Ty}
def RD(r:Value)(p:Prop):Prop:=(r= .bool true/\p)\/(r= .bool false/\¬p)
inductive Alike:Ty->Ty->Prop where
 |mk (a b:Ty) (hk:a.kind=b.kind) (hn:a.num=b.num) (hm:a.methods.length=b.methods.length) (hf:a.fields.length=b.fields.length) (he:a.elem.length=b.elem.length) (hs:a.aD.length=b.aD.length)
  (h1:∀(i:Nat) (x y:Int×Bool×Ty),a.fields[i]? =some x->b.fields[i]? =some y->x.2.1=y.2.1/\x.1=y.1)
  (h2:∀(i:Nat) (x y:Int×Bool×Ty),a.fields[i]? =some x->b.fields[i]? =some y->Alike x.2.2 y.2.2)
  (h3:∀(i:Nat) (x y:Ty),a.elem[i]? =some x->b.elem[i]? =some y->Alike x y) (h4:∀(i:Nat) (x y:Ty),a.aD[i]? =some x->b.aD[i]? =some y->Alike x y):Alike a b
namespace Alike
theorem k(h:Alike a b):a.kind=b.kind:=by cases h;assumption
theorem n(h:Alike a b):a.num=b.num:=by cases h;assumption
theorem lm(h:Alike a b):a.methods.length=b.methods.length:=by cases h;assumption
theorem lf(h:Alike a b):a.fields.length=b.fields.length:=by cases h;assumption
theorem le(h:Alike a b):a.elem.length=b.elem.length:=by cases h;assumption
theorem ls(h:Alike a b):a.aD.length=b.aD.length:=by cases h;assumption
theorem f1(h:Alike a b):∀(i:Nat) (x y:Int×Bool×Ty),a.fields[i]? =some x->b.fields[i]? =some y->x.2.1=y.2.1/\x.1=y.1:=by cases h;assumption
theorem f2(h:Alike a b):∀(i:Nat) (x y:Int×Bool×Ty),a.fields[i]? =some x->b.fields[i]? =some y->Alike x.2.2 y.2.2:=by cases h;assumption
theorem e(h:Alike a b):∀(i:Nat) (x y:Ty),a.elem[i]? =some x->b.elem[i]? =some y->Alike x y:=by cases h;assumption
theorem s(h:Alike a b):∀(i:Nat) (x y:Ty),a.aD[i]? =some x->b.aD[i]? =some y->Alike x y:=by cases h;assumption
end Alike
theorem Ut:∀(n:Nat) (t:Ty),t.aj<n->∀(t':Ty) {M:Mem} (w0:World) (cs cs':List Value),M.Le (Wm w0)->cC M t cs->cC M t' cs'->t.aj<=2^40->
 az prog 146 [.agg cs.toArray,.agg cs'.toArray] w0 fun r w'=>RD r (Alike t t')/\Fr [] w0 w':=by
 intro n
 induction n with
 |zero=>intro t h;omega
 |succ n ih=>
 intro t hn t' M w0 cs cs' hM eo zbT dF;obtain⟨x1,d1,x2,d2,x3,d3,x4,d4,rfl,he,hf,hm,hs,Bh,Bi,Bj,Bl⟩:=eo.lit;obtain⟨y1,e1,y2,e2,y3,e3,y4,e4,rfl,dD,gh,lL,cT,ld1,ld2,ld3,ld4⟩:=zbT.lit;have l1:=t.yh;have l2:=t.lB;have l3:=t.qX;have h:=SH.start hM;refine aL mixed func146 Vp ?_;refine au h ?_;clear h;intro b2 w h;refine au h ?_;clear h;intro b3 w h;refine ak h ?_;refine ak h ?_;refine aI (fun hk=> ?_) (fun q=>⟨.inr ⟨rfl,fun hx=>q hx.k⟩,h.fr⟩);refine ak h ?_;refine ak h ?_;refine aI (fun cD=> ?_) (fun q=>⟨.inr ⟨rfl,fun hx=>q hx.n⟩,h.fr⟩);refine ak h ?_;refine ak h ?_;refine aI (fun sH=> ?_) (fun q=>⟨.inr ⟨rfl,fun hx=>q (by have:=hx.lm;omega)⟩,h.fr⟩);refine ak h ?_;refine ak h ?_;refine aI (fun u7=> ?_) (fun q=>⟨.inr ⟨rfl,fun hx=>q (by have:=hx.lf;omega)⟩,h.fr⟩);refine ak h ?_;refine ak h ?_;refine aI (fun hle=> ?_) (fun q=>⟨.inr ⟨rfl,fun hx=>q (by have:=hx.le;omega)⟩,h.fr⟩);refine ak h ?_;refine ak h ?_;refine aI (fun tR=> ?_) (fun q=>⟨.inr ⟨rfl,fun hx=>q (by have:=hx.ls;omega)⟩,h.fr⟩);refine ak h ?_;refine bN (X:=Nat) (fun k=>[(2,.pointer (some ⟨b2,0,none⟩)),(3,.pointer (some ⟨b3,0,none⟩)),(60,.slice x2 t.fields.length d2),(61,.int .i64 (t.fields.length:Int)),(62,.int .i64 (k:Int))])
  (fun k w=>k<=t.fields.length/\(∀(i:Nat) (x y:Int×Bool×Ty),i<k->t.fields[i]? =some x->t'.fields[i]? =some y->(x.2.1=y.2.1/\x.1=y.1)/\Alike x.2.2 y.2.2)/\SH w0 M [] M [.ah b2 45 (bh t x1 d1 x2 d2 x3 d3 x4 d4),.ah b3 45 (bh t' y1 e1 y2 e2 y3 e3 y4 e4)] w) (fun k=>t.fields.length-k) 0 ⟨rfl,rfl,rfl,rfl,rfl,tV⟩ ⟨qae _,by intros;omega,h.aF⟩ ?_
 clear h;intro k aK w N ⟨hk,cz,h⟩ hN;refine aI (fun aG=> ?_) (fun aY=> ?_)
 .have ad:k<t.fields.length:=by omega
  have dE:k<t'.fields.length:=by omega
  obtain⟨b,o,ci,rfl,hl,aO,aE⟩:=hf.at ad;obtain⟨b',o',MI,rfl,gR,jV,jj⟩:=gh.at dE;have fu:t.fields[k].2.2.aj<t.aj:=Ty.sj (by simp);have aZ:=aE.one;obtain⟨f,jE⟩:∃f,f=t.fields[k]:=⟨_,rfl⟩;obtain⟨g,ro⟩:∃f,f=t'.fields[k]:=⟨_,rfl⟩;have nx:t.fields[k]? =some f:=by rw[jE];simp
  have mi:t'.fields[k]? =some g:=by rw[ro];simp
  rw[<-jE]at aE fu;rw[<-ro]at jj;obtain⟨tc,rfl,iJ⟩:=aE;obtain⟨tc',rfl,Fe⟩:=jj;obtain⟨u1,g1,u2,g2,u3,g3,u4,g4,rfl,_⟩:=iJ.lit;obtain⟨v1,j1,v2,j2,v3,j3,v4,j4,rfl,_⟩:=Fe.lit;by_cases gc:f.2.1=true
  .by_cases cV:g.2.1=true
   .rw[gc]at aZ;have ct:Rw M b (o+k*8) (.int .i64 f.1:: .bool true::bh f.2.2 u1 g1 u2 g2 u3 g3 u4 g4):=by rw[<-gc];exact aO
    have sJ:Rw M b' (o'+k*8) (.int .i64 g.1:: .bool true::bh g.2.2 v1 j1 v2 j2 v3 j3 v4 j4):=by rw[<-cV];exact jV
    refine aJ (k) ?_;refine cG h ct ?_ hl;refine au h ?_;clear h;intro b6 w h;refine br h aZ ?_;clear h;intro w h;refine b_ [] h ?_;clear h;intro w h;refine bI h ?_;refine bI h ?_;refine aJ (k) ?_;refine cd h (sJ 1 _ rfl) ?_;refine bI h ?_;refine bI h ?_;refine aJ (k) ?_;refine cd h (sJ 0 _ rfl) ?_;refine aI (fun q=> ?_) (fun q=> ?_);rotate_left 1
    .refine aI ?_ trivial;exact⟨.inr ⟨rfl,fun hx=>q (by have:=(hx.f1 k _ _ nx mi).2;exact this)⟩,h.fr⟩
    refine uh h (bh f.2.2 u1 g1 u2 g2 u3 g3 u4 g4) ?_;refine bI h ?_;refine aJ (k) ?_;refine ug h (sJ.sub 2 (bh g.2.2 v1 j1 v2 j2 v3 j3 v4 j4) rfl) ?_;refine aI ?_ trivial;refine dg h (ih f.2.2 (by omega) g.2.2 w _ _ h.le iJ Fe (by omega)) ?_;clear h;rintro _ w (⟨rfl,hv⟩|⟨rfl,hv⟩) h;rotate_left 1
    .exact⟨.inr ⟨rfl,fun hx=>hv (hx.f2 k _ _ nx mi)⟩,h.fr⟩
    refine aA (((k+1:Nat):Int)) ?_;refine hN (k+1) _ _ ⟨rfl,rfl,rfl,rfl,rfl,tV⟩ ⟨ad,fun i x y hi hx hy=> ?_,h.aF⟩ (by omega);rcases qa1 i k with h1|h1
    .exact cz i x y h1 hx hy
    obtain rfl:i=k:=by omega
    rw[nx]at hx;rw[mi]at hy;cases hx;cases hy;exact⟨⟨by rw[gc,cV],q⟩,hv⟩
   rw[qaZ]at cV;rw[gc]at aZ;have ct:Rw M b (o+k*8) (.int .i64 f.1:: .bool true::bh f.2.2 u1 g1 u2 g2 u3 g3 u4 g4):=by rw[<-gc];exact aO
   have sJ:Rw M b' (o'+k*8) (.int .i64 g.1:: .bool false::bh g.2.2 v1 j1 v2 j2 v3 j3 v4 j4):=by rw[<-cV];exact jV
   refine aJ (k) ?_;refine cG h ct ?_ hl;refine au h ?_;clear h;intro b6 w h;refine br h aZ ?_;clear h;intro w h;refine b_ [] h ?_;clear h;intro w h;refine bI h ?_;refine bI h ?_;refine aJ (k) ?_;refine cd h (sJ 1 _ rfl) ?_;refine aI ?_ trivial;exact⟨.inr ⟨rfl,fun hx=>by have:=(hx.f1 k _ _ nx mi).1;rw[gc,cV]at this;cases this⟩,h.fr⟩
  rw[qaZ]at gc;by_cases cV:g.2.1=true
  .rw[gc]at aZ;have ct:Rw M b (o+k*8) (.int .i64 f.1:: .bool false::bh f.2.2 u1 g1 u2 g2 u3 g3 u4 g4):=by rw[<-gc];exact aO
   have sJ:Rw M b' (o'+k*8) (.int .i64 g.1:: .bool true::bh g.2.2 v1 j1 v2 j2 v3 j3 v4 j4):=by rw[<-cV];exact jV
   refine aJ (k) ?_;refine cG h ct ?_ hl;refine au h ?_;clear h;intro b6 w h;refine br h aZ ?_;clear h;intro w h;refine b_ [] h ?_;clear h;intro w h;refine bI h ?_;refine bI h ?_;refine aJ (k) ?_;refine cd h (sJ 1 _ rfl) ?_;refine aI ?_ trivial;exact⟨.inr ⟨rfl,fun hx=>by have:=(hx.f1 k _ _ nx mi).1;rw[gc,cV]at this;cases this⟩,h.fr⟩
  rw[qaZ]at cV;rw[gc]at aZ;have ct:Rw M b (o+k*8) (.int .i64 f.1:: .bool false::bh f.2.2 u1 g1 u2 g2 u3 g3 u4 g4):=by rw[<-gc];exact aO
  have sJ:Rw M b' (o'+k*8) (.int .i64 g.1:: .bool false::bh g.2.2 v1 j1 v2 j2 v3 j3 v4 j4):=by rw[<-cV];exact jV
  refine aJ (k) ?_;refine cG h ct ?_ hl;refine au h ?_;clear h;intro b6 w h;refine br h aZ ?_;clear h;intro w h;refine b_ [] h ?_;clear h;intro w h;refine bI h ?_;refine bI h ?_;refine aJ (k) ?_;refine cd h (sJ 1 _ rfl) ?_;refine bI h ?_;refine bI h ?_;refine aJ (k) ?_;refine cd h (sJ 0 _ rfl) ?_;refine aI (fun q=> ?_) (fun q=> ?_);rotate_left 1
  .refine aI ?_ trivial;exact⟨.inr ⟨rfl,fun hx=>q (by have:=(hx.f1 k _ _ nx mi).2;exact this)⟩,h.fr⟩
  refine uh h (bh f.2.2 u1 g1 u2 g2 u3 g3 u4 g4) ?_;refine bI h ?_;refine aJ (k) ?_;refine ug h (sJ.sub 2 (bh g.2.2 v1 j1 v2 j2 v3 j3 v4 j4) rfl) ?_;refine aI ?_ trivial;refine dg h (ih f.2.2 (by omega) g.2.2 w _ _ h.le iJ Fe (by omega)) ?_;clear h;rintro _ w (⟨rfl,hv⟩|⟨rfl,hv⟩) h;rotate_left 1
  .exact⟨.inr ⟨rfl,fun hx=>hv (hx.f2 k _ _ nx mi)⟩,h.fr⟩
  refine aA (((k+1:Nat):Int)) ?_;refine hN (k+1) _ _ ⟨rfl,rfl,rfl,rfl,rfl,tV⟩ ⟨ad,fun i x y hi hx hy=> ?_,h.aF⟩ (by omega);rcases qa1 i k with h1|h1
  .exact cz i x y h1 hx hy
  obtain rfl:i=k:=by omega
  rw[nx]at hx;rw[mi]at hy;cases hx;cases hy;exact⟨⟨by rw[gc,cV],q⟩,hv⟩
 obtain rfl:k=t.fields.length:=by omega
 have af:∀(i:Nat) (x y:Int×Bool×Ty),t.fields[i]? =some x->t'.fields[i]? =some y->(x.2.1=y.2.1/\x.1=y.1)/\Alike x.2.2 y.2.2:=fun i x y hx=>cz i x y (qab.1 hx).1 hx;clear hN aY hk cz;refine ak h ?_;refine bN (X:=Nat) (fun k=>[(2,.pointer (some ⟨b2,0,none⟩)),(3,.pointer (some ⟨b3,0,none⟩)),(101,.slice x1 t.elem.length d1),(102,.int .i64 (t.elem.length:Int)),(103,.int .i64 (k:Int))])
  (fun k w=>k<=t.elem.length/\(∀(i:Nat) (x y:Ty),i<k->t.elem[i]? =some x->t'.elem[i]? =some y->Alike x y)/\SH w0 M [] M [.ah b2 45 (bh t x1 d1 x2 d2 x3 d3 x4 d4),.ah b3 45 (bh t' y1 e1 y2 e2 y3 e3 y4 e4)] w) (fun k=>t.elem.length-k) 0 ⟨rfl,rfl,rfl,rfl,rfl,tV⟩ ⟨qae _,by intros;omega,h.aF⟩ ?_
 clear h;intro k aK w N ⟨hk,cz,h⟩ hN;refine aI (fun aG=> ?_) (fun aY=> ?_)
 .have ad:k<t.elem.length:=by omega
  have dE:k<t'.elem.length:=by omega
  obtain⟨b,o,ci,rfl,hl,aO,aE⟩:=he.at ad;obtain⟨b',o',MI,rfl,gR,jV,jj⟩:=dD.at dE;have aZ:=aE.one;obtain⟨u1,g1,u2,g2,u3,g3,u4,g4,rfl,_⟩:=aE.lit;have fu:t.elem[k].aj<t.aj:=Ty.pe (by simp);refine aJ (k) ?_;refine cG h aO ?_;refine au h ?_;clear h;intro b8 w h;refine br h aZ ?_;clear h;intro w h;refine b_ [] h ?_;clear h;intro w h;refine lc h ?_;refine bI h ?_;refine aJ (k) ?_;refine ug h jV ?_ gR;refine aI ?_ trivial;refine dg h (ih t.elem[k] (by omega) t'.elem[k] w _ _ h.le aE jj (by omega)) ?_;clear h;rintro _ w (⟨rfl,hv⟩|⟨rfl,hv⟩) h;rotate_left 1
  .exact⟨.inr ⟨rfl,fun hx=>hv (hx.e k _ _ (by simp[ad]) (by simp[dE]))⟩,h.fr⟩
  refine aA (((k+1:Nat):Int)) ?_;refine hN (k+1) _ _ ⟨rfl,rfl,rfl,rfl,rfl,tV⟩ ⟨ad,fun i x y hi hx hy=> ?_,h.aF⟩ (by omega);rcases qa1 i k with h1|h1
  .exact cz i x y h1 hx hy
  obtain rfl:i=k:=by omega
  rw[qaa ad]at hx;rw[qaa dE]at hy;cases hx;cases hy;exact hv
 obtain rfl:k=t.elem.length:=by omega
 have Us:∀(i:Nat) (x y:Ty),t.elem[i]? =some x->t'.elem[i]? =some y->Alike x y:=fun i x y hx=>cz i x y (qab.1 hx).1 hx;clear hN aY hk cz;refine ak h ?_;refine bN (X:=Nat) (fun k=>[(2,.pointer (some ⟨b2,0,none⟩)),(3,.pointer (some ⟨b3,0,none⟩)),(118,.slice x4 t.aD.length d4),(119,.int .i64 (t.aD.length:Int)),(120,.int .i64 (k:Int))])
  (fun k w=>k<=t.aD.length/\(∀(i:Nat) (x y:Ty),i<k->t.aD[i]? =some x->t'.aD[i]? =some y->Alike x y)/\SH w0 M [] M [.ah b2 45 (bh t x1 d1 x2 d2 x3 d3 x4 d4),.ah b3 45 (bh t' y1 e1 y2 e2 y3 e3 y4 e4)] w) (fun k=>t.aD.length-k) 0 ⟨rfl,rfl,rfl,rfl,rfl,tV⟩ ⟨qae _,by intros;omega,h.aF⟩ ?_
 clear h;intro k aK w N ⟨hk,cz,h⟩ hN;refine aI (fun aG=> ?_) (fun aY=> ?_)
 .have ad:k<t.aD.length:=by omega
  have dE:k<t'.aD.length:=by omega
  obtain⟨b,o,ci,rfl,hl,aO,aE⟩:=hs.at ad;obtain⟨b',o',MI,rfl,gR,jV,jj⟩:=cT.at dE;have aZ:=aE.one;obtain⟨u1,g1,u2,g2,u3,g3,u4,g4,rfl,_⟩:=aE.lit;have fu:t.aD[k].aj<t.aj:=Ty.nY (by simp);refine aJ (k) ?_;refine cG h aO ?_;refine au h ?_;clear h;intro b8 w h;refine br h aZ ?_;clear h;intro w h;refine b_ [] h ?_;clear h;intro w h;refine lc h ?_;refine bI h ?_;refine aJ (k) ?_;refine ug h jV ?_ gR;refine aI ?_ trivial;refine dg h (ih t.aD[k] (by omega) t'.aD[k] w _ _ h.le aE jj (by omega)) ?_;clear h;rintro _ w (⟨rfl,hv⟩|⟨rfl,hv⟩) h;rotate_left 1
  .exact⟨.inr ⟨rfl,fun hx=>hv (hx.s k _ _ (by simp[ad]) (by simp[dE]))⟩,h.fr⟩
  refine aA (((k+1:Nat):Int)) ?_;refine hN (k+1) _ _ ⟨rfl,rfl,rfl,rfl,rfl,tV⟩ ⟨ad,fun i x y hi hx hy=> ?_,h.aF⟩ (by omega);rcases qa1 i k with h1|h1
  .exact cz i x y h1 hx hy
  obtain rfl:i=k:=by omega
  rw[qaa ad]at hx;rw[qaa dE]at hy;cases hx;cases hy;exact hv
 obtain rfl:k=t.aD.length:=by omega
 have Uu:∀(i:Nat) (x y:Ty),t.aD[i]? =some x->t'.aD[i]? =some y->Alike x y:=fun i x y hx=>cz i x y (qab.1 hx).1 hx;clear hN aY hk cz;exact⟨.inl ⟨rfl,.mk t t' hk cD (by omega) (by omega) (by omega) (by omega) (fun i x y h1 h2=>(af i x y h1 h2).1) (fun i x y h1 h2=>(af i x y h1 h2).2) Us Uu⟩,h.fr⟩
def j9(a b:Sp):Prop:=if a.of.kind=1\/b.of.kind=1 then a.of.kind=b.of.kind/\a.of.num=b.of.num else a.at_=b.at_/\Alike a.of b.of
theorem zeI{M:Mem}{w0:World}{s s':Sp}{cs cs':List Value}(hM:M.Le (Wm w0))(hs:aS M s cs)(cT:aS M s' cs')(dF:s.of.aj<=2^40):
 az prog 111 [.agg cs.toArray,.agg cs'.toArray] w0 fun r w'=>RD r (j9 s s')/\Fr [] w0 w':=by
 obtain⟨x1,d1,x2,d2,x3,d3,x4,d4,rfl,bA,_⟩:=hs.lit;obtain⟨y1,e1,y2,e2,y3,e3,y4,e4,rfl,rK,_⟩:=cT.lit;have h:=SH.start hM;refine aL mixed func111 U6 ?_;refine au h ?_;clear h;intro b2 w h;refine au h ?_;clear h;intro b3 w h;refine ak h ?_;refine aI (fun k1=> ?_) (fun k1=> ?_)
 .have e:j9 s s'=(s.of.kind=s'.of.kind/\s.of.num=s'.of.num):=by rw[j9,if_pos (.inl k1)]
  rw[e];refine ak h ?_;refine ak h ?_;refine aI (fun q=> ?_) (fun q=>⟨.inr ⟨rfl,fun hx=>q hx.1⟩,h.fr⟩);refine ak h ?_;refine ak h ?_;refine aI (fun q'=>⟨.inl ⟨rfl,q,q'⟩,h.fr⟩) (fun q'=>⟨.inr ⟨rfl,fun hx=>q' hx.2⟩,h.fr⟩)
 refine ak h ?_;refine aI (fun k2=> ?_) (fun k2=> ?_)
 .have e:j9 s s'=(s.of.kind=s'.of.kind/\s.of.num=s'.of.num):=by rw[j9,if_pos (.inr k2)]
  rw[e];refine ak h ?_;refine ak h ?_;refine aI (fun q=> ?_) (fun q=>⟨.inr ⟨rfl,fun hx=>q hx.1⟩,h.fr⟩);refine ak h ?_;refine ak h ?_;refine aI (fun q'=>⟨.inl ⟨rfl,q,q'⟩,h.fr⟩) (fun q'=>⟨.inr ⟨rfl,fun hx=>q' hx.2⟩,h.fr⟩)
 have e:j9 s s'=(s.at_=s'.at_/\Alike s.of s'.of):=by rw[j9,if_neg (by simp[k1,k2])]
 rw[e];refine ak h ?_;refine ak h ?_;refine aI (fun q=> ?_) (fun q=>⟨.inr ⟨rfl,fun hx=>q (by have:=hx.1;omega)⟩,h.fr⟩);refine i_ h (bh s.of x1 d1 x2 d2 x3 d3 x4 d4) ?_;refine i_ h (bh s'.of y1 e1 y2 e2 y3 e3 y4 e4) ?_;refine s_call h (Ut _ s.of (qam _) s'.of w _ _ h.le bA rK dF) ?_;clear h;rintro _ w (⟨rfl,hv⟩|⟨rfl,hv⟩) h
 .exact⟨.inl ⟨rfl,by omega,hv⟩,h.fr⟩
 exact⟨.inr ⟨rfl,fun hx=>hv hx.2⟩,h.fr⟩
end
section
variable {M:Mem}{cs:List Value}{v:Value}{k:Nat}{T:TypeId}{css:List (List Value)}{L':List aB}
structure Way where
 to:Sp
 index:List Int
 ind:Bool
def eJ(M:Mem)(x:Way)(cs:List Value):Prop:=∃sc iv,cs=sc++[iv,.bool x.ind]/\aS M x.to sc/\Sl M 1 dO iv x.index
@[reducible]def m_(x:Way)(a1:Option Addr)(c1:Nat)(a2:Option Addr)(c2:Nat)(a3:Option Addr)(c3:Nat)(a4:Option Addr)(c4:Nat)(ai:Option Addr)(ci:Nat):List Value:=
 [.int .i64 x.to.of.kind,.int .i64 x.to.of.num,.slice a1 x.to.of.elem.length c1,.slice a2 x.to.of.fields.length c2,.slice a3 x.to.of.methods.length c3,.slice a4 x.to.of.aD.length c4,.int .i64 x.to.at_,.int .i64 x.to.aC,.slice ai x.index.length ci,.bool x.ind]
theorem eJ.lit{x:Way}(h:eJ M x cs):∃a1 c1 a2 c2 a3 c3 a4 c4 ai ci,cs=m_ x a1 c1 a2 c2 a3 c3 a4 c4 ai ci/\cC M x.to.of (bh x.to.of a1 c1 a2 c2 a3 c3 a4 c4)/\bQ M 1 dO ai x.index/\x.index.length<=ci:=by
 obtain⟨sc,iv,rfl,h1,ai,ci,rfl,h2,h3⟩:=h;obtain⟨a1,c1,a2,c2,a3,c3,a4,c4,rfl,ht,_⟩:=h1.lit;exact⟨a1,c1,a2,c2,a3,c3,a4,c4,ai,ci,rfl,ht,h3,h2⟩
theorem eJ.mk{x:Way}{a1:Option Addr}{c1:Nat}{a2:Option Addr}{c2:Nat}{a3:Option Addr}{c3:Nat}{a4:Option Addr}{c4:Nat}{ai:Option Addr}{ci:Nat}(ht:cC M x.to.of (bh x.to.of a1 c1 a2 c2 a3 c3 a4 c4))(hi:bQ M 1 dO ai x.index)(hl:x.index.length<=ci):
 eJ M x (m_ x a1 c1 a2 c2 a3 c3 a4 c4 ai ci):=⟨_,_,rfl,aS.mk ht,ai,ci,rfl,hl,hi⟩
theorem eJ.le{N:Mem}(hl:M.Le N){x:Way}(h:eJ M x cs):eJ N x cs:=by
 obtain⟨sc,iv,rfl,h1,h2⟩:=h;exact⟨sc,iv,rfl,h1.le hl,h2.mono hl fun _ _ _ h=>h⟩
theorem eJ.one{x:Way}(h:eJ M x cs):∀v∈cs,v.oneCell'=true:=by
 obtain⟨a1,c1,a2,c2,a3,c3,a4,c4,ai,ci,rfl,_⟩:=h.lit;exact cO rfl
noncomputable def nZ(x:Way)(l:List Way):Nat:=open Classical in(l.filter fun y=>decide (j9 x.to y.to)).length
noncomputable def l7:List Way->List Way->List Way
 |out,[]=>out
 |out,x::r=>l7 (if nZ x out<2 then out++[x]else out) r
noncomputable def zH(l:List Way):List Way:=l7 [] l
theorem Xd(x:Way)(l:List Way):nZ x l<=l.length:=List.length_filter_le _ _
theorem Xe(x y:Way)(l:List Way):nZ x (l++[y])=nZ x l+(open Classical in if j9 x.to y.to then 1 else 0):=by
 unfold nZ;rw[List.filter_append,qar]
 congr 1
 by_cases h:j9 x.to y.to<;>simp[h]
theorem Te:∀(l out:List Way) (x:Way),l7 out (l++[x])=(if nZ x (l7 out l)<2 then l7 out l++[x]else l7 out l)
 |[],out,x=>rfl
 |y::l,out,x=>by simp only[qa_,l7];exact Te l _ x
theorem LB:∀(l out:List Way),(l7 out l).length<=out.length+l.length
 |[],out=>by simp[l7]
 |x::l,out=>by
  simp only[l7,qaO];by_cases hc:nZ x out<2
  .rw[if_pos hc];have:=LB l (out++[x]);simp only[qar,qaw]at this;omega
  rw[if_neg hc];have:=LB l out;omega
theorem tz:h_ prog 141 141 97 10 160=true:=by kernel_rfl
section
variable {u:World}{M0:Mem}{D:List Nat}{M:Mem}{L:List aB}{w:World}
theorem SH.zdO(h:SH u M0 D M L w){j:Nat}(hj:j<css.length)(hp:Pk L (.own v k T css) L':=by repeat(first|exact Pk.here|apply Pk.there)):
 ∃g cap,v= .slice (some ⟨g,0,none⟩) css.length cap/\Row w g (0+j*k) css[j]:=by
 have ho:eG w k T v css:=h.ok _ hp.mem;rcases ho.open_ with⟨rfl,rfl⟩|⟨g,cap,rfl,hc,_,hr⟩
 .simp at hj
 refine⟨g,cap,rfl,fun i v hi=> ?_⟩;have:=hr (j*k+i) v (yn ho.len (by simp[hj]) i v hi)
 rwa [show 0+j*k+i=0+(j*k+i) by omega]
theorem zeC{b o n:Nat}{vs:List Value}{G:List Value->Prop}(hr:Row w b o vs)(k:G vs)(hl:vs.length=n:=by rfl):∃vs:List Value,(vs.length=n/\Row w b o vs)/\G vs:=⟨vs,⟨hl,hr⟩,k⟩
theorem SH.oW(h:SH u M0 D M L w)(hp:Pk L (.own v k T css) L':=by repeat(first|exact Pk.here|apply Pk.there)):∃a cap,v= .slice a css.length cap/\css.length<=cap:=eG.shape (h.ok _ hp.mem)
end
theorem zfr{w0:World}{l:List Way}(hM:M.Le (Wm w0))(hl:Sl M 10 (eJ M) v l)(hb:l.length<=2^39)(fD:∀x∈l,x.to.of.aj<=2^40):
 az prog 59 [v] w0 fun r w'=>∃M',Sl M' 10 (eJ M') r (zH l)/\Gr M w0 M' w':=by
 obtain⟨a,c,rfl,hc,he⟩:=hl;have h:=SH.start hM;refine aL mixed func59 Ww ?_;refine bN (X:=Nat×Value×List (List Value)) (fun x=>[(3,x.2.1),(9,.slice a l.length c),(10,.int .i64 (l.length:Int)),(11,.int .i64 (x.1:Int))])
  (fun x w=>x.1<=l.length/\bC (eJ M) (l7 [] (l.take x.1)) x.2.2/\SH w0 M [] M [.own x.2.1 10 97 x.2.2] w) (fun x=>l.length-x.1) (0,.slice none 0 0,[]) ⟨rfl,rfl,rfl,rfl,tV⟩ ⟨qae _,tV,h.gV 10 97⟩ ?_
 clear h;rintro⟨k,v,css⟩ aK w N ⟨hk,bS,h⟩ hN;simp only at hk bS h;refine aI (fun aG=> ?_) (fun aY=> ?_)
 .have ad:k<l.length:=by omega
  have rC:=LB (l.take k) [];obtain⟨out,Ps⟩:∃o,o=l7 [] (l.take k):=⟨_,rfl⟩;rw[<-Ps]at bS rC;have hlen:=bS.len;rw[qaG,qaY hk,qbb]at rC;obtain⟨b,o,ci,rfl,hl,aO,aE⟩:=he.at ad;have aZ:=aE.one;have yB:=aE;have wO:=fD l[k] (by simp);obtain⟨x1,d1,x2,d2,x3,d3,x4,d4,x5,d5,rfl,bA,_⟩:=aE.lit;obtain⟨av,cv,rfl,sv⟩:=h.oW;have fL:=Te (l.take k) [] l[k];rw[dN ad,<-Ps]at fL;refine aJ (k) ?_;refine cG h aO ?_;refine au h ?_;clear h;intro b5 w h;refine br h aZ ?_;clear h;intro w h;refine bN (X:=Nat×Nat) (fun x=>[(3,.slice av css.length cv),(5,.pointer (some ⟨b5,0,none⟩)),(6,.int .i64 (x.2:Int)),(9,.slice (some ⟨b,o,none⟩) l.length c),(10,.int .i64 (l.length:Int)),(11,.int .i64 (k:Int)),(15,.slice av css.length cv),(16,.int .i64 (css.length:Int)),(17,.int .i64 (x.1:Int))])
   (fun x w=>x.1<=css.length/\x.2=nZ l[k] (out.take x.1)/\SH w0 M [] M [.ah b5 97 (m_ l[k] x1 d1 x2 d2 x3 d3 x4 d4 x5 d5),.own (.slice av css.length cv) 10 97 css] w) (fun x=>css.length-x.1) (0,0) ⟨rfl,rfl,rfl,rfl,rfl,rfl,rfl,rfl,rfl,tV⟩ ⟨qae _,by simp[nZ],h⟩ ?_
  clear h;rintro⟨j,n⟩ aK w N2 ⟨hj,hn,h⟩ d7;simp only at hj hn h;refine aI (fun jU=> ?_) (fun tN=> ?_)
  .have eM:j<css.length:=by omega
   have Fw:j<out.length:=by omega
   obtain⟨cs,d9,eo⟩:=bS.get (i:=j) (x:=out[j]) (by simp[Fw]);rw[qaa eM,qao]at d9;obtain⟨g,cap,hv,hr⟩:=h.zdO (j:=j) eM;simp only[qa5]at hv;obtain⟨rfl,_,rfl⟩:=hv;rw[d9]at hr;have zbU:=eo.one;obtain⟨y1,e1,y2,e2,y3,e3,y4,e4,y5,e5,rfl,gT,_⟩:=eo.lit;have nt:=Xd l[k] (out.take j);have zgf:(out.take j).length<=j:=by simp;omega
   have JO:=Xe l[k] out[j] (out.take j);rw[dN Fw]at JO;refine aJ (j) ?_;refine zeC hr ?_;refine au h ?_;clear h;intro b8 w h;refine br h zbU ?_;clear h;intro w h;refine i_ h (dZ l[k].to x1 d1 x2 d2 x3 d3 x4 d4) ?_;refine i_ h (dZ out[j].to y1 e1 y2 e2 y3 e3 y4 e4) ?_;refine s_call h (zeI h.le (aS.mk bA) (aS.mk gT) wO) ?_;clear h;rintro _ w (⟨rfl,hs⟩|⟨rfl,hs⟩) h
   .refine aA (((n+1:Nat):Int)) ?_;refine aA (((j+1:Nat):Int)) ?_;exact d7 (j+1,n+1) _ _ ⟨rfl,rfl,rfl,rfl,rfl,rfl,rfl,rfl,rfl,tV⟩ ⟨eM,by simp only;rw[JO,if_pos hs,hn],h.aF⟩ (by simp only;omega)
   refine aA (((j+1:Nat):Int)) ?_;exact d7 (j+1,n) _ _ ⟨rfl,rfl,rfl,rfl,rfl,rfl,rfl,rfl,rfl,tV⟩ ⟨eM,by simp only;rw[JO,if_neg hs,hn];rfl,h.aF⟩ (by simp only;omega)
  obtain rfl:j=css.length:=by omega
  rw[qa2 (by omega)]at hn;subst hn;refine aI (fun cR=> ?_) (fun Fq=> ?_)
  .rw[if_pos (by omega)]at fL;refine bj h ?_;refine au h ?_;clear h;intro er w h;refine gJ h tz h.df (de aZ) ?_;clear h;intro v' w h;refine aA (((k+1:Nat):Int)) ?_;exact hN (k+1,v',_) _ _ ⟨rfl,rfl,rfl,rfl,tV⟩ ⟨ad,by simp only;rw[fL];exact bS.snoc yB,h.aF⟩ (by simp only;omega)
  rw[if_neg (by omega)]at fL;refine aA (((k+1:Nat):Int)) ?_;exact hN (k+1,_,css) _ _ ⟨rfl,rfl,rfl,rfl,tV⟩ ⟨ad,by simp only;rw[fL];exact bS,h.aF⟩ (by simp only;omega)
 obtain rfl:k=l.length:=by omega
 rw[qay]at bS;obtain⟨M7,cF,vn,h'⟩:=h.d6 v;exact⟨M7,Sl.fV vn (bS.mono fun _ _ _ hx=>hx.le cF),h'.gr⟩
end
end Go.Proofs.YtlfcbbcdiecelaaGreatDoor
