import Derived.Test.YtlfcbbcdiecelaaGreatDoorZ10
namespace Go.Proofs.YtlfcbbcdiecelaaGreatDoor
open Go Go.Proofs.Tryz
set_option maxRecDepth 100000
set_option maxHeartbeats 4000000
set_option linter.all false
section
variable {M:Mem}
structure e9 where
 cJ:List Int
 bO:Bool
 index:List Int
 gC:Int
 ind:Bool
 z6:Bool
 depth:Int
def e9.none:e9:=⟨[],false,[],0,false,false,0⟩
@[reducible]def mf(x:e9)(ao:Option Addr)(co:Nat)(ai:Option Addr)(ci:Nat):List Value:=[.slice ao x.cJ.length co,.bool x.bO,.slice ai x.index.length ci,.int .i64 x.gC,.bool x.ind,.bool x.z6,.int .i64 x.depth]
def xR(M:Mem)(x:e9)(cs:List Value):Prop:=∃ao co ai ci,cs=mf x ao co ai ci/\x.cJ.length<=co/\bQ M 1 dO ao x.cJ/\x.index.length<=ci/\bQ M 1 dO ai x.index
def G3(M:Mem)(x:e9)(r:Value):Prop:=∃cs,r= .agg cs.toArray/\xR M x cs
def q_(l:List s8)(fields addr:Bool):e9:=
 match l with
 |[]=>e9.none
 |x::r=>if r≠[]then{e9.none with z6:=true,depth:=x.2.index.length}
  else if x.1.bO=true/\fields=true then e9.none
  else if x.1.bO=true/\x.1.ptr=true/\x.2.ind=false/\addr=false then{e9.none with ind:=true}
  else⟨x.1.cJ,x.1.bO,x.2.index++[x.1.last],x.1.gC,x.2.ind,false,0⟩
noncomputable def Wd.lookup(W:Wd)(t:Ty)(addr:Bool)(aC name:Int):e9:=
 if name=8\/(W.target t).ok=false then e9.none else q_ (W.lJ (W.target t).s (W.target t).ptr (aM aC name)) (W.target t).fields addr
theorem tG{X Y:e9}(h:X=Y)(h1:Y.cJ=[])(h2:Y.index=[]):xR M X (mf Y none 0 none 0):=by
 subst h;refine⟨none,0,none,0,rfl,by rw[h1];exact qad _,by rw[h1];exact bQ.nil _ _ _ _,by rw[h2];exact qad _,by rw[h2];exact bQ.nil _ _ _ _⟩
theorem QM{W:Wd}(hW:GW W)(fv:∀d∈W,∀m∈d.methods,bL m.1)(dW:∀d∈W,cN d.aC){t:Ty}{addr:Bool}{aC name:Int}{w0:World}{cs:List Value}{a:Option Addr}{c:Nat}(hM:M.Le (Wm w0))(cA:eK M W a c)(eo:cC M t cs)
 (hs:GS W (W.operand t)) (Ft:GS W (W.target t).s) (CF:(W.target t).ok=true->xT W (W.target t).s (W.target t).ptr) (hp:cN aC) (hn:bL name)
 (Fv:∀x∈W.lJ (W.target t).s (W.target t).ptr (aM aC name),x.2.index.length<=2^30):
 az prog 9 [bK W a c,.agg cs.toArray,.bool addr,.int .i64 aC,.int .i64 name] w0 fun r w'=>∃M',G3 M' (W.lookup t addr aC name) r/\Gr M w0 M' w':=by
 obtain⟨x1,d1,x2,d2,x3,d3,x4,d4,rfl,_⟩:=eo.lit;have zau:addr=true\/addr=false:=by cases addr<;>simp
 have h:=SH.start hM;refine aL mixed func9 c9 ?_;obtain⟨X,hX⟩:∃X,X=W.lookup t addr aC name:=⟨_,rfl⟩;rw[<-hX];unfold Wd.lookup at hX;obtain⟨g,hg⟩:∃g,g=W.target t:=⟨_,rfl⟩;rw[<-hg]at Ft CF Fv hX;have rq:=Ft;have lK:=Fv;refine au h ?_;clear h;intro b6 w h;refine au h ?_;clear h;intro er w h;refine bj h ?_;have ht:=zfh hW h.le cA eo hs;rw[<-hg]at ht;refine s_call h (ht) ?_;clear h;rintro _ w ⟨_,⟨csg,rfl,vq⟩,(⟨cQ,c_,rfl⟩|⟨cQ,c_,rfl⟩|⟨cQ,rfl⟩)⟩ h
 .obtain⟨y1,e1,y2,e2,y3,e3,y4,e4,rfl,zb,_⟩:=vq.lit;have hB:=CF cQ;refine au h ?_;clear h;intro fJ w h;refine br h (aS.one (aS.mk zb)) ?_;clear h;intro w h;refine aI (fun n8=> ?_) (fun n8=> ?_)
  .refine br h (cO (vs:=mf e9.none none 0 none 0) rfl) ?_;clear h;intro w h;refine bj h ?_;exact⟨_,⟨_,rfl,tG (Y:=e9.none) (by rw[hX,if_pos (.inl n8)]) rfl rfl⟩,h.gr⟩
  refine b_ [] h ?_;clear h;intro w h;refine lc h ?_;refine aI ?_ trivial;refine dg h (qB hp hn) ?_;clear h;rintro _ w rfl h;refine aI ?_ trivial;refine fN h (OY hW fv dW hB (id:=aM aC name) h.le cA (aS.mk zb) rq) ?_;clear h;rintro _ M' w cu wZ h;rw[if_neg (fun hx=>hx.elim n8 (fun hy=>by rw[cQ]at hy;cases hy))]at hX;obtain⟨l,hl⟩:∃l,l=W.lJ g.s g.ptr (aM aC name):=⟨_,rfl⟩;rw[<-hl]at cu hX;obtain⟨al,cl,rfl,nt,cE⟩:=cu;cases l with
  |nil=>
   refine aI (fun _=> ?_) (fun hx=>absurd rfl hx);refine br h (cO (vs:=mf e9.none none 0 none 0) rfl) ?_;clear h;intro w h;refine bj h ?_;exact⟨_,⟨_,rfl,tG (Y:=e9.none) hX rfl rfl⟩,h.gr⟩
  |cons x r=>
   refine aI (fun hx=>by simp at hx;omega) (fun _=> ?_);obtain⟨b2,o2,EN,rfl,cR,ct,fE⟩:=cE.at (i:=0) (by simp);have aZ:=fE.one;simp only[List.getElem_cons_zero]at fE;obtain⟨ao,co,z1,f1,z2,f2,z3,f3,z4,f4,ai,ci,rfl,dJ,uQ,htx,ri,kZ⟩:=fE.lit;have nL:x.2.index.length<=2^30:=lK x (by rw[<-hl];simp);refine aJ (0) ?_;refine cG h ct ?_;refine au h ?_;clear h;intro gO w h;refine br h aZ ?_;clear h;intro w h;refine lq (X:=Unit) (fun _=>[(10,.pointer (some ⟨er,0,none⟩)),(16,.pointer (some ⟨gO,0,none⟩))])
    (fun _ w=>X=⟨x.1.cJ,x.1.bO,x.2.index++[x.1.last],x.1.gC,x.2.ind,false,0⟩/\SH w0 M [] M' [.ah er 36 (mf e9.none none 0 none 0),.ah gO 99 (rJ x ao co z1 f1 z2 f2 z3 f3 z4 f4 ai ci)] w) ?_ ?_
   rotate_left 1
   .clear h;rintro _ aK w ⟨hE,h⟩;have hS:=h.Bo (b:=gO) (b':=er);refine b_ [er] h ?_;clear h;intro w h;refine bI h ?_ (hS:=hS);refine bI h ?_ (hS:=hS);refine bI h ?_ (hS:=hS);refine bI h ?_ (hS:=hS);refine bI h ?_ (hS:=hS);refine bI h ?_ (hS:=hS);refine aI ?_ (aI ?_ trivial);obtain⟨q3,dt,cS⟩:=Src.gm (c:=ci) kZ h.le;have iP:=cS.len;refine lV h f_ dt (lz cS) ?_ (by omega);clear h dt;intro v4 w h;refine aI ?_ trivial;refine dX h ?_;clear h;intro fJ w h;rotate_left;refine dX h ?_;clear h;intro fJ w h;refine aI ?_ trivial;obtain⟨q3,dt,cS⟩:=Src.gm (c:=ci) kZ h.le;have iP:=cS.len;refine lV h f_ dt (lz cS) ?_ (by omega);clear h dt;intro v4 w h
    all_goals
     refine aI ?_ trivial;refine eI h f_ h.df (de (cO (vs:=[Value.int .i64 x.1.last]) rfl)) ?_ (hS:=by intro b hb;simp[hb]);clear h;intro v5 w h;obtain⟨a5,c5,rfl,ik⟩:=h.oW (v:=v5);obtain⟨M7,cF,lQ,h⟩:=h.d6 (.slice a5 (q3++[[Value.int .i64 x.1.last]]).length c5);have hq:bC dO (x.2.index++[x.1.last]) (q3++[[Value.int .i64 x.1.last]]):=cS.snoc rfl;obtain⟨_,kA,lG⟩:=(Sl.fV lQ hq).pi;have eC:(q3++[[Value.int .i64 x.1.last]]).length=(x.2.index++[x.1.last]).length:=by simp[iP]
     rw[eC];rw[eC]at kA;refine aI ?_ trivial;refine pP h (cO (vs:=mf ⟨x.1.cJ,x.1.bO,x.2.index++[x.1.last],x.1.gC,x.2.ind,false,0⟩ ao co a5 c5) rfl) ?_ (hS:=by simp);clear h;intro w h;refine bj h ?_;exact⟨M7,⟨_,rfl,by rw[hE];exact⟨ao,co,a5,c5,rfl,dJ,uQ.gu cF,kA,lG⟩⟩,h.gr⟩
   intro N0 lC;refine aI (fun hr=> ?_) (fun hr=> ?_)
   .have yY:r≠[]:=fun h0=>by rw[h0]at hr;simp at hr
    refine ak h ?_;refine br h (cO (vs:=mf {e9.none with z6:=true,depth:=x.2.index.length} none 0 none 0) rfl) ?_;clear h;intro w h;refine bj h ?_;exact⟨_,⟨_,rfl,tG (Y:={e9.none with z6:=true,depth:=x.2.index.length}) (by rw[hX,q_,if_pos yY]) rfl rfl⟩,h.gr⟩
   have yY:r=[]:=by
    cases r with
    |nil=>rfl
    |cons y r=>simp at hr;omega
   subst yY;by_cases hm:x.1.bO=true
   .have iz:(rJ x ao co z1 f1 z2 f2 z3 f3 z4 f4 ai ci)[0+0+2]? =some (.bool true):=by rw[<-hm];rfl
    refine ak h ?_ (hv:=iz);refine br h (cO (vs:=mf e9.none none 0 none 0) rfl) ?_;clear h;intro w h;refine bj h ?_;exact⟨_,⟨_,rfl,tG (Y:=e9.none) (by rw[hX,q_,if_neg (fun hx=>hx rfl),if_pos ⟨hm,c_⟩]) rfl rfl⟩,h.gr⟩
   have iz:(rJ x ao co z1 f1 z2 f2 z3 f3 z4 f4 ai ci)[0+0+2]? =some (.bool false):=by rw[qaZ]at hm;rw[<-hm];rfl
   refine ak h ?_ (hv:=iz);refine ak h ?_ (hv:=iz);exact lC () _ _ ⟨rfl,rfl,tV⟩ ⟨by rw[hX,q_,if_neg (fun hx=>hx rfl),if_neg (fun hx=>hm hx.1),if_neg (fun hx=>hm hx.1)],h.aF⟩
 .obtain⟨y1,e1,y2,e2,y3,e3,y4,e4,rfl,zb,_⟩:=vq.lit;have hB:=CF cQ;refine au h ?_;clear h;intro fJ w h;refine br h (aS.one (aS.mk zb)) ?_;clear h;intro w h;refine aI (fun n8=> ?_) (fun n8=> ?_)
  .refine br h (cO (vs:=mf e9.none none 0 none 0) rfl) ?_;clear h;intro w h;refine bj h ?_;exact⟨_,⟨_,rfl,tG (Y:=e9.none) (by rw[hX,if_pos (.inl n8)]) rfl rfl⟩,h.gr⟩
  refine b_ [] h ?_;clear h;intro w h;refine lc h ?_;refine aI ?_ trivial;refine dg h (qB hp hn) ?_;clear h;rintro _ w rfl h;refine aI ?_ trivial;refine fN h (OY hW fv dW hB (id:=aM aC name) h.le cA (aS.mk zb) rq) ?_;clear h;rintro _ M' w cu wZ h;rw[if_neg (fun hx=>hx.elim n8 (fun hy=>by rw[cQ]at hy;cases hy))]at hX;obtain⟨l,hl⟩:∃l,l=W.lJ g.s g.ptr (aM aC name):=⟨_,rfl⟩;rw[<-hl]at cu hX;obtain⟨al,cl,rfl,nt,cE⟩:=cu;cases l with
  |nil=>
   refine aI (fun _=> ?_) (fun hx=>absurd rfl hx);refine br h (cO (vs:=mf e9.none none 0 none 0) rfl) ?_;clear h;intro w h;refine bj h ?_;exact⟨_,⟨_,rfl,tG (Y:=e9.none) hX rfl rfl⟩,h.gr⟩
  |cons x r=>
   refine aI (fun hx=>by simp at hx;omega) (fun _=> ?_);obtain⟨b2,o2,EN,rfl,cR,ct,fE⟩:=cE.at (i:=0) (by simp);have aZ:=fE.one;simp only[List.getElem_cons_zero]at fE;obtain⟨ao,co,z1,f1,z2,f2,z3,f3,z4,f4,ai,ci,rfl,dJ,uQ,htx,ri,kZ⟩:=fE.lit;have nL:x.2.index.length<=2^30:=lK x (by rw[<-hl];simp);refine aJ (0) ?_;refine cG h ct ?_;refine au h ?_;clear h;intro gO w h;refine br h aZ ?_;clear h;intro w h;refine lq (X:=Unit) (fun _=>[(10,.pointer (some ⟨er,0,none⟩)),(16,.pointer (some ⟨gO,0,none⟩))])
    (fun _ w=>X=⟨x.1.cJ,x.1.bO,x.2.index++[x.1.last],x.1.gC,x.2.ind,false,0⟩/\SH w0 M [] M' [.ah er 36 (mf e9.none none 0 none 0),.ah gO 99 (rJ x ao co z1 f1 z2 f2 z3 f3 z4 f4 ai ci)] w) ?_ ?_
   rotate_left 1
   .clear h;rintro _ aK w ⟨hE,h⟩;have hS:=h.Bo (b:=gO) (b':=er);refine b_ [er] h ?_;clear h;intro w h;refine bI h ?_ (hS:=hS);refine bI h ?_ (hS:=hS);refine bI h ?_ (hS:=hS);refine bI h ?_ (hS:=hS);refine bI h ?_ (hS:=hS);refine bI h ?_ (hS:=hS);refine aI ?_ (aI ?_ trivial);obtain⟨q3,dt,cS⟩:=Src.gm (c:=ci) kZ h.le;have iP:=cS.len;refine lV h f_ dt (lz cS) ?_ (by omega);clear h dt;intro v4 w h;refine aI ?_ trivial;refine dX h ?_;clear h;intro fJ w h;rotate_left;refine dX h ?_;clear h;intro fJ w h;refine aI ?_ trivial;obtain⟨q3,dt,cS⟩:=Src.gm (c:=ci) kZ h.le;have iP:=cS.len;refine lV h f_ dt (lz cS) ?_ (by omega);clear h dt;intro v4 w h
    all_goals
     refine aI ?_ trivial;refine eI h f_ h.df (de (cO (vs:=[Value.int .i64 x.1.last]) rfl)) ?_ (hS:=by intro b hb;simp[hb]);clear h;intro v5 w h;obtain⟨a5,c5,rfl,ik⟩:=h.oW (v:=v5);obtain⟨M7,cF,lQ,h⟩:=h.d6 (.slice a5 (q3++[[Value.int .i64 x.1.last]]).length c5);have hq:bC dO (x.2.index++[x.1.last]) (q3++[[Value.int .i64 x.1.last]]):=cS.snoc rfl;obtain⟨_,kA,lG⟩:=(Sl.fV lQ hq).pi;have eC:(q3++[[Value.int .i64 x.1.last]]).length=(x.2.index++[x.1.last]).length:=by simp[iP]
     rw[eC];rw[eC]at kA;refine aI ?_ trivial;refine pP h (cO (vs:=mf ⟨x.1.cJ,x.1.bO,x.2.index++[x.1.last],x.1.gC,x.2.ind,false,0⟩ ao co a5 c5) rfl) ?_ (hS:=by simp);clear h;intro w h;refine bj h ?_;exact⟨M7,⟨_,rfl,by rw[hE];exact⟨ao,co,a5,c5,rfl,dJ,uQ.gu cF,kA,lG⟩⟩,h.gr⟩
   intro N0 lC;refine aI (fun hr=> ?_) (fun hr=> ?_)
   .have yY:r≠[]:=fun h0=>by rw[h0]at hr;simp at hr
    refine ak h ?_;refine br h (cO (vs:=mf {e9.none with z6:=true,depth:=x.2.index.length} none 0 none 0) rfl) ?_;clear h;intro w h;refine bj h ?_;exact⟨_,⟨_,rfl,tG (Y:={e9.none with z6:=true,depth:=x.2.index.length}) (by rw[hX,q_,if_pos yY]) rfl rfl⟩,h.gr⟩
   have yY:r=[]:=by
    cases r with
    |nil=>rfl
    |cons y r=>simp at hr;omega
   subst yY;by_cases hm:x.1.bO=true
   .have iz:(rJ x ao co z1 f1 z2 f2 z3 f3 z4 f4 ai ci)[0+0+2]? =some (.bool true):=by rw[<-hm];rfl
    refine ak h ?_ (hv:=iz);have kj:¬(x.1.bO=true/\g.fields=true):=fun hx=>by rw[c_]at hx;cases hx.2
    refine ak h ?_ (hv:=iz);by_cases hp:x.1.ptr=true
    .have J2:(rJ x ao co z1 f1 z2 f2 z3 f3 z4 f4 ai ci)[0+0+3]? =some (.bool true):=by rw[<-hp];rfl
     refine ak h ?_ (hv:=J2);by_cases hi:x.2.ind=true
     .have J3:(rJ x ao co z1 f1 z2 f2 z3 f3 z4 f4 ai ci)[0+5+9]? =some (.bool true):=by rw[<-hi];rfl
      refine ak h ?_ (hv:=J3);exact lC () _ _ ⟨rfl,rfl,tV⟩ ⟨by rw[hX,q_,if_neg (fun hx=>hx rfl),if_neg kj,if_neg (fun hx=>by rw[hi]at hx;cases hx.2.2.1)],h.aF⟩
     have J3:(rJ x ao co z1 f1 z2 f2 z3 f3 z4 f4 ai ci)[0+5+9]? =some (.bool false):=by rw[qaZ]at hi;rw[<-hi];rfl
     rw[qaZ]at hi;refine ak h ?_ (hv:=J3);rcases zau with ha|ha
     .rw[ha];exact lC () _ _ ⟨rfl,rfl,tV⟩ ⟨by rw[hX,q_,if_neg (fun hx=>hx rfl),if_neg kj,if_neg (fun hx=>by rw[ha]at hx;cases hx.2.2.2)],h.aF⟩
     rw[ha];refine br h (cO (vs:=mf {e9.none with ind:=true} none 0 none 0) rfl) ?_;clear h;intro w h;refine bj h ?_;exact⟨_,⟨_,rfl,tG (Y:={e9.none with ind:=true}) (by rw[hX,q_,if_neg (fun hx=>hx rfl),if_neg kj,if_pos ⟨hm,hp,hi,ha⟩]) rfl rfl⟩,h.gr⟩
    have J2:(rJ x ao co z1 f1 z2 f2 z3 f3 z4 f4 ai ci)[0+0+3]? =some (.bool false):=by rw[qaZ]at hp;rw[<-hp];rfl
    refine ak h ?_ (hv:=J2);exact lC () _ _ ⟨rfl,rfl,tV⟩ ⟨by rw[hX,q_,if_neg (fun hx=>hx rfl),if_neg kj,if_neg (fun hx=>hp hx.2.1)],h.aF⟩
   have iz:(rJ x ao co z1 f1 z2 f2 z3 f3 z4 f4 ai ci)[0+0+2]? =some (.bool false):=by rw[qaZ]at hm;rw[<-hm];rfl
   refine ak h ?_ (hv:=iz);refine ak h ?_ (hv:=iz);exact lC () _ _ ⟨rfl,rfl,tV⟩ ⟨by rw[hX,q_,if_neg (fun hx=>hx rfl),if_neg (fun hx=>hm hx.1),if_neg (fun hx=>hm hx.1)],h.aF⟩
 obtain⟨y1,e1,y2,e2,y3,e3,y4,e4,rfl,zb,_⟩:=vq.lit;refine au h ?_;clear h;intro fJ w h;refine br h (aS.one (aS.mk zb)) ?_;clear h;intro w h;refine aI (fun n8=> ?_) (fun n8=> ?_)
 .refine br h (cO (vs:=mf e9.none none 0 none 0) rfl) ?_;clear h;intro w h;refine bj h ?_;exact⟨_,⟨_,rfl,tG (Y:=e9.none) (by rw[hX,if_pos (.inl n8)]) rfl rfl⟩,h.gr⟩
 refine br h (cO (vs:=mf e9.none none 0 none 0) rfl) ?_;clear h;intro w h;refine bj h ?_;exact⟨_,⟨_,rfl,tG (Y:=e9.none) (by rw[hX,if_pos (.inr cQ)]) rfl rfl⟩,h.gr⟩
end
section
variable {P:Program}{t tx ty k b n:Nat}{e:Env}{w:World}{x v:Value}{a:Option Addr}{xs ys css:List (List Value)}{T:TypeId}{M N:Mem}{cs:List Value}
theorem qT:h_ prog 54 54 57 8 96=true:=by kernel_rfl
theorem ll.full{e:Nat}{K:Value->World->Prop}(cQ:h_ P t tx e k b=true)
 (hs:Src w k (.slice a n n) xs) (hx:Src w k x ys) (hy:ys≠[]) (h1:∀cs∈ys,∀u∈cs,u.oneCell'=true) (hb:(xs.length+ys.length)*(b+1)<=140737488355328)
 (hk:∀v w',eG w' k e v (xs++ys)->Fr [] w w'->(∀g∈cZ v,w.heap.size<=g)->K v w'):ll P t tx ty (.slice a n n) x w K:=by
 obtain⟨rfl,C2,ht,i,z,hi,hz,rfl,rfl,mC⟩:=Mi cQ;have iM:xs.length+ys.length<=140737488355328:=qaQ (Nat.le_mul_of_pos_right _ (by omega)) hb;have mt:(xs.length+ys.length)*i.bytes<=140737488355328:=qaQ (Nat.mul_le_mul_left _ (by omega)) hb;obtain⟨mS,a',wz,Oj,oL⟩:=hs;obtain⟨rfl,rfl,_⟩:a=a'/\n=xs.length/\n=wz:=by simpa using Oj
 clear Oj;obtain⟨gH,ax,cap,rfl,jX⟩:=hx;have Fo:=Al mS;have c_:=Al gH;obtain⟨bx,ox,rfl,rF⟩:=jX.resolve_left hy;have pK:0<ys.length:=qbu.2 hy;have qv:∀u∈ys.flatten,u.oneCell'=true:=by
  intro u hu;obtain⟨cs,d9,hu⟩:=List.mem_flatten.1 hu;exact h1 cs d9 u hu
 have hold:(Builtin.firstCells i.size xs.length (.slice a xs.length xs.length)).run P w.drew= .ok xs.flatten.toArray w.drew:=by
  rcases oL with rfl|⟨bo,oo,rfl,yW⟩
  .cases a with
   |none=>exact run_firstCells_none w.drew _ _ _ _
   |some q=>exact run_firstCells_some w.drew _ _ _ _ _ [] (by simp) (by simp)
  exact run_firstCells_some w.drew i.size xs.length _ _ _ _ Fo (fun j u hj=>by rw[qb2,World.cell?_drew];exact yW j u hj)
 have hr:=run_append_grow_src (P:=P) w tx tx ty e i z ht hi hz a xs.length xs.length xs.flatten hold _ ys.length ys.flatten
  (Go.Src.ofSlice w ht ⟨bx,ox,none⟩ ys.length cap ys.flatten c_ (fun j u hj=>by rw[qb2];exact rF j u hj) qv) (by omega) (by omega) (growslice_fits (by omega) mt)
 unfold ll;refine⟨_,_,hr,hk _ _ ⟨fun cs hc=> ?_,?_⟩ (Fr.RO (v:= .slice none 0 0) ⟨rfl,rfl,rfl,by simp,fun k hk _=>heap_alloc_old w.drew _ hk⟩ (Sc _ hr)) ?_⟩
 .rcases qah.1 hc with h|h
  .exact mS cs h
  exact gH cs h
 .have aY:=grownCap_ge w (xs.length+ys.length) xs.length e;have rj:grownCap w (xs.length+ys.length) xs.length e<=maxLen:=grownCap_le_maxLen w _ _ e (by unfold maxLen;omega);rw[List.flatten_append,qar];have hlen:(xs.flatten++ys.flatten).length=(xs.length+ys.length)*i.size:=by rw[qar,Fo,c_,Nat.add_mul]
  refine⟨hlen,.inr ⟨w.heap.size,_,_,rfl,qae _,heap_alloc_new w.drew _,aY,rj,?_,?_⟩⟩
  .simp only[Array.size_append,List.size_toArray,size_zeroCells,mC,hlen,<-Nat.add_mul]
   congr 1
   omega
  rw[Array.toList_append,<-hlen];exact List.take_left
 intro g hg;simp only[cZ,Value.ownBlock,qa9,qac]at hg;omega
section
variable {u:World}{M0:Mem}{D:List Nat}{M:Mem}{L:List aB}{w:World}{P:Program}{S:List Nat}
theorem DL{T:Nat}{G:Value->List Nat->World->Prop}(h:SH u M0 D M L w)(cQ:h_ P t tx T k b=true)
 (hs:Src w k (.slice a n n) xs) (hx:Src w k x ys) (hy:ys≠[]) (h1:∀cs∈ys,∀u∈cs,u.oneCell'=true) (kk:∀v w',SH u M0 D M (.own v k T (xs++ys)::L) w'->G v (cZ v++S) w') (hb:(xs.length+ys.length)*(b+1)<=140737488355328):
 ll P t tx ty (.slice a n n) x w fun v w'=>∃S',(Fr S w w'/\∀b∈S',b∈S\/w.heap.size<=b)/\G v S' w':=by
 refine ll.full cQ hs hx hy h1 hb fun v w' fG hf nF=>⟨cZ v++S,⟨hf.jd (by simp),fun b hb=> ?_⟩,kk v w' ?_⟩
 .rcases qah.1 hb with h1|h1
  .exact .inr (nF b h1)
  exact .inl h1
 exact h.add (e:= .own v k T (xs++ys)) hf fG nF
end
abbrev Item:=ByteArray×e9
@[reducible]def kr(x:Item)(ao:Option Addr)(co:Nat)(ai:Option Addr)(ci:Nat):List Value:= .string x.1::mf x.2 ao co ai ci
def gA(M:Mem)(x:Item)(cs:List Value):Prop:=∃fc,cs= .string x.1::fc/\xR M x.2 fc
theorem xR.le(hl:M.Le N){x:e9}(h:xR M x cs):xR N x cs:=by
 obtain⟨ao,co,ai,ci,rfl,h1,h2,h3,h4⟩:=h;exact⟨ao,co,ai,ci,rfl,h1,h2.gu hl,h3,h4.gu hl⟩
theorem gA.le(hl:M.Le N){x:Item}(h:gA M x cs):gA N x cs:=by
 obtain⟨fc,rfl,h1⟩:=h;exact⟨fc,rfl,h1.le hl⟩
theorem gA.lit{x:Item}(h:gA M x cs):∃ao co ai ci,cs=kr x ao co ai ci:=by
 obtain⟨fc,rfl,ao,co,ai,ci,rfl,_⟩:=h;exact⟨ao,co,ai,ci,rfl⟩
theorem gA.one{x:Item}(h:gA M x cs):∀v∈cs,v.oneCell'=true:=by
 obtain⟨ao,co,ai,ci,rfl⟩:=h.lit;exact cO rfl
def before(x y:ByteArray):Bool:=Op.bytesLess x.toList y.toList
def o_(l:List Item)(id:ByteArray):Nat:=(l.takeWhile fun y=>before y.1 id).length
def qC(l:List Item)(x:Item):List Item:=
 if x.2.bO=false then l else
 if(l[o_ l x.1]?).map (·.1)=some x.1 then l else l.take (o_ l x.1)++[x]++l.drop (o_ l x.1)
noncomputable def pS(W:Wd)(t:Ty)(p:Nat)(l:List Item):Nat->List Item
 |0=>l
 |n+1=>qC (pS W t p l n) (aM p n,W.lookup t false p n)
noncomputable def jM(W:Wd)(t:Ty):Nat->List Item
 |0=>[]
 |p+1=>pS W t p (jM W t p) 16
noncomputable def Wd.vP(W:Wd)(t:Ty):List Item:=jM W t 2
theorem zct(l:List Item)(x:Item):(qC l x).length<=l.length+1:=by
 unfold qC;split
 .omega
 split
 .omega
 simp only[qar,qaG,qba,qaw];omega
theorem Lh(W:Wd)(t:Ty)(p:Nat)(l:List Item):∀n,(pS W t p l n).length<=l.length+n
 |0=>qad _
 |n+1=>by
  have h1:=Lh W t p l n;have h2:=zct (pS W t p l n) (aM p n,W.lookup t false p n);simp only[pS];omega
theorem Q9(W:Wd)(t:Ty):∀p,(jM W t p).length<=16*p
 |0=>qad _
 |p+1=>by
  have h1:=Q9 W t p;have h2:=Lh W t p (jM W t p) 16;simp only[jM];omega
theorem UM(l:List Item)(id:ByteArray):o_ l id<=l.length:=(List.takeWhile_sublist _).length_le
theorem UL{l:List Item}{id:ByteArray}(hk:k<l.length):o_ (l.drop k) id=if before l[k].1 id=true then o_ (l.drop (k+1)) id+1 else 0:=by
 rw[List.drop_eq_getElem_cons hk,o_,List.takeWhile_cons];split<;>rfl
theorem bQ.take{α:Type}{R:α->List Value->Prop}{xs:List α}(h:bQ M k R a xs)(n:Nat):bQ M k R a (xs.take n):=by
 intro i x hi;rw[qbG]at hi;split at hi
 .exact h i x hi
 cases hi
theorem bQ.drop{α:Type}{R:α->List Value->Prop}{xs:List α}{cap:Nat}(h:bQ M k R a xs)(hc:xs.length<=cap)(n:Nat):bQ M k R (if cap=n then a else a.map (·.add (n*k))) (xs.drop n):=by
 by_cases hn:cap=n
 .rw[List.drop_eq_nil_of_le (by omega)];exact bQ.nil _ _ _ _
 rw[if_neg hn];intro i x hi;rw[List.getElem?_drop]at hi;obtain⟨b,o,cs,rfl,h1,h2,h3⟩:=h _ _ hi;refine⟨b,o+n*k,cs,?_,h1,?_,h3⟩
 .simp[qb2]
 rw[Nat.add_mul,<-Nat.add_assoc]at h2;exact h2
theorem eG.one{t:TypeId}(hb:a_ w b t cs)(hl:cs.length=k):eG w k t (.slice (some ⟨b,0,none⟩) 1 1) [cs]:=by
 refine⟨by simpa using hl,by simpa using hl,.inr ⟨b,1,cs.toArray,rfl,qae _,hb,qad _,by unfold maxLen;omega,by simp[hl],by subst hl;simp⟩⟩
theorem eG.src(h:eG w k T v css):Src w k v css:=by
 have h1:=h.1;rcases h.open_ with⟨rfl,rfl⟩|⟨g,cap,rfl,_,_,hr⟩
 .exact⟨h1,none,0,rfl,.inl rfl⟩
 exact⟨h1,_,cap,rfl,.inr ⟨g,0,rfl,hr⟩⟩
section
variable {u:World}{M0:Mem}{D:List Nat}{M:Mem}{L:List aB}{w:World}{P:Program}{S:List Nat}
theorem DN{t:TypeId}{G:List Nat->World->Nat->Prop}(h:SH u M0 D M L w)(hl:cs.length=k)(kk:∀b w',SH u M0 D M (.own (.slice (some ⟨b,0,none⟩) 1 1) k t [cs]::L) w'->G (b::S) w' b):
 ∀w1 b,Fr [] w w1->a_ w1 b t cs->w.heap.size<=b->∃S',(Fr S w w1/\∀b'∈S',b'∈S\/w.heap.size<=b')/\G S' w1 b:=
 fun w1 b hf hb hn=>⟨b::S,⟨hf.nil,fun b' aW=>by rcases qan.1 aW with rfl|aW;exact .inr hn;exact .inl aW⟩,kk b w1 (h.add (e:= .own (.slice (some ⟨b,0,none⟩) 1 1) k t [cs]) hf (eG.one hb hl) (by simp[aB.bX,cZ,Value.ownBlock];exact hn))⟩
theorem SH.D4{L':List aB}(h:SH u M0 D M L w)(hp:Pk L (.own v k T css) L':=by repeat(first|exact Pk.here|apply Pk.there)):Src w k v css:=eG.src (h.ok _ hp.mem)
end
theorem qd{α:Type}{Q:α->List Value->Prop}(h1:∀x cs,Q x cs->∀u∈cs,u.oneCell'=true):∀{l:List α} {css:List (List Value)},bC Q l css->∀cs∈css,∀u∈cs,u.oneCell'=true
 |[],[],_,cs,hc=>by simp at hc
 |x::l,c::css,h,cs,hc=>by
  rcases qan.1 hc with rfl|hc
  .exact h1 x _ h.1
  exact qd h1 h.2 cs hc
theorem T9{id:Nat}{B:Env->World->Prop}{Q:Exit->Env->World->Prop}(h:B e w):Gl id (wb B Q) (.exit id) e w:=by
 show(bif Nat.beq id id then B e w else Q (.exit id) e w);rw[show Nat.beq id id=true by simp];exact h
theorem LX{d:Nat}{x:Operand}{r:List SI}{K:Env->World->Prop}(h:wpOpsS P r (put e (D d (.mv x)).dst (ev e x)) w K):wpOpsS P (D d (.mv x)::r) e w K:=h
theorem T5{K:Env->World->Prop}(h:K e w):wpOpsS P [] e w K:=h
theorem Uh{c:Operand}{a b:CK}{Q:Exit->Env->World->Prop}(h:ev e c= .bool true)(k:a Q e w):ye c a b Q e w:=by
 unfold ye;rw[h];exact k
theorem zdh{W:Wd}(hW:GW W)(fv:∀d∈W,∀m∈d.methods,bL m.1)(dW:∀d∈W,cN d.aC){t:Ty}{w0:World}{c:Nat}(hM:M.Le (Wm w0))(cA:eK M W a c)(eo:cC M t cs)
 (hs:GS W (W.operand t)) (Ft:GS W (W.target t).s) (CF:(W.target t).ok=true->xT W (W.target t).s (W.target t).ptr)
 (Fv:∀id,∀x∈W.lJ (W.target t).s (W.target t).ptr id,x.2.index.length<=2^30):
 az prog 15 [bK W a c,.agg cs.toArray] w0 fun r w'=>∃M',Sl M' 8 (gA M') r (W.vP t)/\Gr M w0 M' w':=by
 obtain⟨x1,d1,x2,d2,x3,d3,x4,d4,rfl,_⟩:=eo.lit;have h:=SH.start hM;refine aL mixed func15 yc ?_;refine au h ?_;clear h;intro b3 w h;refine bN (X:=Nat×Option Addr×Nat×Mem) (fun x=>[(0,bK W a c),(3,.pointer (some ⟨b3,0,none⟩)),(5,.slice x.2.1 (jM W t x.1).length x.2.2.1),(10,.int .i64 (x.1:Int))])
  (fun x w=>x.1<=2/\(jM W t x.1).length<=x.2.2.1/\bQ x.2.2.2 8 (gA x.2.2.2) x.2.1 (jM W t x.1)/\M.Le x.2.2.2/\SH w0 M [] x.2.2.2 [.ah b3 45 (bh t x1 d1 x2 d2 x3 d3 x4 d4)] w) (fun x=>2-x.1) (0,none,0,M) ⟨rfl,rfl,rfl,rfl,tV⟩ ⟨qae _,qad _,bQ.nil _ _ _ _,.refl _,h.aF⟩ ?_
 clear h;rintro⟨p,ao,co,M1⟩ aK w N ⟨hp,dJ,cE,bG,h⟩ hN;simp only at hp dJ cE bG h;refine aI (fun aG=> ?_) (fun aY=> ?_);rotate_left 1
 .obtain rfl:p=2:=by omega
  exact⟨M1,⟨ao,co,rfl,dJ,cE⟩,h.gr⟩
 have ea:cN (p:Int):=by unfold cN;omega
 have hlp:=Q9 W t p;refine fB (X:=Nat×Option Addr×Nat×Mem) (Y:=Option Addr×Nat×Mem) 2 (fun x=>[(0,bK W a c),(3,.pointer (some ⟨b3,0,none⟩)),(5,.slice x.2.1 (pS W t p (jM W t p) x.1).length x.2.2.1),(6,.int .i64 (p:Int)),(10,.int .i64 (p:Int)),(13,.int .i64 (x.1:Int))])
  (fun x w=>x.1<=16/\(pS W t p (jM W t p) x.1).length<=x.2.2.1/\bQ x.2.2.2 8 (gA x.2.2.2) x.2.1 (pS W t p (jM W t p) x.1)/\M.Le x.2.2.2/\SH w0 M [] x.2.2.2 [.ah b3 45 (bh t x1 d1 x2 d2 x3 d3 x4 d4)] w) (fun x=>16-x.1)
  (fun x=>[(0,bK W a c),(3,.pointer (some ⟨b3,0,none⟩)),(5,.slice x.1 (jM W t (p+1)).length x.2.1),(10,.int .i64 (p:Int))])
  (fun x w=>(jM W t (p+1)).length<=x.2.1/\bQ x.2.2 8 (gA x.2.2) x.1 (jM W t (p+1))/\M.Le x.2.2/\SH w0 M [] x.2.2 [.ah b3 45 (bh t x1 d1 x2 d2 x3 d3 x4 d4)] w)
  (0,ao,co,M1) ⟨rfl,rfl,rfl,rfl,rfl,rfl,tV⟩ ⟨qae _,dJ,cE,bG,h.aF⟩ ?_ ?_
 rotate_left 1
 .clear h cE;rintro⟨ao,co,M2⟩ aK w ⟨dJ,cE,aQ,h⟩;simp only at dJ cE aQ h;refine aA (((p+1:Nat):Int)) ?_;exact hN (p+1,ao,co,M2) _ _ ⟨rfl,rfl,rfl,rfl,tV⟩ ⟨by simp only at aG⊢;omega,dJ,cE,aQ,h.aF⟩ (by simp only at aG⊢;omega)
 clear h cE;rintro⟨n,ao,co,M2⟩ aK w N1 Z hx qj hZ;obtain⟨hn,dJ,cE,aQ,h⟩:=hx;simp only at hn dJ cE aQ h;obtain⟨l,hl⟩:∃l,l=pS W t p (jM W t p) n:=⟨_,rfl⟩;have hlen:=Lh W t p (jM W t p) n;rw[<-hl]at dJ cE hlen;rw[<-hl];refine aI (fun jU=> ?_) (fun tN=> ?_);rotate_left 1
 .obtain rfl:n=16:=by omega
  exact hZ (ao,co,M2) _ _ ⟨rfl,rfl,by simp only[jM,<-hl],rfl,tV⟩ ⟨by simp only[jM,<-hl];exact dJ,by simp only[jM,<-hl];exact cE,aQ,h⟩
 have Db:bL (n:Int):=⟨by omega,by omega⟩;have cI:pS W t p (jM W t p) (n+1)=qC l (aM p n,W.lookup t false p n):=by rw[hl];rfl
 obtain⟨f,hf⟩:∃f,f=W.lookup t false p n:=⟨_,rfl⟩;obtain⟨id,hid⟩:∃f,f=aM p n:=⟨_,rfl⟩;rw[<-hf,<-hid]at cI;refine G7 ?_;refine Uh rfl ?_;refine G7 ?_;refine G7 ?_;refine LX ?_;refine LX ?_;refine T5 ?_;refine lq (X:=Mem×Nat×Option Addr×Nat×Option Addr×Nat) (fun x=>[(0,bK W a c),(3,.pointer (some ⟨b3,0,none⟩)),(5,.slice ao l.length co),(6,.int .i64 (p:Int)),(8,.pointer (some ⟨x.2.1,0,none⟩)),(10,.int .i64 (p:Int)),(13,.int .i64 (n:Int))])
  (fun x w=>M2.Le x.1/\xR x.1 f (mf f x.2.2.1 x.2.2.2.1 x.2.2.2.2.1 x.2.2.2.2.2)/\SH w0 M [] x.1 [.ah b3 45 (bh t x1 d1 x2 d2 x3 d3 x4 d4),.ah x.2.1 57 (kr (id,f) x.2.2.1 x.2.2.2.1 x.2.2.2.2.1 x.2.2.2.2.2)] w) ?_ ?_
 .intro N2 d7;refine b_ [] h ?_;clear h;intro w h;refine lc h ?_;have mX:∀w,M2.Le (Wm w)->az prog 9 [bK W a c,.agg (bh t x1 d1 x2 d2 x3 d3 x4 d4).toArray,.bool false,.int .i64 p,.int .i64 n] w fun r w'=>∃M',G3 M' f r/\Gr M2 w M' w':=fun w hw=>by
   rw[hf];exact QM hW fv dW hw (cA.fr aQ) (eo.le aQ) hs Ft CF ea Db (Fv _)
  have OU:∀w,az prog 12 [.int .i64 p,.int .i64 n] w fun r w'=>r= .string id/\Fr [] w w':=fun w=>by
   rw[hid];exact qB ea Db
  refine aI ?_ (aI ?_ trivial)
  .refine dg h (OU _) ?_;clear h;rintro _ w rfl h;refine aI ?_ (aI ?_ trivial);refine fN h (mX _ h.le) ?_;clear h;rintro _ M3 w hr bT h;obtain⟨cs,rfl,iK⟩:=hr;have Fn:=iK;obtain⟨a1,c1,a2,c2,rfl,_⟩:=iK;refine aI ?_ trivial;refine sU h ?_;clear h;intro b8 w h;rotate_left;refine sU h ?_;clear h;intro b8 w h;refine aI ?_ trivial;refine fN h (mX _ h.le) ?_;clear h;rintro _ M3 w hr bT h;obtain⟨cs,rfl,iK⟩:=hr;have Fn:=iK;obtain⟨a1,c1,a2,c2,rfl,_⟩:=iK
   all_goals
    refine aI ?_ trivial;refine pP h (cO (vs:=kr (id,f) a1 c1 a2 c2) rfl) ?_ (hS:=by simp);clear h;intro w h;exact d7 (M3,b8,a1,c1,a2,c2) _ _ ⟨rfl,rfl,rfl,rfl,rfl,rfl,rfl,tV⟩ ⟨bT,Fn,h.aF⟩
  refine sU h ?_;clear h;intro b8 w h;refine aI ?_ trivial;refine dg h (OU _) ?_;clear h;rintro _ w rfl h;refine aI ?_ trivial;refine fN h (mX _ h.le) ?_;clear h;rintro _ M3 w hr bT h;obtain⟨cs,rfl,iK⟩:=hr;have Fn:=iK;obtain⟨a1,c1,a2,c2,rfl,_⟩:=iK;refine aI ?_ trivial;refine pP h (cO (vs:=kr (id,f) a1 c1 a2 c2) rfl) ?_ (hS:=by simp);clear h;intro w h;exact d7 (M3,b8,a1,c1,a2,c2) _ _ ⟨rfl,rfl,rfl,rfl,rfl,rfl,rfl,tV⟩ ⟨bT,Fn,h.aF⟩
 clear h;rintro⟨M3,b8,a1,c1,a2,c2⟩ aK w ⟨bT,iK,h⟩;simp only at bT iK h;have nw:bQ M3 8 (gA M3) ao l:=cE.mono bT fun _ _ _ hx=>hx.le bT;by_cases hm:f.bO=true;rotate_left 1
 .have hv:(kr (id,f) a1 c1 a2 c2)[0+1+1]? =some (.bool false):=by rw[qaZ]at hm;rw[<-hm];rfl
  have e1:pS W t p (jM W t p) (n+1)=l:=by rw[cI,qC,if_pos (by simpa using hm)]
  refine ak h ?_ (hv:=hv);refine aA (((n+1:Nat):Int)) ?_;exact qj (n+1,ao,co,M3) _ _ ⟨rfl,rfl,qaL (fun l=>Value.slice ao (List.length l) co) e1.symm,rfl,rfl,rfl,tV⟩ ⟨by simp only at jU⊢;omega,by simp only[e1];exact dJ,by simp only[e1];exact nw,aQ.trans bT,h.aF⟩ (by simp only at jU⊢;omega)
 have hv:(kr (id,f) a1 c1 a2 c2)[0+1+1]? =some (.bool true):=by rw[<-hm];rfl
 refine ak h ?_ (hv:=hv);obtain⟨K,hK⟩:∃K,K=o_ l id:=⟨_,rfl⟩;have j_:K<=l.length:=by rw[hK];exact UM l id
 refine fB (X:=Nat) (Y:=Unit) 4 (fun k=>[(0,bK W a c),(3,.pointer (some ⟨b3,0,none⟩)),(5,.slice ao l.length co),(6,.int .i64 (p:Int)),(8,.pointer (some ⟨b8,0,none⟩)),(9,.int .i64 (k:Int)),(10,.int .i64 (p:Int)),(13,.int .i64 (n:Int))])
  (fun k w=>k<=l.length/\k+o_ (l.drop k) id=K/\SH w0 M [] M3 [.ah b3 45 (bh t x1 d1 x2 d2 x3 d3 x4 d4),.ah b8 57 (kr (id,f) a1 c1 a2 c2)] w) (fun k=>l.length-k)
  (fun _=>[(0,bK W a c),(3,.pointer (some ⟨b3,0,none⟩)),(5,.slice ao l.length co),(6,.int .i64 (p:Int)),(8,.pointer (some ⟨b8,0,none⟩)),(9,.int .i64 (K:Int)),(10,.int .i64 (p:Int)),(13,.int .i64 (n:Int))])
  (fun _ w=>SH w0 M [] M3 [.ah b3 45 (bh t x1 d1 x2 d2 x3 d3 x4 d4),.ah b8 57 (kr (id,f) a1 c1 a2 c2)] w)
  0 ⟨rfl,rfl,rfl,rfl,rfl,rfl,rfl,rfl,tV⟩ ⟨qae _,by rw[hK];simp,h.aF⟩ ?_ ?_
 .clear h;rintro k aK w N2 Z2 ⟨hk,cK,h⟩ d7 E8;refine b_ [] h ?_;clear h;intro w h;refine aI (fun q1=> ?_) (fun q2=> ?_)
  .have ad:k<l.length:=by omega
   obtain⟨b2,o2,ci,rfl,cR,ct,aE⟩:=nw.at ad;obtain⟨z1,f1,z2,f2,rfl⟩:=aE.lit;have hd:=UL (id:=id) ad;refine aJ (k) ?_;refine cd h (ct 0 _ rfl) ?_;refine bI h ?_;refine aI (fun q=> ?_) (fun q=> ?_)
   .rw[if_pos (show before l[k].1 id=true from q)]at hd;refine aA (((k+1:Nat):Int)) ?_;exact d7 (k+1) _ _ ⟨rfl,rfl,rfl,rfl,rfl,rfl,rfl,rfl,tV⟩ ⟨ad,by omega,h.aF⟩ (by omega)
   rw[if_neg (by unfold before;rw[q];simp)]at hd;exact E8 () _ _ ⟨rfl,rfl,rfl,rfl,rfl,qaL (fun k:Nat=>Value.int .i64 (k:Int)) (by omega:k=K),rfl,rfl,tV⟩ h.aF
  have dE:k=l.length:=by omega
  have hd:o_ (l.drop k) id=0:=by rw[dE,List.drop_length];rfl
  exact E8 () _ _ ⟨rfl,rfl,rfl,rfl,rfl,qaL (fun k:Nat=>Value.int .i64 (k:Int)) (by omega:k=K),rfl,rfl,tV⟩ h.aF
 clear h;rintro _ aK w h;refine T9 ?_;refine lq (X:=Bool) (fun x=>[(0,bK W a c),(3,.pointer (some ⟨b3,0,none⟩)),(5,.slice ao l.length co),(6,.int .i64 (p:Int)),(8,.pointer (some ⟨b8,0,none⟩)),(9,.int .i64 (K:Int)),(10,.int .i64 (p:Int)),(13,.int .i64 (n:Int)),(58,.bool x)])
  (fun x w=>(x=decide (¬(l[o_ l id]?).map (·.1)=some id))/\SH w0 M [] M3 [.ah b3 45 (bh t x1 d1 x2 d2 x3 d3 x4 d4),.ah b8 57 (kr (id,f) a1 c1 a2 c2)] w) ?_ ?_
 .intro N3 kc;refine b_ [] h ?_;clear h;intro w h;refine aI (fun q1=> ?_) (fun q2=> ?_)
  .have dE:K=l.length:=by omega
   exact kc true _ _ ⟨rfl,rfl,rfl,rfl,rfl,rfl,rfl,rfl,rfl,tV⟩ ⟨by rw[<-hK,dE,qa3 (qad _)];simp,h.aF⟩
  have ad:K<l.length:=by omega
  obtain⟨b2,o2,ci,rfl,cR,ct,aE⟩:=nw.at ad;obtain⟨z1,f1,z2,f2,rfl⟩:=aE.lit;refine aJ (K) ?_;refine cd h (ct 0 _ rfl) ?_;refine bI h ?_;refine aI (fun q=> ?_) (fun q=> ?_)
  .exact kc false _ _ ⟨rfl,rfl,rfl,rfl,rfl,rfl,rfl,rfl,rfl,tV⟩ ⟨by rw[<-hK,qaa ad];simpa using q,h.aF⟩
  exact kc true _ _ ⟨rfl,rfl,rfl,rfl,rfl,rfl,rfl,rfl,rfl,tV⟩ ⟨by rw[<-hK,qaa ad];simpa using q,h.aF⟩
 clear h;rintro(_|_) aK w ⟨hx,h⟩
 .have e1:pS W t p (jM W t p) (n+1)=l:=by
   rw[cI,qC,if_neg (by simpa using hm),if_pos (by simpa using hx)]
  refine aA (((n+1:Nat):Int)) ?_;exact qj (n+1,ao,co,M3) _ _ ⟨rfl,rfl,qaL (fun l=>Value.slice ao (List.length l) co) e1.symm,rfl,rfl,rfl,tV⟩ ⟨by simp only at jU⊢;omega,by simp only[e1];exact dJ,by simp only[e1];exact nw,aQ.trans bT,h.aF⟩ (by simp only at jU⊢;omega)
 have e2:pS W t p (jM W t p) (n+1)=l.take K++([(id,f)]++l.drop K):=by
  rw[cI,qC,if_neg (by simpa using hm),if_neg (by simpa using hx),<-hK,qap]
 refine b_ [] h ?_;clear h;intro w h;refine lc h ?_;refine aI ?_ (aI ?_ (aI ?_ trivial))
 .refine qai K (qai K (aI ⟨rfl,rfl,qad _,qaQ j_ dJ⟩ (qai _ (aI ⟨(Fr.refl _).nil,fun _ hb=> .inl hb⟩ ?_))));refine aI ?_ (aI ?_ trivial);refine DN h rfl ?_;clear h;intro EG w h;refine aI ?_ trivial;refine qai K (qai l.length (aI ⟨rfl,rfl,j_,dJ⟩ (qai _ (aI ⟨(Fr.refl _).nil,fun _ hb=> .inl hb⟩ ?_))));rotate_left;refine qai K (qai l.length (aI ⟨rfl,rfl,j_,dJ⟩ (qai _ (aI ⟨(Fr.refl _).nil,fun _ hb=> .inl hb⟩ ?_))));refine aI ?_ trivial;refine DN h rfl ?_;clear h;intro EG w h
  all_goals
   refine aI ?_ trivial;obtain⟨tq,aU,gI⟩:=Src.gm (c:=co-K) (nw.drop dJ K) h.le;rw[qba]at aU;have gl:=gI.len;rw[qba]at gl;refine eI h qT aU (qd (fun _ _=>gA.one) gI) ?_ (hb:=by simp only[qaw];omega) (hS:=by simp[cZ,Value.ownBlock]);clear h aU;intro BM w h;refine aI ?_ trivial;obtain⟨hq,lP,pA⟩:=Src.gm (c:=K) (nw.take K) h.le;rw[qaG,qaY j_]at lP;have uV:=pA.len;rw[qaG,qaY j_]at uV;refine DL h qT lP h.D4 (by simp) (fun cs hc=> ?_) ?_ (by simp only[qar,qaw];omega)
   .rcases qah.1 hc with hc|hc
    .rw[qac.1 hc];exact cO rfl
    exact qd (fun _ _=>gA.one) gI cs hc
   clear h lP;intro v9 w h;have h9:=h;clear h;obtain⟨M9,cB,vu,h⟩:=h9.d6 v9;clear h9;have bS:bC (gA M9) (l.take K++([(id,f)]++l.drop K)) (hq++([kr (id,f) a1 c1 a2 c2]++tq)):=
    (pA.mono fun _ _ _ hx=>hx.le cB).append (bC.append (a:=[(id,f)]) (b:=[kr (id,f) a1 c1 a2 c2]) ⟨⟨_,rfl,iK.le cB⟩,tV⟩ (gI.mono fun _ _ _ hx=>hx.le cB))
   rw[<-e2]at bS;obtain⟨a9,c9,rfl,uN,uP⟩:=Sl.fV vu bS;refine aA (((n+1:Nat):Int)) ?_;exact qj (n+1,a9,c9,M9) _ _ ⟨rfl,rfl,rfl,rfl,rfl,rfl,tV⟩ ⟨by simp only at jU⊢;omega,uN,uP,aQ.trans (bT.trans cB),h.aF⟩ (by simp only at jU⊢;omega)
 .refine DN h rfl ?_;clear h;intro EG w h;refine aI ?_ (aI ?_ trivial)
  .refine qai K (qai K (aI ⟨rfl,rfl,qad _,qaQ j_ dJ⟩ (qai _ (aI ⟨(Fr.refl _).nil,fun _ hb=> .inl hb⟩ ?_))));refine aI ?_ trivial;refine qai K (qai l.length (aI ⟨rfl,rfl,j_,dJ⟩ (qai _ (aI ⟨(Fr.refl _).nil,fun _ hb=> .inl hb⟩ ?_))));refine aI ?_ trivial;obtain⟨tq,aU,gI⟩:=Src.gm (c:=co-K) (nw.drop dJ K) h.le;rw[qba]at aU;have gl:=gI.len;rw[qba]at gl;refine eI h qT aU (qd (fun _ _=>gA.one) gI) ?_ (hb:=by simp only[qaw];omega) (hS:=by simp[cZ,Value.ownBlock]);clear h aU;intro BM w h;refine aI ?_ trivial;obtain⟨hq,lP,pA⟩:=Src.gm (c:=K) (nw.take K) h.le;rw[qaG,qaY j_]at lP;have uV:=pA.len;rw[qaG,qaY j_]at uV;refine DL h qT lP h.D4 (by simp) (fun cs hc=> ?_) ?_ (by simp only[qar,qaw];omega)
   .rcases qah.1 hc with hc|hc
    .rw[qac.1 hc];exact cO rfl
    exact qd (fun _ _=>gA.one) gI cs hc
   clear h lP;intro v9 w h;have h9:=h;clear h;obtain⟨M9,cB,vu,h⟩:=h9.d6 v9;clear h9;have bS:bC (gA M9) (l.take K++([(id,f)]++l.drop K)) (hq++([kr (id,f) a1 c1 a2 c2]++tq)):=
    (pA.mono fun _ _ _ hx=>hx.le cB).append (bC.append (a:=[(id,f)]) (b:=[kr (id,f) a1 c1 a2 c2]) ⟨⟨_,rfl,iK.le cB⟩,tV⟩ (gI.mono fun _ _ _ hx=>hx.le cB))
   rw[<-e2]at bS;obtain⟨a9,c9,rfl,uN,uP⟩:=Sl.fV vu bS;refine aA (((n+1:Nat):Int)) ?_;exact qj (n+1,a9,c9,M9) _ _ ⟨rfl,rfl,rfl,rfl,rfl,rfl,tV⟩ ⟨by simp only at jU⊢;omega,uN,uP,aQ.trans (bT.trans cB),h.aF⟩ (by simp only at jU⊢;omega)
  refine qai K (qai l.length (aI ⟨rfl,rfl,j_,dJ⟩ (qai _ (aI ⟨(Fr.refl _).nil,fun _ hb=> .inl hb⟩ ?_))));refine aI ?_ (aI ?_ trivial);refine qai K (qai K (aI ⟨rfl,rfl,qad _,qaQ j_ dJ⟩ (qai _ (aI ⟨(Fr.refl _).nil,fun _ hb=> .inl hb⟩ ?_))));refine aI ?_ trivial;obtain⟨tq,aU,gI⟩:=Src.gm (c:=co-K) (nw.drop dJ K) h.le;rw[qba]at aU;have gl:=gI.len;rw[qba]at gl;refine eI h qT aU (qd (fun _ _=>gA.one) gI) ?_ (hb:=by simp only[qaw];omega) (hS:=by simp[cZ,Value.ownBlock]);clear h aU;intro BM w h;rotate_left;obtain⟨tq,aU,gI⟩:=Src.gm (c:=co-K) (nw.drop dJ K) h.le;rw[qba]at aU;have gl:=gI.len;rw[qba]at gl;refine eI h qT aU (qd (fun _ _=>gA.one) gI) ?_ (hb:=by simp only[qaw];omega) (hS:=by simp[cZ,Value.ownBlock]);clear h aU;intro BM w h;refine aI ?_ trivial;refine qai K (qai K (aI ⟨rfl,rfl,qad _,qaQ j_ dJ⟩ (qai _ (aI ⟨(Fr.refl _).nil,fun _ hb=> .inl hb⟩ ?_))))
  all_goals
   refine aI ?_ trivial;obtain⟨hq,lP,pA⟩:=Src.gm (c:=K) (nw.take K) h.le;rw[qaG,qaY j_]at lP;have uV:=pA.len;rw[qaG,qaY j_]at uV;refine DL h qT lP h.D4 (by simp) (fun cs hc=> ?_) ?_ (by simp only[qar,qaw];omega)
   .rcases qah.1 hc with hc|hc
    .rw[qac.1 hc];exact cO rfl
    exact qd (fun _ _=>gA.one) gI cs hc
   clear h lP;intro v9 w h;have h9:=h;clear h;obtain⟨M9,cB,vu,h⟩:=h9.d6 v9;clear h9;have bS:bC (gA M9) (l.take K++([(id,f)]++l.drop K)) (hq++([kr (id,f) a1 c1 a2 c2]++tq)):=
    (pA.mono fun _ _ _ hx=>hx.le cB).append (bC.append (a:=[(id,f)]) (b:=[kr (id,f) a1 c1 a2 c2]) ⟨⟨_,rfl,iK.le cB⟩,tV⟩ (gI.mono fun _ _ _ hx=>hx.le cB))
   rw[<-e2]at bS;obtain⟨a9,c9,rfl,uN,uP⟩:=Sl.fV vu bS;refine aA (((n+1:Nat):Int)) ?_;exact qj (n+1,a9,c9,M9) _ _ ⟨rfl,rfl,rfl,rfl,rfl,rfl,tV⟩ ⟨by simp only at jU⊢;omega,uN,uP,aQ.trans (bT.trans cB),h.aF⟩ (by simp only at jU⊢;omega)
 refine qai K (qai l.length (aI ⟨rfl,rfl,j_,dJ⟩ (qai _ (aI ⟨(Fr.refl _).nil,fun _ hb=> .inl hb⟩ ?_))));refine aI ?_ (aI ?_ trivial)
 .refine qai K (qai K (aI ⟨rfl,rfl,qad _,qaQ j_ dJ⟩ (qai _ (aI ⟨(Fr.refl _).nil,fun _ hb=> .inl hb⟩ ?_))));refine aI ?_ trivial;refine DN h rfl ?_;clear h;intro EG w h;refine aI ?_ trivial;obtain⟨tq,aU,gI⟩:=Src.gm (c:=co-K) (nw.drop dJ K) h.le;rw[qba]at aU;have gl:=gI.len;rw[qba]at gl;refine eI h qT aU (qd (fun _ _=>gA.one) gI) ?_ (hb:=by simp only[qaw];omega) (hS:=by simp[cZ,Value.ownBlock]);clear h aU;intro BM w h;refine aI ?_ trivial;obtain⟨hq,lP,pA⟩:=Src.gm (c:=K) (nw.take K) h.le;rw[qaG,qaY j_]at lP;have uV:=pA.len;rw[qaG,qaY j_]at uV;refine DL h qT lP h.D4 (by simp) (fun cs hc=> ?_) ?_ (by simp only[qar,qaw];omega)
  .rcases qah.1 hc with hc|hc
   .rw[qac.1 hc];exact cO rfl
   exact qd (fun _ _=>gA.one) gI cs hc
  clear h lP;intro v9 w h;have h9:=h;clear h;obtain⟨M9,cB,vu,h⟩:=h9.d6 v9;clear h9;have bS:bC (gA M9) (l.take K++([(id,f)]++l.drop K)) (hq++([kr (id,f) a1 c1 a2 c2]++tq)):=
   (pA.mono fun _ _ _ hx=>hx.le cB).append (bC.append (a:=[(id,f)]) (b:=[kr (id,f) a1 c1 a2 c2]) ⟨⟨_,rfl,iK.le cB⟩,tV⟩ (gI.mono fun _ _ _ hx=>hx.le cB))
  rw[<-e2]at bS;obtain⟨a9,c9,rfl,uN,uP⟩:=Sl.fV vu bS;refine aA (((n+1:Nat):Int)) ?_;exact qj (n+1,a9,c9,M9) _ _ ⟨rfl,rfl,rfl,rfl,rfl,rfl,tV⟩ ⟨by simp only at jU⊢;omega,uN,uP,aQ.trans (bT.trans cB),h.aF⟩ (by simp only at jU⊢;omega)
 refine DN h rfl ?_;clear h;intro EG w h;refine aI ?_ (aI ?_ trivial);refine qai K (qai K (aI ⟨rfl,rfl,qad _,qaQ j_ dJ⟩ (qai _ (aI ⟨(Fr.refl _).nil,fun _ hb=> .inl hb⟩ ?_))));refine aI ?_ trivial;obtain⟨tq,aU,gI⟩:=Src.gm (c:=co-K) (nw.drop dJ K) h.le;rw[qba]at aU;have gl:=gI.len;rw[qba]at gl;refine eI h qT aU (qd (fun _ _=>gA.one) gI) ?_ (hb:=by simp only[qaw];omega) (hS:=by simp[cZ,Value.ownBlock]);clear h aU;intro BM w h;rotate_left;obtain⟨tq,aU,gI⟩:=Src.gm (c:=co-K) (nw.drop dJ K) h.le;rw[qba]at aU;have gl:=gI.len;rw[qba]at gl;refine eI h qT aU (qd (fun _ _=>gA.one) gI) ?_ (hb:=by simp only[qaw];omega) (hS:=by simp[cZ,Value.ownBlock]);clear h aU;intro BM w h;refine aI ?_ trivial;refine qai K (qai K (aI ⟨rfl,rfl,qad _,qaQ j_ dJ⟩ (qai _ (aI ⟨(Fr.refl _).nil,fun _ hb=> .inl hb⟩ ?_))))
 all_goals
  refine aI ?_ trivial;obtain⟨hq,lP,pA⟩:=Src.gm (c:=K) (nw.take K) h.le;rw[qaG,qaY j_]at lP;have uV:=pA.len;rw[qaG,qaY j_]at uV;refine DL h qT lP h.D4 (by simp) (fun cs hc=> ?_) ?_ (by simp only[qar,qaw];omega)
  .rcases qah.1 hc with hc|hc
   .rw[qac.1 hc];exact cO rfl
   exact qd (fun _ _=>gA.one) gI cs hc
  clear h lP;intro v9 w h;have h9:=h;clear h;obtain⟨M9,cB,vu,h⟩:=h9.d6 v9;clear h9;have bS:bC (gA M9) (l.take K++([(id,f)]++l.drop K)) (hq++([kr (id,f) a1 c1 a2 c2]++tq)):=
   (pA.mono fun _ _ _ hx=>hx.le cB).append (bC.append (a:=[(id,f)]) (b:=[kr (id,f) a1 c1 a2 c2]) ⟨⟨_,rfl,iK.le cB⟩,tV⟩ (gI.mono fun _ _ _ hx=>hx.le cB))
  rw[<-e2]at bS;obtain⟨a9,c9,rfl,uN,uP⟩:=Sl.fV vu bS;refine aA (((n+1:Nat):Int)) ?_;exact qj (n+1,a9,c9,M9) _ _ ⟨rfl,rfl,rfl,rfl,rfl,rfl,tV⟩ ⟨by simp only at jU⊢;omega,uN,uP,aQ.trans (bT.trans cB),h.aF⟩ (by simp only at jU⊢;omega)
end
section
variable {W:Wd}{M:Mem}{w0:World}{a:Option Addr}{c:Nat}
theorem No{t:Ty}{p n:Int}{cs:List Value}(hM:M.Le (Wm w0))(hW:eK M W a c)(eo:cC M t cs)(hb:W.aj<=2^32)(dF:t.aj<=2^32):
 az prog 6 [bK W a c,.agg cs.toArray,.int .i64 p,.int .i64 n] w0 fun r w'=>∃M',RB r (cN p/\bL n/\ej W t)/\Gr M w0 M' w':=by
 obtain⟨x1,d1,x2,d2,x3,d3,x4,d4,rfl,_⟩:=eo.lit;have h:=SH.start hM;refine aL mixed func6 c6 ?_;refine au h ?_;clear h;intro b5 w h;refine b_ [] h ?_;clear h;intro w h;refine aI (fun g0=> ?_) (fun g1=> ?_);rotate_left 1
 .refine aI ?_ trivial;refine aI ?_ trivial;refine aI ?_ trivial;refine aI ?_ trivial;exact⟨M,.inr rfl,h.gr⟩
 refine aI (fun q0=> ?_) (fun q1=> ?_);rotate_left 1
 .refine aI ?_ trivial;refine aI ?_ trivial;refine aI ?_ trivial;refine aI ?_ trivial;exact⟨M,.inr rfl,h.gr⟩
 refine aI ?_ trivial;by_cases hn:bL n;rotate_left 1
 .have hc:∀w,az prog 18 [.int .i64 n] w fun r w'=>r= .bool false/\Fr [] w w':=fun w=>by
   have:=oP (w:=w) (n:=n);rwa [qaK hn]at this
  refine dg h (hc _) ?_;clear h;rintro _ w rfl h;refine aI ?_ trivial;refine aI ?_ trivial;refine aI ?_ trivial;exact⟨M,.inr rfl,h.gr⟩
 have hc:∀w,az prog 18 [.int .i64 n] w fun r w'=>r= .bool true/\Fr [] w w':=fun w=>by
  have:=oP (w:=w) (n:=n);rwa [qaH hn]at this
 refine dg h (hc _) ?_;clear h;rintro _ w rfl h;refine lc h ?_;refine aI ?_ trivial;refine fN h (GT h.le hW hb) ?_;clear h;rintro _ M2 w ⟨a2,c2,rfl,yv⟩ aQ h;refine aI ?_ trivial;refine fN h (Ea _ t (qam _) _ _ h.le (eo.le aQ) dF) ?_;clear h;rintro _ M3 w ⟨Cq,rfl,Dm⟩ bT h;refine aI ?_ trivial;refine dg h (XW h.le (yv.fr bT) Dm hb dF) ?_;clear h;rintro _ w (⟨rfl,hf⟩|rfl) h
 .exact⟨M3,.inl ⟨rfl,by unfold cN;omega,hn,hf⟩,h.gr⟩
 exact⟨M3,.inr rfl,h.gr⟩
def El(W:Wd)(obj:Int)(i:Nat):Prop:=W.start i<=obj/\obj<W.start i+(W.at i).methods.length
def BR(W:Wd)(DM:Nat->List Int)(jR want:List Int)(obj gC:Int)(k:Nat):Prop:=
 jR.length=want.length/\jR.take k=want.take k/\
  (want[k]?≠some (-1)->jR[k]? =want[k]?)/\
  (want[k]? =some (-1)->0<gC->∃g,jR[k]? =some g/\0<=g/\g<gC)/\
  (want[k]? =some (-1)->gC<=0->∃i g,i<W.length/\El W obj i/\(∀j,j<i->¬El W obj j)/\jR[k]? =some g/\0<=g/\(DM i)[g.toNat]? =some obj)
theorem zcr{jR want:List Int}{obj gC:Int}{vg vw:Value}(hM:M.Le (Wm w0))(hW:eK M W a c)(hb:W.aj<=2^32)
 (hg:Sl M 1 dO vg jR) (J9:Sl M 1 dO vw want) (yG:jR.length<=2^40) (vE:want.length<=2^40) {k:Nat} (hk:want.length=k+1) (DM:Nat->List Int)
 (hD:∀(N:Mem) (w:World) (i:Nat),M.Le N->N.Le (Wm w)->i<W.length->az prog 34 [bK W a c,.int .i64 i] w fun r w'=>∃M',Sl M' 1 dO r (DM i)/\Gr N w M' w'):
 az prog 17 [bK W a c,vg,vw,.int .i64 obj,.int .i64 gC] w0 fun r w'=>∃M' b,r= .bool b/\(BR W DM jR want obj gC k->b=true)/\Gr M w0 M' w':=by
 obtain⟨ag,cg,rfl,Fe,OG⟩:=hg;obtain⟨aw,cw,rfl,hcw,OL⟩:=J9;have h:=SH.start hM;refine aL mixed func17 Vw ?_;refine aA ((k:Int)) ?_;refine b_ [] h ?_;clear h;intro w h;refine aI (fun eq=> ?_) (fun ne=> ?_);rotate_left 1
 .refine aI ?_ (aI ?_ trivial);rotate_left
  all_goals
   refine aI ?_ trivial;refine aI ?_ trivial;exact⟨_,false,rfl,fun hP=>absurd hP.1 (by omega),h.gr⟩
 refine aI ?_ (aI ?_ trivial);refine qai k (qai cg (aI ⟨rfl,rfl,by omega,qad _⟩ (qai _ (aI ⟨(Fr.refl _).nil,fun _ hb=> .inl hb⟩ ?_))));refine aI ?_ trivial;refine qai k (qai cw (aI ⟨rfl,rfl,by omega,qad _⟩ (qai _ (aI ⟨(Fr.refl _).nil,fun _ hb=> .inl hb⟩ ?_))));rotate_left;refine qai k (qai cw (aI ⟨rfl,rfl,by omega,qad _⟩ (qai _ (aI ⟨(Fr.refl _).nil,fun _ hb=> .inl hb⟩ ?_))));refine aI ?_ trivial;refine qai k (qai cg (aI ⟨rfl,rfl,by omega,qad _⟩ (qai _ (aI ⟨(Fr.refl _).nil,fun _ hb=> .inl hb⟩ ?_))))
 all_goals
  refine aI ?_ trivial;have hc:∀w,M.Le (Wm w)->az prog 13 [.slice ag k cg,.slice aw k cw] w fun r w'=>(r= .bool true/\jR.take k=want.take k\/r= .bool false/\jR.take k≠want.take k)/\Fr [] w w':=fun w hw=>by
   have h1:=(OG.take k).sl (c:=cg) (by rw[qaG];omega);have h2:=(OL.take k).sl (c:=cw) (by rw[qaG];omega);rw[qaG,qaY (by omega)]at h1 h2;refine(Km hw h1 h2 (by rw[qaG];omega)).mono fun r w' hr=>⟨?_,hr.2⟩;by_cases hx:jR.take k=want.take k
   .exact .inl ⟨by rw[hr.1,qaH hx],hx⟩
   exact .inr ⟨by rw[hr.1,qaK hx],hx⟩
  refine dg h (hc _ h.le) ?_;clear h;rintro _ w (⟨rfl,Dq⟩|⟨rfl,Dq⟩) h;rotate_left 1
  .exact⟨_,false,rfl,fun hP=>absurd hP.2.1 Dq,h.gr⟩
  have mi:k<jR.length:=by omega
  have PX:k<want.length:=by omega
  obtain⟨bg,og,cig,rfl,_,fw,rfl⟩:=OG.at mi;obtain⟨bw,ow,ciw,rfl,_,Do,rfl⟩:=OL.at PX;have wV:jR[k]? =some jR[k]:=by simp[mi]
  have nK:want[k]? =some want[k]:=by simp[PX]
  obtain⟨g,ro⟩:∃g,g=jR[k]:=⟨_,rfl⟩;obtain⟨u,hud⟩:∃g,g=want[k]:=⟨_,rfl⟩;rw[<-ro]at wV fw;rw[<-hud]at nK Do;refine aJ (k) ?_;refine aP h (Do 0 _ rfl) ?_;refine aI (fun um=> ?_) (fun un=> ?_);rotate_left 1
  .refine b_ [] h ?_;clear h;intro w h;refine aJ (k) ?_;refine cd h (fw 0 _ rfl) ?_;refine aJ (k) ?_;refine cd h (Do 0 _ rfl) ?_;refine aI (fun e1=> ?_) (fun e2=> ?_)
   .exact⟨_,true,rfl,fun _=>rfl,h.gr⟩
   exact⟨_,false,rfl,fun hP=>absurd (hP.2.2.1 (by rw[nK];simpa using un)) (by rw[wV,nK];simpa using e2),h.gr⟩
  have J8:want[k]? =some (-1):=by rw[nK,um]
  refine aI (fun am=> ?_) (fun an=> ?_)
  .have N_:BR W DM jR want obj gC k->0<=g/\g<gC:=fun hP=>by
    obtain⟨g',h1,h2⟩:=hP.2.2.2.1 J8 am;rw[wV]at h1;cases h1;exact h2
   refine aJ (k) ?_;refine aP h (fw 0 _ rfl) ?_;refine aI (fun p1=> ?_) (fun p2=> ?_)
   .refine aJ (k) ?_;refine aP h (fw 0 _ rfl) ?_;refine aI (fun p3=> ?_) (fun p4=> ?_)
    .exact⟨_,true,rfl,fun _=>rfl,h.gr⟩
    exact⟨_,false,rfl,fun hP=>by have:=N_ hP;omega,h.gr⟩
   exact⟨_,false,rfl,fun hP=>by have:=N_ hP;omega,h.gr⟩
  refine fk h (GT h.le hW hb) ?_;clear h;rintro _ M2 w ⟨a2,c2,rfl,yv⟩ aQ h;refine bN (X:=Nat) (fun j=>[(0,bK W a c),(1,.slice (some ⟨bg,og,none⟩) jR.length cg),(3,.int .i64 obj),(11,.int .i64 (k:Int)),(12,bK W a2 c2),(66,.int .i64 (W.length:Int)),(67,.int .i64 (j:Int))])
   (fun j w=>j<=W.length/\(∀i,i<j->¬El W obj i)/\SH w0 M [] M2 [] w) (fun j=>W.length-j) 0 ⟨rfl,rfl,rfl,rfl,rfl,rfl,rfl,tV⟩ ⟨qae _,by intros;omega,h.aF⟩ ?_
  clear h;intro j aK w N ⟨hj,bz,h⟩ hN;refine aI (fun jl=> ?_) (fun jg=> ?_);rotate_left 1
  .exact⟨_,false,rfl,fun hP=>by obtain⟨i,g',hi,Ij,_⟩:=hP.2.2.2.2 J8 an;exact absurd Ij (bz i (by omega)),h.gr⟩
  have eM:j<W.length:=by omega
  obtain⟨b,o,ci,rfl,hl,aO,aE⟩:=hW.el.at eM;obtain⟨y1,e1,y2,e2,y3,e3,y4,e4,y5,e5,rfl,_⟩:=aE.lit;have hfc:=W.facts j eM;have cK:=W.wx j eM;refine s_call h (Gu h.le yv hj (by omega)) ?_;clear h;rintro _ w rfl h;refine aI (fun s1=> ?_) (fun s2=> ?_);rotate_left 1
  .refine aA (((j+1:Nat):Int)) ?_;refine hN (j+1) _ _ ⟨rfl,rfl,rfl,rfl,rfl,rfl,rfl,tV⟩ ⟨eM,fun i hi=> ?_,h.aF⟩ (by omega);rcases qa1 i j with h1|h1
   .exact bz i h1
   obtain rfl:i=j:=by omega
   intro hx;have:=hx.1;omega
  refine aJ (j) ?_;refine aP h ((aO.le aQ) 9 _ rfl) ?_;refine aA (((W.start j+W[j].methods.length:Nat):Int)) ?_;refine aI (fun s3=> ?_) (fun s4=> ?_);rotate_left 1
  .refine aA (((j+1:Nat):Int)) ?_;refine hN (j+1) _ _ ⟨rfl,rfl,rfl,rfl,rfl,rfl,rfl,tV⟩ ⟨eM,fun i hi=> ?_,h.aF⟩ (by omega);rcases qa1 i j with h1|h1
   .exact bz i h1
   obtain rfl:i=j:=by omega
   intro hx;have h2:=hx.2;rw[cK]at h2;omega
  have Ij:El W obj j:=⟨by omega,by rw[cK];omega⟩;have E7:BR W DM jR want obj gC k->0<=g/\(DM j)[g.toNat]? =some obj:=fun hP=>by
   obtain⟨i,g',hi,za0,uS,h1,h2,h3⟩:=hP.2.2.2.2 J8 an;rw[wV]at h1;cases h1;obtain rfl:i=j:=by
    rcases qbZ i j with h4|h4|h4
    .exact absurd za0 (bz i h4)
    .exact h4
    exact absurd Ij (uS j h4)
   exact⟨h2,h3⟩
  by_cases Fs:g.toNat<(DM j).length
  .have hD':∀w,M2.Le (Wm w)->az prog 34 [bK W (some ⟨b,o,none⟩) c,.int .i64 j] w fun r w'=>∃M',(∃b3 o3 c3,r= .slice (some ⟨b3,o3,none⟩) (DM j).length c3/\M'.cell b3 (o3+g.toNat*1)=some (.int .i64 (DM j)[g.toNat]))/\Gr M2 w M' w':=fun w hw=>by
    refine(hD M2 w j aQ hw eM).mono fun r w' hr=> ?_;obtain⟨M',⟨a3,c3,rfl,_,AB⟩,ny⟩:=hr;obtain⟨b3,o3,W5,rfl,_,yZ,rfl⟩:=AB.at Fs;exact⟨M',⟨b3,o3,c3,rfl,yZ 0 _ rfl⟩,ny⟩
   refine fk h (hD' _ h.le) ?_;clear h;rintro _ M3 w ⟨b3,o3,c3,rfl,kX⟩ bT h;have AW:=fw.le (aQ.trans bT);refine aJ (k) ?_;refine aP h (AW 0 _ rfl) ?_;refine aI (fun p1=> ?_) (fun p2=> ?_);rotate_left 1
   .exact⟨_,false,rfl,fun hP=>by have:=(E7 hP).1;omega,h.gr⟩
   refine aJ (k) ?_;refine aP h (AW 0 _ rfl) ?_;refine aI (fun p3=> ?_) (fun p4=> ?_);rotate_left 1
   .exact⟨_,false,rfl,fun hP=>by omega,h.gr⟩
   refine aJ (k) ?_;refine aP h (AW 0 _ rfl) ?_;refine aJ (g.toNat) ?_;refine aP h kX ?_;refine aI (fun z1=> ?_) (fun z2=> ?_)
   .exact⟨_,true,rfl,fun _=>rfl,h.gr⟩
   exact⟨_,false,rfl,fun hP=>by have h3:=(E7 hP).2;rw[qaa Fs]at h3;exact absurd (by simpa using h3) z2,h.gr⟩
  refine fk h (hD M2 _ j aQ h.le eM) ?_;clear h;rintro _ M3 w ⟨a3,c3,rfl,Fb,AB⟩ bT h;have AW:=fw.le (aQ.trans bT);refine aJ (k) ?_;refine aP h (AW 0 _ rfl) ?_;refine aI (fun p1=> ?_) (fun p2=> ?_);rotate_left 1
  .exact⟨_,false,rfl,fun hP=>by have:=(E7 hP).1;omega,h.gr⟩
  refine aJ (k) ?_;refine aP h (AW 0 _ rfl) ?_;refine aI (fun p3=> ?_) (fun p4=> ?_)
  .exact absurd p3 (by omega)
  exact⟨_,false,rfl,fun hP=>absurd (qab.1 (E7 hP).2).1 Fs,h.gr⟩
end
end Go.Proofs.YtlfcbbcdiecelaaGreatDoor
