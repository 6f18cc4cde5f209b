import Derived.Test.YtlfcbbcdiecelaaGreatDoorZ17
import Derived.Test.YtlfcbbcdiecelaaGreatDoorZ18
import Derived.Test.YtlfcbbcdiecelaaGreatDoorZ15
namespace Go.Proofs.YtlfcbbcdiecelaaGreatDoor
open Go Go.Proofs.Tryz
set_option maxRecDepth 100000
set_option maxHeartbeats 4000000
set_option linter.all false
section
open Go.MapKept
variable {t:Ty}
theorem cP.top{W:Wd}{d:Int}{v:Bool}(h:cP W d t v):∀v',cP W (-1) t v':=by
 induction h with
 |basic hk hh h0 h2=>exact fun v'=> .basic hk hh h0 h2
 |named hk hh hn hd=>exact fun v'=> .named hk hh hn (.inl (by have:=hn.1;omega))
 |to hk hh he hf ih=>exact fun v'=> .to hk hh he (ih false)
 |struct hk hh hf hn ih=>exact fun v'=> .struct hk hh (fun f hf=>ih f hf v') hn
 |iface hk hh hm ad he ih=>exact fun v'=> .iface hk hh hm ad fun e he=>ih e he true
section
variable {W:Wd}{s:Sp}
theorem GS.X0(h:GS W s):wl W s:=by obtain⟨d,v,hf⟩:=h.form;exact⟨-1,hf.top true⟩
theorem bY.of(g:GD W)(h:VS W s):bY W s:=by
 by_cases hk:s.of.kind=1
 .exact .named g h.gs hk
 exact .lit h.gs hk h.val h.gs.X0
theorem RL.all(g:GD W)(h:GS W s):RL W (W.length+2) s:=by
 obtain⟨d,v,hf⟩:=(h.plain g.gw).form;exact .inr ⟨-1,true,hf.top true,.inl (by decide),by omega⟩
theorem ym(g:GD W)(h:GS W s)(hb:s.of.aj<=2^19):(W.under s).of.fields.length<=2^19:=by
 by_cases hk:s.of.kind=1
 .obtain⟨q,q1,_,q3⟩:=zJ g.later (h.ok.num hk);rw[kM g.later hk (h.ok.num hk),q1];have b1:=Wd.sQ (W.mem q q3);have b2:=(W.at q).of.lB;have b3:=g.gw.aj;show(W.at q).of.fields.length<=_;omega
 rw[fO hk];have:=s.of.lB;omega
theorem VS.under(g:GD W)(h:VS W s)(hb:s.of.aj<=2^19):VS W (W.under s)/\(W.under s).of.aj<=2^19:=by
 by_cases hk:s.of.kind=1
 .obtain⟨q,q1,_,q3⟩:=zJ g.later (h.gs.ok.num hk);have e:W.under s=W.spot q:=by rw[kM g.later hk (h.gs.ok.num hk),q1]
  refine⟨⟨h.gs.under g.gw,by rw[e];exact g.valid q q3⟩,?_⟩;rw[e];have b1:=Wd.sQ (W.mem q q3);have b3:=g.gw.aj;show(W.at q).of.aj<=_;omega
 rw[fO hk];exact⟨h,hb⟩
theorem VS.ptr(g:GD W)(h:VS W s)(hb:s.of.aj<=2^19)(hk:(W.under s).of.kind=2):VS W (W.under s).elem/\(W.under s).elem.of.aj<=2^19:=by
 obtain⟨h1,h2⟩:=h.under g hb;refine⟨h1.elem (.inl hk),?_⟩;have:=Ty.pe (Sp.uF (h1.gs.ok.el (.inl hk)));omega
end
def Er(W:Wd)(E:Ev)(g:Tg)(id:ByteArray)(addr:Bool)(r:Value)(M:Mem):Prop:=
 (∃o:Ob,Uq W g.s g.ptr id (o.e.nS W) o.ie/\r7 W E M id o/\(g.fields=true->o.ie.bO=false)/\(o.ie.bO=true->o.ie.ptr=true->o.e.ind=true\/addr=true)/\¬(g.ptr=true/\(W.under g.s).of.kind=5)/\r= .tuple #[.iface o.t (vp o.b),o.iv,.bool o.e.ind])\/
 (∃iv xs i,r= .tuple #[.nilIface,iv,.bool i]/\Sl M 1 dO iv xs/\((g.ptr=true/\(W.under g.s).of.kind=5)\/∀x e,Uq W g.s g.ptr id x e->e.bO=true/\(g.fields=true\/(e.ptr=true/\x.ind=false/\addr=false))))
section
variable {W:Wd}{E:Ev}{w0:World}
theorem zcT(g:GD W)(B:eZ W E){v:Value}{addr:Bool}{q n:Int}{pb:Nat}{px:Value}(fv:∀d∈W,∀m∈d.methods,bL m.1)
 (kY:Den W E (W.operand t) v) (dR:VS W (W.operand t)) (jS:t.aj<=2^19) (iO:Bk E.mem pb [.string (dY q),px]) (hq:cN q) (hn:bL n) (h8:n≠8) (hM:E.mem.Le (Wm w0)):
 az prog 53 [v,.bool addr,vp pb,.string (bZ n),.bool false] w0 fun r w'=>∃M',Er W E (W.target t) (aM q n) addr r M'/\Gr E.mem w0 M' w':=by
 have h:=SH.start hM;obtain⟨tv,bv,rfl,_⟩:=kY.iface;have km:=dR.gs.ok.num;have eF:=ku g.later km;have jo:=oX g.later km;refine aL mixed func53 Wq ?_;refine s_call h (z8 B g.later h.le kY km) ?_;clear h;have rest:¬((W.plain (W.operand t)).of.kind=1/\(W.under (W.operand t)).of.kind=2)->∀w,E.mem.Le (Wm w)->az prog 109 [.iface tv (vp bv),.bool addr,vp pb,.string (bZ n),.bool false] w fun r w'=>∃M',Er W E (W.target t) (aM q n) addr r M'/\Gr E.mem w M' w':=fun k7 w hw=>by
  by_cases hk:(W.under (W.operand t)).of.kind=2;have dC:(W.plain (W.operand t)).of.kind≠1:=fun h=>k7 ⟨h,hk⟩;have ko:W.under (W.operand t)=W.plain (W.operand t):=by rw[<-eF,fO dC]
  obtain⟨p1,p2⟩:=dR.ptr g jS hk;have gS:W.target t=⟨W.plain (W.under (W.operand t)).elem,true,false,(W.target t).ok⟩:=by
   unfold Wd.target;rw[eF,if_neg (by simp[hk])];simp[dC]
  have hl:=bY.of g p1;have e1:(W.target t).s=W.plain (W.under (W.operand t)).elem:=by rw[gS]
  have e2:(W.target t).ptr=true:=by rw[gS]
  have e3:(W.target t).fields=false:=by rw[gS]
  have hc:=Kf g B (s:=(W.target t).s) (s0:=W.operand t) (addr:=addr) (ind:=true) (w0:=w) fv kY dR.gs (by rw[e1];exact hl.plain g) iO hq hn h8
   (.inl ⟨by rw[<-ko];exact hk,rfl,by rw[<-ko];exact hl,by rw[<-ko,e1,oX g.later p1.gs.ok.num],by rw[<-ko];exact RL.all g p1.gs,by rw[<-ko];exact ym g p1.gs p2⟩) hw
  rotate_left;have gS:W.target t=⟨W.plain (W.operand t),false,false,true⟩:=by
   unfold Wd.target;rw[eF,if_pos (by simp[hk])]
  have hl:=bY.of g dR;have e1:(W.target t).s=W.plain (W.operand t):=by rw[gS]
  have e2:(W.target t).ptr=false:=by rw[gS]
  have e3:(W.target t).fields=false:=by rw[gS]
  have dE:(W.plain (W.operand t)).of.kind≠2:=fun h2=>by
   rw[fO (s:=W.plain _) (by rw[h2];decide)]at eF;rw[<-eF]at hk;exact hk h2
  have hc:=Kf g B (s:=(W.target t).s) (s0:=W.operand t) (addr:=addr) (ind:=false) (w0:=w) fv kY dR.gs (by rw[e1];exact hl.plain g) iO hq hn h8
   (.inr ⟨dE,rfl,hl,by rw[e1,jo],RL.all g dR.gs,ym g dR.gs jS⟩) hw
  all_goals
   refine hc.mono ?_;rintro r w' ⟨M',hr,hg⟩;refine⟨M',?_,hg⟩;rcases hr with⟨o,h1,h2,h3,h4,h5⟩|⟨iv,xs,i,h1,h2,h3⟩
   .exact .inl ⟨o,by rw[e2];exact h1,h2,fun h=>(by rw[e3]at h;cases h),h3,by rw[e2];exact h4,h5⟩
   refine .inr ⟨iv,xs,i,h1,h2,?_⟩;rw[e2,e3];exact h3.imp_right fun h3 x e hu=>⟨(h3 x e hu).1,.inr (h3 x e hu).2⟩
 rintro _ w (⟨nb,rfl,dx,nE⟩|⟨rfl,dx⟩) h;rotate_left 1
 .refine fk h (rest (fun hx=>dx hx.1) _ h.le) ?_;clear h;rintro r M' w hr hle h;rcases hr with⟨o,h1,h2,h3,h4,h5,rfl⟩|⟨iv,xs,i,rfl,h2,h3⟩
  .exact⟨M',.inl ⟨o,h1,h2,h3,h4,h5,rfl⟩,SH.gr h⟩
  exact⟨M',.inr ⟨iv,xs,i,rfl,h2,h3⟩,SH.gr h⟩
 obtain⟨Bu,La⟩:=pR g.later km dx;have hint:(((W.plain (W.operand t)).of.num.toNat:Nat):Int)=(W.plain (W.operand t)).of.num:=by have:=Bu.1;omega
 obtain⟨ob,u,vm,bF,n1,_,n3,_⟩:=B.ctx.nm _ nb Bu.2 (by rw[hint];exact La) nE;rw[hint,<-kM g.later dx Bu,eF]at n3;obtain⟨tu,bu,rfl,htu⟩:=n3.iface;refine s_call h (Rf h.le (n1.at 5 rfl) (n1.at 6 rfl) (n1.at 7 rfl)) ?_;clear h;rintro _ w rfl h;have rA:=Ec g.later km;obtain⟨t',b',he,oH⟩:=n3.tag (fun h=>absurd h rA);obtain⟨rfl,aW⟩:=qaP he;have aW:=kN aW;subst aW;by_cases hk:(W.under (W.operand t)).of.kind=2
 .have:tu=221:=by
   rcases oH with⟨_,h,_⟩|⟨_,h⟩|⟨h,_⟩|⟨_,h⟩|⟨_,h⟩|⟨_,h,_⟩;rotate_left 2
   .exact h
   all_goals(rw[hk]at h;cases h)
  subst this;obtain⟨p1,p2⟩:=dR.ptr g jS hk;have hl:=bY.of g p1;have ko:W.plain (W.under (W.operand t))=W.under (W.operand t):=eu (.inl rA);have gS:W.target t=⟨W.plain (W.under (W.operand t)).elem,true,true,(W.target t).ok⟩:=by
   unfold Wd.target;rw[eF,if_neg (by simp[hk])];simp[dx]
  have e1:(W.target t).s=W.plain (W.under (W.operand t)).elem:=by rw[gS]
  have e2:(W.target t).ptr=true:=by rw[gS]
  have e3:(W.target t).fields=true:=by rw[gS]
  refine fk h (Kf g B (s:=(W.target t).s) (s0:=W.under (W.operand t)) (addr:=false) (ind:=true) fv n3 (dR.gs.under g.gw) (by rw[e1];exact hl.plain g) iO hq hn h8
   (.inl ⟨by rw[ko];exact hk,rfl,by rw[ko];exact hl,by rw[ko,e1,oX g.later p1.gs.ok.num],by rw[ko];exact RL.all g p1.gs,by rw[ko];exact ym g p1.gs p2⟩) h.le) ?_
  clear h;rintro r M' w hr hle h;rcases hr with⟨o,h1,h2,h3,h4,rfl⟩|⟨iv,xs,i,rfl,h2,h3⟩
  .have bA:=h2.ty;obtain⟨oe,⟨zcx,im,il,ip,ii⟩,ot,RJ,RP⟩:=o;cases im with
   |true=>
    have rK:ot=128:=bA;subst rK;refine⟨M',.inr ⟨_,[],false,rfl,Sl.nil _ _ _,.inr fun x e hu=> ?_⟩,SH.gr h⟩;rw[e2]at hu;obtain⟨_,h6⟩:=hu.uniq g (by rw[e1];exact hl.plain g) h1;rw[h6];exact⟨rfl,.inl e3⟩
   |false=>
    have rK:ot=172:=bA;subst rK;exact⟨M',.inl ⟨_,by rw[e2];exact h1,h2,fun _=>rfl,fun h=>(by cases h),by rw[e2];exact h4,rfl⟩,SH.gr h⟩
  refine⟨M',.inr ⟨iv,xs,i,rfl,h2,?_⟩,SH.gr h⟩;rw[e2,e3];exact h3.imp_right fun h3 x e hu=>⟨(h3 x e hu).1,.inl rfl⟩
 have zal:tu≠221:=fun h=>by
  subst h;rcases oH with⟨h,_⟩|⟨h,_⟩|⟨_,h,_⟩|⟨h,_⟩|⟨h,_⟩|⟨h,_⟩;rotate_left 2
  .exact hk h
  all_goals cases h
 have fin:∀{K:Value->World->Prop},(∀r M' w',Er W E (W.target t) (aM q n) addr r M'->SH w0 E.mem [] M' [] w'->K r w')->az prog 109 [.iface tv (vp bv),.bool addr,vp pb,.string (bZ n),.bool false] w K:=fun hK=>
  fk h (rest (fun hx=>hk hx.2) _ h.le) fun r M' w' hr hle h=>hK r M' w' hr h
 rcases oH with⟨_,h6,_⟩|⟨rfl,_⟩|⟨h6,_⟩|⟨rfl,_⟩|⟨rfl,_⟩|⟨rfl,_⟩
 .exact absurd h6 rA
 rotate_left 1
 .exact absurd h6 zal
 all_goals
  refine fin ?_;rintro r M' w' hr h;rcases hr with⟨o,h1,h2,h3,h4,h5,rfl⟩|⟨iv,xs,i,rfl,h2,h3⟩
  .exact⟨M',.inl ⟨o,h1,h2,h3,h4,h5,rfl⟩,SH.gr h⟩
  exact⟨M',.inr ⟨iv,xs,i,rfl,h2,h3⟩,SH.gr h⟩
end
end
section
open Go.MapKept
variable {t:Ty}{S:BS}{M:Mem}{k b c:Nat}{a:Option Addr}{i addr:Bool}{n q:Int}
theorem Xi{t t':Nat}{A B:Prop}(h:¬t=t')(k:B):bif Nat.beq t t' then A else B:=by
 have:Nat.beq t t'=false:=by
  cases hb:Nat.beq t t' with
  |false=>rfl
  |true=>exact absurd (qaI hb) h
 rw[this];exact k
theorem R4:nO prog 128=true/\nO prog 172=true:=by
 refine⟨?_,?_⟩<;>kernel_rfl
structure BQ where
 obj:Int
 bO:Bool
 index:List Int
 ind:Bool
def TX(M:Mem)(f:BQ)(r:Value):Prop:=∃a c,r= .agg #[.int .i64 f.obj,.bool f.bO,.slice a f.index.length c,.bool f.ind]/\f.index.length<=c/\bQ M 1 dO a f.index
section
variable {W:Wd}{w0:World}
theorem Gb{t:TypeId}(hS:fq W S M)(e_:Bk M S.bb S.bc)(eT:Bk M S.ob S.oc)(ho:S.oc[k]? =some (.iface t (vp b)))(ht:t=128\/t=172)(hlen:S.oc.length<=2^40)(hM:M.Le (Wm w0)):
 az prog 52 [vp S.bb,.iface t (vp b)] w0 fun r w'=>r= .int .i64 (k:Int)/\Fr [] w0 w':=by
 have h:=SH.start hM;have fG:M.own b:=by
  rcases hS.xD k _ ho with h1|⟨t',b',h1,h2⟩
  .cases h1
  rw[kN (qaP h1).2];exact h2
 have FG:nO prog t=true:=by rcases ht with rfl|rfl;exact R4.1;exact R4.2
 refine aL mixed func52 Wp ?_;refine aP h (e_.at 2 rfl) ?_;refine bN (X:=Nat) (fun i=>[(1,.iface t (vp b)),(10,.slice (some ⟨S.ob,0,none⟩) S.oc.length S.oc.length),(11,.int .i64 (S.oc.length:Int)),(12,.int .i64 (i:Int))])
  (fun i w=>i<=S.oc.length/\(∀j,j<i->S.oc[j]?≠some (.iface t (vp b)))/\SH w0 M [] M [] w) (fun i=>S.oc.length-i) 0 ⟨rfl,rfl,rfl,rfl,tV⟩ ⟨qae _,fun j hj=>absurd hj (qav _),h⟩ ?_
 clear h;rintro i aK w N ⟨hi,bz,h⟩ hN;refine aI (fun aG=> ?_) (fun aY=> ?_);rotate_left 1
 .have:=(qab.1 ho).1;exact absurd ho (bz k (by omega))
 have hi':i<S.oc.length:=by omega
 obtain⟨v,hv⟩:∃v,S.oc[i]? =some v:=⟨_,qaa hi'⟩;have KW:v≠.iface t (vp b)->∀j,j<i+1->S.oc[j]?≠some (.iface t (vp b)):=fun aT j hj=>by
  by_cases pC:j=i
  .rw[pC,hv];exact fun h=>aT (qaF h)
  exact bz j (by omega)
 have kX:M.cell S.ob (0+i*1)=some v:=by rw[qbm,qb1];exact eT.at i hv
 refine aJ (i) ?_;refine aP h kX ?_;rcases hS.xD i v hv with rfl|⟨t',b',rfl,aW⟩
 .refine aA ((i+1:Nat):Int) ?_ (hy:=rfl);exact hN (i+1) _ _ ⟨rfl,rfl,rfl,rfl,tV⟩ ⟨hi',KW (fun h=>by cases h),h⟩ (by omega)
 by_cases oH:t'=t
 .subst oH;have fin:(⟨b',0,none⟩:Addr)=⟨b,0,none⟩->i=k:=fun he=>by
   have he:=qaL Addr.block he;simp only at he;subst he;exact hS.inj i k _ hv ho (fun h=>by cases h)
  rcases ht with rfl|rfl;rotate_left
  all_goals
   refine aI FG (aI (.inr ⟨h.le.own _ aW,h.le.own _ fG⟩) (aI (fun he=> ?_) (fun aT=> ?_)))
   .exact⟨qaL (fun z:Nat=>Value.int .i64 (z:Int)) (fin he),h.fr⟩
   refine aA ((i+1:Nat):Int) ?_ (hy:=rfl);exact hN (i+1) _ _ ⟨rfl,rfl,rfl,rfl,tV⟩ ⟨hi',KW (fun h=>aT (by rw[kN (qaP h).2])),h⟩ (by omega)
 refine Xi oH ?_;refine aA ((i+1:Nat):Int) ?_ (hy:=rfl);exact hN (i+1) _ _ ⟨rfl,rfl,rfl,rfl,tV⟩ ⟨hi',KW (fun h=>oH (qaP h).1),h⟩ (by omega)
theorem X2{bb:Nat}{xs:List Int}(hM:M.Le (Wm w0)):az prog 21 [vp bb,.nilIface,.slice a xs.length c,.bool i] w0 fun r w'=>r= .agg #[.int .i64 (-1),.bool false,.slice a xs.length c,.bool i]/\Fr [] w0 w':=by
 have h:=SH.start hM;refine aL mixed func21 c21 ?_;refine au h ?_;clear h;intro b8 w h;refine aI trivial ?_;refine br h (cO (vs:=[.int .i64 (-1),.bool false,.slice a xs.length c,.bool i]) rfl) ?_;clear h;intro w h;refine bj h ?_;exact⟨rfl,h.fr⟩
theorem X3{t:TypeId}(hS:fq W S M)(e_:Bk M S.bb S.bc)(eT:Bk M S.ob S.oc)(ho:S.oc[k]? =some (.iface t (vp b))){m:Bool}(ht:t=if m=true then 128 else 172)(hlen:S.oc.length<=2^40)(hM:M.Le (Wm w0)){n:Nat}:
 az prog 21 [vp S.bb,.iface t (vp b),.slice a n c,.bool i] w0 fun r w'=>r= .agg #[.int .i64 (k:Int),.bool m,.slice a n c,.bool i]/\Fr [] w0 w':=by
 have h:=SH.start hM;cases m with
 |true=>
  have ht:t=128:=ht;subst ht;refine aL mixed func21 c21 ?_;refine au h ?_;clear h;intro b8 w h;refine s_call h (Gb hS e_ eT ho (.inl rfl) hlen h.le) ?_;clear h;rintro _ w rfl h;refine br h (cO (vs:=[.int .i64 (k:Int),.bool true,.slice a n c,.bool i]) rfl) ?_;clear h;intro w h;refine bj h ?_;exact⟨rfl,h.fr⟩
 |false=>
  have ht:t=172:=ht;subst ht;refine aL mixed func21 c21 ?_;refine au h ?_;clear h;intro b8 w h;refine s_call h (Gb hS e_ eT ho (.inr rfl) hlen h.le) ?_;clear h;rintro _ w rfl h;refine br h (cO (vs:=[.int .i64 (k:Int),.bool false,.slice a n c,.bool i]) rfl) ?_;clear h;intro w h;refine bj h ?_;exact⟨rfl,h.fr⟩
def Ep(W:Wd)(g:Tg)(id:ByteArray)(addr:Bool)(f:BQ):Prop:=
 (∃x e,Uq W g.s g.ptr id x e/\(g.fields=true->e.bO=false)/\(e.bO=true->e.ptr=true->x.ind=true\/addr=true)/\¬(g.ptr=true/\(W.under g.s).of.kind=5)/\f=⟨e.num,e.bO,x.index++[(e.last:Int)],x.ind⟩)\/
 (f.obj= -1/\f.bO=false/\((g.ptr=true/\(W.under g.s).of.kind=5)\/∀x e,Uq W g.s g.ptr id x e->e.bO=true/\(g.fields=true\/(e.ptr=true/\x.ind=false/\addr=false))))
theorem zcS{E:Ev}(g:GD W)(B:eZ W E){v:Value}{pb:Nat}{px:Value}(fv:∀d∈W,∀m∈d.methods,bL m.1)
 (kY:Den W E (W.operand t) v) (dR:VS W (W.operand t)) (jS:t.aj<=2^19) (iO:Bk E.mem pb [.string (dY q),px]) (hq:cN q) (hn:bL n) (h8:n≠8) (hM:E.mem.Le (Wm w0)):
 az prog 22 [v,.bool addr,vp pb,.string (bZ n)] w0 fun r w'=>∃M',Er W E (W.target t) (aM q n) addr r M'/\Gr E.mem w0 M' w':=by
 have h:=SH.start hM;obtain⟨tv,bv,rfl,_⟩:=kY.iface;refine aL mixed func22 VJ ?_;refine fk h (zcT g B fv kY dR jS iO hq hn h8 h.le) ?_;clear h;rintro r M' w hr hle h;rcases hr with⟨o,h1,h2,h3,h4,h5,rfl⟩|⟨iv,xs,i,rfl,h2,h3⟩
 .exact⟨M',.inl ⟨o,h1,h2,h3,h4,h5,rfl⟩,SH.gr h⟩
 exact⟨M',.inr ⟨iv,xs,i,rfl,h2,h3⟩,SH.gr h⟩
theorem ej.vs(hF:ej W t)(hb:W.aj<=2^19)(cL:t.aj<=2^19):VS W (W.operand t):=⟨hF.gs hb (by omega),hF.GQ⟩
theorem Qg{tc:List Value}(hF:ej W t)(hT:fA M)(hM:M.Le (Wm w0))(cA:eK M W a c)(bA:cC M t tc)(lD:W.aj<=2^19)(cL:t.aj<=2^19)(hq:cN q)(hn:bL n)(h8:n≠8):
 az prog 7 [bK W a c,.agg tc.toArray,.bool addr,.int .i64 q,.int .i64 n] w0 fun r w'=>∃M',(∃f,TX M' f r/\Ep W (W.target t) (aM q n) addr f)/\Gr M w0 M' w':=by
 obtain⟨y1,d1,y2,d2,y3,d3,y4,d4,rfl,_⟩:=bA.lit;have g:=hF.gd lD;have h:=SH.start hM;refine aL mixed func7 c7 ?_;refine au (cs:=(bh t y1 d1 y2 d2 y3 d3 y4 d4)) h ?_;clear h;intro b6 w h;refine au h ?_;clear h;intro er w h;refine bj h ?_;refine fk h (Hk (hF.gw lD) hF (hT.le h.dG) h.le (cA.fr h.dG) (bA.le h.dG) lD cL) ?_;clear h;rintro _ M1 w ⟨S,v,rfl,B,hd,e_,oF,eT,AQ,hS⟩ bG h;have dW:=hS.pk;obtain⟨px,pG⟩:=dW.b q hq;have FG:=dW.c q hq;have Dj:S.oc.length<=2^40:=by
  have h1:=W.v_ W.length;have h2:=Ty.size_le _ t (qam _);omega
 obtain⟨tv,bv,rfl,_⟩:=hd.iface;have Pj:=fun b o v=>h.xA er (b:=b) (o:=o) (v:=v);refine b_ [er] h ?_;clear h;intro w h;refine cd h (e_.at 0 rfl) ?_ (hS:=Pj _ _ _ (e_.at 0 rfl));refine aJ q.toNat ?_ (by rcases hq with rfl|rfl<;>decide) (by rcases hq with rfl|rfl<;>rfl);refine cd h (by simpa using FG) ?_ (hS:=Pj _ _ _ FG);refine aI ?_ trivial;refine dg h (sN hn) ?_;clear h;rintro _ w rfl h;refine aI ?_ trivial;refine fN h (zcS (E:=S.ev W M1) g B hF.KE hd (hF.vs lD cL) cL pG hq hn h8 h.le) ?_;clear h;rintro r M2 w hr aQ h;rcases hr with⟨o,u1,u2,u3,u4,u5,rfl⟩|⟨iv,xs,i,rfl,u2,u3⟩
 .obtain⟨ai,ci,OZ,aE,kZ⟩:=u2.sl;obtain⟨oe,oi,ot,RJ,RP⟩:=o;simp only at OZ;subst OZ;refine aI ?_ trivial;refine dg h (X3 (W:=W) (S:=S) (M:=M1) (m:=oi.bO) hS e_ eT u2.ob u2.ty Dj (aQ.trans h.le)) ?_;clear h;rintro _ w rfl h;refine aI ?_ trivial;refine pP h (cO (vs:=[.int .i64 (oi.num:Int),.bool oi.bO,.slice ai (oe.index++[(oi.last:Int)]).length ci,.bool oe.ind]) rfl) ?_;clear h;intro w h;refine bj h ?_;exact⟨M2,⟨⟨oi.num,oi.bO,oe.index++[(oi.last:Int)],oe.ind⟩,⟨ai,ci,rfl,aE,kZ⟩,.inl ⟨_,oi,u1,u3,u4,u5,rfl⟩⟩,SH.gr h⟩
 obtain⟨ai,ci,rfl,aE,kZ⟩:=u2;refine aI ?_ trivial;refine dg h (X2 (M:=M2) (xs:=xs) h.le) ?_;clear h;rintro _ w rfl h;refine aI ?_ trivial;refine pP h (cO (vs:=[.int .i64 (-1),.bool false,.slice ai xs.length ci,.bool i]) rfl) ?_;clear h;intro w h;refine bj h ?_;exact⟨M2,⟨⟨-1,false,xs,i⟩,⟨ai,ci,rfl,aE,kZ⟩,.inr ⟨rfl,rfl,u3⟩⟩,SH.gr h⟩
end
end
section
open Go.MapKept
variable {b n c:Nat}{v:Value}{a:Option Addr}{t:Ty}
structure qP where
 obj:Int
 id:ByteArray
 index:List Int
 ind:Bool
@[reducible]def rM(x:qP)(a:Option Addr)(c:Nat):List Value:=[.int .i64 x.obj,.string x.id,.slice a x.index.length c,.bool x.ind]
def zL(M:Mem)(x:qP)(cs:List Value):Prop:=∃a c,cs=rM x a c/\x.index.length<=c/\bQ M 1 dO a x.index
theorem zL.le{M N:Mem}(hl:M.Le N){x:qP}{cs:List Value}(h:zL M x cs):zL N x cs:=by
 obtain⟨a,c,rfl,h1,h2⟩:=h;exact⟨a,c,rfl,h1,h2.gu hl⟩
theorem UB:h_ prog 47 47 50 4 56=true:=by kernel_rfl
theorem MY{α β:Type}{R:α->β->Prop}:∀{l:List α},(∀x∈l,∃y,R x y)->∃ys,bC R l ys
 |[],_=>⟨[],tV⟩
 |x::l,h=>by
  obtain⟨y,hy⟩:=h x (by simp);obtain⟨ys,mB⟩:=MY fun z hz=>h z (qag _ hz);exact⟨y::ys,hy,mB⟩
section
variable {w0:World}{M:Mem}
theorem St(hM:M.Le (Wm w0))(h2:M.cell b 2=some v):az prog 76 [vp b] w0 fun r w'=>r=v/\Fr [] w0 w':=by
 have h:=SH.start hM;refine aL mixed func76 WI ?_;refine aP h h2 ?_;exact⟨rfl,h.fr⟩
theorem zeL(hM:M.Le (Wm w0))(h2:M.cell b 3=some v):az prog 77 [vp b] w0 fun r w'=>r=v/\Fr [] w0 w':=by
 have h:=SH.start hM;refine aL mixed func77 WJ ?_;refine aP h h2 ?_;exact⟨rfl,h.fr⟩
theorem zeK(hM:M.Le (Wm w0))(h2:M.cell b 4=some v):az prog 78 [vp b] w0 fun r w'=>r=v/\Fr [] w0 w':=by
 have h:=SH.start hM;refine aL mixed func78 WK ?_;refine aP h h2 ?_;exact⟨rfl,h.fr⟩
theorem zdc(hM:M.Le (Wm w0))(h0:M.cell b 0=some (.slice a n c)):az prog 27 [vp b] w0 fun r w'=>r= .int .i64 (n:Int)/\Fr [] w0 w':=by
 have h:=SH.start hM;refine aL mixed func27 VW ?_;refine aP h h0 ?_;exact⟨rfl,h.fr⟩
theorem zdb{g o i:Nat}(hM:M.Le (Wm w0))(h0:M.cell b 0=some (.slice (some ⟨g,o,none⟩) n c))(hi:i<n)(hv:M.cell g (o+i*1)=some v):az prog 29 [vp b,.int .i64 ((i:Nat):Int)] w0 fun r w'=>r=v/\Fr [] w0 w':=by
 have h:=SH.start hM;refine aL mixed func29 V5 ?_;refine aP h h0 ?_;refine aJ (i) ?_;refine aP h hv ?_;exact⟨rfl,h.fr⟩
variable {W:Wd}
theorem zcB{M1:Mem}{S:BS}{x:bR}{k:Nat}{p n:Int}{Tv:Value}(hl:M1.Le M)(hS:fq W S M1)(hT:fA M)(e_:Bk M1 S.bb S.bc)(eT:Bk M1 S.ob S.oc)(ho:S.oc[k]? =some (.iface 128 (vp x.fb)))(hlen:S.oc.length<=2^40)(hx:Bk M x.b (x.cs Tv))(hf:ln M x.fb p n)(hM:M.Le (Wm w0)):
 az prog 28 [vp S.bb,vp x.b] w0 fun r w'=>r= .agg #[.int .i64 (k:Int),.string (aM p n),.slice x.a x.l x.c,.bool x.ind]/\Fr [] w0 w':=by
 have h:=SH.start hM;refine aL mixed func28 VY ?_;refine au h ?_;clear h;intro b4 w h;refine s_call h (St h.le (hx.at 2 rfl)) ?_;clear h;rintro _ w rfl h;refine s_call h (Gb hS e_ eT ho (.inl rfl) hlen (hl.trans h.le)) ?_;clear h;rintro _ w rfl h;refine s_call h (St h.le (hx.at 2 rfl)) ?_;clear h;rintro _ w rfl h;refine⟨70,vp x.fb,F3 x.fb,?_⟩;refine s_call h (xC hT h.le hf) ?_;clear h;rintro _ w rfl h;refine s_call h (zeL h.le (hx.at 3 rfl)) ?_;clear h;rintro _ w rfl h;refine s_call h (zeK h.le (hx.at 4 rfl)) ?_;clear h;rintro _ w rfl h;refine br h (cO (vs:=[.int .i64 (k:Int),.string (aM p n),.slice x.a x.l x.c,.bool x.ind]) rfl) ?_;clear h;intro w h;refine bj h ?_;exact⟨rfl,h.fr⟩
theorem zdC{E:Ev}(g:GD W)(B:eZ W E){tv:TypeId}{bv:Nat}(fv:∀d∈W,∀m∈d.methods,m.1≠8/\bL m.1)
 (kY:Den W E (W.operand t) (.iface tv (vp bv))) (dR:VS W (W.operand t)) (jS:t.aj<=2^19) (hM:E.mem.Le (Wm w0)):
 az prog 26 [.iface tv (vp bv)] w0 fun r w'=>∃M',Es W E (W.operand t) (W.target t).s (W.target t).ptr (.iface tv (vp bv)) r M'/\Gr E.mem w0 M' w':=by
 have km:=dR.gs.ok.num;have eF:=ku g.later km;have jo:=oX g.later km;by_cases hk:(W.under (W.operand t)).of.kind=2
 .obtain⟨p1,p2⟩:=dR.ptr g jS hk;have hl:=bY.of g p1;have e1:(W.target t).s=W.plain (W.under (W.operand t)).elem:=by
   unfold Wd.target;rw[eF,if_neg (by simp[hk])]
  have e2:(W.target t).ptr=true:=by
   unfold Wd.target;rw[eF,if_neg (by simp[hk])]
  refine Rt g B fv kY dR.gs (by rw[e1];exact hl.plain g) (fun k7=> .inl ?_) hM;have dC:(W.plain (W.operand t)).of.kind≠1:=fun h=>k7 ⟨h,hk⟩;have ko:W.under (W.operand t)=W.plain (W.operand t):=by rw[<-eF,fO dC]
  exact⟨by rw[<-ko];exact hk,e2,by rw[<-ko];exact hl,by rw[<-ko,e1,oX g.later p1.gs.ok.num],by rw[<-ko];exact RL.all g p1.gs,by rw[<-ko];exact ym g p1.gs p2⟩
 have hl:=bY.of g dR;have e1:(W.target t).s=W.plain (W.operand t):=by
  unfold Wd.target;rw[eF,if_pos (by simp[hk])]
 have e2:(W.target t).ptr=false:=by
  unfold Wd.target;rw[eF,if_pos (by simp[hk])]
 have dE:(W.plain (W.operand t)).of.kind≠2:=fun h2=>by
  rw[fO (s:=W.plain _) (by rw[h2];decide)]at eF;rw[<-eF]at hk;exact hk h2
 exact Rt g B fv kY dR.gs (by rw[e1];exact hl.plain g) (fun _=> .inr ⟨dE,e2,hl,by rw[e1,jo],RL.all g dR.gs,ym g dR.gs jS⟩) hM
def wr(W:Wd)(g:Tg)(l:List qP):Prop:=
 ((g.fields=true\/(g.ptr=true/\(W.under g.s).of.kind=5))/\l=[])\/
 (¬(g.fields=true\/(g.ptr=true/\(W.under g.s).of.kind=5))/\l.Pairwise (fun x y=>ga x.id y.id=true)/\
  (∀y∈l,(∃p n,cN p/\bL n/\y.id=aM p n)/\∃x e,Uq W g.s g.ptr y.id x e/\e.bO=true/\(e.ptr=true->x.ind=true)/\y.obj=(e.num:Int)/\y.index=x.index++[(e.last:Int)]/\(e.cM=false->y.ind=x.ind))/\
  (∀id x e,Uq W g.s g.ptr id x e->e.bO=true->(e.ptr=true->x.ind=true)->∃y∈l,y.id=id))
theorem bC.pw{α β:Type}{R:α->β->Prop}{P:α->α->Prop}{Q:β->β->Prop}(Oa:∀x y x' y',R x x'->R y y'->P x y->Q x' y'):∀{l:List α} {l':List β},bC R l l'->l.Pairwise P->l'.Pairwise Q
 |[],[],_,_=> .nil
 |x::l,y::l',h,hp=>by
  rw[qau]at hp⊢;refine⟨fun z hz=> ?_,bC.pw Oa h.2 hp.2⟩;obtain⟨i,hi,rfl⟩:=qak hz;have hl:=h.2.len;obtain⟨z',zg,hr⟩:=h.2.get (qaa (by omega:i<l.length));rw[qaa hi]at zg;cases zg;exact Oa _ _ _ _ h.1 hr (hp.1 _ (qaf _))
def LY(W:Wd)(E:Ev)(g:Tg)(Tv:Value)(M:Mem)(x:bR)(y:qP):Prop:=
 y.id=x.id/\y.ind=x.ind/\y.index.length=x.l/\x.l<=x.c/\bQ M 1 dO x.a y.index/\Bk M x.b (x.cs Tv)/\(∃p n,ln M x.fb p n/\x.id=aM p n)/\(∃k:Nat,y.obj=(k:Int)/\E.ob k 128 x.fb)/\
 ∃z e,Uq W g.s g.ptr y.id z e/\e.bO=true/\(e.ptr=true->z.ind=true)/\y.obj=(e.num:Int)/\y.index=z.index++[(e.last:Int)]/\(e.cM=false->y.ind=z.ind)
theorem Kg{tc:List Value}(hF:ej W t)(hT:fA M)(hM:M.Le (Wm w0))(cA:eK M W a c)(bA:cC M t tc)(lD:W.aj<=2^19)(cL:t.aj<=2^19):
 az prog 11 [bK W a c,.agg tc.toArray] w0 fun r w'=>∃M',(∃l,Sl M' 4 (zL M') r l/\l.length<=22/\wr W (W.target t) l)/\Gr M w0 M' w':=by
 obtain⟨y1,d1,y2,d2,y3,d3,y4,d4,rfl,_⟩:=bA.lit;have g:=hF.gd lD;have fv:∀d∈W,∀m∈d.methods,m.1≠8/\bL m.1:=fun d hd m hm=>by
  obtain⟨j,hj,rfl⟩:=qak hd;have h1:=(hF.decl j hj).name m;rw[W.wx j hj]at h1;exact(h1 hm).symm
 have dR:=hF.vs lD cL;have eF:=ku g.later dR.gs.ok.num;have h:=SH.start hM;refine aL mixed func11 U4 ?_;refine au (cs:=(bh t y1 d1 y2 d2 y3 d3 y4 d4)) h ?_;clear h;intro b3 w h;refine bj h ?_;refine fk h (Hk (hF.gw lD) hF (hT.le h.dG) h.le (cA.fr h.dG) (bA.le h.dG) lD cL) ?_;clear h;rintro _ M1 w ⟨S,v,rfl,B,hd,e_,oF,eT,AQ,hS⟩ bG h;have Dj:S.oc.length<=2^40:=by
  have h1:=W.v_ W.length;have h2:=Ty.size_le _ t (qam _);omega
 obtain⟨tv,bv,rfl,_⟩:=hd.iface;refine fk h (zdC (E:=S.ev W M1) g B fv hd dR cL h.le) ?_;clear h;rintro r M2 w hr aQ h;have Pc:∃rb av cv,∃l:List bR,∃ys:List qP,r=vp rb/\M2.cell rb 0=some (.slice av l.length cv)/\bQ M2 1 gz av (l.map fun x=>[vp x.b])/\l.length<=22/\bC (LY W (S.ev W M1) (W.target t) (.iface tv (vp bv)) M2) l ys/\wr W (W.target t) ys:=by
  have ON:(W.target t).fields=true↔((W.plain (W.operand t)).of.kind=1/\(W.under (W.operand t)).of.kind=2):=by
   unfold Wd.target;rw[eF];by_cases hk:(W.under (W.operand t)).of.kind=2
   .rw[if_neg (by simp[hk])];simp[hk]
   rw[if_pos (by simp[hk])];simp[hk]
  rcases hr with⟨hx,rb,rfl,hb⟩|⟨hx,⟨oL,jX,rb,rfl,hb⟩|⟨jX,rb,v,l,rfl,hb,cu,JB,C5,cz,uO⟩⟩
  .exact⟨rb,none,0,[],[],rfl,hb.at 0 rfl,bQ.nil _ _ _ _,qae _,tV,.inl ⟨.inl (ON.2 hx),rfl⟩⟩
  .exact⟨rb,none,0,[],[],rfl,hb.at 0 rfl,bQ.nil _ _ _ _,qae _,tV,.inl ⟨.inr ⟨oL,jX⟩,rfl⟩⟩
  obtain⟨av,cv,hv,sv,cE⟩:=cu;rw[qat]at hv sv;have kn:∀x∈l,∃y,LY W (S.ev W M1) (W.target t) (.iface tv (vp bv)) M2 x y:=fun x hx=>by
   obtain⟨wO,e,ie,hu,hs⟩:=cz x hx;obtain⟨p,n,_,ho,hid⟩:=hs.fn;obtain⟨aa,cc,za,JL,jp⟩:=hs.sl;simp only[qa5]at za;obtain⟨q1,q2,q3⟩:=za;refine⟨⟨(ie.num:Int),x.id,e.index++[(ie.last:Int)],x.ind⟩,rfl,rfl,q2.symm,by rw[q2,q3];exact JL,by rw[q1];exact jp,wO,⟨p,n,ho.le aQ,hid⟩,⟨ie.num,rfl,hs.ob⟩,e.nS W,ie,hu,hs.me,hs.ptr,rfl,rfl,hs.ind⟩
  obtain⟨ys,mB⟩:=MY kn;have pK:=mB.len;refine⟨rb,av,cv,l,ys,rfl,by rw[<-hv];exact hb.at 0 rfl,cE,C5,mB,.inr ⟨fun hq=> ?_,?_,fun y hy=> ?_,fun id x e hu hm hp=> ?_⟩⟩
  .rcases hq with hq|hq
   .exact hx (ON.1 hq)
   exact jX hq
  .exact mB.pw (fun x y x' y' h1 h2 h3=>by rw[h1.1,h2.1];exact h3) JB
  .obtain⟨i,hi,rfl⟩:=qak hy;obtain⟨y',rL,hr⟩:=mB.get (qaa (by omega:i<l.length));rw[qaa hi]at rL;cases rL;obtain⟨p,n,ho,hid⟩:=hr.2.2.2.2.2.2.1;exact⟨⟨p,n,ho.pO,ho.pN,by rw[hr.1];exact hid⟩,hr.2.2.2.2.2.2.2.2⟩
  obtain⟨z,hz,FS⟩:=uO id x e hu hm hp;obtain⟨i,hi,rfl⟩:=qak hz;obtain⟨y',rL,hr⟩:=mB.get (qaa hi);exact⟨y',qax rL,by rw[hr.1];exact FS⟩
 clear hr;refine qbd Pc fun rb hq=>qbd hq fun av hq=>qbd hq fun cv hq=>qbd hq fun l hq=>qbd hq fun ys hq=> ?_;clear Pc;have Ox:=hq.2.1;have cE:=hq.2.2.1;have C5:=hq.2.2.2.1;have mB:=hq.2.2.2.2.1;have jH:=hq.2.2.2.2.2;have pK:=mB.len;have hr:=hq.1;clear hq;subst hr;refine s_call h (zdc h.le Ox) ?_;clear h;rintro _ w rfl h;refine fB (X:=Nat×Value×List (List Value)) (Y:=Value×List (List Value)) 0 (fun x=>[(5,vp S.bb),(7,vp rb),(8,x.2.1),(19,.int .i64 (l.length:Int)),(20,.int .i64 (x.1:Int))])
  (fun x w=>x.1<=l.length/\bC (zL M2) (ys.take x.1) x.2.2/\SH w0 M [] M2 [.own x.2.1 4 50 x.2.2] w) (fun x=>l.length-x.1)
  (fun y=>[(8,y.1)]) (fun y w=>bC (zL M2) ys y.2/\SH w0 M [] M2 [.own y.1 4 50 y.2] w)
  (0,.slice none 0 0,[]) ⟨rfl,rfl,rfl,rfl,rfl,tV⟩ ⟨qae _,tV,(h.gV 4 50).aF⟩ ?_ ?_
 .clear h;rintro⟨i,v,css⟩ aK w N Z ⟨hi,d9,h⟩ hN hZ;simp only at hi d9 h;refine aI (fun aG=> ?_) (fun aY=> ?_);rotate_left 1
  .have:i=l.length:=by omega
   rw[this,pK,qay]at d9;exact hZ (v,css) _ _ ⟨rfl,tV⟩ ⟨d9,h⟩
  have eB:i<l.length:=by omega
  have yJ:i<ys.length:=by omega
  obtain⟨y',rL,jW⟩:=mB.get (qaa eB);rw[qaa yJ]at rL;obtain rfl:=qaF rL;obtain⟨q1,q2,q3,q4,q5,q6,⟨p,n,q7,q8⟩,⟨k,q9,q10⟩,_⟩:=jW;obtain⟨b',o',cs',hav,_,aO,zaW⟩:=cE i [vp l[i].b] (by simp[eB]);cases zaW;have rf:=aO 0 _ rfl;rw[qa6]at rf;have nt:=d9.len;rw[qaG]at nt;refine s_call h (zdb h.le (by rw[Ox,hav]) eB rf) ?_;clear h;rintro _ w rfl h;have hit:∀w1,M2.Le (Wm w1)->az prog 28 [vp S.bb,vp l[i].b] w1 fun r w'=>r= .agg (rM ys[i] l[i].a l[i].c).toArray/\Fr [] w1 w':=fun w1 hw=>by
   refine(zcB aQ hS (hT.le h.dG) e_ eT q10 Dj q6 q7 hw).mono fun r w' hr=>⟨?_,hr.2⟩;rw[hr.1,<-q8,<-q9,<-q3,<-q1,<-q2]
  refine s_call h (hit _ h.le) ?_;clear h;rintro _ w rfl h;refine au (cs:=(rM ys[i] l[i].a l[i].c)) h ?_;clear h;intro bq w h;refine gJ h UB h.df (de (cO (vs:=rM ys[i] l[i].a l[i].c) rfl)) ?_ (hb:=by simp only[qaw];omega);clear h;intro v2 w h;refine aA (((i+1:Nat):Int)) ?_;refine hN (i+1,v2,css++[rM ys[i] l[i].a l[i].c]) _ _ ⟨rfl,rfl,rfl,rfl,rfl,tV⟩ ⟨eB,d9.dN yJ ⟨_,_,rfl,by omega,q5⟩,h.aF⟩ (by simp only;omega)
 clear h;rintro⟨v,css⟩ aK w ⟨d9,h⟩;simp only at d9 h;obtain⟨M3,bT,cu,h⟩:=h.d6 v;exact⟨M3,⟨ys,Sl.fV (cu.mono (.refl _) fun _ _ _ h=>h) (d9.mono fun _ _ _ h=>h.le bT),by omega,jH⟩,SH.gr h⟩
end
end
section
open Go.MapKept
variable {t:Ty}
def T0:Ty:= .mk 0 0 [] [] [] []
theorem ej.t0{W:Wd}(h:ej W t):ej W T0 where
 name:=h.name
 aC:=h.aC
 form:=h.form
 tj:=h.tj
 once:=h.once
 EX:= .basic rfl ⟨.inr rfl,.inr rfl,.inr ⟨rfl,rfl⟩,.inl rfl⟩ (by decide) (by decide)
 valid:=h.valid
 decl:=h.decl
 GQ:= .mk _ (fun j m hj=>by cases hj) (fun i hi=>absurd hi (qav _)) (fun i hi=>absurd hi (qav _)) (fun j f hj=>by cases hj) (fun i hi=>absurd hi (qav _)) (fun i f hj=>by cases hj) (fun hn=>absurd rfl hn)
theorem L0:T0.aj<=2^19:=by rw[Ty.iW];decide
theorem L4(M:Mem):cC M T0 [.int .i64 0,.int .i64 0,.slice none 0 0,.slice none 0 0,.slice none 0 0,.slice none 0 0]:=
 cC.FV (t:=T0) (Sl.nil _ _ _) (Sl.nil _ _ _) (Sl.nil _ _ _) (Sl.nil _ _ _)
def yg(W:Wd)(j:Nat):List Int:=(List.range (W.at (j:Nat)).methods.length).map fun i=>((W.start j+i:Nat):Int)
@[reducible]def Cv(W:Wd)(j k:Nat):List (List Value):=(List.range k).map fun i=>[Value.int .i64 ((W.start j+i:Nat):Int)]
section
variable {w0:World}{M:Mem}{W:Wd}
theorem Xx{a:Option Addr}{c:Nat}{j:Nat}(hF:ej W t)(hT:fA M)(hM:M.Le (Wm w0))(cA:eK M W a c)(lD:W.aj<=2^19)(hj:j<W.length):
 az prog 34 [bK W a c,.int .i64 ((j:Nat):Int)] w0 fun r w'=>∃M',Sl M' 1 dO r (yg W j)/\Gr M w0 M' w':=by
 have h:=SH.start hM;have hF0:=hF.t0;have hfc:=W.facts j hj;have cK:=W.wx j hj;refine aL mixed func34 V_ ?_;refine fk h (Hk (hF.gw lD) hF0 (hT.le h.dG) h.le (cA.fr h.dG) (L4 M) lD L0) ?_;clear h;rintro _ M1 w ⟨S,v,rfl,B,hd,e_,oF,eT,AQ,hS⟩ bG h;have Dj:S.oc.length<=2^40:=by
  have h1:=W.v_ W.length;have h2:T0.size<=T0.aj:=Ty.size_le _ T0 (qam _);have h3:=L0;omega
 obtain⟨b,bA⟩:=B.Tk j hj;have vB:S.aR[j]? =some (.iface (dT W j) (vp b)):=bA;have hjt:j<S.aR.length:=(qab.1 vB).1;have kX:M1.cell S.tb (0+j*1)=some (.iface (dT W j) (vp b)):=by rw[qbm,qb1];exact oF.at j vB
 refine aP h (e_.at 1 rfl) ?_;refine aJ (j) ?_;by_cases iI:(W.at (j:Nat)).bU=true
 .have e1:dT W j=125:=by unfold dT;rw[if_pos iI]
  rw[e1]at kX;refine aP h kX ?_;have FB:(W.at (j:Nat)).methods=[]:=hF.tj _ (W.mem _ (Wd.wL hj)) iI;have e2:yg W j=[]:=by unfold yg;rw[FB];rfl
  rw[e2];exact⟨M1,Sl.nil _ _ _,SH.gr h⟩
 have e1:dT W j=120:=by unfold dT;rw[if_neg iI]
 rw[e1]at kX;obtain⟨an,cn,bF,hN⟩:=(B.ctx.nm j b hj (by simpa using iI) bA).m;have ov:=hN.len;have yQ:bF.length<=2^19:=by rw[ov,cK];omega
 refine aP h kX ?_;refine s_call h (RH h.le hN) ?_;clear h;rintro _ w rfl h;refine fB (X:=Nat×Value) (Y:=Value) 0 (fun x=>[(5,vp S.bb),(7,vp b),(9,x.2),(31,.int .i64 (bF.length:Int)),(32,.int .i64 (x.1:Int))])
  (fun x w=>x.1<=bF.length/\SH w0 M [] M1 [.own x.2 1 3 (Cv W j x.1)] w) (fun x=>bF.length-x.1)
  (fun y=>[(9,y)]) (fun y w=>SH w0 M [] M1 [.own y 1 3 (Cv W j bF.length)] w)
  (0,.slice none 0 0) ⟨rfl,rfl,rfl,rfl,rfl,tV⟩ ⟨qae _,(h.gV 1 3).aF⟩ ?_ ?_
 .clear h;rintro⟨i,v⟩ aK w N Z ⟨hi,h⟩ qj hZ;simp only at hi h;refine aI (fun aG=> ?_) (fun aY=> ?_);rotate_left 1
  .have:i=bF.length:=by omega
   rw[this]at h;exact hZ v _ _ ⟨rfl,tV⟩ h
  have eB:i<bF.length:=by omega
  have sC:i<(W.at (j:Nat)).methods.length:=by omega
  obtain⟨_,Dg⟩:=hN.all i bF[i] _ (qaa eB) (qaa sC);refine s_call h (F4 h.le hN eB) ?_;clear h;rintro _ w rfl h;refine s_call h (Gb hS e_ eT Dg (.inl rfl) Dj h.le) ?_;clear h;rintro _ w rfl h;refine au (cs:=[.int .i64 ((W.start j+i:Nat):Int)]) h ?_;clear h;intro bq w h;refine gJ h f_ h.df (de (cO (vs:=[Value.int .i64 ((W.start j+i:Nat):Int)]) rfl)) ?_ (hb:=by simp only[qat,qb0,qaw];omega);clear h;intro v2 w h;refine aA (((i+1:Nat):Int)) ?_;refine qj (i+1,v2) _ _ ⟨rfl,rfl,rfl,rfl,rfl,tV⟩ ⟨eB,?_⟩ (by simp only;omega);have e:Cv W j (i+1)=Cv W j i++[[Value.int .i64 ((W.start j+i:Nat):Int)]]:=by unfold Cv;rw[qbB,qaq];rfl
  rw[e];exact h.aF
 clear h;rintro v aK w h;obtain⟨M3,bT,cu,h⟩:=h.d6 v;refine⟨M3,Sl.fV cu ?_,SH.gr h⟩;rw[ov];exact bC.of_map fun q _=>rfl
theorem zcn{p n:Int}(hT:fA M)(hM:M.Le (Wm w0))(hp:cN p)(hn:bL n):az prog 32 [.int .i64 p,.int .i64 n] w0 fun r w'=>r= .string (aM p n)/\Fr [] w0 w':=by
 have h:=SH.start hM;refine aL mixed func32 MD ?_;refine au (cs:=[.string ⟨#[112]⟩,.string ⟨#[113]⟩]) h ?_;clear h;intro bq w h;rcases hp with rfl|rfl
 .refine aJ (0) ?_;refine ak h ?_;refine sX h F_ ?_;clear h;intro pb w h;obtain⟨M1,bG,iO,h⟩:=h.dA pb;refine s_call h (sN hn) ?_;clear h;rintro _ w rfl h;refine s_call h (Kc (p:=0) (hT.le bG) h.le iO (.inl rfl) hn) ?_;clear h;rintro _ w rfl h;exact⟨rfl,h.fr⟩
 refine aJ (1) ?_;refine ak h ?_;refine sX h F_ ?_;clear h;intro pb w h;obtain⟨M1,bG,iO,h⟩:=h.dA pb;refine s_call h (sN hn) ?_;clear h;rintro _ w rfl h;refine s_call h (Kc (p:=1) (hT.le bG) h.le iO (.inr rfl) hn) ?_;clear h;rintro _ w rfl h;exact⟨rfl,h.fr⟩
end
end
section
open Go.MapKept
def TA:Ty:= .mk 4 0 [] [(4,false,T0)] [] []
theorem BW:ej [] TA where
 name:=fun d hd=>by cases hd
 aC:=fun d hd=>by cases hd
 form:=fun i hi=>absurd hi (qav _)
 tj:=fun d hd=>by cases hd
 once:=fun i j h hj=>absurd hj (qav _)
 EX:= .struct rfl ⟨.inr rfl,.inl rfl,.inr ⟨rfl,rfl⟩,.inr rfl⟩ (fun f hf=>by
  rw[qac.1 hf];exact .basic rfl ⟨.inr rfl,.inr rfl,.inr ⟨rfl,rfl⟩,.inl rfl⟩ (by decide) (by decide)) (fun f hf=>by
  rw[qac.1 hf];exact⟨⟨by decide,by decide⟩,fun h=>by cases h⟩)
 valid:=fun i hi=>absurd hi (qav _)
 decl:=fun i hi=>absurd hi (qav _)
 GQ:=by
  refine .mk _ (fun j m hj=>by cases hj) (fun i hi=>absurd hi (qav _)) (fun i hi=>absurd hi (qav _)) (fun j f hj hf=> ?_) (fun i hi=> ?_) (fun i f hj hb=> ?_) (fun hn=>absurd rfl hn)
  .cases j with
   |zero=>intro hm;cases hm
   |succ j=>cases hj
  .have eB:i=0:=by have:i<1:=hi;omega
   subst eB;exact .mk _ (fun j m hj=>by cases hj) (fun i hi=>absurd hi (qav _)) (fun i hi=>absurd hi (qav _)) (fun j f hj=>by cases hj) (fun i hi=>absurd hi (qav _)) (fun i f hj=>by cases hj) (fun hn=>absurd rfl hn)
  cases i with
  |zero=>cases hj;cases hb
  |succ i=>cases hj
theorem G5:TA.aj<=2^19:=by
 have h0:T0.aj=1:=by rw[Ty.iW];rfl
 rw[Ty.iW];show 1+0+0+((1+T0.aj)+0)+0<=_;rw[h0];decide
theorem Uc:Wd.target [] TA=⟨Wd.operand [] TA,false,false,true⟩:=by
 unfold Wd.target;rfl
theorem BY:Wd.aj []<=2^19:=by decide
theorem L5:Uq [] (Wd.operand [] TA) false (aM 0 4) ⟨Wd.operand [] TA,[],false⟩ ⟨0,false,0,false,false⟩:=by
 have g:GD []:=BW.gd BY;have hv:bY [] (Wd.operand [] TA):=bY.of g (BW.vs BY G5);have ho:ep [] (Wd.operand [] TA) (aM 0 4) ⟨0,false,0,false,false⟩:= .eS (i:=0) (by decide) (by decide) (by decide);have hn:NN [] (aM 0 4) 0 (Wd.operand [] TA)=1:=Gd (e:=⟨Wd.operand [] TA,[],false,false⟩) g hv ho;exact⟨⟨0,⟨by rw[hn];decide,fun j hj=>absurd hj (qav _)⟩,hn,by simp only[Pf,qac];rfl⟩,ho⟩
theorem Ub{f:BQ}(h:Ep [] (Wd.target [] TA) (aM 0 4) false f):f.obj=0/\f.bO=false/\f.index=[0]:=by
 have g:GD []:=BW.gd BY;have hv:bY [] (Wd.operand [] TA):=bY.of g (BW.vs BY G5);rw[Uc]at h;rcases h with⟨x,e,hu,_,_,_,rfl⟩|⟨_,_,h|h⟩
 .obtain⟨rfl,rfl⟩:=hu.uniq g hv L5;exact⟨rfl,rfl,rfl⟩
 .cases h.1
 cases(h _ _ L5).1
section
variable {w0:World}{M:Mem}
theorem LO(hT:fA M)(hM:M.Le (Wm w0)):az prog 14 [] w0 fun r w'=>r= .bool true/\Fr [] w0 w':=by
 have h:=SH.start hM;refine aL mixed func14 Vj ?_;refine au (cs:=[.int .i64 4,.bool false,.int .i64 0,.int .i64 0,.slice none 0 0,.slice none 0 0,.slice none 0 0,.slice none 0 0]) h ?_;clear h;intro b3 w h;obtain⟨M1,bG,qk,h⟩:=h.dA b3;have bA:cC M1 TA [.int .i64 4,.int .i64 0,.slice none 0 0,.slice (some ⟨b3,0,none⟩) 1 1,.slice none 0 0,.slice none 0 0]:=
  cC.FV (t:=TA) (Sl.nil _ _ _) (Sl.one qk rfl ⟨_,rfl,L4 M1⟩) (Sl.nil _ _ _) (Sl.nil _ _ _)
 refine fk h (Qg (W:=[]) (a:=none) (c:=0) (addr:=false) (q:=0) (n:=4) BW (hT.le h.dG) h.le ⟨qad _,bQ.nil _ _ _ _⟩ bA BY G5 (.inl rfl) ⟨by decide,by decide⟩ (by decide)) ?_;clear h;rintro _ M2 w ⟨⟨fo,fm,fi,fd⟩,⟨ai,ci,rfl,aE,kZ⟩,mX⟩ aQ h;obtain⟨rfl,rfl,rfl⟩:=Ub mX;refine au h ?_;clear h;intro b1 w h;refine br h (cO (vs:=[.int .i64 0,.bool false,.slice ai 1 ci,.bool fd]) rfl) ?_;clear h;intro w h;refine ak h ?_;refine aI (fun e1=> ?_) (fun e2=> ?_);rotate_left 1
 .exact absurd rfl e2
 refine ak h ?_;refine ak h ?_;refine au (cs:=[.int .i64 0]) h ?_;clear h;intro bi w h;obtain⟨M3,bT,mP,h⟩:=h.dA bi;refine s_call h (Km h.le ((bQ.sl kZ aE).mono bT fun _ _ _ h=>h) (Sl.one (x:=(0:Int)) mP rfl rfl) (by show 1<=2^40;decide)) ?_;clear h;rintro _ w rfl h;refine s_call h (zcn (p:=0) (n:=4) (hT.le h.dG) h.le (.inl rfl) ⟨by decide,by decide⟩) ?_;clear h;rintro _ w rfl h;refine aI (fun _=>⟨rfl,h.fr⟩) (fun hx=>absurd ?_ hx);decide
end
end
section
variable {W:Wd}{s:Sp}{id:ByteArray}{e:IE}{ind:Bool}{t:Ty}{x:Way}{p n:Int}
theorem zdS(hW:GW W)(hs:GS W s){e:ng}(he:e∈W.own s id):e.cJ.length<=2^40:=by
 unfold Wd.own at he;rcases qah.1 he with he|he
 .split at he
  .obtain⟨i,_,hi⟩:=qbg.1 he;unfold nN at hi;split at hi
   .cases hi;show 1<=2^40;decide
   cases hi
  cases he
 rcases qah.1 he with he|he
 .obtain⟨i,_,hi⟩:=qbg.1 he;unfold la at hi;split at hi
  .cases hi;show 1<=2^40;decide
  cases hi
 split at he
 .obtain⟨i,IA,hi⟩:=qbg.1 he;have IA:=qaz.1 IA;unfold oU at hi;split at hi
  .cases hi;have h1:=(D3 hW (W.length*(W.aj+2)+(W.under s).of.aj+1) (hs.under hW) []).2;have h2:=zA (l:=W.sigs (W.under s)) (x:=(W.sigs (W.under s))[i]) (by simp);simp only[qaV,IA,qaa,qcl];have h3:gX (W.sigs (W.under s))<=2^38+2^31:=h1;omega
  cases hi
 cases he
theorem zbk(hW:GW W)(hs:GS W s):∀x∈W.lJ s ind id,x.1.cJ.length<=2^40:=fun x hx=>by
 obtain⟨j,hj,hx⟩:=IC _ _ x hx;obtain⟨y,hy,hx⟩:=qaS.1 hx;obtain⟨e,he,rfl⟩:=qaj.1 hx;exact zdS hW (zm hW hs j y hy).1 he
section
variable {W:Wd}
theorem HL{α β:Type}(f:α->List β)(n:Nat):∀l:List α,(∀x∈l,(f x).length<=n)->(l.flatMap f).length<=l.length*n
 |[],_=>by simp
 |x::l,h=>by
  have h1:=h x (by simp);have h2:=HL f n l fun y hy=>h y (qag _ hy);simp only[List.flatMap_cons,qar,qaO,qbr];omega
theorem zfM(g:GD W)(hs:bY W s)(c_:(W.under s).of.fields.length<=2^19):∀(k:Nat) (x:Way),x∈Pf W s ind k->(W.under x.to).of.fields.length<=2^19
 |0,x,h=>by
  rw[Pf,qac]at h;subst h;rw[ku g.later hs.gs.ok.num];exact c_
 |k+1,x,h=>by
  obtain⟨y,hy,hx⟩:=qaS.1 h;obtain⟨b,hk,hh,e⟩:=MR g.gw (r8 g hs k y hy).1.gs hx;rw[e,ku g.later fun _=>hh];obtain⟨q,q1,_,q3⟩:=zJ g.later hh;rw[kM g.later hk hh,q1];have b1:=Wd.sQ (W.mem q q3);have b2:=(W.at q).of.lB;have b3:=g.gw.aj;show(W.at q).of.fields.length<=_;omega
theorem xT.of(g:GD W)(hs:bY W s)(c_:(W.under s).of.fields.length<=2^19)(ind:Bool):xT W s ind where
 len:=fun k _=>QR g.gw hs.gs k
 gs:=fun k x hx=>⟨(zm g.gw hs.gs k x hx).1,Nat.le_of_eq (zm g.gw hs.gs k x hx).2⟩
 out:=fun k id _=>by
  have h2:=QR g.gw hs.gs (ind:=ind) k;have h1:=HL (fun x=>(W.own x.to id).map fun e=>(e,x)) 1 (eO W s ind k) fun x hx=>by
   obtain⟨h3,h4,_⟩:=r8 g hs k x (zn k x hx);rw[qat];rcases K7 (e:=⟨x.to,[],false,false⟩) g (id:=id) h3 with h0|⟨h0,_⟩
   .rw[NN]at h0;simp only[h4]at h0;omega
   rw[NN]at h0;simp only[h4]at h0;omega
  unfold i7;omega
 next:=fun k _=>by
  have h2:=QQ g.gw hs.gs (ind:=ind) k;have hb:=g.gw.aj;have hl:=W.FY;have h1:=HL W.nk (2^19) (eO W s ind k) fun x hx=>by
   have h3:=zfM g hs c_ k x (zn k x hx);refine qaQ (List.length_filterMap_le _ _) ?_;rw[qb0];exact h3
  have h3:(eO W s ind k).length*2^19<=(2^19+1)*2^19:=qaJ _ (by omega);unfold kJ;omega
 Rr:=fun k x hx=>zdy g.gw hs.gs k x hx
theorem ej.wd(hF:ej W t)(hb:W.aj<=2^19)(cL:t.aj<=2^19):bY W (W.target t).s/\(W.under (W.target t).s).of.fields.length<=2^19/\W.plain (W.target t).s=(W.target t).s:=by
 have g:=hF.gd hb;have dR:=hF.vs hb cL;have km:=dR.gs.ok.num;have eF:=ku g.later km;by_cases hk:(W.under (W.operand t)).of.kind=2
 .obtain⟨p1,p2⟩:=dR.ptr g cL hk;have e1:(W.target t).s=W.plain (W.under (W.operand t)).elem:=by
   unfold Wd.target;rw[eF,if_neg (by simp[hk])]
  rw[e1,ku g.later p1.gs.ok.num];exact⟨(bY.of g p1).plain g,ym g p1.gs p2,oX g.later p1.gs.ok.num⟩
 have e1:(W.target t).s=W.plain (W.operand t):=by
  unfold Wd.target;rw[eF,if_pos (by simp[hk])]
 rw[e1,ku g.later km];exact⟨(bY.of g dR).plain g,ym g dR.gs cL,oX g.later km⟩
theorem ej.tok:(W.target t).ok=true\/((W.target t).ptr=true/\((W.under (W.target t).s).of.kind=2\/(W.under (W.target t).s).of.kind=5)):=by
 unfold Wd.target;split
 .exact .inl rfl
 by_cases h1:(W.under (W.plain (W.under (W.plain (W.operand t))).elem)).of.kind=2
 .exact .inr ⟨rfl,.inl h1⟩
 by_cases h2:(W.under (W.plain (W.under (W.plain (W.operand t))).elem)).of.kind=5
 .exact .inr ⟨rfl,.inr h2⟩
 left;simp[h1,h2]
theorem ej.tno(h:(W.target t).ok=true):¬((W.target t).ptr=true/\(W.under (W.target t).s).of.kind=5):=by
 unfold Wd.target at h⊢;split
 .rename_i hk;rw[if_pos hk]at h;intro hx;cases hx.1
 rename_i hk;rw[if_neg hk]at h;intro hx;simp only[qbn,qbp]at h;exact h.2 hx.2
theorem zdD(g:GD W)(hs:bY W s)(hp:W.plain s=s)(hk:(W.under s).of.kind=2)(hu:Uq W s ind id x e):False:=by
 obtain⟨d,v,hf⟩:=(hs.gs.under g.gw).form;have kj:=hf.xB (by rw[hk];decide);obtain⟨K,_,_,hx⟩:=hu.ex;have key:∀k,∀y∈Pf W s ind k,k=0/\y.to=s:=fun k=>by
  induction k with
  |zero=>intro y hy;rw[Pf,qac]at hy;subst hy;exact⟨rfl,hp⟩
  |succ k ih=>
   intro y hy;obtain⟨z,hz,hy⟩:=qaS.1 hy;obtain⟨_,e1⟩:=ih z hz;obtain⟨i,hi,_⟩:=qbg.1 hy;rw[e1,kj]at hi;cases hi
 have ho:=hu.own;rw[(key K x hx).2]at ho;cases ho with
 |bO dC hi _=>
  have:=(hs.dec dC).no (fun h0=>by rw[h0]at hi;exact absurd hi (qav _));rw[<-kM g.later dC (hs.gs.ok.num dC)]at this;exact this.1 hk
 |eS hi _ _=>rw[kj]at hi;exact absurd hi (qav _)
 |cM h5 _ _ _=>rw[hk]at h5;cases h5
theorem Ky(hF:ej W t)(hb:W.aj<=2^19)(cL:t.aj<=2^19)(h8:n≠8)(hu:Uq W (W.target t).s (W.target t).ptr (aM p n) x e)
 (c_:(W.target t).fields=false) (h5:¬((W.target t).ptr=true/\(W.under (W.target t).s).of.kind=5)) (hp:e.bO=true->e.ptr=true->x.ind=true):
 ∃en,LU en e/\en.cJ.length<=2^40/\W.lookup t false p n=⟨en.cJ,en.bO,x.index++[en.last],en.gC,x.ind,false,0⟩:=by
 have g:=hF.gd hb;obtain⟨hl,_,jo⟩:=hF.wd hb cL;obtain⟨en,hh,hr⟩:=hu.lJ g hl;have cQ:(W.target t).ok=true:=by
  rcases ej.tok (W:=W) (t:=t)with h|⟨h1,h2|h2⟩
  .exact h
  .exact(zdD g hl jo h2 hu).elim
  exact absurd ⟨h1,h2⟩ h5
 refine⟨en,hr,zbk g.gw hl.gs (en,x) (by rw[hh];simp),?_⟩;unfold Wd.lookup;rw[if_neg (by rw[cQ];simp[h8]),hh,q_,if_neg (fun h=>h rfl),if_neg (by rw[c_];simp),if_neg ?_];rintro⟨h1,h2,h3,_⟩;rw[hp (by rw[<-hr.bO];exact h1) (by rw[<-hr.ptr];exact h2)]at h3;cases h3
theorem QL(hF:ej W t)(hb:W.aj<=2^19)(cL:t.aj<=2^19)(hm:(W.lookup t false p n).bO=true):
 n≠8/\(W.target t).fields=false/\¬((W.target t).ptr=true/\(W.under (W.target t).s).of.kind=5)/\∃x e,Uq W (W.target t).s (W.target t).ptr (aM p n) x e/\e.bO=true/\(e.ptr=true->x.ind=true):=by
 have g:=hF.gd hb;obtain⟨hl,_,jo⟩:=hF.wd hb cL;unfold Wd.lookup at hm;by_cases hc:n=8\/(W.target t).ok=false
 .rw[if_pos hc]at hm;cases hm
 rw[if_neg hc]at hm;simp only[not_or,Bool.not_eq_false]at hc;unfold q_ at hm;cases hh:W.lJ (W.target t).s (W.target t).ptr (aM p n)with
 |nil=>rw[hh]at hm;cases hm
 |cons q r=>
  rw[hh]at hm;simp only at hm;by_cases hr:r≠[]
  .rw[if_pos hr]at hm;cases hm
  rw[if_neg hr]at hm;simp only[ne_eq,qbC]at hr;subst hr;by_cases h1:q.1.bO=true/\(W.target t).fields=true
  .rw[if_pos h1]at hm;cases hm
  rw[if_neg h1]at hm;by_cases h2:q.1.bO=true/\q.1.ptr=true/\q.2.ind=false/\True
  .rw[if_pos h2]at hm;cases hm
  rw[if_neg h2]at hm;simp only at hm;obtain⟨en,x⟩:=q;simp only at hm h1 h2;obtain⟨e,hu⟩:=zfK g hl hh;obtain⟨jA,CV,hr⟩:=hu.lJ g hl;rw[hh]at CV;simp only[qbS,qby,qca]at CV;obtain rfl:=CV;refine⟨hc.1,by rw[hm]at h1;simpa using h1,ej.tno hc.2,x,e,hu,by rw[<-hr.bO];exact hm,fun hp=> ?_⟩;rw[<-hr.ptr]at hp;cases hi:x.ind with
  |true=>rfl
  |false=>exact absurd ⟨hm,hp,hi,tV⟩ h2
end
end
section
variable {W:Wd}{t:Ty}{l:List qP}{p n:Int}{i:Nat}{y:qP}{f:BQ}
def pM:List Item->Item->List Item
 |[],x=>[x]
 |y::l,x=>if ga y.1 x.1=true then y::pM l x else if y.1=x.1 then y::l else x::y::l
theorem UK(y:Item)(l:List Item)(id:ByteArray):o_ (y::l) id=if ga y.1 id=true then o_ l id+1 else 0:=by
 unfold o_;rw[List.takeWhile_cons];by_cases h:ga y.1 id=true
 .rw[if_pos h,if_pos (show before y.1 id=true from h)];rfl
 rw[if_neg h,if_neg (show ¬before y.1 id=true from h)];rfl
theorem Qk{x:Item}(hm:x.2.bO=true):∀l:List Item,qC l x=pM l x
 |[]=>by unfold qC;rw[if_neg (by rw[hm];simp)];rfl
 |y::l=>by
  have ih:=Qk hm l;unfold qC at ih⊢;rw[if_neg (by rw[hm];simp)]at ih⊢;rw[UK];unfold pM;by_cases hb:ga y.1 x.1=true
  .rw[if_pos hb,if_pos hb,<-ih];simp only[qbH,qbK,qb_,qa_];split<;>rfl
  rw[if_neg hb,if_neg hb];simp only[qbz,qbP,qao,qbO,List.drop_zero,qbk,qa_]
theorem Kj{x:Item}:∀{l:List Item} {y:Item},y∈pM l x->y∈l\/y=x
 |[],y,h=>by simpa[pM]using h
 |z::l,y,h=>by
  unfold pM at h;split at h
  .rcases qan.1 h with rfl|h
   .simp
   rcases Kj h with h|h
   .exact .inl (qag _ h)
   exact .inr h
  split at h
  .exact .inl h
  rcases qan.1 h with h|h
  .exact .inr h
  exact .inl h
theorem Qn{x:Item}:∀{l:List Item} {y:Item},y∈l->y∈pM l x
 |z::l,y,h=>by
  unfold pM;split
  .rcases qan.1 h with rfl|h
   .simp
   exact qag _ (Qn h)
  split
  .exact h
  exact qag _ h
theorem Ql{x:Item}:∀l:List Item,∃y∈pM l x,y.1=x.1
 |[]=>⟨x,by simp[pM],rfl⟩
 |z::l=>by
  unfold pM;split
  .obtain⟨y,hy,he⟩:=Ql l;exact⟨y,qag _ hy,he⟩
  split
  .rename_i h;exact⟨z,by simp,h⟩
  exact⟨x,by simp,rfl⟩
theorem Qm{x:Item}:∀{l:List Item},l.Pairwise (fun x y=>ga x.1 y.1=true)->(pM l x).Pairwise fun x y=>ga x.1 y.1=true
 |[],_=>by simp[pM]
 |z::l,h=>by
  have h0:=h;rw[qau]at h;unfold pM;by_cases h1:ga z.1 x.1=true
  .rw[if_pos h1,qau];refine⟨fun y hy=> ?_,Qm h.2⟩;rcases Kj hy with hy|rfl
   .exact h.1 y hy
   exact h1
  rw[if_neg h1];by_cases h2:z.1=x.1
  .rw[if_pos h2];exact h0
  rw[if_neg h2,qau];have h3:ga x.1 z.1=true:=by
   cases hx:ga x.1 z.1 with
   |true=>rfl
   |false=>exact absurd (Hh (by simpa using h1) hx) h2
  refine⟨fun y hy=> ?_,h0⟩;rcases qan.1 hy with rfl|hy
  .exact h3
  exact Hi h3 (h.1 y hy)
structure rY(W:Wd)(t:Ty)(D:Int->Int->Prop)(l:List Item):Prop where
 st:l.Pairwise fun x y=>ga x.1 y.1=true
 mem:∀y∈l,∃p n,cN p/\bL n/\y=(aM p n,W.lookup t false p n)/\y.2.bO=true
 comp:∀p n,D p n->(W.lookup t false p n).bO=true->∃y∈l,y.1=aM p n
theorem rY.step{D D':Int->Int->Prop}{l:List Item}(h:rY W t D l)(hp:cN p)(hn:bL n)(hD:∀a b,D' a b->D a b\/(a=p/\b=n)):rY W t D' (qC l (aM p n,W.lookup t false p n)):=by
 by_cases hm:(W.lookup t false p n).bO=true
 .rw[Qk (x:=(aM p n,W.lookup t false p n)) hm];refine⟨Qm h.st,fun y hy=> ?_,fun a b hd hx=> ?_⟩
  .rcases Kj hy with hy|rfl
   .exact h.mem y hy
   exact⟨p,n,hp,hn,rfl,hm⟩
  rcases hD a b hd with hd|⟨rfl,rfl⟩
  .obtain⟨y,hy,he⟩:=h.comp a b hd hx;exact⟨y,Qn hy,he⟩
  exact Ql l
 have e:qC l (aM p n,W.lookup t false p n)=l:=by unfold qC;rw[if_pos (by simpa using hm)]
 rw[e];refine⟨h.st,h.mem,fun a b hd hx=> ?_⟩;rcases hD a b hd with hd|⟨rfl,rfl⟩
 .exact h.comp a b hd hx
 exact absurd hx hm
theorem rY.row{D:Int->Int->Prop}{l:List Item}{p:Nat}(hp:cN (p:Int))(h:rY W t D l):∀n:Nat,n<=16->rY W t (fun a b=>D a b\/(a=p/\0<=b/\b<n)) (pS W t p l n)
 |0,_=>⟨h.st,h.mem,fun a b hd hx=>by
  rcases hd with hd|hd
  .exact h.comp a b hd hx
  omega⟩
 |n+1,hn=>by
  have:=(rY.row hp h n (by omega)).step hp (n:=(n:Int)) ⟨by omega,by omega⟩ (D':=fun a b=>D a b\/(a=p/\0<=b/\b<((n+1:Nat):Int))) fun a b hd=>by
   rcases hd with hd|⟨h1,h2,h3⟩
   .exact .inl (.inl hd)
   by_cases hb:b=n
   .exact .inr ⟨h1,hb⟩
   exact .inl (.inr ⟨h1,h2,by omega⟩)
  exact this
theorem Ra(W:Wd)(t:Ty):rY W t (fun a b=>cN a/\bL b) (W.vP t):=by
 have h0:rY W t (fun _ _=>False) (jM W t 0):=⟨.nil,fun y hy=>(by cases hy),fun _ _ h=>h.elim⟩;have h1:=rY.row (p:=0) (.inl rfl) h0 16 (qad _);have h2:=rY.row (p:=1) (.inr rfl) h1 16 (qad _);refine⟨h2.st,h2.mem,fun a b hd hx=>h2.comp a b ?_ hx⟩;obtain⟨h3,h4,h5⟩:=hd;rcases h3 with rfl|rfl
 .exact .inl (.inr ⟨rfl,h4,h5⟩)
 exact .inr ⟨rfl,h4,h5⟩
theorem SW:∀{l l':List ByteArray},l.Pairwise (fun x y=>ga x y=true)->l'.Pairwise (fun x y=>ga x y=true)->(∀x,x∈l↔x∈l')->l=l'
 |[],[],_,_,_=>rfl
 |[],y::l',_,_,h=>by have:=(h y).2 (by simp);cases this
 |x::l,[],_,_,h=>by have:=(h x).1 (by simp);cases this
 |x::l,y::l',h1,h2,h=>by
  have g1:=qau.1 h1;have g2:=qau.1 h2;have e:x=y:=by
   rcases qan.1 ((h x).1 (by simp))with hx|hx
   .exact hx
   rcases qan.1 ((h y).2 (by simp))with hy|hy
   .exact hy.symm
   have a:=g2.1 x hx;have b:=g1.1 y hy;rw[US a]at b;cases b
  subst e;rw[SW g1.2 g2.2 fun z=> ?_];constructor
  .intro hz;rcases qan.1 ((h z).1 (qag _ hz))with rfl|h3
   .have:=g1.1 z hz;rw[Ch]at this;cases this
   exact h3
  intro hz;rcases qan.1 ((h z).2 (qag _ hz))with rfl|h3
  .have:=g2.1 z hz;rw[Ch]at this;cases this
  exact h3
section
variable {W:Wd}{t:Ty}
theorem ej.fv(hF:ej W t):∀d∈W,∀m∈d.methods,m.1≠8/\bL m.1:=fun d hd m hm=>by
 obtain⟨j,hj,rfl⟩:=qak hd;have h1:=(hF.decl j hj).name m;rw[W.wx j hj]at h1;exact(h1 hm).symm
theorem zfJ(hF:ej W t)(hb:W.aj<=2^19)(cL:t.aj<=2^19)(hp:cN p){x:Way}{e:IE}(hu:Uq W (W.target t).s (W.target t).ptr (aM p n) x e):n≠8:=fun h8=>by
 have g:=hF.gd hb;exact Hg g hF.fv hp h8 _ _ (hu.lv g (hF.wd hb cL).1).1 hu.own
theorem Q_(hF:ej W t)(hb:W.aj<=2^19)(cL:t.aj<=2^19)(h:wr W (W.target t) l):l.map qP.id=(W.vP t).map (·.1):=by
 have hj:=Ra W t;refine SW ?_ ?_ fun id=> ?_
 .rw[qbl];rcases h with⟨_,rfl⟩|⟨_,h,_⟩
  .exact .nil
  exact h
 .rw[qbl];exact hj.st
 constructor
 .intro hid;obtain⟨y,hy,rfl⟩:=qaj.1 hid;rcases h with⟨_,rfl⟩|⟨bz,_,cz,_⟩
  .cases hy
  simp only[not_or,qaZ]at bz;obtain⟨⟨p,n,hp,hn,he⟩,x,e,hu,hm,nJ,_⟩:=cz y hy;rw[he]at hu;obtain⟨en,hr,dP,hl⟩:=Ky hF hb cL (zfJ hF hb cL hp hu) hu bz.1 bz.2 fun _=>nJ;obtain⟨z,hz,hze⟩:=hj.comp p n ⟨hp,hn⟩ (by rw[hl];show en.bO=true;rw[hr.bO,hm]);rw[he];exact qaj.2 ⟨z,hz,hze⟩
 intro hid;obtain⟨z,hz,rfl⟩:=qaj.1 hid;obtain⟨p,n,hp,hn,rfl,hm⟩:=hj.mem z hz;obtain⟨h8,c_,h5,x,e,hu,iZ,nJ⟩:=QL hF hb cL hm;rcases h with⟨hx|hx,_⟩|⟨_,_,_,uO⟩
 .rw[c_]at hx;cases hx
 .exact absurd hx h5
 obtain⟨y,hy,he⟩:=uO _ x e hu iZ nJ;exact qaj.2 ⟨y,hy,he⟩
theorem ze9(W:Wd){j:Nat}(dc:i<j)(hj:j<=W.length):W.start i+(W.at (i:Nat)).methods.length<=W.start j:=by
 have h1:=W.facts i (by omega);have h2:=Wd.sZ W (show i+1<=j from dc);rw[W.wx i (by omega)];omega
theorem zde(hF:ej W t)(hb:W.aj<=2^19)(cL:t.aj<=2^19)(h:wr W (W.target t) l){z:Item}(hy:l[i]? =some y)(hz:(W.vP t)[i]? =some z):
 y.id=z.1/\z.2.cJ.length<=2^40/\y.obj∈z.2.cJ/\(z.2.gC=0->y.ind=z.2.ind)/\∃k,z.2.index.length=k+1/\BR W (yg W) y.index z.2.index y.obj z.2.gC k:=by
 have g:=hF.gd hb;have zbf:=Q_ hF hb cL h;have hid:y.id=z.1:=by
  have h1:(l.map qP.id)[i]? =some y.id:=by rw[qaE,hy];rfl
  rw[zbf,qaE,hz]at h1;exact(qaF h1).symm
 refine⟨hid,?_⟩;obtain⟨p,n,hp,hn,rfl,hm⟩:=(Ra W t).mem z (qax hz);obtain⟨h8,c_,h5,x,e,hu,iZ,nJ⟩:=QL hF hb cL hm;rcases h with⟨_,rfl⟩|⟨bz,_,cz,_⟩
 .cases hy
 obtain⟨_,x',e',pJ,_,_,pF,uX,ry⟩:=cz y (qax hy);rw[hid]at pJ;obtain⟨rfl,rfl⟩:=pJ.uniq g (hF.wd hb cL).1 hu;obtain⟨en,hr,dP,hl⟩:=Ky hF hb cL h8 hu c_ h5 fun _=>nJ;have IL:en.last= -1:=by rw[hr.last,if_pos iZ]
 simp only[hl];refine⟨dP,by rw[pF];exact hr.num,fun ha=>ry ?_,x'.index.length,by simp,?_⟩
 .cases hi:e'.cM with
  |false=>rfl
  |true=>have:=hr.EA.2 hi;omega
 rw[uX,IL];refine⟨by simp,by simp,fun hx=> ?_,fun _ ha=>⟨(e'.last:Int),by simp,by omega,hr.lt (hr.EA.1 ha)⟩,fun _ ha=> ?_⟩
 .exfalso;apply hx;simp
 have hi:e'.cM=false:=by
  cases hi:e'.cM with
  |false=>rfl
  |true=>have:=hr.EA.2 hi;omega
 have eh:=(hu.lv g (hF.wd hb cL).1).1;have ho:=hu.own;cases ho with
 | @bO j hk hj _=>
  have hh:=eh.gs.ok.num hk;have hint:((x'.to.of.num.toNat:Nat):Int)=x'.to.of.num:=by have:=hh.1;omega
  refine⟨x'.to.of.num.toNat,((j:Nat):Int),hh.2,⟨?_,?_⟩,fun q hq hd=> ?_,by simp,by omega,?_⟩
  .rw[pF];show _<=((W.start x'.to.of.num.toNat+j:Nat):Int);omega
  .rw[pF,hint];show((W.start x'.to.of.num.toNat+j:Nat):Int)<_;omega
  .have h1:=ze9 W hq (Nat.le_of_lt hh.2);have h2:=hd.2;rw[pF]at h2;have h3:((W.start x'.to.of.num.toNat+j:Nat):Int)<W.start q+(W.at (q:Nat)).methods.length:=h2;omega
  unfold yg;rw[hint,Int.toNat_natCast,qaE,List.getElem?_range hj,pF];rfl
 |eS hi _ _=>cases iZ
 |cM h5 _ _ _=>cases hi
theorem SP(hF:ej W t)(hb:W.aj<=2^19)(cL:t.aj<=2^19)(h8:n≠8)(hf:Ep W (W.target t) (aM p n) false f)(h:wr W (W.target t) l)(hy:y∈l)(he:y.id=aM p n):
 f.bO=true/\y.obj=f.obj/\(0<(W.lookup t false p n).gC\/y.ind=f.ind)/\y.index=f.index:=by
 have g:=hF.gd hb;rcases h with⟨_,rfl⟩|⟨bz,_,cz,_⟩
 .cases hy
 simp only[not_or,qaZ]at bz;obtain⟨_,x,e,hu,hm,nJ,pF,uX,ry⟩:=cz y hy;rw[he]at hu;rcases hf with⟨x',e',pJ,_,_,_,rfl⟩|⟨_,_,hx|hx⟩
 .obtain⟨rfl,rfl⟩:=pJ.uniq g (hF.wd hb cL).1 hu;refine⟨hm,pF,?_,uX⟩;obtain⟨en,hr,dP,hl⟩:=Ky hF hb cL h8 hu bz.1 bz.2 fun _=>nJ;cases hi:e'.cM with
  |false=>exact .inr (ry hi)
  |true=>left;rw[hl];exact hr.EA.2 hi
 .exact absurd hx bz.2
 obtain⟨_,h2|⟨h2,h3,_⟩⟩:=hx x e hu
 .rw[bz.1]at h2;cases h2
 rw[nJ h2]at h3;cases h3
theorem SO(hf:Ep W (W.target t) (aM p n) false f)(h:wr W (W.target t) l)(bz:∀y∈l,y.id≠aM p n):f.bO=false:=by
 rcases hf with⟨x,e,hu,c_,nJ,h5,rfl⟩|⟨_,hm,_⟩
 .cases hm:e.bO with
  |false=>rfl
  |true=>
   exfalso;have h1:(W.target t).fields=false:=by
    cases hx:(W.target t).fields with
    |false=>rfl
    |true=>have:=c_ hx;rw[hm]at this;cases this
   rcases h with⟨hx|hx,_⟩|⟨_,_,_,uO⟩
   .rw[h1]at hx;cases hx
   .exact h5 hx
   obtain⟨y,hy,he⟩:=uO _ x e hu hm fun hp=>by
    rcases nJ hm hp with h|h
    .exact h
    cases h
   exact bz y hy he
 exact hm
end
end
section
variable {w:World}{l:List qP}
section
variable {W:Wd}{t:Ty}{w0:World}{M:Mem}{a:Option Addr}{c:Nat}{tc:List Value}
theorem TV(hM:M.Le (Wm w))(ht:cC M t tc):az prog 5 [.agg tc.toArray] w fun r w'=>(r= .bool true\/r= .bool false)/\Fr [] w w':=by
 refine(zf3 hM ht).mono fun r w' ⟨⟨b,hb⟩,hf⟩=>⟨?_,hf⟩;cases b
 .exact .inr hb
 exact .inl hb
theorem zdi(hF:ej W t)(hb:W.aj<=2^19)(cL:t.aj<=2^19)(hM:M.Le (Wm w))(cA:eK M W a c)(bA:cC M t tc):
 az prog 15 [bK W a c,.agg tc.toArray] w fun r w'=>∃M',Sl M' 8 (gA M') r (W.vP t)/\Gr M w M' w':=by
 obtain⟨h1,h2,_⟩:=hF.wd hb cL;have g:=hF.gd hb;exact zdh g.gw hF.KE hF.aC hM cA bA (hF.gs hb (by omega)) h1.gs (fun _=>xT.of g h1 h2 _) fun id=>ID g.gw h1.gs id
theorem zdg(hF:ej W t)(hb:W.aj<=2^19)(cL:t.aj<=2^19)(h:wr W (W.target t) l):(W.vP t).length=l.length:=by
 have:=qaL List.length (Q_ hF hb cL h);simpa using this.symm
theorem zaA{l:List Int}{n:Int}{v:Value}(hM:M.Le (Wm w))(hl:Sl M 1 dO v l)(hb:l.length<=2^40)(hm:n∈l):az prog 16 [v,.int .i64 n] w fun r w'=>r= .bool true/\Fr [] w w':=
 (zaz hM hl hb).mono fun r w' ⟨h1,h2⟩=>⟨by rw[h1];simp[hm],h2⟩
theorem Qj(hF:ej W t)(hT:fA M)(hb:W.aj<=2^19){jR want:List Int}{obj gC:Int}{vg vw:Value}(hM:M.Le (Wm w))(cA:eK M W a c)
 (hg:Sl M 1 dO vg jR) (J9:Sl M 1 dO vw want) (yG:jR.length<=2^40) {k:Nat} (hk:want.length=k+1) (hP:BR W (yg W) jR want obj gC k):
 az prog 17 [bK W a c,vg,vw,.int .i64 obj,.int .i64 gC] w fun r w'=>r= .bool true/\Fr [] w w':=by
 refine(zcr hM cA (by omega) hg J9 yG (by rw[<-hP.1];exact yG) hk (yg W) fun N w1 i hl hw hi=> ?_).mono fun r w' ⟨M',b,h1,h2,h3⟩=>⟨by rw[h1,h2 hP],h3.fr⟩;exact Xx hF (hT.le hl) hw (cA.fr hl) hb hi
theorem ej.idx(hF:ej W t)(hb:W.aj<=2^19)(cL:t.aj<=2^19){id:ByteArray}{x:Way}{e:IE}(hu:Uq W (W.target t).s (W.target t).ptr id x e):x.index.length<=2^30:=by
 have g:=hF.gd hb;obtain⟨h1,h2,_⟩:=hF.wd hb cL;obtain⟨en,hh,_⟩:=hu.lJ g h1;exact ID g.gw h1.gs id (en,x) (by rw[hh];simp)
theorem KG(hF:ej W t)(hb:W.aj<=2^19)(cL:t.aj<=2^19)(h:wr W (W.target t) l){y:qP}(hy:y∈l):y.index.length<=2^40:=by
 rcases h with⟨_,rfl⟩|⟨_,_,cz,_⟩
 .cases hy
 obtain⟨_,x,e,hu,_,_,_,hi,_⟩:=cz y hy;have:=hF.idx hb cL hu;rw[hi,qar,qaw];omega
theorem zcM(hT:fA M)(hM:M.Le (Wm w0))(cA:eK M W a c)(bA:cC M t tc)(hb:W.aj<=2^19)(cL:t.aj<=2^19):
 az prog 4 [bK W a c,.agg tc.toArray] w0 fun r w'=>r= .bool true/\Fr [] w0 w':=by
 obtain⟨y1,d1,y2,d2,y3,d3,y4,d4,rfl,_⟩:=bA.lit;have hlen:=W.len;have h:=SH.start hM;refine aL mixed func4 c4 ?_;refine au (cs:=(bh t y1 d1 y2 d2 y3 d3 y4 d4)) h ?_;clear h;intro b3 w h;refine aI (fun g0=> ?_) (fun g1=> ?_)
 .exact absurd g0 (by omega)
 refine bj h ?_;refine s_call h (TV h.le bA) ?_;clear h;rintro _ w (rfl|rfl) h;rotate_left 1
 .exact⟨rfl,h.fr⟩
 refine bj h ?_;refine fk h (No (p:=0) (n:=0) h.le cA bA (by omega) (by omega)) ?_;clear h;rintro _ M1 w (⟨rfl,_,_,hF⟩|rfl) bG h;rotate_left 1
 .exact⟨rfl,h.fr⟩
 refine b_ [] h ?_;clear h;intro w h;refine lc h ?_;refine lc h ?_;refine aI ?_ trivial;refine fN h (GT h.le (cA.fr bG) (by omega)) ?_;clear h;rintro _ M2 w ⟨a2,c2,rfl,yv⟩ aQ h;refine aI ?_ trivial;refine fN h (Ea _ t (qam _) _ _ h.le (bA.le (bG.trans aQ)) (by omega)) ?_;clear h;rintro _ M3 w ⟨Cq,rfl,Dm⟩ bT h;refine aI ?_ trivial;refine fN h (zdi hF hb cL h.le (yv.fr bT) Dm) ?_;clear h;rintro _ M4 w ⟨am,cm,rfl,rj,jk⟩ fj h;refine aI ?_ trivial;refine fN h (Kg hF (hT.le h.dG) h.le (cA.fr h.dG) (bA.le h.dG) hb cL) ?_;clear h;rintro _ M5 w ⟨l,⟨al,cl,rfl,nt,cE⟩,C5,jH⟩ aV h;have ov:=zdg hF hb cL jH;refine aI (fun n0=> ?_) (fun n1=> ?_);rotate_left 1
 .exact absurd ov (by omega)
 refine bN (X:=Nat) (fun i=>[(0,bK W a c),(5,.slice am (W.vP t).length cm),(35,.slice al l.length cl),(36,.int .i64 (l.length:Int)),(37,.int .i64 (i:Int))])
  (fun i w=>i<=l.length/\SH w0 M [] M5 [] w) (fun i=>l.length-i) 0 ⟨rfl,rfl,rfl,rfl,rfl,tV⟩ ⟨qae _,h.aF⟩ ?_
 clear h;rintro i aK w N ⟨hi,h⟩ hN;refine aI (fun aG=> ?_) (fun aY=> ?_);rotate_left 1
 .refine s_call h (LO (hT.le h.dG) h.le) ?_;clear h;rintro _ w rfl h;exact⟨rfl,h.fr⟩
 have eB:i<l.length:=by omega
 have sC:i<(W.vP t).length:=by omega
 obtain⟨hid,Pq,pF,ry,k,hk,hP⟩:=zde hF hb cL jH (qaa eB) (qaa sC);have pK:=KG hF hb cL jH (qaf eB);obtain⟨bl,ol,ph,rfl,_,vl,uz,uD,rfl,Av,AD⟩:=cE.at eB;obtain⟨bm,om,gD,rfl,_,ct,fc,rfl,ao,co,G9,Hw,rfl,dJ,uQ,Ie,Ip⟩:=(jk.mono (aV) (fun x _ cs h=>h.le aV)).at sC;generalize l[i]=y at*;generalize(W.vP t)[i]=z at*;obtain⟨LR,zf⟩:=z;simp only at hid Pq pF ry hk hP Ie Ip dJ uQ ct;refine aJ (i) ?_;refine cG h vl ?_;refine au h ?_;clear h;intro b8 w h;refine br h (cO (vs:=rM y uz uD) rfl) ?_;clear h;intro w h;refine aJ (i) ?_;refine cG h ct ?_;refine au h ?_;clear h;intro b9 w h;refine br h (cO (vs:=kr (LR,zf) ao co G9 Hw) rfl) ?_;clear h;intro w h;refine ak h ?_;refine ak h ?_;refine aI (fun e1=> ?_) (fun e2=> ?_);rotate_left 1
 .exact absurd hid e2
 refine ak h ?_;refine ak h ?_;refine s_call h (zaA h.le (uQ.sl dJ) Pq pF) ?_;clear h;rintro _ w rfl h;refine ak h ?_;refine aI (fun Mb=> ?_) (fun Uy=> ?_)
 .have FS:=ry Mb;have dP:y.ind=true\/y.ind=false:=by cases y.ind<;>simp
  rcases dP with oN|oN;have jq:(rM y uz uD)[3]? =some (.bool true):=by rw[<-oN];rfl
  have iz:(kr (LR,zf) ao co G9 Hw)[1+4]? =some (.bool true):=by rw[<-oN,FS];rfl
  rotate_left;have jq:(rM y uz uD)[3]? =some (.bool false):=by rw[<-oN];rfl
  have iz:(kr (LR,zf) ao co G9 Hw)[1+4]? =some (.bool false):=by rw[<-oN,FS];rfl
  all_goals
   refine ak h ?_ (hv:=jq);refine ak h ?_ (hv:=iz);refine ak h ?_;refine ak h ?_;refine ak h ?_;refine ak h ?_;refine s_call h (Qj hF (hT.le h.dG) hb h.le (cA.fr h.dG) ((bQ.sl AD Av).mono (.refl _) fun _ _ _ h=>h) ((bQ.sl Ip Ie).mono (.refl _) fun _ _ _ h=>h) pK hk hP) ?_;clear h;rintro _ w rfl h;refine aA (((i+1:Nat):Int)) ?_;exact hN (i+1) _ _ ⟨rfl,rfl,rfl,rfl,rfl,tV⟩ ⟨eB,h.aF⟩ (by omega)
 refine ak h ?_;refine ak h ?_;refine ak h ?_;refine ak h ?_;refine s_call h (Qj hF (hT.le h.dG) hb h.le (cA.fr h.dG) ((bQ.sl AD Av).mono (.refl _) fun _ _ _ h=>h) ((bQ.sl Ip Ie).mono (.refl _) fun _ _ _ h=>h) pK hk hP) ?_;clear h;rintro _ w rfl h;refine aA (((i+1:Nat):Int)) ?_;exact hN (i+1) _ _ ⟨rfl,rfl,rfl,rfl,rfl,tV⟩ ⟨eB,h.aF⟩ (by omega)
end
end
end Go.Proofs.YtlfcbbcdiecelaaGreatDoor
