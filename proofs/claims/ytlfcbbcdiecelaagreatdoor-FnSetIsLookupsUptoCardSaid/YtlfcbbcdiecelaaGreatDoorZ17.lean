import Derived.Test.YtlfcbbcdiecelaaGreatDoorZ16
namespace Go.Proofs.YtlfcbbcdiecelaaGreatDoor
open Go Go.Proofs.Tryz
set_option maxRecDepth 100000
set_option maxHeartbeats 4000000
set_option linter.all false
section
open Go.MapKept
variable {sn:List (Nat×Nat)}{M:Mem}{j b cc:Nat}{ca:Option Addr}
def dz(sn:List (Nat×Nat)):List Int:=sn.map fun p=>((p.1:Nat):Int)
def ul(sn:List (Nat×Nat)):List Nat:=sn.map fun p=>p.2
structure LS where
 k:Nat
 cur:List En
 ca:Option Addr
 cc:Nat
 sn:List (Nat×Nat)
 x0:Value
 x1:Value
 x2:Value
 mo:Option (Nat×Array MapEntry)
 r:Nat
 M:Mem
structure pZ(W:Wd)(E:Ev)(s:Sp)(ind:Bool)(st:LS):Prop where
 inv:jw W s ind st.k st.cur (dz st.sn)
 hc:st.cur.length<=st.cc
 el:bQ st.M 4 (gL W E st.M) st.ca st.cur
 nm:∀p∈st.sn,gN W E p.1 p.2
 il:kQ st.M st.x0 st.x1 st.x2 st.mo (ul st.sn)
 rl:∀e∈st.cur,RL W st.r e.s
 r2:st.r<=W.length+2
 fl:∀e∈st.cur,(W.under e.s).of.fields.length<=2^19
 bd:st.k+vQ W st.cur (dz st.sn) st.r<=W.length*(W.length+4)+W.length+4
 le:E.mem.Le st.M
structure LI where
 j:Nat
 nv:Value
 nl:List En
 nc:List (List Value)
 sn:List (Nat×Nat)
 x0:Value
 x1:Value
 x2:Value
 mo:Option (Nat×Array MapEntry)
 M:Mem
structure pY(W:Wd)(E:Ev)(st:LS)(y:LI):Prop where
 hj:y.j<=st.cur.length
 nl:bC (gL W E y.M) y.nl y.nc
 nb:y.nl.length<=y.j*2^19
 gs:∀e∈y.nl,GS W e.s/\e.s.of.kind=1
 nm:∀p∈y.sn,gN W E p.1 p.2
 il:kQ y.M y.x0 y.x1 y.x2 y.mo (ul y.sn)
 s1:∀T∈dz y.sn,T∈dz st.sn\/∃e∈ed W (dz st.sn) (st.cur.take y.j),(W.plain e.s).of.kind=1/\(W.plain e.s).of.num=T
 s2:∀T∈dz st.sn,T∈dz y.sn
 s3:∀e∈ed W (dz st.sn) (st.cur.take y.j),(W.plain e.s).of.kind=1->(W.plain e.s).of.num∈dz y.sn
 le:st.M.Le y.M
 sP:E.mem.Le y.M
section
variable {W:Wd}{E:Ev}{s:Sp}{ind:Bool}{st:LS}
theorem pY.start(h:pZ W E s ind st):pY W E st ⟨0,.slice none 0 0,[],[],st.sn,st.x0,st.x1,st.x2,st.mo,st.M⟩:=
 ⟨qae _,tV,by simp,by simp,h.nm,h.il,fun _ h=> .inl h,fun _ h=>h,by simp[ed],.refl _,h.le⟩
theorem pY.dead{y:LI}(h:pY W E st y)(hj:y.j<st.cur.length)(hd:kw W (dz st.sn) st.cur[y.j]):pY W E st {y with j:=y.j+1}:=by
 have e:ed W (dz st.sn) (st.cur.take (y.j+1))=ed W (dz st.sn) (st.cur.take y.j):=by rw[xr hj,if_pos hd,qaC]
 exact⟨hj,h.nl,qaQ h.nb (qaJ _ (qcf _)),h.gs,h.nm,h.il,by rw[e];exact h.s1,h.s2,by rw[e];exact h.s3,h.le,h.sP⟩
theorem pY.next{y:LI}(h:pY W E st y)(hj:y.j<st.cur.length)(hd:¬kw W (dz st.sn) st.cur[y.j]){nv:Value}{nl:List En}{nc:List (List Value)}{x0 x1 x2:Value}{mo:Option (Nat×Array MapEntry)}
 (xc:bC (gL W E M) nl nc) (nE:nl.length<=(y.j+1)*2^19) (rq:∀e∈nl,GS W e.s/\e.s.of.kind=1) (cD:∀p∈sn,gN W E p.1 p.2) (rx:kQ M x0 x1 x2 mo (ul sn)) (hle:y.M.Le M)
 (h1:∀T,T∈dz sn↔T∈dz y.sn\/((W.plain st.cur[y.j].s).of.kind=1/\(W.plain st.cur[y.j].s).of.num=T)):pY W E st ⟨y.j+1,nv,nl,nc,sn,x0,x1,x2,mo,M⟩:=by
 have e:ed W (dz st.sn) (st.cur.take (y.j+1))=ed W (dz st.sn) (st.cur.take y.j)++[st.cur[y.j]]:=by rw[xr hj,if_neg hd]
 refine⟨hj,xc,nE,rq,cD,rx,fun T hT=> ?_,fun T hT=>(h1 T).2 (.inl (h.s2 T hT)),fun e' dD hk=> ?_,h.le.trans hle,h.sP.trans hle⟩
 .simp only[e];rcases(h1 T).1 hT with h2|⟨h2,h3⟩
  .rcases h.s1 T h2 with h4|⟨e',h4,h5⟩
   .exact .inl h4
   exact .inr ⟨e',qaA _ h4,h5⟩
  exact .inr ⟨_,qaR _ (qac.2 rfl),h2,h3⟩
 simp only[e]at dD;rcases qah.1 dD with h2|h2
 .exact(h1 _).2 (.inl (h.s3 e' h2 hk))
 rw[qac.1 h2]at hk⊢;exact(h1 _).2 (.inr ⟨hk,rfl⟩)
theorem QX(B:eZ W E)(hn:∀p∈sn,gN W E p.1 p.2)(hb:gN W E j b):b∈ul sn↔((j:Nat):Int)∈dz sn:=by
 unfold ul dz;rw[qaj,qaj];constructor
 .rintro⟨p,hp,rfl⟩;exact⟨p,hp,by rw[(hn p hp).inj B hb]⟩
 rintro⟨p,hp,he⟩;have h1:=hn p hp;have:p.1=j:=by omega
 rw[this]at h1;exact⟨p,hp,B.BK _ _ _ h1.2.2 hb.2.2⟩
theorem So(sn:List (Nat×Nat))(j b:Nat)(T:Int):T∈dz (sn++[(j,b)])↔T∈dz sn\/((j:Nat):Int)=T:=by
 unfold dz;rw[qaq,qah];simp[eq_comm]
theorem SS(sn:List (Nat×Nat))(j b:Nat):ul (sn++[(j,b)])=ul sn++[b]:=by simp[ul]
theorem Rs(hn:∀p∈sn,gN W E p.1 p.2)(hb:gN W E j b):∀p∈sn++[(j,b)],gN W E p.1 p.2:=fun p hp=>by
 rcases qah.1 hp with h|h
 .exact hn p h
 rw[qac.1 h];exact hb
theorem pZ.step(g:GD W)(hs:bY W s)(h:pZ W E s ind st)(aT:st.cur≠[]){y:LI}(hy:pY W E st y)(hyj:y.j=st.cur.length){jh:List En}(hc:xQ W (oR W (ed W (dz st.sn) st.cur)) jh)(hle:y.M.Le M)(gg:jh.length<=cc)(cE:bQ M 4 (gL W E M) ca jh):
 ∃r',pZ W E s ind ⟨st.k+1,jh,ca,cc,y.sn,y.x0,y.x1,y.x2,y.mo,r',M⟩/\vQ W jh (dz y.sn) r'<vQ W st.cur (dz st.sn) st.r:=by
 have e:st.cur.take y.j=st.cur:=by rw[hyj,qay]
 have s1:=hy.s1;have s3:=hy.s3;rw[e]at s1 s3;obtain⟨r',h1,h2,h3⟩:=zdk g h.inv hc aT h.rl h.r2 hy.s2 s3;have hi:=h.inv.step g hs hc s1;refine⟨r',⟨hi,gg,cE,hy.nm,hy.il.le hle,h2,h1,fun e he=> ?_,?_,hy.sP.trans hle⟩,h3⟩
 .obtain⟨c,ql,h4,_,_⟩:=hc.sub e he;obtain⟨x,hx,Ay⟩:=qaS.1 ql;obtain⟨a1,a2,_⟩:=Ks g (h.inv.w x (vM.1 hx).1).2 Ay;rw[h4];obtain⟨q,q1,_,q3⟩:=zJ g.later (a1.gs.ok.num a2);rw[kM g.later a2 (a1.gs.ok.num a2),q1];have b1:=Wd.sQ (W.mem q q3);have b2:=(W.at q).of.lB;have b3:=g.gw.aj;show(W.at q).of.fields.length<=_;omega
 have:=h.bd;simp only;omega
theorem pZ.start(g:GD W)(hs:bY W s){s0:Sp}(dR:bY W s0)(hp:W.plain s0=W.plain s)(hr:RL W (W.length+2) s0)(hf:(W.under s0).of.fields.length<=2^19)(hle:E.mem.Le M)(hc:1<=cc)(cE:bQ M 4 (gL W E M) ca [⟨s0,[],ind,false⟩]):
 pZ W E s ind ⟨0,[⟨s0,[],ind,false⟩],ca,cc,[],.pointer none,.pointer none,.pointer none,none,W.length+2,M⟩:=by
 refine⟨.start g hs dR hp,hc,cE,by simp,.n0,fun e he=>by rw[qac.1 he];exact hr,qad _,fun e he=>by rw[qac.1 he];exact hf,?_,hle⟩;unfold vQ;rw[if_neg (by simp)];have h1:=LJ W (dz []);have:=qaJ (W.length+4) h1;show 0+(gn W (dz [])*(W.length+4)+(W.length+2+1))<=_;omega
theorem pZ.idx(g:GD W)(hs:bY W s)(h:pZ W E s ind st):∀e∈st.cur,e.index.length<=2^40:=fun e he=>by
 have h1:=(r8 g hs _ _ (h.inv.w e he).1).2.2;have h2:=h.bd;have h3:=g.gw.aj;have h4:=W.len;have h5:W.length*(W.length+4)<=2^19*(2^19+4):=Nat.mul_le_mul (by omega) (by omega);have:e.index.length=st.k:=h1;omega
end
end
section
open Go.MapKept
variable {M M':Mem}{w:World}{nl':List En}{s:Sp}
structure Ob where
 e:En
 ie:IE
 t:TypeId
 b:Nat
 iv:Value
@[reducible]def oV:Option Ob->Value
 |none=> .nilIface
 |some o=> .iface o.t (vp o.b)
@[reducible]def oI:Option Ob->Value
 |none=> .slice none 0 0
 |some o=>o.iv
@[reducible]def oB:Option Ob->Value
 |none=> .bool false
 |some o=> .bool o.e.ind
structure r7(W:Wd)(E:Ev)(M:Mem)(id:ByteArray)(o:Ob):Prop where
 own:ep W (W.plain o.e.s) id o.ie
 ob:E.ob o.ie.num o.t o.b
 ty:o.t=if o.ie.bO=true then 128 else 172
 fn:o.ie.bO=true->∃p n,fY E.mem E.pk p n o.ie.ptr o.b
 sl:Sl M 1 dO o.iv (o.e.index++[(o.ie.last:Int)])
theorem r7.le{W:Wd}{E:Ev}{N:Mem}(hl:M.Le N){id:ByteArray}{o:Ob}(h:r7 W E M id o):r7 W E N id o:=⟨h.own,h.ob,h.ty,h.fn,h.sl.mono hl fun _ _ _ h=>h⟩
def T2(W:Wd)(E:Ev)(s:Sp)(ind:Bool)(id:ByteArray)(addr:Bool)(r:Value)(M:Mem):Prop:=
 (∃o:Ob,Uq W s ind id (o.e.nS W) o.ie/\r7 W E M id o/\(o.ie.bO=true->o.ie.ptr=true->o.e.ind=true\/addr=true)/\¬(ind=true/\(W.under s).of.kind=5)/\r= .tuple #[.iface o.t (vp o.b),o.iv,.bool o.e.ind])\/
 (∃iv xs i,r= .tuple #[.nilIface,iv,.bool i]/\Sl M 1 dO iv xs/\((ind=true/\(W.under s).of.kind=5)\/∀x e,Uq W s ind id x e->e.bO=true/\e.ptr=true/\x.ind=false/\addr=false))
def OS(W:Wd)(E:Ev)(id:ByteArray)(st:LS)(j:Nat)(o:Option Ob)(nl:List En)(M:Mem):Prop:=
 (o=none/\eY (NN W id 0) (ed W (dz st.sn) (st.cur.take j))=0/\nl=oR W (ed W (dz st.sn) (st.cur.take j)))\/
 (∃ob,o=some ob/\ob.e∈st.cur/\r7 W E M id ob/\eY (NN W id 0) (ed W (dz st.sn) (st.cur.take j))=1)
theorem Ug{c:Operand}{a b:CK}{Q:Exit->Env->World->Prop}{e:Env}(h:ev e c= .bool false)(k:b Q e w):ye c a b Q e w:=by
 unfold ye;rw[h];exact k
section
variable {W:Wd}{E:Ev}{id:ByteArray}{st:LS}{j:Nat}{o:Option Ob}{nl:List En}{M:Mem}
theorem Gz(hj:j<st.cur.length)(hd:¬kw W (dz st.sn) st.cur[j]):eY (NN W id 0) (ed W (dz st.sn) (st.cur.take (j+1)))=eY (NN W id 0) (ed W (dz st.sn) (st.cur.take j))+st.cur[j].w*NN W id 0 st.cur[j].s:=by
 rw[xr hj,if_neg hd,TO,zfY]
theorem OS.dead(h:OS W E id st j o nl M)(hj:j<st.cur.length)(hd:kw W (dz st.sn) st.cur[j]):OS W E id st (j+1) o nl M:=by
 unfold OS at*;rw[xr hj,if_pos hd,qaC];exact h
theorem OS.Rm(h:OS W E id st j o nl M)(hj:j<st.cur.length)(hd:¬kw W (dz st.sn) st.cur[j])(h0:NN W id 0 st.cur[j].s=0)(hl:M.Le M')(hn:o=none->nl'=nl++uc W st.cur[j]):OS W E id st (j+1) o nl' M':=by
 have ht:=Gz (id:=id) hj hd;rw[h0,Nat.mul_zero,qa6]at ht;rcases h with⟨h1,h2,h3⟩|⟨ob,h1,h2,h3,h4⟩
 .exact .inl ⟨h1,by rw[ht,h2],by rw[hn h1,h3,xr hj,if_neg hd,Rn,Ro]⟩
 exact .inr ⟨ob,h1,h2,h3.le hl,by rw[ht,h4]⟩
theorem OS.hit(g:GD W)(h:OS W E id st j none nl M)(hj:j<st.cur.length)(hd:¬kw W (dz st.sn) st.cur[j])(hv:bY W st.cur[j].s)(hm:st.cur[j].mult=false){ob:Ob}(he:ob.e=st.cur[j])(ho:r7 W E M' id ob):OS W E id st (j+1) (some ob) nl' M':=by
 have ht:=Gz (id:=id) hj hd;have h1:=ho.own;rw[he]at h1;rw[Gd g hv h1]at ht;have hw:st.cur[j].w=1:=by unfold En.w;rw[hm];rfl
 rcases h with⟨_,h2,_⟩|⟨ob,h1,_⟩
 .exact .inr ⟨ob,rfl,by rw[he];exact qaf hj,ho,by rw[ht,h2,hw]⟩
 cases h1
theorem OS.pg(g:GD W)(h:OS W E id st j o nl M)(hj:j<st.cur.length)(hd:¬kw W (dz st.sn) st.cur[j])(hv:bY W st.cur[j].s){ie:IE}(ho:ep W (W.plain st.cur[j].s) id ie)(hc:(∃ob,o=some ob)\/st.cur[j].mult=true):2<=eY (NN W id 0) (ed W (dz st.sn) st.cur):=by
 have ht:=Gz (id:=id) hj hd;have hle:=zfm (W:=W) (seen:=dz st.sn) (f:=NN W id 0) st.cur (j+1);rw[Gd g hv ho]at ht;have hw:1<=st.cur[j].w:=by unfold En.w;split<;>omega
 rcases hc with⟨ob,rfl⟩|hc
 .rcases h with⟨h1,_⟩|⟨_,_,_,_,h4⟩
  .cases h1
  omega
 have PW:st.cur[j].w=2:=by unfold En.w;rw[hc];rfl
 omega
theorem KT(g:GD W){e:En}(hv:bY W e.s)(hm:(W.plain e.s).of.kind=1->∀i,i<(W.at (W.plain e.s).of.num).methods.length->aM (W.at (W.plain e.s).of.num).aC ((W.at (W.plain e.s).of.num).methods.getD i default).1≠id)
 (hf:∀i,i<(W.under e.s).of.fields.length->W.fieldName ((W.under e.s).of.fields.getD i default)≠8->aM (W.under e.s).aC (W.fieldName ((W.under e.s).of.fields.getD i default))≠id) (hi:(W.under e.s).of.kind=5->∀n,g_ W n (W.under e.s)->∀m∈dj W n (W.under e.s),m.id≠id):NN W id 0 e.s=0:=by
 rcases K7 g (id:=id) hv with h|⟨_,ie,h⟩
 .exact h
 exfalso;have hu:=ku g.later hv.gs.ok.num;cases h with
 |bO hk aG hid=>exact hm hk _ aG hid
 |eS aG h8 hid=>rw[hu]at aG h8 hid;exact hf _ aG h8 hid
 |cM hk hn eD hid=>rw[hu]at hk hn eD;exact hi hk _ hn _ (qax eD) hid
theorem Nc(g:GD W)(hv:bY W s){i:Nat}(hi:i<(W.under s).of.fields.length)(he:(W.under s).of.fields[i].2.1=true):
 GS W ((W.under s).field i).base/\((W.under s).field i).base.of.kind=1/\((((W.under s).field i).of.kind=1/\(W.plain ((W.under s).field i)).of.kind≠2)\/((W.under s).field i).of.kind=2):=by
 have hu:=hv.gs.under g.gw;have hc:(((W.under s).field i).base,i,decide (((W.under s).field i).of.kind=2))∈W.kids s:=qbg.2 ⟨i,qaz.2 hi,by unfold sO;rw[fS hi,if_pos he]⟩;obtain⟨h1,h2⟩:=xo g hv.gs hc;refine⟨h1.gs,h2,?_⟩;rcases hu.ok.np _ (qaf hi) he with h3|⟨h3,_⟩
 .rw[<-Sp.tE hi]at h3;refine .inl ⟨h3,fun h4=> ?_⟩;have h5:=(hv.val.HJ i _ (qaa hi) he).1;have h6:=ku g.later (hu.field hi).ok.num;rw[fO (s:=W.plain _) (by rw[h4];decide)]at h6;unfold Sp.base at h5;rw[if_neg (by rw[h3];decide),<-h6]at h5;exact h5 h4
 rw[<-Sp.tE hi]at h3;exact .inr h3
end
theorem ww:h_ prog 157 157 156 4 48=true:=by kernel_rfl
theorem SH.xJ{u:World}{M0:Mem}{D:List Nat}{v a b:aB}{L:List aB}(h:SH u M0 D M (v::a::b::L) w):SH u M0 D M (b::v::L) w:=
 (h.perm (L':=a::(b::v::L)) ((List.Perm.swap a v _).trans (.cons _ (.swap b v L)))).tail
section
variable {W:Wd}{E:Ev}{w0:World}
theorem Kf(g:GD W)(B:eZ W E){s0:Sp}{v:Value}{addr:Bool}{q n:Int}{pb:Nat}{px:Value}(fv:∀d∈W,∀m∈d.methods,bL m.1)
 (kY:Den W E s0 v) (dR:GS W s0) (hs:bY W s) (iO:Bk E.mem pb [.string (dY q),px]) (hq:cN q) (hn:bL n) (h8:n≠8) {ind:Bool}
 (eU:((W.plain s0).of.kind=2/\ind=true/\bY W (W.plain s0).elem/\W.plain (W.plain s0).elem=W.plain s/\RL W (W.length+2) (W.plain s0).elem/\(W.under (W.plain s0).elem).of.fields.length<=2^19)\/
  ((W.plain s0).of.kind≠2/\ind=false/\bY W s0/\W.plain s0=W.plain s/\RL W (W.length+2) s0/\(W.under s0).of.fields.length<=2^19)) (hM:E.mem.Le (Wm w0)):
 az prog 109 [v,.bool addr,vp pb,.string (bZ n),.bool false] w0 fun r w'=>∃M',T2 W E s ind (aM q n) addr r M'/\Gr E.mem w0 M' w':=by
 have h:=SH.start hM;have nE:=KI h8 hn;have nG:∀(M:Mem),Sl M 1 dO (.slice none 0 0) []:=fun M=>Sl.nil _ _ _;obtain⟨tv,bv,rfl,_⟩:=kY.iface;refine aL mixed func109 U3 ?_;refine aI (fun h0=>absurd h0 nE) (fun _=> ?_);refine Ug rfl ?_;have xj:∀{s1:Sp},bY W s1->W.plain s1=W.plain s->W.under s1=W.under s:=fun h1 h2=>by rw[<-ku g.later h1.gs.ok.num,h2,ku g.later hs.gs.ok.num]
 refine lq (X:=Sp×Value) (fun x=>[(1,.bool addr),(2,vp pb),(3,.string (bZ n)),(4,.bool false),(10,.nilIface),(11,.slice none 0 0),(12,.bool false),(13,x.2),(14,.bool ind)])
  (fun x w=>Den W E x.1 x.2/\bY W x.1/\W.plain x.1=W.plain s/\RL W (W.length+2) x.1/\(W.under x.1).of.fields.length<=2^19/\SH w0 E.mem [] E.mem [] w) ?_ ?_
 .intro N hN;refine s_call h (EQ B g.later h.le kY dR.ok.num) ?_;clear h;intro r w hr h;rcases hr with⟨v1,rfl,dC,jC⟩|⟨rfl,dC⟩
  .rcases eU with⟨_,rfl,jq,jI,mz,c_⟩|⟨h1,_⟩
   .exact hN ((W.plain s0).elem,v1) _ _ ⟨rfl,rfl,rfl,rfl,rfl,rfl,rfl,rfl,rfl,tV⟩ ⟨jC,jq,jI,mz,c_,h⟩
   exact absurd dC h1
  rcases eU with⟨h1,_⟩|⟨_,rfl,jq,jI,mz,c_⟩
  .exact absurd h1 dC
  exact hN (s0,.iface tv (vp bv)) _ _ ⟨rfl,rfl,rfl,rfl,rfl,rfl,rfl,rfl,rfl,tV⟩ ⟨kY,jq,jI,mz,c_,h⟩
 clear h eU kY dR;rintro⟨s1,v1⟩ aK w ⟨jC,jq,jI,mz,c_,h⟩;simp only at jC jq jI mz c_;obtain⟨t1,b1,rfl,_⟩:=jC.iface;refine lq (X:=Unit) (fun _=>[(1,.bool addr),(2,vp pb),(3,.string (bZ n)),(4,.bool false),(10,.nilIface),(11,.slice none 0 0),(12,.bool false),(13,.iface t1 (vp b1)),(14,.bool ind)])
  (fun _ w=>¬(ind=true/\(W.under s).of.kind=5)/\SH w0 E.mem [] E.mem [] w) ?_ ?_
 .intro N hN;cases ind with
  |false=>exact hN () _ _ ⟨rfl,rfl,rfl,rfl,rfl,rfl,rfl,rfl,rfl,tV⟩ ⟨fun h=>absurd h.1 (by decide),h⟩
  |true=>
   refine DB B g.later h.le jC jq.gs.ok.num ?_;intro t' b' w1 hf nu rA;replace h:=h.lu hf;rw[xj jq jI]at rA;rcases rA with⟨rfl,hk⟩|⟨rfl,hk⟩|⟨rfl,hk⟩|⟨rfl,hk⟩|⟨rfl,hk⟩;rotate_left 4
   .exact⟨E.mem,.inr ⟨_,[],false,rfl,nG _,.inl ⟨rfl,hk⟩⟩,h.gr⟩
   all_goals exact hN () _ _ ⟨rfl,rfl,rfl,rfl,rfl,rfl,rfl,rfl,rfl,tV⟩ ⟨fun h=>absurd h.2 (by rw[hk];decide),h⟩
 clear h;rintro _ aK w ⟨yT,h⟩;refine au (cs:=[.iface t1 (vp b1),.slice none 0 0,.bool ind,.bool false]) h ?_;clear h;intro cb w h;obtain⟨M1,bG,kB,h⟩:=h.dA cb;refine au h ?_;clear h;intro sb w h;have sM:pZ W E s ind ⟨0,[⟨s1,[],ind,false⟩],some ⟨cb,0,none⟩,1,[],.pointer none,.pointer none,.pointer none,none,W.length+2,M1⟩:=
  .start g hs jq jI mz c_ bG (qad _) (Sl.pi (Sl.one kB rfl ⟨_,_,rfl,jC,Sl.nil _ _ _⟩)).2.2
 clear jC jq jI mz c_ kB bG;refine bN (X:=LS) (fun st=>[(1,.bool addr),(2,vp pb),(3,.string (bZ n)),(4,.bool false),(10,.nilIface),(11,.slice none 0 0),(12,.bool false),(17,.slice st.ca st.cur.length st.cc),(18,vp sb)])
  (fun st w=>pZ W E s ind st/\(∀j,j<st.k->NN W (aM q n) j s=0)/\SH w0 E.mem [] st.M (dl sb st.x0 st.x1 st.x2 st.mo) w) (fun st=>vQ W st.cur (dz st.sn) st.r) _ ⟨rfl,rfl,rfl,rfl,rfl,rfl,rfl,rfl,rfl,tV⟩ ⟨sM,fun j hj=>absurd hj (qav _),h⟩ ?_
 clear h sM;rintro⟨k,cur,ca,cc,sn,x0,x1,x2,mo,r,M⟩ aK w N ⟨aU,bz,h⟩ hN;have uX:=aU.idx g hs;have hlen:=aU.inv.len;have Oe:=W.len;have yw:=g.gw.aj;simp only at aU bz h uX hlen;refine aI (fun mj=> ?_) (fun hle=> ?_);rotate_left 1
 .simp only at hle;have Ax:cur=[]:=qaD (by omega);subst Ax;exact⟨M,.inr ⟨_,[],false,rfl,nG _,.inr fun x e hu=>absurd hu (Ru (aU.inv.nil bz) x e)⟩,SH.gr h⟩
 simp only at mj;have aT:cur≠[]:=fun h0=>by rw[h0]at mj;exact absurd mj (by decide)
 replace h:=h.gV 4 156;refine bN (X:=Option Ob×LI) (fun x=>[(1,.bool addr),(2,vp pb),(3,.string (bZ n)),(4,.bool false),(10,oV x.1),(11,oI x.1),(12,oB x.1),(18,vp sb),(19,x.2.nv),(59,.slice ca cur.length cc),(60,.int .i64 (cur.length:Int)),(61,.int .i64 (x.2.j:Int))])
  (fun x w=>pY W E ⟨k,cur,ca,cc,sn,x0,x1,x2,mo,r,M⟩ x.2/\OS W E (aM q n) ⟨k,cur,ca,cc,sn,x0,x1,x2,mo,r,M⟩ x.2.j x.1 x.2.nl x.2.M/\SH w0 E.mem [] x.2.M (.own x.2.nv 4 156 x.2.nc::dl sb x.2.x0 x.2.x1 x.2.x2 x.2.mo) w) (fun x=>cur.length-x.2.j)
  (none,⟨0,.slice none 0 0,[],[],sn,x0,x1,x2,mo,M⟩) ⟨rfl,rfl,rfl,rfl,rfl,rfl,rfl,rfl,rfl,rfl,rfl,rfl,tV⟩ ⟨.start aU,.inl ⟨rfl,rfl,rfl⟩,h⟩ ?_
 clear h;rintro⟨o,j,nv,nl,nc,nQ,y0,y1,y2,dH,M'⟩ aK w N2 ⟨hy,mu,h⟩ d7;simp only at hy mu h;have CZ:=hy.hj;simp only at CZ;refine aI (fun aG=> ?_) (fun aY=> ?_);rotate_left 1
 .
  simp only at aY;obtain rfl:j=cur.length:=by omega
  have Db:∀(M:Mem),Sl M 1 dO (.slice none 0 0) []:=nG;rcases mu with⟨rfl,Dr,xc⟩|⟨ob,rfl,zbJ,qw,Dr⟩
  .refine aI trivial ?_;simp only[qay]at Dr xc;have uL:nl.length<=2^40:=by
    have h1:nl.length<=cur.length*2^19:=hy.nb;have h2:cur.length<=W.length+1:=aU.inv.len;have h3:cur.length*2^19<=(2^19+1)*2^19:=qaJ _ (by omega);omega
   refine du [.own nv 4 156 nc] (dl sb y0 y1 y2 dH) h (Co g B hy.sP hy.nl hy.gs uL) ?_;clear h;rintro r1 M3 A1 w ⟨jh,⟨a',c',rfl,gg,qn⟩,pu,rfl⟩ bT _ h;rw[xc]at pu;obtain⟨r',FK,sI⟩:=aU.step g hs aT hy rfl pu bT gg qn;exact hN ⟨k+1,jh,a',c',nQ,y0,y1,y2,dH,r',M3⟩ _ _ ⟨rfl,rfl,rfl,rfl,rfl,rfl,rfl,rfl,rfl,tV⟩ ⟨FK,aU.inv.zero g bz Dr,h⟩ sI
  simp only[qay]at Dr;have A8:=aU.inv.found g bz Dr zbJ qw.own;have bA:=qw.ty;obtain⟨⟨es,ei,eb,em⟩,⟨zcx,im,il,ip,ii⟩,ot,RJ,RP⟩:=ob;simp only at bA A8;cases im with
  |true=>
   have rK:ot=128:=bA;subst rK;obtain⟨pp,pn,Fl⟩:=qw.fn rfl;simp only at Fl;refine s_call h (Lc (hy.sP.trans h.le) Fl) ?_;clear h;rintro _ w rfl h;cases ip with
   |false=>exact⟨M',.inl ⟨_,A8,qw,fun _ h=>(by cases h),yT,rfl⟩,SH.gr h⟩
   |true=>
    cases eb with
    |true=>exact⟨M',.inl ⟨_,A8,qw,fun _ _=> .inl rfl,yT,rfl⟩,SH.gr h⟩
    |false=>
     cases addr with
     |true=>exact⟨M',.inl ⟨_,A8,qw,fun _ _=> .inr rfl,yT,rfl⟩,SH.gr h⟩
     |false=>
      refine⟨M',.inr ⟨_,[],true,rfl,nG _,.inr fun x e hu=> ?_⟩,SH.gr h⟩;obtain⟨h1,h2⟩:=hu.uniq g hs A8;rw[h1,h2];exact⟨rfl,rfl,rfl,rfl⟩
  |false=>
   have rK:ot=172:=bA;subst rK;exact⟨M',.inl ⟨_,A8,qw,fun h=>(by cases h),yT,rfl⟩,SH.gr h⟩
 simp only at aG;have hj:j<cur.length:=by omega
 have hE:=hy.sP;have pt:=hy.le;simp only at hE pt;have sv:=aU.inv.w cur[j] (qaf hj);have eh:=sv.2;obtain⟨b2,o2,xs,rfl,cR,ct,jX⟩:=aU.el.at hj;have kn:=gL.one jX;obtain⟨v2,iv2,rfl,gG,AY⟩:=jX;obtain⟨t2,jc,rfl,_⟩:=gG.iface;obtain⟨ai,ci,rfl,aE,kZ⟩:=AY;have lK:=uX cur[j] (qaf hj);obtain⟨bi,mP⟩:∃x,x=cur[j].ind:=⟨_,rfl⟩;obtain⟨bm,jT⟩:∃x,x=cur[j].mult:=⟨_,rfl⟩;rw[<-mP,<-jT]at ct kn;have kE:(W.plain cur[j].s).of.kind=1->W.has (W.plain cur[j].s).of.num/\(W.at (W.plain cur[j].s).of.num).bU=false:=pR g.later eh.gs.ok.num;have hint:(W.plain cur[j].s).of.kind=1->(((W.plain cur[j].s).of.num.toNat:Nat):Int)=(W.plain cur[j].s).of.num:=fun hk=>by have:=(kE hk).1.1;omega
 refine aJ (j) ?_;refine cG h (ct.le pt) ?_;refine au h ?_;clear h;intro l_ w h;refine br h kn ?_;clear h;intro w h;refine ak h ?_;refine lq (X:=List (Nat×Nat)×Value×Value×Value×Option (Nat×Array MapEntry)×Mem) (fun _=>[(1,.bool addr),(2,vp pb),(3,.string (bZ n)),(4,.bool false),(10,oV o),(11,oI o),(12,oB o),(18,vp sb),(19,nv),(21,vp l_),(22,.iface t2 (vp jc)),(59,.slice (some ⟨b2,o2,none⟩) cur.length cc),(60,.int .i64 (cur.length:Int)),(61,.int .i64 (j:Int))])
  (fun z w=>¬kw W (dz sn) cur[j]/\((W.plain cur[j].s).of.kind=1->∀i,i<(W.at (W.plain cur[j].s).of.num).methods.length->aM (W.at (W.plain cur[j].s).of.num).aC ((W.at (W.plain cur[j].s).of.num).methods.getD i default).1≠aM q n)/\(∀p∈z.1,gN W E p.1 p.2)/\kQ z.2.2.2.2.2 z.2.1 z.2.2.1 z.2.2.2.1 z.2.2.2.2.1 (ul z.1)/\M'.Le z.2.2.2.2.2/\
   (∀T,T∈dz z.1↔T∈dz nQ\/((W.plain cur[j].s).of.kind=1/\(W.plain cur[j].s).of.num=T))/\SH w0 E.mem [] z.2.2.2.2.2 ([.ah l_ 156 [.iface t2 (vp jc),.slice ai cur[j].index.length ci,.bool bi,.bool bm],.own nv 4 156 nc]++dl sb z.2.1 z.2.2.1 z.2.2.2.1 z.2.2.2.2.1) w) ?_ ?_
 .intro N3 kc;refine s_call h (z8 B g.later (hE.trans h.le) gG eh.gs.ok.num) ?_;clear h;rintro _ w (⟨nb,rfl,dx,I1⟩|⟨rfl,dx⟩) h;rotate_left 1
  .exact kc (nQ,y0,y1,y2,dH,M') _ _ ⟨rfl,rfl,rfl,rfl,rfl,rfl,rfl,rfl,rfl,rfl,rfl,rfl,rfl,rfl,tV⟩ ⟨fun hd=>dx hd.1,fun hk=>absurd hk dx,hy.nm,hy.il,.refl _,fun T=>by simp[dx],h⟩
  have oh:gN W E (W.plain cur[j].s).of.num.toNat nb:=⟨(kE dx).1.2,by rw[hint dx];exact(kE dx).2,I1⟩;have gk:=QX B hy.nm oh;rw[hint dx]at gk;have kC:=aU.inv.Rv hj dx hy.s1 hy.s2;simp only at gk kC;refine du (dl sb y0 y1 y2 dH) [.ah l_ 156 [.iface t2 (vp jc),.slice ai cur[j].index.length ci,.bool bi,.bool bm],.own nv 4 156 nc] (SH.mG (A:=[.ah l_ 156 [.iface t2 (vp jc),.slice ai cur[j].index.length ci,.bool bi,.bool bm],.own nv 4 156 nc]) h) (Sq g B oh (fun a ha=>by obtain⟨p,hp,rfl⟩:=qaj.1 ha;exact⟨_,hy.nm p hp⟩) hE hy.il) ?_;clear h;rintro r1 M1 A1 w ⟨yW,rfl,rfl⟩ _ _ h;replace h:=h.mG;rcases yW with⟨rfl,jG⟩|⟨rfl,jG⟩
  .have iq:=kC.1 (gk.1 jG);refine aA ((j+1:Nat):Int) ?_ (hy:=rfl);exact d7 (o,⟨j+1,nv,nl,nc,nQ,y0,y1,y2,dH,M1⟩) _ _ ⟨rfl,rfl,rfl,rfl,rfl,rfl,rfl,rfl,rfl,rfl,rfl,rfl,tV⟩ ⟨hy.dead hj iq,mu.dead hj iq,SH.tail h⟩ (by simp only;omega)
  have iq:¬kw W (dz sn) cur[j]:=fun hd=>jG (gk.2 (kC.2 hd));refine du (dl sb y0 y1 y2 dH) [.ah l_ 156 [.iface t2 (vp jc),.slice ai cur[j].index.length ci,.bool bi,.bool bm],.own nv 4 156 nc] (SH.mG (A:=[.ah l_ 156 [.iface t2 (vp jc),.slice ai cur[j].index.length ci,.bool bi,.bool bm],.own nv 4 156 nc]) h) (Sn B oh (fun a ha=>by obtain⟨p,hp,rfl⟩:=qaj.1 ha;exact⟨_,hy.nm p hp⟩) jG hE hy.il) ?_;clear h;rintro _ M2 A1 w ⟨z0,z1,z2,gv,rfl,pB,rfl⟩ aQ _ h;replace h:=h.mG;rw[<-SS (j:=(W.plain cur[j].s).of.num.toNat)]at pB;have pI:=So nQ (W.plain cur[j].s).of.num.toNat nb;rw[hint dx]at pI;have nH:=Rs hy.nm oh;simp only at nH;generalize nQ++[((W.plain cur[j].s).of.num.toNat,nb)]=lY at pB pI nH;obtain⟨am,cm,bF,wJ⟩:=(B.ctx.nm _ _ oh.1 oh.2.1 oh.2.2).m;have wR:=W.mem _ (kE dx).1;have FC:=wJ.len;have yQ:bF.length<=2^40:=by
   have h1:=(sm (kE dx).1.2).2;have e1:W[(W.plain cur[j].s).of.num.toNat]'(kE dx).1.2=W.at (W.plain cur[j].s).of.num:=by simp[Wd.at,(kE dx).1.2]
   rw[e1]at h1;rw[hint dx]at FC;omega
  refine s_call h (zcV B (hE.trans (aQ.trans h.le)) wJ (by rw[hint dx];exact g.aC _ wR) (by rw[hint dx];exact fv _ wR) yQ iO hq hn h8) ?_;clear h;rintro r4 w Pz h;rw[hint dx]at Pz;have cz:=wJ.all;rw[hint dx]at FC cz;rcases Pz with⟨i,fb,hi,rfl,dQ,hid⟩|⟨rfl,De⟩;rotate_left 1
  .exact kc (lY,z0,z1,z2,gv,M2) _ _ ⟨rfl,rfl,rfl,rfl,rfl,rfl,rfl,rfl,rfl,rfl,rfl,rfl,rfl,rfl,tV⟩ ⟨iq,fun _=>De,nH,pB,aQ,fun T=>by rw[pI T];simp[dx],h⟩
  obtain⟨fF,Dg⟩:=cz i fb _ dQ (qaa hi);rw[<-fS hi]at fF;have fG:ep W (W.plain cur[j].s) (aM q n) ⟨W.start (W.plain cur[j].s).of.num.toNat+i,true,i,((W.at (W.plain cur[j].s).of.num).methods.getD i default).2,false⟩:= .bO dx hi hid;have CO:=bQ.gu kZ (pt.trans aQ);have CY:=lK;refine ak h ?_;refine fk h (qc (i:=((i:Nat):Int)) h.le CO CY) ?_;clear h;rintro rv M3 w sL bT h;cases o with
  |some ob=>
   exact⟨M3,.inr ⟨_,_,false,rfl,sL,.inr fun x e hu=>absurd hu (aU.inv.pg g bz (mu.pg g hj iq eh (ie:=⟨W.start (W.plain cur[j].s).of.num.toNat+i,true,i,((W.at (W.plain cur[j].s).of.num).methods.getD i default).2,false⟩) fG (.inl ⟨_,rfl⟩)) x e)⟩,SH.gr h⟩
  |none=>
   refine aI trivial ?_;cases bm with
   |true=>
    refine ak h ?_;exact⟨M3,.inr ⟨_,_,false,rfl,sL,.inr fun x e hu=>absurd hu (aU.inv.pg g bz (mu.pg g hj iq eh (ie:=⟨W.start (W.plain cur[j].s).of.num.toNat+i,true,i,((W.at (W.plain cur[j].s).of.num).methods.getD i default).2,false⟩) fG (.inr jT.symm)) x e)⟩,SH.gr h⟩
   |false=>
    refine ak h ?_;refine ak h ?_;have qw:r7 W E M3 (aM q n) ⟨cur[j],⟨W.start (W.plain cur[j].s).of.num.toNat+i,true,i,((W.at (W.plain cur[j].s).of.num).methods.getD i default).2,false⟩,128,fb,rv⟩:=⟨fG,Dg,rfl,(fun _=>⟨_,_,fF⟩),sL⟩;refine aA ((j+1:Nat):Int) ?_ (hy:=rfl);exact d7 (some ⟨cur[j],_,128,fb,rv⟩,⟨j+1,nv,nl,nc,lY,z0,z1,z2,gv,M3⟩) _ _ ⟨rfl,rfl,rfl,rfl,rfl,rfl,qaL Value.bool mP,rfl,rfl,rfl,rfl,rfl,tV⟩
     ⟨hy.next hj iq (hy.nl.mono fun _ _ _ h=>h.le (aQ.trans bT)) (qaQ hy.nb (qaJ _ (qcf _))) hy.gs nH (pB.le bT) (aQ.trans bT) (fun T=>by rw[pI T];simp[dx]),mu.hit g hj iq eh jT.symm rfl qw,SH.tail h⟩ (by simp only;omega)
 clear h;rintro⟨lY,z0,z1,z2,gv,M2⟩ aK w ⟨iq,De,nH,pB,aQ,pI,h⟩;simp only at nH pB aQ pI h;have ig:=hE.trans aQ;have rn:=bQ.gu kZ (pt.trans aQ);have cW:=eh.gs.under g.gw;have qZ:∀{nl':List En} {zt:List (List Value)} {DE:Value} {M3:Mem} (o':Option Ob),M2.Le M3->bC (gL W E M3) nl' zt->nl'.length<=nl.length+(W.under cur[j].s).of.fields.length->(∀e∈nl',GS W e.s/\e.s.of.kind=1)->OS W E (aM q n) ⟨k,cur,some ⟨b2,o2,none⟩,cc,sn,x0,x1,x2,mo,r,M⟩ (j+1) o' nl' M3->
  pY W E ⟨k,cur,some ⟨b2,o2,none⟩,cc,sn,x0,x1,x2,mo,r,M⟩ ⟨j+1,DE,nl',zt,lY,z0,z1,z2,gv,M3⟩:=fun{nl' zt DE M3} o' mV xc hlen rq Pu=>by
  refine hy.next hj iq xc ?_ rq nH (pB.le mV) (aQ.trans mV) pI;have h1:=hy.nb;have h2:=aU.fl cur[j] (qaf hj);simp only at h1;show nl'.length<=(j+1)*2^19;rw[qbr];omega
 refine DB B g.later (ig.trans h.le) gG eh.gs.ok.num ?_;intro t' b' w1 hf nu rA;replace h:=h.lu hf;have flat:∀{kk:Int},(W.under cur[j].s).of.kind=kk->kk≠4->(W.under cur[j].s).of.fields=[]:=fun h1 h2=>by
  obtain⟨d,vv,iY⟩:=cW.form;exact iY.xB (by rw[h1];exact h2)
 have zero:∀{kk:Int},(W.under cur[j].s).of.kind=kk->kk≠4->kk≠5->NN W (aM q n) 0 cur[j].s=0:=fun h1 h2 h3=>KT g eh De (fun i hi=>by rw[flat h1 h2]at hi;exact absurd hi (qav _)) fun h5=>absurd (h1.symm.trans h5) h3;have ends:∀{kk:Int},(W.under cur[j].s).of.kind=kk->kk≠4->NN W (aM q n) 0 cur[j].s=0->OS W E (aM q n) ⟨k,cur,some ⟨b2,o2,none⟩,cc,sn,x0,x1,x2,mo,r,M⟩ (j+1) o nl M2:=fun h1 h2 h0=>mu.Rm hj iq h0 aQ fun _=>by
  show nl=nl++uc W cur[j];rw[QE (flat h1 h2),qaC]
 rcases rA with⟨rfl,hk⟩|⟨rfl,hk⟩|⟨rfl,hk⟩|⟨rfl,hk⟩|⟨rfl,hk⟩
 .have ho:=ends hk (by decide) (zero hk (by decide) (by decide));refine aA ((j+1:Nat):Int) ?_ (hy:=rfl);exact d7 (o,⟨j+1,nv,nl,nc,lY,z0,z1,z2,gv,M2⟩) _ _ ⟨rfl,rfl,rfl,rfl,rfl,rfl,rfl,rfl,rfl,rfl,rfl,rfl,tV⟩ ⟨qZ o (.refl _) (hy.nl.mono fun _ _ _ h=>h.le aQ) (qbx _ _) hy.gs ho,ho,SH.tail h⟩ (by simp only;omega)
 .have ho:=ends hk (by decide) (zero hk (by decide) (by decide));refine aA ((j+1:Nat):Int) ?_ (hy:=rfl);exact d7 (o,⟨j+1,nv,nl,nc,lY,z0,z1,z2,gv,M2⟩) _ _ ⟨rfl,rfl,rfl,rfl,rfl,rfl,rfl,rfl,rfl,rfl,rfl,rfl,tV⟩ ⟨qZ o (.refl _) (hy.nl.mono fun _ _ _ h=>h.le aQ) (qbx _ _) hy.gs ho,ho,SH.tail h⟩ (by simp only;omega)
 .have ho:=ends hk (by decide) (zero hk (by decide) (by decide));refine aA ((j+1:Nat):Int) ?_ (hy:=rfl);exact d7 (o,⟨j+1,nv,nl,nc,lY,z0,z1,z2,gv,M2⟩) _ _ ⟨rfl,rfl,rfl,rfl,rfl,rfl,rfl,rfl,rfl,rfl,rfl,rfl,tV⟩ ⟨qZ o (.refl _) (hy.nl.mono fun _ _ _ h=>h.le aQ) (qbx _ _) hy.gs ho,ho,SH.tail h⟩ (by simp only;omega)
 .
  obtain⟨q',va,cH,gZ,e1,fD,IJ,IV,fH,jD,AO,kf⟩:=nu.inv hk;cases e1;have nB:cH.length=(W.under cur[j].s).of.fields.length:=IJ;have mr:gZ.length=(W.under cur[j].s).of.fields.length:=IV;obtain⟨af,cf,rfl,iJ,Iq⟩:=fH;rw[qat]at fD;have c_:(W.under cur[j].s).of.fields.length<=2^19:=aU.fl cur[j] (qaf hj);have fF:∀i,i<(W.under cur[j].s).of.fields.length->bL (W.fieldName ((W.under cur[j].s).of.fields.getD i default)):=fun i hi=>by
   obtain⟨d,vv,iY⟩:=cW.form;rw[fS hi];exact nq g.gw.name iY (qaf hi)
  have yS:∀i,i<(W.under cur[j].s).of.fields.length->aM (W.under cur[j].s).aC (W.fieldName ((W.under cur[j].s).of.fields.getD i default))=aM q n->W.fieldName ((W.under cur[j].s).of.fields.getD i default)≠8:=fun i hi he h0=>by
   have h1:=((qA cW.aC (fF i hi) hq hn).1 he).1;exact h8 ((ud (fF i hi) hn h1).symm.trans h0)
  have eF:=ku g.later eh.gs.ok.num;have JA:∀i,i<(W.under cur[j].s).of.fields.length->aM (W.under cur[j].s).aC (W.fieldName ((W.under cur[j].s).of.fields.getD i default))=aM q n->ep W (W.plain cur[j].s) (aM q n) ⟨(W.under cur[j].s).fieldAt i,false,i,false,false⟩:=fun i hi he=>by
   have:=ep.eS (W:=W) (s:=W.plain cur[j].s) (id:=aM q n) (i:=i) (by rw[eF];exact hi) (by rw[eF];exact yS i hi he) (by rw[eF];exact he);rw[eF]at this;exact this
  refine aP h (ig.cell _ _ _ (fD.at 0 rfl)) ?_;refine bN (X:=Option Ob×Nat×Value×List En×List (List Value)×Mem) (fun x=>[(1,.bool addr),(2,vp pb),(3,.string (bZ n)),(4,.bool false),(10,oV x.1),(11,oI x.1),(12,oB x.1),(18,vp sb),(19,x.2.2.1),(21,vp l_),(59,.slice (some ⟨b2,o2,none⟩) cur.length cc),(60,.int .i64 (cur.length:Int)),(61,.int .i64 (j:Int)),(110,.slice af cH.length cf),(111,.int .i64 (cH.length:Int)),(112,.int .i64 (x.2.1:Int))])
   (fun x w=>x.2.1<=cH.length/\M2.Le x.2.2.2.2.2/\bC (gL W E x.2.2.2.2.2) x.2.2.2.1 x.2.2.2.2.1/\x.2.2.2.1.length<=nl.length+x.2.1/\(∀e∈x.2.2.2.1,GS W e.s/\e.s.of.kind=1)/\
    ((x.1=o/\(∀i,i<x.2.1->aM (W.under cur[j].s).aC (W.fieldName ((W.under cur[j].s).of.fields.getD i default))≠aM q n)/\(o=none->x.2.2.2.1=nl++kG W cur[j] x.2.1))\/(o=none/\bm=false/\∃ob,x.1=some ob/\ob.e=cur[j]/\r7 W E x.2.2.2.2.2 (aM q n) ob/\∃i,i<x.2.1/\aM (W.under cur[j].s).aC (W.fieldName ((W.under cur[j].s).of.fields.getD i default))=aM q n))/\
    SH w0 E.mem [] x.2.2.2.2.2 (.ah l_ 156 [.iface t2 (vp jc),.slice ai cur[j].index.length ci,.bool bi,.bool bm]:: .own x.2.2.1 4 156 x.2.2.2.2.1::dl sb z0 z1 z2 gv) w) (fun x=>cH.length-x.2.1)
   (o,0,nv,nl,nc,M2) ⟨rfl,rfl,rfl,rfl,rfl,rfl,rfl,rfl,rfl,rfl,rfl,rfl,rfl,rfl,rfl,rfl,tV⟩ ⟨qae _,.refl _,hy.nl.mono fun _ _ _ h=>h.le aQ,qad _,hy.gs,.inl ⟨rfl,fun i hi=>absurd hi (qav _),fun _=>by rw[QH,qaC]⟩,h⟩ ?_
  clear h;rintro⟨o9,fi,iA,js,kH,M9⟩ aK w N4 ⟨uS,cB,lN,zbD,mU,tK,h⟩ od;simp only at uS cB lN zbD mU tK h;refine aI (fun Iv=> ?_) (fun Iu=> ?_);rotate_left 1
  .simp only at Iu;obtain rfl:fi=cH.length:=by omega
   have ho:OS W E (aM q n) ⟨k,cur,some ⟨b2,o2,none⟩,cc,sn,x0,x1,x2,mo,r,M⟩ (j+1) o9 js M9:=by
    rcases tK with⟨rfl,h1,h2⟩|⟨rfl,h1,ob,rfl,h3,h4,_⟩
    .refine mu.Rm hj iq (KT g eh De (fun i hi _=>h1 i (by omega)) fun h5=>absurd (hk.symm.trans h5) (by decide)) (aQ.trans cB) fun h0=> ?_;rw[h2 h0,nB,Kt]
    exact mu.hit g hj iq eh (jT.symm.trans h1) h3 h4
   refine aA ((j+1:Nat):Int) ?_ (hy:=rfl);exact d7 (o9,⟨j+1,iA,js,kH,lY,z0,z1,z2,gv,M9⟩) _ _ ⟨rfl,rfl,rfl,rfl,rfl,rfl,rfl,rfl,rfl,rfl,rfl,rfl,tV⟩ ⟨qZ o9 cB lN (by omega) mU ho,ho,SH.tail h⟩ (by simp only;omega)
  simp only at Iv;have lH:fi<cH.length:=by omega
  have iu:fi<(W.under cur[j].s).of.fields.length:=by omega
  have pq:=ig.trans cB;have g1:=jD fi _ _ _ (qaa lH) (qaa (by omega)) (qaa iu);have d1:=kf fi _ (qaa (by omega));have ob0:=AO fi _ (qaa lH);obtain⟨bf,RN,Xm,rfl,u7,JJ,Ii⟩:=Iq fi [vp cH[fi]] (by simp[lH]);cases Ii;have rf:=JJ 0 _ rfl;rw[qa6]at rf;generalize cH[fi]=yb at*;generalize Od:gZ[fi]'(by omega)=V1 at*;obtain⟨tVv,bV,rfl,_⟩:=d1.iface;rw[<-fS iu]at g1;have KX:ln E.mem yb (W.under cur[j].s).aC (W.fieldName ((W.under cur[j].s).of.fields.getD fi default)):=⟨by obtain⟨x,hx⟩:=B.ctx.pk _ cW.aC;exact⟨_,x,g1.at 1 rfl,hx⟩,g1.at 2 rfl,cW.aC,fF fi iu⟩;refine aJ (fi) ?_;refine aP h (pq.cell _ _ _ rf) ?_;refine s_call h (Gk B.ctx.jt (pq.trans h.le) KX iO hq hn) ?_;clear h;rintro _ w (⟨rfl,hid⟩|⟨rfl,hid⟩) h
  .
   have fG:=JA fi iu hid;refine aP h (pq.cell _ _ _ (g1.at 3 rfl)) ?_;refine s_call h (EE) ?_;clear h;rintro _ w rfl h;rcases tK with⟨h00,h1,h2⟩|⟨rfl,h1,ob,rfl,h3,h4,i0,h5,h6⟩;rotate_left 1
   .have:=HN g.gw.name cW eh.val (by omega) iu (yS i0 (by omega) h6) (h6.trans hid.symm);omega
   have zam:=h00.symm;subst zam;have CO:=bQ.gu rn cB;have CY:=lK;refine ak h ?_;refine fk h (qc (i:=((fi:Nat):Int)) h.le CO CY) ?_;clear h;rintro rv M3 w sL bT h;cases o with
   |some ob=>
    exact⟨M3,.inr ⟨_,_,false,rfl,sL,.inr fun x e hu=>absurd hu (aU.inv.pg g bz (mu.pg g hj iq eh (ie:=⟨(W.under cur[j].s).fieldAt fi,false,fi,false,false⟩) fG (.inl ⟨_,rfl⟩)) x e)⟩,SH.gr h⟩
   |none=>
    refine aI trivial ?_;cases bm with
    |true=>
     refine ak h ?_;exact⟨M3,.inr ⟨_,_,false,rfl,sL,.inr fun x e hu=>absurd hu (aU.inv.pg g bz (mu.pg g hj iq eh (ie:=⟨(W.under cur[j].s).fieldAt fi,false,fi,false,false⟩) fG (.inr jT.symm)) x e)⟩,SH.gr h⟩
    |false=>
     refine ak h ?_;refine ak h ?_;have qw:r7 W E M3 (aM q n) ⟨cur[j],⟨(W.under cur[j].s).fieldAt fi,false,fi,false,false⟩,172,yb,rv⟩:=⟨fG,ob0,rfl,(fun h=>by cases h),sL⟩;refine aA ((fi+1:Nat):Int) ?_ (hy:=rfl);exact od (some ⟨cur[j],_,172,yb,rv⟩,fi+1,iA,js,kH,M3) _ _ ⟨rfl,rfl,rfl,rfl,rfl,rfl,qaL Value.bool mP,rfl,rfl,rfl,rfl,rfl,rfl,rfl,rfl,rfl,tV⟩
      ⟨lH,cB.trans bT,lN.mono fun _ _ _ h=>h.le bT,by simp only;omega,mU,.inr ⟨rfl,rfl,_,rfl,rfl,qw,fi,qam _,hid⟩,h⟩ (by simp only;omega)
  
  cases o9 with
  |some ob9=>
   refine aA ((fi+1:Nat):Int) ?_ (hy:=rfl);refine od (some ob9,fi+1,iA,js,kH,M9) _ _ ⟨rfl,rfl,rfl,rfl,rfl,rfl,rfl,rfl,rfl,rfl,rfl,rfl,rfl,rfl,rfl,rfl,tV⟩ ⟨lH,cB,lN,by simp only;omega,mU,?_,h⟩ (by simp only;omega);rcases tK with⟨h1,h2,h3⟩|⟨h1,h2,ob,h3,h4,h5,i0,h6,h7⟩
   .refine .inl ⟨h1,fun i hi=> ?_,fun h0=>by rw[h0]at h1;cases h1⟩;by_cases lI:i=fi
    .rw[lI];exact hid
    exact h2 i (by simp only at hi;omega)
   exact .inr ⟨h1,h2,ob,h3,h4,h5,i0,Nat.lt_succ_of_lt h6,h7⟩
  |none=>
   refine aI trivial ?_;have zbb:o=none/\(∀i,i<fi->aM (W.under cur[j].s).aC (W.fieldName ((W.under cur[j].s).of.fields.getD i default))≠aM q n)/\js=nl++kG W cur[j] fi:=by
    rcases tK with⟨h1,h2,h3⟩|⟨_,_,ob,h3,_⟩
    .exact⟨h1.symm,h2,h3 h1.symm⟩
    cases h3
   obtain⟨rfl,zbG,Da⟩:=zbb;have Dd:∀i,i<fi+1->aM (W.under cur[j].s).aC (W.fieldName ((W.under cur[j].s).of.fields.getD i default))≠aM q n:=fun i hi=>by
    by_cases lI:i=fi
    .rw[lI];exact hid
    exact zbG i (by omega)
   have c5:=g1.at 5 rfl;obtain⟨em,jk⟩:∃x,x=((W.under cur[j].s).of.fields.getD fi default).2.1:=⟨_,rfl⟩;rw[<-jk]at c5;cases em with
   |false=>
    refine aP h (pq.cell _ _ _ c5) ?_;refine aA ((fi+1:Nat):Int) ?_ (hy:=rfl);exact od (none,fi+1,iA,js,kH,M9) _ _ ⟨rfl,rfl,rfl,rfl,rfl,rfl,rfl,rfl,rfl,rfl,rfl,rfl,rfl,rfl,rfl,rfl,tV⟩ ⟨lH,cB,lN,by simp only;omega,mU,.inl ⟨rfl,Dd,fun _=>by simp only;rw[QG jk.symm,Da]⟩,h⟩ (by simp only;omega)
   |true=>
    obtain⟨vI,vJ,DA⟩:=Nc g eh iu (by rw[<-fS iu];exact jk.symm);refine aP h (pq.cell _ _ _ c5) ?_;refine aP h (pq.cell _ _ _ (g1.at 3 rfl)) ?_;refine s_call h (EQ B g.later (pq.trans h.le) d1 (cW.field iu).ok.num) ?_;clear h;have zaD:nl.length<=j*2^19:=hy.nb;have zaF:cur.length<=W.length+1:=aU.inv.len;have qt:=lN.len;have uM:(kH.length+1)*(48+1)<=140737488355328:=by
     have zbl:j*2^19<=(2^19+1)*2^19:=qaJ _ (by omega);omega
    rintro _ w (⟨v',rfl,dE,ke⟩|⟨rfl,dE⟩) h
    .have gi:((W.under cur[j].s).field fi).of.kind=2:=by
      rcases DA with⟨_,h1⟩|h1
      .exact absurd dE h1
      exact h1
     rw[eu (.inl (by rw[gi];decide))]at ke;have ge:((W.under cur[j].s).field fi).base=((W.under cur[j].s).field fi).elem:=by unfold Sp.base;rw[if_pos gi]
     rw[<-ge]at ke;obtain⟨tw,bw,rfl,_⟩:=ke.iface;cases bi with
     |true=>
      have dB:=h.lT (b:=l_) (v:=iA);refine b_ (cZ iA) h ?_;clear h;intro w h;refine bI h ?_ (hS:=dB);refine bI h ?_ (hS:=dB);refine bI h ?_ (hS:=dB);refine aI ?_ trivial;refine fN h (qc (i:=((fi:Nat):Int)) h.le (bQ.gu rn cB) lK) ?_;clear h;rintro _ M5 w ⟨a5,c5,rfl,ik,dw⟩ aV h;have gq:gL W E M5 ⟨((W.under cur[j].s).field fi).base,cur[j].index++[((fi:Nat):Int)],true,bm⟩ [Value.iface tw (vp bw),.slice a5 (cur[j].index++[((fi:Nat):Int)]).length c5,.bool true,.bool bm]:=⟨Value.iface tw (vp bw),_,rfl,ke,⟨a5,c5,rfl,ik,dw⟩⟩;refine aI ?_ trivial;refine dX h ?_;clear h;intro bq w h;refine aI ?_ trivial;refine eI h ww h.df (de gq.one) ?_ (hb:=uM);clear h;intro v10 w h;refine aA ((fi+1:Nat):Int) ?_ (hy:=rfl);refine od (none,fi+1,v10,js++[⟨((W.under cur[j].s).field fi).base,cur[j].index++[((fi:Nat):Int)],true,bm⟩],kH++[[Value.iface tw (vp bw),.slice a5 (cur[j].index++[((fi:Nat):Int)]).length c5,.bool true,.bool bm]],M5) _ _ ⟨rfl,rfl,rfl,rfl,rfl,rfl,rfl,rfl,rfl,rfl,rfl,rfl,rfl,rfl,rfl,rfl,tV⟩ ⟨lH,cB.trans aV,(lN.mono fun _ _ _ h=>h.le aV).snoc gq,?_,fun e he=> ?_,.inl ⟨rfl,Dd,fun _=> ?_⟩,h.xJ⟩ (by simp only;omega)
      .simp only[qar,qaO,qbb];omega
      .rcases qah.1 he with he|he
       .exact mU e he
       rw[qac.1 he];exact⟨vI,vJ⟩
      show js++_=nl++kG W cur[j] (fi+1);rw[xq jk.symm,Da,qap,<-mP,<-jT,qaH gi];rfl
     |false=>
      have dB:=h.lT (b:=l_) (v:=iA);refine b_ (cZ iA) h ?_;clear h;intro w h;refine bI h ?_ (hS:=dB);refine bI h ?_ (hS:=dB);refine bI h ?_ (hS:=dB);refine aI ?_ trivial;refine fN h (qc (i:=((fi:Nat):Int)) h.le (bQ.gu rn cB) lK) ?_;clear h;rintro _ M5 w ⟨a5,c5,rfl,ik,dw⟩ aV h;have gq:gL W E M5 ⟨((W.under cur[j].s).field fi).base,cur[j].index++[((fi:Nat):Int)],true,bm⟩ [Value.iface tw (vp bw),.slice a5 (cur[j].index++[((fi:Nat):Int)]).length c5,.bool true,.bool bm]:=⟨Value.iface tw (vp bw),_,rfl,ke,⟨a5,c5,rfl,ik,dw⟩⟩;refine aI ?_ trivial;refine dX h ?_;clear h;intro bq w h;refine aI ?_ trivial;refine eI h ww h.df (de gq.one) ?_ (hb:=uM);clear h;intro v10 w h;refine aA ((fi+1:Nat):Int) ?_ (hy:=rfl);refine od (none,fi+1,v10,js++[⟨((W.under cur[j].s).field fi).base,cur[j].index++[((fi:Nat):Int)],true,bm⟩],kH++[[Value.iface tw (vp bw),.slice a5 (cur[j].index++[((fi:Nat):Int)]).length c5,.bool true,.bool bm]],M5) _ _ ⟨rfl,rfl,rfl,rfl,rfl,rfl,rfl,rfl,rfl,rfl,rfl,rfl,rfl,rfl,rfl,rfl,tV⟩ ⟨lH,cB.trans aV,(lN.mono fun _ _ _ h=>h.le aV).snoc gq,?_,fun e he=> ?_,.inl ⟨rfl,Dd,fun _=> ?_⟩,h.xJ⟩ (by simp only;omega)
      .simp only[qar,qaO,qbb];omega
      .rcases qah.1 he with he|he
       .exact mU e he
       rw[qac.1 he];exact⟨vI,vJ⟩
      show js++_=nl++kG W cur[j] (fi+1);rw[xq jk.symm,Da,qap,<-mP,<-jT,qaH gi];rfl
    have gi:((W.under cur[j].s).field fi).of.kind=1:=by
     rcases DA with⟨h1,_⟩|h1
     .exact h1
     exact absurd (by rw[eu (.inl (by rw[h1];decide))];exact h1) dE
    have yL:¬((W.under cur[j].s).field fi).of.kind=2:=by rw[gi];decide
    have ge:((W.under cur[j].s).field fi).base=(W.under cur[j].s).field fi:=by unfold Sp.base;rw[if_neg yL]
    rw[<-ge]at d1;cases bi with
    |true=>
     have dB:=h.lT (b:=l_) (v:=iA);refine b_ (cZ iA) h ?_;clear h;intro w h;refine bI h ?_ (hS:=dB);refine bI h ?_ (hS:=dB);refine bI h ?_ (hS:=dB);refine aI ?_ trivial;refine fN h (qc (i:=((fi:Nat):Int)) h.le (bQ.gu rn cB) lK) ?_;clear h;rintro _ M5 w ⟨a5,c5,rfl,ik,dw⟩ aV h;have gq:gL W E M5 ⟨((W.under cur[j].s).field fi).base,cur[j].index++[((fi:Nat):Int)],true,bm⟩ [Value.iface tVv (vp bV),.slice a5 (cur[j].index++[((fi:Nat):Int)]).length c5,.bool true,.bool bm]:=⟨Value.iface tVv (vp bV),_,rfl,d1,⟨a5,c5,rfl,ik,dw⟩⟩;refine aI ?_ trivial;refine dX h ?_;clear h;intro bq w h;refine aI ?_ trivial;refine eI h ww h.df (de gq.one) ?_ (hb:=uM);clear h;intro v10 w h;refine aA ((fi+1:Nat):Int) ?_ (hy:=rfl);refine od (none,fi+1,v10,js++[⟨((W.under cur[j].s).field fi).base,cur[j].index++[((fi:Nat):Int)],true,bm⟩],kH++[[Value.iface tVv (vp bV),.slice a5 (cur[j].index++[((fi:Nat):Int)]).length c5,.bool true,.bool bm]],M5) _ _ ⟨rfl,rfl,rfl,rfl,rfl,rfl,rfl,rfl,rfl,rfl,rfl,rfl,rfl,rfl,rfl,rfl,tV⟩ ⟨lH,cB.trans aV,(lN.mono fun _ _ _ h=>h.le aV).snoc gq,?_,fun e he=> ?_,.inl ⟨rfl,Dd,fun _=> ?_⟩,h.xJ⟩ (by simp only;omega)
     .simp only[qar,qaO,qbb];omega
     .rcases qah.1 he with he|he
      .exact mU e he
      rw[qac.1 he];exact⟨vI,vJ⟩
     show js++_=nl++kG W cur[j] (fi+1);rw[xq jk.symm,Da,qap,<-mP,<-jT,qaK yL];rfl
    |false=>
     have dB:=h.lT (b:=l_) (v:=iA);refine b_ (cZ iA) h ?_;clear h;intro w h;refine bI h ?_ (hS:=dB);refine bI h ?_ (hS:=dB);refine bI h ?_ (hS:=dB);refine aI ?_ trivial;refine fN h (qc (i:=((fi:Nat):Int)) h.le (bQ.gu rn cB) lK) ?_;clear h;rintro _ M5 w ⟨a5,c5,rfl,ik,dw⟩ aV h;have gq:gL W E M5 ⟨((W.under cur[j].s).field fi).base,cur[j].index++[((fi:Nat):Int)],false,bm⟩ [Value.iface tVv (vp bV),.slice a5 (cur[j].index++[((fi:Nat):Int)]).length c5,.bool false,.bool bm]:=⟨Value.iface tVv (vp bV),_,rfl,d1,⟨a5,c5,rfl,ik,dw⟩⟩;refine aI ?_ trivial;refine dX h ?_;clear h;intro bq w h;refine aI ?_ trivial;refine eI h ww h.df (de gq.one) ?_ (hb:=uM);clear h;intro v10 w h;refine aA ((fi+1:Nat):Int) ?_ (hy:=rfl);refine od (none,fi+1,v10,js++[⟨((W.under cur[j].s).field fi).base,cur[j].index++[((fi:Nat):Int)],false,bm⟩],kH++[[Value.iface tVv (vp bV),.slice a5 (cur[j].index++[((fi:Nat):Int)]).length c5,.bool false,.bool bm]],M5) _ _ ⟨rfl,rfl,rfl,rfl,rfl,rfl,rfl,rfl,rfl,rfl,rfl,rfl,rfl,rfl,rfl,rfl,tV⟩ ⟨lH,cB.trans aV,(lN.mono fun _ _ _ h=>h.le aV).snoc gq,?_,fun e he=> ?_,.inl ⟨rfl,Dd,fun _=> ?_⟩,h.xJ⟩ (by simp only;omega)
     .simp only[qar,qaO,qbb];omega
     .rcases qah.1 he with he|he
      .exact mU e he
      rw[qac.1 he];exact⟨vI,vJ⟩
     show js++_=nl++kG W cur[j] (fi+1);rw[xq jk.symm,Da,qap,<-mP,<-jT,qaK yL];rfl
 
 have lI:E.cM (W.under cur[j].s) b':=by
  generalize t8:Value.iface 134 (vp b')=v at nu;cases nu with
  |cM _ hi=>rw[kN (qaP t8).2];exact hi
  |basic ad=>rw[hk]at ad;cases ad
  |named ad=>rw[hk]at ad;cases ad
  |ptr ad=>rw[hk]at ad;cases ad
  |lX ad=>rw[hk]at ad;cases ad
  |lZ ad=>rw[hk]at ad;cases ad
 obtain⟨tb,nr,my,Fc,vm,vt,bF,cL,cu,oG,dQ⟩:=B.ts _ _ lI;have tU:=(B.ctx.ifs _ _ lI).1;have dC:(W.under cur[j].s).of.kind≠1:=by rw[hk];decide
 have AN:=we g.gw nr _ cW;have zbN:=Br (zG W nr (W.under cur[j].s)) fun x hx=>(AN x hx).1;have gl:∀n',g_ W n' (W.under cur[j].s)->dj W n' (W.under cur[j].s)=dj W nr (W.under cur[j].s):=fun n' h'=>D8 g.later g.rd h' my;have FF:∀i m,(dj W nr (W.under cur[j].s))[i]? =some m->m.id=aM q n->ep W (W.plain cur[j].s) (aM q n) ⟨m.num,true,i,false,true⟩:=fun i m h1 h2=>by
  have eF:=ku g.later eh.gs.ok.num;exact .cM (n:=nr) (by rw[eF];exact hk) (by rw[eF];exact my) (by rw[eF];exact h1) h2
 generalize dj W nr (W.under cur[j].s)=ms at*;have ov:=dQ.len;obtain⟨am,cm,rfl,rj,CQ⟩:=cu;rw[qat]at cL;have fF:∀(i b:Nat) (m:bD),bF[i]? =some b->ms[i]? =some m->s7 E m false b:=fun i b m h1 h2=>by
  obtain⟨b',h3,h4⟩:=dQ.get h2;rw[h1]at h3;cases h3;exact h4
 refine s_call h (GH (ig.trans h.le) tU.c0 Fc) ?_;clear h;rintro _ w rfl h;have h':=h;refine s_call h (R:=fun r w'=>((∃(i fb:Nat) (y:bD),r= .tuple #[.int .i64 ((i:Nat):Int),vp fb]/\bF[i]? =some fb/\ms[i]? =some y/\y.id=aM q n)\/(r= .tuple #[.int .i64 (-1),.pointer none]/\∀y∈ms,y.id≠aM q n))) ?_ ?_
 .refine aL mixed func144 Vn ?_;have hh:=SH.start (M:=E.mem) (ig.trans h.le);refine aP hh (cL.at 1 rfl) ?_;refine s_call hh (zc5 B.ctx.jt hh.le CQ (dQ.mono fun y hy b h=>h.uA.DF B.ctx.pk (AN y hy).1.1 (AN y hy).1.2) (by omega) iO hq hn h8) ?_;rintro r w2 hr hh;rcases hr with⟨i,fb,y,rfl,h1,h2,h3⟩|⟨rfl,h1⟩
  .exact⟨.inl ⟨i,fb,y,rfl,h1,h2,h3⟩,hh.fr⟩
  exact⟨.inr ⟨rfl,h1⟩,hh.fr⟩
 clear h h';rintro r w (⟨i,fb,y,rfl,h1,h2,h3⟩|⟨rfl,zbF⟩) h;rotate_left 1
 .have ho:=ends hk (by decide) (KT g eh De (fun i hi=>by rw[flat hk (by decide)]at hi;exact absurd hi (qav _)) fun _ n' lM m hm=>by rw[gl n' lM]at hm;exact zbF m hm);refine aA ((j+1:Nat):Int) ?_ (hy:=rfl);exact d7 (o,⟨j+1,nv,nl,nc,lY,z0,z1,z2,gv,M2⟩) _ _ ⟨rfl,rfl,rfl,rfl,rfl,rfl,rfl,rfl,rfl,rfl,rfl,rfl,tV⟩ ⟨qZ o (.refl _) (hy.nl.mono fun _ _ _ h=>h.le aQ) (qbx _ _) hy.gs ho,ho,SH.tail h⟩ (by simp only;omega)
 have hF:=fF i fb y h1 h2;obtain⟨sg,_,_,_,hfh,_⟩:=hF.all;have Fg:E.mem.cell fb 3=some (.iface 235 (vp sg)):=hfh.at 3 rfl;have fG:=FF i y h2 h3;refine aP h (ig.cell _ _ _ Fg) ?_;refine s_call h (EE) ?_;clear h;rintro _ w rfl h;have CO:=rn;have CY:=lK;refine ak h ?_;refine fk h (qc (i:=((i:Nat):Int)) h.le CO CY) ?_;clear h;rintro rv M3 w sL bT h;cases o with
 |some ob=>
  exact⟨M3,.inr ⟨_,_,false,rfl,sL,.inr fun x e hu=>absurd hu (aU.inv.pg g bz (mu.pg g hj iq eh (ie:=⟨y.num,true,i,false,true⟩) fG (.inl ⟨_,rfl⟩)) x e)⟩,SH.gr h⟩
 |none=>
  refine aI trivial ?_;cases bm with
  |true=>
   refine ak h ?_;exact⟨M3,.inr ⟨_,_,false,rfl,sL,.inr fun x e hu=>absurd hu (aU.inv.pg g bz (mu.pg g hj iq eh (ie:=⟨y.num,true,i,false,true⟩) fG (.inr jT.symm)) x e)⟩,SH.gr h⟩
  |false=>
   refine ak h ?_;refine ak h ?_;have qw:r7 W E M3 (aM q n) ⟨cur[j],⟨y.num,true,i,false,true⟩,128,fb,rv⟩:=⟨fG,hF.ob,rfl,(fun _=>⟨_,_,hF.uA⟩),sL⟩;have ho:=mu.hit g hj iq eh jT.symm (ob:=⟨cur[j],_,128,fb,rv⟩) rfl (nl':=nl) qw;refine aA ((j+1:Nat):Int) ?_ (hy:=rfl);exact d7 (some ⟨cur[j],_,128,fb,rv⟩,⟨j+1,nv,nl,nc,lY,z0,z1,z2,gv,M3⟩) _ _ ⟨rfl,rfl,rfl,rfl,rfl,rfl,qaL Value.bool mP,rfl,rfl,rfl,rfl,rfl,tV⟩
    ⟨qZ _ bT (hy.nl.mono fun _ _ _ h=>h.le (aQ.trans bT)) (qbx _ _) hy.gs ho,ho,SH.tail h⟩ (by simp only;omega)
end
end
section
open Go.MapKept
variable {f:ByteArray->Option Value}{es:Array MapEntry}{id:ByteArray}
structure KF(es:Array MapEntry)(f:ByteArray->Option Value):Prop where
 key:∀p∈bt es,IsKey .string p.1
 nd:((bt es).map (·.1)).Nodup
 mem:∀id v,(Value.string id,v)∈bt es↔f id=some v
def eR(f:ByteArray->Option Value)(id:ByteArray)(v:Value):ByteArray->Option Value:=fun i=>if i=id then some v else f i
theorem KF.nil(h:∀id,f id=none):KF #[] f:=⟨by simp[bt],by simp[bt],fun id v=>by rw[h];simp[bt]⟩
theorem KF.iS{bP:Array MapEntry}{v:Value}(h:KF es f)(hu:mM (bt es) (.string id) v (bt bP)):KF bP (eR f id v):=by
 refine⟨fun p hp=> ?_,hu.nd h.nd,fun i x=> ?_⟩
 .obtain⟨k,x⟩:=p;rcases(hu.mem k x).1 hp with⟨rfl,_⟩|⟨_,hm⟩
  .trivial
  exact h.key _ hm
 rw[hu.mem];unfold eR;by_cases hi:i=id
 .subst hi;simp[eq_comm]
 rw[if_neg hi,h.mem];constructor
 .rintro(⟨h1,_⟩|⟨_,h2⟩)
  .exact absurd (qcc h1) hi
  exact h2
 intro h2;exact .inr ⟨fun h3=>hi (qcc h3),h2⟩
theorem KF.no(h:KF es f)(bz:∀p∈bt es,p.1≠.string id):f id=none:=by
 cases hf:f id with
 |none=>rfl
 |some v=>exact absurd rfl (bz _ ((h.mem id v).2 hf))
abbrev ky:=Option (Nat×Array MapEntry)
@[reducible]def dK:ky->List aB
 |none=>[]
 |some me=>[.map me.1 me.2]
@[reducible]def gB:ky->Value
 |none=> .map none
 |some me=> .map (some me.1)
def nV:ky->(ByteArray->Option Value)->Prop
 |none,f=>∀id,f id=none
 |some me,f=>KF me.2 f
theorem gy:prog.underlying 152=some (.map 9 108):=by kernel_rfl
theorem wg:prog.underlying 162=some (.map 9 4):=by kernel_rfl
theorem fW:prog.underlying 9=some .string:=by kernel_rfl
theorem Qh:∃i,prog.info? 108=some i/\i.zero=some (.pointer none):=Bc (by kernel_rfl)
theorem zcp:∃i,prog.info? 4=some i/\i.zero=some (.bool false):=Bc (by kernel_rfl)
structure bR where
 id:ByteArray
 b:Nat
 fb:Nat
 a:Option Addr
 l:Nat
 c:Nat
 ind:Bool
def bR.iv(x:bR):Value:= .slice x.a x.l x.c
@[reducible]def bR.cs(x:bR)(rv:Value):List Value:=[.int .i64 1,rv,.iface 128 (vp x.fb),.slice x.a x.l x.c,.bool x.ind]
@[reducible]def bR.e(x:bR):aB:= .ah x.b 191 (x.cs .nilIface)
def LT(f:ByteArray->Option Value)(id:ByteArray)(fb:Nat)(ptr:Bool)(a:Option Addr)(l c:Nat)(ind mult:Bool)(bP:Array MapEntry)(b:Nat)(A':List aB):Prop:=
 (mult=false/\f id=none/\(ind=true\/ptr=false)/\∃sb,KF bP (eR f id (vp sb))/\A'=[.map b bP,bR.e ⟨id,sb,fb,a,l,c,ind⟩])\/
 (¬(mult=false/\f id=none/\(ind=true\/ptr=false))/\KF bP (eR f id (.pointer none))/\A'=[.map b bP])
theorem Uo{w0:World}{M:Mem}{pk:Int->Nat}{mo:ky}{fb:Nat}{p n:Int}{ptr ind mult:Bool}{a:Option Addr}{l c:Nat}(hT:fA M)(hf:fY M pk p n ptr fb)(ho:ln M fb p n)(hm:nV mo f)(h:SH w0 M (cp (dK mo)) M (dK mo) w0):
 az prog 67 [gB mo,vp fb,.slice a l c,.bool ind,.bool mult] w0 fun r w'=>∃M' A',(∃b bP,r= .map (some b)/\M'=M/\LT f (aM p n) fb ptr a l c ind mult bP b A')/\SH w0 M (cp (dK mo)) M' A' w':=by
 generalize hD:cp (dK mo)=D at h⊢;obtain⟨i108,uW,vG⟩:=Qh;refine aL mixed func67 WB ?_;have fin:∀{w:World} {b:Nat} {es bP:Array MapEntry} {w':World},KF es f->mM (bt es) (.string (aM p n)) (.pointer none) (bt bP)->¬(mult=false/\f (aM p n)=none/\(ind=true\/ptr=false))->SH w0 M D M [.map b bP] w'->∃M' A',(∃b1 bP,Value.map (some b)= .map (some b1)/\M'=M/\LT f (aM p n) fb ptr a l c ind mult bP b1 A')/\SH w0 M D M' A' w':=
  fun hk hu hc h=>⟨M,_,⟨_,_,rfl,rfl,.inr ⟨hc,hk.iS hu,rfl⟩⟩,h⟩
 cases mo with
 |none=>
  refine qG h ?_;clear h;intro b w h;have hk:KF #[] f:=KF.nil hm;refine s_call h (xC hT h.le ho) ?_;clear h;rintro _ w rfl h;cases mult with
  |true=>
   refine jN (key:= .string (aM p n)) (val:= .pointer none) h rfl rfl rfl gy fW hk.key trivial hk.nd ?_;clear h;intro bP w hu h;exact fin (w:=w) hk hu (fun hx=>by cases hx.1) h
  |false=>
   refine vX (key:= .string (aM p n)) h rfl rfl gy fW uW vG hk.key trivial (fun v hv=> ?_) (fun bz=> ?_)
   .refine jN (key:= .string (aM p n)) (val:= .pointer none) h rfl rfl rfl gy fW hk.key trivial hk.nd ?_;clear h;intro bP w hu h;have:=(hk.mem _ _).1 hv;exact fin (w:=w) hk hu (fun hx=>by rw[hx.2.1]at this;cases this) h
   have nD:=hk.no bz;cases ind with
   |true=>
    refine au (cs:=(bR.cs ⟨aM p n,0,fb,a,l,c,true⟩ .nilIface)) h ?_;clear h;intro sb w h;refine jN (key:= .string (aM p n)) (val:=vp sb) h rfl rfl rfl gy fW hk.key trivial hk.nd ?_;clear h;intro bP w hu h;exact⟨M,_,⟨b,bP,rfl,rfl,.inl ⟨rfl,nD,.inl rfl,sb,hk.iS hu,rfl⟩⟩,h⟩
   |false=>
    refine s_call h (Lc h.le hf) ?_;clear h;rintro _ w rfl h;cases ptr with
    |true=>
     refine jN (key:= .string (aM p n)) (val:= .pointer none) h rfl rfl rfl gy fW hk.key trivial hk.nd ?_;clear h;intro bP w hu h;exact fin (w:=w) hk hu (fun hx=>by rcases hx.2.2 with h|h<;>cases h) h
    |false=>
     refine au (cs:=(bR.cs ⟨aM p n,0,fb,a,l,c,false⟩ .nilIface)) h ?_;clear h;intro sb w h;refine jN (key:= .string (aM p n)) (val:=vp sb) h rfl rfl rfl gy fW hk.key trivial hk.nd ?_;clear h;intro bP w hu h;exact⟨M,_,⟨b,bP,rfl,rfl,.inl ⟨rfl,nD,.inr rfl,sb,hk.iS hu,rfl⟩⟩,h⟩
 |some me=>
  obtain⟨b,es⟩:=me;have hk:KF es f:=hm;replace h:SH w0 M D M [.map b es] w0:=h;refine s_call h (xC hT h.le ho) ?_;clear h;rintro _ w rfl h;cases mult with
  |true=>
   refine jN (key:= .string (aM p n)) (val:= .pointer none) h rfl rfl rfl gy fW hk.key trivial hk.nd ?_;clear h;intro bP w hu h;exact fin (w:=w) hk hu (fun hx=>by cases hx.1) h
  |false=>
   refine vX (key:= .string (aM p n)) h rfl rfl gy fW uW vG hk.key trivial (fun v hv=> ?_) (fun bz=> ?_)
   .refine jN (key:= .string (aM p n)) (val:= .pointer none) h rfl rfl rfl gy fW hk.key trivial hk.nd ?_;clear h;intro bP w hu h;have:=(hk.mem _ _).1 hv;exact fin (w:=w) hk hu (fun hx=>by rw[hx.2.1]at this;cases this) h
   have nD:=hk.no bz;cases ind with
   |true=>
    refine au (cs:=(bR.cs ⟨aM p n,0,fb,a,l,c,true⟩ .nilIface)) h ?_;clear h;intro sb w h;refine jN (key:= .string (aM p n)) (val:=vp sb) h rfl rfl rfl gy fW hk.key trivial hk.nd ?_;clear h;intro bP w hu h;exact⟨M,_,⟨b,bP,rfl,rfl,.inl ⟨rfl,nD,.inl rfl,sb,hk.iS hu,rfl⟩⟩,h⟩
   |false=>
    refine s_call h (Lc h.le hf) ?_;clear h;rintro _ w rfl h;cases ptr with
    |true=>
     refine jN (key:= .string (aM p n)) (val:= .pointer none) h rfl rfl rfl gy fW hk.key trivial hk.nd ?_;clear h;intro bP w hu h;exact fin (w:=w) hk hu (fun hx=>by rcases hx.2.2 with h|h<;>cases h) h
    |false=>
     refine au (cs:=(bR.cs ⟨aM p n,0,fb,a,l,c,false⟩ .nilIface)) h ?_;clear h;intro sb w h;refine jN (key:= .string (aM p n)) (val:=vp sb) h rfl rfl rfl gy fW hk.key trivial hk.nd ?_;clear h;intro bP w hu h;exact⟨M,_,⟨b,bP,rfl,rfl,.inl ⟨rfl,nD,.inr rfl,sb,hk.iS hu,rfl⟩⟩,h⟩
end
section
open Go.MapKept
variable {pk:Int->Nat}{mo:ky}{f:ByteArray->Option Value}{aX:List bR}{ind mult:Bool}
@[reducible]def iD(mo:ky)(aX:List bR):List aB:=dK mo++aX.map bR.e
def GV(f:ByteArray->Option Value)(aX:List bR)(id:ByteArray)(fb:Nat)(ptr:Bool)(a:Option Addr)(l c:Nat)(ind mult:Bool)(f':ByteArray->Option Value)(iC:List bR):Prop:=
 (mult=false/\f id=none/\(ind=true\/ptr=false)/\∃sb,f'=eR f id (vp sb)/\iC=aX++[⟨id,sb,fb,a,l,c,ind⟩])\/
 (¬(mult=false/\f id=none/\(ind=true\/ptr=false))/\f'=eR f id (.pointer none)/\iC=aX)
theorem SH.zdA{u:World}{M0 M:Mem}{D:List Nat}{L:List aB}{w:World}(h:SH u M0 D M L w):SH u M0 D M (L++[]) w:=by rwa [qaC]
section
variable {w0:World}{M:Mem}
theorem L9{fb:Nat}{p n:Int}{ptr:Bool}{a:Option Addr}{l c:Nat}(hT:fA M)(hf:fY M pk p n ptr fb)(ho:ln M fb p n)(hm:nV mo f)(h:SH w0 M (cp (iD mo aX)) M (iD mo aX) w0):
 az prog 67 [gB mo,vp fb,.slice a l c,.bool ind,.bool mult] w0 fun r w'=>∃M' A',(∃me f' iC,r=gB (some me)/\M'=M/\nV (some me) f'/\GV f aX (aM p n) fb ptr a l c ind mult f' iC/\A'=iD (some me) iC)/\SH w0 M (cp (iD mo aX)) M' A' w':=by
 refine du (dK mo) (aX.map bR.e) h (Uo hT hf ho hm (a:=a) (l:=l) (c:=c) (ind:=ind) (mult:=mult)) ?_;rintro r M' A' w' ⟨b,bP,rfl,rfl,ha⟩ _ _ h;rcases ha with⟨h1,h2,h3,sb,h4,rfl⟩|⟨h1,h4,rfl⟩
 .refine⟨_,_,⟨(b,bP),_,_,rfl,rfl,h4,.inl ⟨h1,h2,h3,sb,rfl,rfl⟩,rfl⟩,h.perm ?_⟩;simp only[qa_,qbk,qaq,qaB,qa0,iD,dK];exact List.Perm.cons _ (List.perm_append_singleton _ _).symm
 exact⟨_,_,⟨(b,bP),_,_,rfl,rfl,h4,.inr ⟨h1,rfl,rfl⟩,rfl⟩,h⟩
theorem Ur{J:Mem->Nat->(ByteArray->Option Value)->List bR->Prop}{cH:List Nat}{am ai:Option Addr}{xs:List Int}{cm ci:Nat}(hT:fA M)(hl:bQ M 1 gz am (cH.map fun b=>[vp b]))(lK:bQ M 1 dO ai xs)(nL:xs.length<=2^40)(c_:cH.length<=2^40)
 (hm:nV mo f) (hJ:J M 0 f aX) (zbz:∀{M1 M2:Mem} {i f aX},M1.Le M2->J M1 i f aX->J M2 i f aX)
 (vA:∀i b,cH[i]? =some b->∃p n ptr,fY M pk p n ptr b/\ln M b p n/\∀(M1:Mem) f aX a l c f' iC,M.Le M1->J M1 i f aX->Sl M1 1 dO (.slice a l c) (xs++[((i:Nat):Int)])->GV f aX (aM p n) b ptr a l c ind mult f' iC->J M1 (i+1) f' iC)
 (h:SH w0 M (cp (iD mo aX)) M (iD mo aX) w0):
 az prog 71 [gB mo,.slice am cH.length cm,.slice ai xs.length ci,.bool ind,.bool mult] w0 fun r w'=>∃M' A',(∃dH f' iC,r=gB dH/\nV dH f'/\J M' cH.length f' iC/\A'=iD dH iC)/\SH w0 M (cp (iD mo aX)) M' A' w':=by
 generalize hD:cp (iD mo aX)=D at h⊢;refine aL mixed func71 WF ?_;refine aI (fun h0=> ?_) (fun aT=> ?_)
 .have qi:cH.length=0:=by omega
  exact⟨M,_,⟨mo,f,aX,rfl,hm,by rw[qi];exact hJ,rfl⟩,h⟩
 refine bN (X:=Nat×ky×(ByteArray->Option Value)×List bR×Mem) (fun x=>[(0,gB x.2.1),(2,.slice ai xs.length ci),(3,.bool ind),(4,.bool mult),(17,.slice am cH.length cm),(18,.int .i64 (cH.length:Int)),(19,.int .i64 (x.1:Int))])
  (fun x w=>x.1<=cH.length/\M.Le x.2.2.2.2/\nV x.2.1 x.2.2.1/\J x.2.2.2.2 x.1 x.2.2.1 x.2.2.2.1/\SH w0 M D x.2.2.2.2 (iD x.2.1 x.2.2.2.1) w) (fun x=>cH.length-x.1) (0,mo,f,aX,M) ⟨rfl,rfl,rfl,rfl,rfl,rfl,rfl,tV⟩ ⟨qae _,.refl _,hm,hJ,h⟩ ?_
 clear h hm hJ hD;rintro⟨i,mo,f,aX,M1⟩ aK w N ⟨hi,hle,hm,hJ,h⟩ hN;simp only at hi hle hm hJ h;refine aI (fun aG=> ?_) (fun aY=> ?_);rotate_left 1
 .simp only at aY;obtain rfl:i=cH.length:=by omega
  exact⟨M1,_,⟨mo,f,aX,rfl,hm,hJ,rfl⟩,h⟩
 simp only at aG;have eB:i<cH.length:=by omega
 obtain⟨b',o',cs',rfl,gR,aO,d9⟩:=hl i [vp cH[i]] (by simp[eB]);cases d9;have rf:=aO 0 _ rfl;rw[qa6]at rf;obtain⟨p,n,ptr,Fl,eT,aU⟩:=vA i cH[i] (qaa eB);generalize cH[i]=fb at*;refine aJ (i) ?_;refine aP h (hle.cell _ _ _ rf) ?_;refine fk h (qc (i:=((i:Nat):Int)) h.le (lK.gu hle) nL) ?_;clear h;rintro _ M2 w ⟨a2,c2,rfl,yA,gH⟩ aQ h;refine du (iD mo aX) [] h.zdA (L9 (hT.le (hle.trans aQ)) (Fl.le (hle.trans aQ)) (eT.le (hle.trans aQ)) hm) ?_;clear h;rintro r M3 A' w ⟨me,f',iC,rfl,rfl,lL,ha,rfl⟩ bT _ h;refine aA ((i+1:Nat):Int) ?_ (hy:=rfl);exact hN (i+1,some me,f',iC,_) _ _ ⟨rfl,rfl,rfl,rfl,rfl,rfl,rfl,tV⟩ ⟨eB,hle.trans aQ,lL,aU _ f aX _ _ _ _ _ (hle.trans aQ) (zbz aQ hJ) ⟨_,_,rfl,yA,gH⟩ ha,by simpa using h⟩ (by simp only;omega)
end
end
section
variable {pL:Nat->ByteArray}
def G4(M:Mem)(b:Nat)(id:ByteArray):Prop:=∃fb p n,M.cell b 2=some (.iface 128 (vp fb))/\ln M fb p n/\id=aM p n
def xu(pL:Nat->ByteArray)(a b:Nat):Bool:=Op.bytesLess (pL a).toList (pL b).toList
theorem zcO{M:Mem}{lv lb n c:Nat}{x0:List Nat}(hT:fA M)(eh:M.cell lv 0=some (.slice (some ⟨lb,0,none⟩) n c))(hn:x0.length=n)(hx:∀b∈x0,G4 M b (pL b)):GZ 75 [vp lv] (xu pL) lb 108 M x0:=by
 intro xs cs i j w0 hp ha hi hj hM hb;have hl:=hp.length_eq;obtain⟨N,hN⟩:∃N,N=Wm w0:=⟨_,rfl⟩;have hNM:N.Le (Wm w0):=hN▸Mem.Le.refl _;have Ap:M.Le N:=hN▸hM;have hc:∀k,k<xs.length->N.cell lb (0+k*1)=some (vp (gx xs k)):=fun k hk=>by rw[qb1,qbm];subst hN;exact hb.ld k (ha k hk)
 have hs:∀k,k<xs.length->G4 M (gx xs k) (pL (gx xs k)):=fun k hk=>hx _ (hp.mem_iff.1 (by rw[n9 hk];exact qaf hk));obtain⟨f1,p1,n1,a1,a2,a3⟩:=hs i hi;obtain⟨f2,p2,n2,b1,b2,b3⟩:=hs j hj;have ci:=hc i hi;have cj:=hc j hj;have aG:xu pL (gx xs i) (gx xs j)=Op.bytesLess (aM p1 n1).toList (aM p2 n2).toList:=by unfold xu;rw[a3,b3]
 generalize gx xs i=x1 at*;generalize gx xs j=x2 at*;have h:=SH.start hNM;refine aL mixed func75 WH ?_;refine b_ [] h ?_;clear h;intro w h;refine cd h (Ap.cell _ _ _ eh) ?_;refine aJ i ?_;refine cd h ci ?_;refine cd h (Ap.cell _ _ _ a1) ?_;refine cd h (Ap.cell _ _ _ eh) ?_;refine aJ j ?_;refine cd h cj ?_;refine cd h (Ap.cell _ _ _ b1) ?_;refine aI ?_ trivial;refine⟨70,vp f1,F3 f1,?_⟩;refine dg h (xC hT (Ap.trans h.le) a2) ?_;clear h;rintro _ w rfl h;refine aI ?_ trivial;refine⟨70,vp f2,F3 f2,?_⟩;refine dg h (xC hT (Ap.trans h.le) b2) ?_;clear h;rintro _ w rfl h;rw[aG];refine aI (fun hx=> ?_) (fun hx=> ?_)
 .exact⟨qaL Value.bool hx.symm,h.fr⟩
 exact⟨qaL Value.bool hx.symm,h.fr⟩
theorem zcY{xs:List Nat}(hn:xs.Nodup)(hi:∀a∈xs,∀b∈xs,pL a=pL b->a=b):mK (xu pL) xs:=
 ⟨fun a b c h1 h2=>Hf _ _ _ h1 h2,fun a=>He _,fun a ha b hb d8=>by
  unfold xu;cases h1:Op.bytesLess (pL a).toList (pL b).toList with
  |true=>exact .inl rfl
  |false=>
   cases h2:Op.bytesLess (pL b).toList (pL a).toList with
   |true=>exact .inr rfl
   |false=>exact absurd (hi a ha b hb (Hh h1 h2)) d8,hn⟩
end
section
variable {W:Wd}{id:ByteArray}{E:Ev}{M N:Mem}{x:bR}{e:En}{ie:IE}{ind:Bool}{s:Sp}{k:Nat}{bf:ByteArray->Option Value}{aX:List bR}{seen:List Int}
def wh(W:Wd)(id:ByteArray):Prop:=∀s ie,bY W s->¬ep W s id ie
theorem wh.zero(g:GD W)(h:wh W id):∀n (s:Sp),bY W s->NN W id n s=0
 |0,s,hs=>by
  rw[NN];refine Nat.eq_zero_of_not_pos fun hp=> ?_;obtain⟨ie,hie⟩:=DI g (hs.plain g) (qbu.1 hp);exact h _ _ (hs.plain g) hie
 |n+1,s,hs=>by
  rw[NN];exact zF.2 fun c hc=>h.zero g n c.1 (xo g hs.gs hc).1
theorem Hg(g:GD W)(fv:∀d∈W,∀m∈d.methods,m.1≠8/\bL m.1){p n:Int}(hp:cN p)(hn:n=8):wh W (aM p n):=fun s ie hs ho=>by
 subst hn;have h8:bL 8:=⟨by decide,by decide⟩;cases ho with
 | @bO i hk hi hid=>
  have hh:=hs.gs.ok.num hk;have hm:=fv _ (W.mem _ hh) _ (qaf hi);rw[fS hi]at hid;have h1:=(qA (g.aC _ (W.mem _ hh)) hm.2 hp h8).1 hid;exact hm.1 (ud hm.2 h8 h1.1)
 | @eS i hi hn hid=>
  have cW:=hs.gs.under g.gw;obtain⟨d,v,hf⟩:=cW.form;rw[fS hi]at hid hn;have cD:=nq g.gw.name hf (qaf hi);have h1:=(qA cW.aC cD hp h8).1 hid;exact hn (ud cD h8 h1.1)
 | @cM n i m hk hn hm hid=>
  have cQ:=we g.gw n _ (hs.gs.under g.gw) m (qax hm);have h1:=(qA cQ.1.1 cQ.1.2 hp h8).1 hid;exact cQ.2 (ud cQ.1.2 h8 h1.1)
structure uv(W:Wd)(E:Ev)(M:Mem)(id:ByteArray)(x:bR)(e:En)(ie:IE):Prop where
 own:ep W (W.plain e.s) id ie
 me:ie.bO=true
 ob:E.ob ie.num 128 x.fb
 fn:∃p n,fY E.mem E.pk p n ie.ptr x.fb/\ln E.mem x.fb p n/\id=aM p n
 sl:Sl M 1 dO (.slice x.a x.l x.c) (e.index++[(ie.last:Int)])
 ind:ie.cM=false->x.ind=e.ind
 ptr:ie.ptr=true->e.ind=true
 id:x.id=id
theorem uv.le(hl:M.Le N)(h:uv W E M id x e ie):uv W E N id x e ie:=
 ⟨h.own,h.me,h.ob,h.fn,h.sl.mono hl fun _ _ _ h=>h,h.ind,h.ptr,h.id⟩
def jP(W:Wd)(E:Ev)(cur:List En)(M:Mem)(aX:List bR)(id:ByteArray)(m:Option Value)(fl:Bool)(lh:Nat):Prop:=
 (m=none/\fl=false/\lh=0)\/
 (∃x∈aX,∃e∈cur,∃ie,m=some (vp x.b)/\fl=false/\lh=1/\uv W E M id x e ie)\/
 (m=some (.pointer none)/\fl=false/\lh=1/\∃e∈cur,∃ie,ep W (W.plain e.s) id ie/\ie.bO=true/\ie.ptr=true/\e.ind=false)\/
 (m=none/\fl=true/\lh=1/\∃e∈cur,∃ie,ep W (W.plain e.s) id ie/\ie.bO=false)\/
 (2<=lh/\(fl=true\/m=some (.pointer none)))\/
 (wh W id/\m=none/\fl=true/\lh=0)
section
variable {W:Wd}{E:Ev}{cur:List En}{M N:Mem}{aX iC:List bR}{id:ByteArray}{m:Option Value}{fl:Bool}{lh:Nat}
theorem jP.le(hl:M.Le N)(hs:∀x∈aX,x∈iC)(h:jP W E cur M aX id m fl lh):jP W E cur N iC id m fl lh:=by
 rcases h with h|⟨x,hx,e,he,ie,h1,h2,h3,h4⟩|h|h|h|h
 .exact .inl h
 .exact .inr (.inl ⟨x,hs x hx,e,he,ie,h1,h2,h3,h4.le hl⟩)
 .exact .inr (.inr (.inl h))
 .exact .inr (.inr (.inr (.inl h)))
 .exact .inr (.inr (.inr (.inr (.inl h))))
 exact .inr (.inr (.inr (.inr (.inr h))))
theorem jP.two(h:2<=lh)(h':fl=true\/m=some (.pointer none)):jP W E cur M aX id m fl lh:= .inr (.inr (.inr (.inr (.inl ⟨h,h'⟩))))
theorem En.TG(e:En):1<=e.w:=by unfold En.w;split<;>omega
theorem jP.zc2(h:jP W E cur M aX id none fl lh)(he:e∈cur)(hv:bY W (W.plain e.s))(hx:x∈aX)(hm:e.mult=false)(hs:uv W E M id x e ie):jP W E cur M aX id (some (vp x.b)) fl (lh+e.w):=by
 have hw:e.w=1:=by unfold En.w;rw[hm];rfl
 rw[hw];rcases h with⟨_,h2,h3⟩|⟨x,hx,e,he,ie,h1,_⟩|⟨h1,_⟩|⟨_,h2,h3,_⟩|⟨h1,h2⟩|⟨h1,_⟩
 .exact .inr (.inl ⟨x,hx,e,he,ie,rfl,h2,by omega,hs⟩)
 .cases h1
 .cases h1
 .exact .two (by omega) (.inl h2)
 .exact .two (by omega) (.inl (h2.resolve_right (by simp)))
 exact absurd hs.own (h1 _ _ hv)
theorem jP.zc3(h:jP W E cur M aX id m fl lh)(he:e∈cur)(hv:bY W (W.plain e.s))(ho:ep W (W.plain e.s) id ie)(iZ:ie.bO=true)(hi:ind=false->e.ind=false)(hc:¬(e.mult=false/\m=none/\(ind=true\/ie.ptr=false))):jP W E cur M aX id (some (.pointer none)) fl (lh+e.w):=by
 have nK:=e.TG;by_cases hm:e.mult=true
 .have hw:e.w=2:=by unfold En.w;rw[hm];rfl
  exact .two (by omega) (.inr rfl)
 have hm:e.mult=false:=by simpa using hm
 have hw:e.w=1:=by unfold En.w;rw[hm];rfl
 rcases h with⟨h1,h2,h3⟩|⟨x,hx,e,he,ie,h1,h2,h3,_⟩|⟨h1,h2,h3,_⟩|⟨h1,h2,h3,_⟩|⟨h1,h2⟩|⟨h1,_⟩
 .have hp:ind=false/\ie.ptr=true:=by
   constructor
   .exact Bool.eq_false_iff.2 fun hq=>hc ⟨hm,h1,.inl hq⟩
   .cases hq:ie.ptr with
   |true=>rfl
   |false=>exact absurd ⟨hm,h1,.inr hq⟩ hc
  exact .inr (.inr (.inl ⟨rfl,h2,by omega,e,he,ie,ho,iZ,hp.2,hi hp.1⟩))
 .exact .two (by omega) (.inr rfl)
 .exact .two (by omega) (.inr rfl)
 .exact .two (by omega) (.inr rfl)
 .exact .two (by omega) (.inr rfl)
 exact absurd ho (h1 _ _ hv)
theorem jP.eS(h:jP W E cur M aX id m fl lh)(he:e∈cur)(hv:bY W (W.plain e.s))(ho:ep W (W.plain e.s) id ie)(iZ:ie.bO=false):jP W E cur M aX id m true (lh+e.w):=by
 have nK:=e.TG;rcases h with⟨h1,h2,h3⟩|⟨x,hx,e,he,ie,h1,h2,h3,_⟩|⟨h1,h2,h3,_⟩|⟨h1,h2,h3,_⟩|⟨h1,h2⟩|⟨h1,_⟩
 .by_cases hw:e.w=1
  .exact .inr (.inr (.inr (.inl ⟨h1,rfl,by omega,e,he,ie,ho,iZ⟩)))
  exact .two (by omega) (.inl rfl)
 .exact .two (by omega) (.inl rfl)
 .exact .two (by omega) (.inl rfl)
 .exact .two (by omega) (.inl rfl)
 .exact .two (by omega) (.inl rfl)
 exact absurd ho (h1 _ _ hv)
theorem jP.blank(hb:wh W id)(h:jP W E cur M aX id m fl 0):jP W E cur M aX id m true 0:=by
 rcases h with⟨h1,h2,h3⟩|⟨x,hx,e,he,ie,h1,h2,h3,_⟩|⟨h1,h2,h3,_⟩|⟨h1,h2,h3,_⟩|⟨h1,h2⟩|⟨h1,h2,h3⟩
 .exact .inr (.inr (.inr (.inr (.inr ⟨hb,h1,rfl,rfl⟩))))
 all_goals first|omega|skip
 exact .inr (.inr (.inr (.inr (.inr ⟨hb,h2,rfl,rfl⟩))))
end
def mH(W:Wd)(E:Ev)(s:Sp)(ind:Bool)(k:Nat)(bf:ByteArray->Option Value)(aX:List bR)(M:Mem):Prop:=∀id,
 (bf id=none/\∀j,j<k->NN W id j s=0)\/
 (bf id=some (.pointer none)/\∀x e,Uq W s ind id x e->¬(e.bO=true/\(e.ptr=true->x.ind=true)))\/
 (∃x∈aX,bf id=some (vp x.b)/\∃e ie,Uq W s ind id (e.nS W) ie/\uv W E M id x e ie)
def p_(b m f:Option Value):Option Value:=
 match b with
 |some v=>some v
 |none=>match m with
  |some v=>some (if f.isSome=true then .pointer none else v)
  |none=>if f.isSome=true then some (.pointer none)else none
theorem mH.start:mH W E s ind 0 (fun _=>none) [] M:=fun id=> .inl ⟨rfl,fun j hj=>absurd hj (qav _)⟩
theorem mH.le{iC:List bR}(hl:M.Le N)(hs:∀x∈aX,x∈iC)(h:mH W E s ind k bf aX M):mH W E s ind k bf iC N:=fun id=>by
 rcases h id with h|h|⟨x,hx,h1,e,ie,h2,h3⟩
 .exact .inl h
 .exact .inr (.inl h)
 exact .inr (.inr ⟨x,hs x hx,h1,e,ie,h2,h3.le hl⟩)
theorem mH.next(g:GD W)(hs:bY W s){cur:List En}{Ms gf ff:ByteArray->Option Value}(hi:jw W s ind k cur seen)(h:mH W E s ind k bf aX M)
 (hl:∀id,jP W E cur M aX id (gf id) (ff id).isSome (eY (NN W id 0) (ed W seen cur))) (hb:∀id,Ms id=p_ (bf id) (gf id) (ff id)):mH W E s ind (k+1) Ms aX M:=fun id=>by
 rw[hb id];rcases h id with⟨h1,h0⟩|⟨h1,h2⟩|⟨x,hx,h1,h2⟩
 .rw[h1];rcases hl id with⟨a1,a2,a3⟩|⟨x,hx,e,he,ie,a1,a2,a3,a4⟩|⟨a1,a2,a3,e,he,ie,a4,a5,a6,a7⟩|⟨a1,a2,a3,e,he,ie,a4,a5⟩|⟨a1,a2⟩|⟨a1,a2,a3,a4⟩
  .refine .inl ⟨by rw[a1];simp[p_,a2],hi.zero g h0 a3⟩
  .refine .inr (.inr ⟨x,hx,by rw[a1];simp[p_,a2],e,ie,hi.found g h0 a3 he a4.own,a4⟩)
  .refine .inr (.inl ⟨by rw[a1];simp[p_,a2],fun x e' hu hx=> ?_⟩);obtain⟨q1,q2⟩:=hu.uniq g hs (hi.found g h0 a3 he a4);subst q1 q2;have:=hx.2 a6;rw[show(e.nS W).ind=e.ind from rfl,a7]at this;cases this
  .refine .inr (.inl ⟨by rw[a1];simp[p_,a2],fun x e' hu hx=> ?_⟩);obtain⟨q1,q2⟩:=hu.uniq g hs (hi.found g h0 a3 he a4);subst q1 q2;rw[a5]at hx;cases hx.1
  .refine .inr (.inl ⟨?_,fun x e' hu hx=>hi.pg g h0 a1 x e' hu⟩);rcases a2 with a2|a2
   .unfold p_;cases gf id<;>simp[a2]
   rw[a2];simp[p_]
  refine .inr (.inl ⟨by rw[a2];simp[p_,a3],fun x e' hu hx=> ?_⟩);exact a1 _ _ (hu.lv g hs).1 hu.own
 .exact .inr (.inl ⟨by rw[h1];rfl,h2⟩)
 exact .inr (.inr ⟨x,hx,by rw[h1];rfl,h2⟩)
theorem mH.fin(hi:jw W s ind k [] seen)(h:mH W E s ind k bf aX M)(id:ByteArray){x:Way}{e:IE}(hu:Uq W s ind id x e)(hm:e.bO=true)(hp:e.ptr=true->x.ind=true):∃y∈aX,bf id=some (vp y.b)/\y.id=id:=by
 rcases h id with⟨h1,h0⟩|⟨h1,h2⟩|⟨y,hy,h1,e',ie,h2,h3⟩
 .exact absurd hu (Ru (hi.nil h0) x e)
 .exact absurd ⟨hm,hp⟩ (h2 x e hu)
 exact⟨y,hy,h1,h3.id⟩
end
section
open Go.MapKept
variable {id i:ByteArray}{ie:IE}{v:Value}
attribute [local instance] Classical.propDecidable
structure jO(W:Wd)(E:Ev)(cur:List En)(T:ByteArray->Nat)(e:En)(dn:List ByteArray)(gf ff:ByteArray->Option Value)(aX:List bR)(M:Mem):Prop where
 all:∀id,jP W E cur M aX id (gf id) (ff id).isSome (T id+if id∈dn then e.w else 0)
 own:∀id∈dn,∃ie,ep W (W.plain e.s) id ie
section
variable {W:Wd}{E:Ev}{cur:List En}{T:ByteArray->Nat}{e:En}{dn:List ByteArray}{gf ff:ByteArray->Option Value}{aX iC:List bR}{M N:Mem}
theorem jO.le(hl:M.Le N)(hs:∀x∈aX,x∈iC)(h:jO W E cur T e dn gf ff aX M):jO W E cur T e dn gf ff iC N:=⟨fun id=>(h.all id).le hl hs,h.own⟩
theorem pV(f:ByteArray->Option Value)(id:ByteArray)(v:Value):eR f id v id=some v:=by unfold eR;rw[if_pos rfl]
theorem pW(f:ByteArray->Option Value)(v:Value)(h:i≠id):eR f id v i=f i:=by unfold eR;rw[if_neg h]
theorem HD(h:i≠id):i∈dn++[id]↔i∈dn:=by simp[h]
theorem jO.bO(g:GD W)(h:jO W E cur T e dn gf ff aX M)(he:e∈cur)(hv:bY W (W.plain e.s)){fb:Nat}{a:Option Addr}{l c:Nat}{ind:Bool}{NH:ByteArray->Option Value}(bz:id∉dn)(ho:ep W (W.plain e.s) id ie)(iZ:ie.bO=true)
 (eT:E.ob ie.num 128 fb) (fF:∃p n,fY E.mem E.pk p n ie.ptr fb/\ln E.mem fb p n/\id=aM p n) (cu:Sl M 1 dO (.slice a l c) (e.index++[(ie.last:Int)])) (hi:ind=e.ind\/(ind=true/\ie.ptr=false/\ie.cM=true))
 (ha:GV gf aX id fb ie.ptr a l c ind e.mult NH iC):jO W E cur T e (dn++[id]) NH ff iC M/\∀x∈aX,x∈iC:=by
 have hT:=h.all id;rw[if_neg bz,qa6]at hT;have fG:∀i∈dn++[id],∃ie,ep W (W.plain e.s) i ie:=fun i hi=>by
  rcases qah.1 hi with hi|hi
  .exact h.own i hi
  rw[qac.1 hi];exact⟨ie,ho⟩
 rcases ha with⟨h1,h2,h3,b,rfl,rfl⟩|⟨h1,rfl,rfl⟩
 .have lR:∀x∈aX,x∈aX++[⟨id,b,fb,a,l,c,ind⟩]:=fun x hx=>qaA _ hx;refine⟨⟨fun i=> ?_,fG⟩,lR⟩;by_cases nz:i=id
  .subst nz;rw[pV,if_pos (by simp)];rw[h2]at hT;have k1:ie.cM=false->ind=e.ind:=fun hf=>by
    rcases hi with hi|⟨_,_,hi⟩
    .exact hi
    rw[hi]at hf;cases hf
   have k2:ie.ptr=true->e.ind=true:=fun hp=>by
    rcases hi with hi|⟨_,hi,_⟩
    .rcases h3 with h3|h3
     .rw[<-hi];exact h3
     rw[hp]at h3;cases h3
    rw[hp]at hi;cases hi
   have hx:uv W E M i ⟨i,b,fb,a,l,c,ind⟩ e ie:=⟨ho,iZ,eT,fF,cu,k1,k2,rfl⟩;exact(hT.le (.refl _) lR).zc2 he hv (x:=⟨i,b,fb,a,l,c,ind⟩) (by simp) h1 hx
  rw[pW _ _ nz];have:=(h.all i).le (.refl M) lR;simp only[HD nz];exact this
 refine⟨⟨fun i=> ?_,fG⟩,fun x hx=>hx⟩;by_cases nz:i=id
 .subst nz;rw[pV,if_pos (by simp)];refine hT.zc3 (ind:=ind) he hv ho iZ (fun hf=> ?_) h1;rcases hi with hi|⟨hi,_⟩
  .rw[<-hi];exact hf
  rw[hf]at hi;cases hi
 rw[pW _ _ nz];have:=h.all i;simp only[HD nz];exact this
theorem jO.eS(h:jO W E cur T e dn gf ff aX M)(he:e∈cur)(hv:bY W (W.plain e.s))(bz:id∉dn)(ho:ep W (W.plain e.s) id ie)(iZ:ie.bO=false):jO W E cur T e (dn++[id]) gf (eR ff id v) aX M:=by
 refine⟨fun i=> ?_,fun i hi=> ?_⟩
 .have:=h.all i;by_cases nz:i=id
  .subst nz;rw[if_neg bz,qa6]at this;rw[pV,if_pos (by simp)];exact this.eS he hv ho iZ
  rw[pW _ _ nz];simp only[HD nz];exact this
 rcases qah.1 hi with hi|hi
 .exact h.own i hi
 rw[qac.1 hi];exact⟨ie,ho⟩
theorem jO.blank(h:jO W E cur T e dn gf ff aX M)(hv:bY W (W.plain e.s))(hb:wh W id)(hT:T id=0):jO W E cur T e dn gf (eR ff id v) aX M:=by
 have bz:id∉dn:=fun hd=>by obtain⟨ie,ho⟩:=h.own id hd;exact hb _ _ hv ho
 refine⟨fun i=> ?_,h.own⟩;have:=h.all i;by_cases nz:i=id
 .subst nz;rw[if_neg bz,qa6,hT]at this;rw[pV,if_neg bz,qa6,hT];exact this.blank hb
 rw[pW _ _ nz];exact this
theorem jO.start(h:∀id,jP W E cur M aX id (gf id) (ff id).isSome (T id)):jO W E cur T e [] gf ff aX M:=⟨fun id=>by simpa using h id,fun id h=>by cases h⟩
theorem jO.close(g:GD W)(h:jO W E cur T e dn gf ff aX M)(hv:bY W e.s)(cz:∀id ie,ep W (W.plain e.s) id ie->id∈dn){T':ByteArray->Nat}(hT:∀id,T' id=T id+e.w*NN W id 0 e.s):∀id,jP W E cur M aX id (gf id) (ff id).isSome (T' id):=fun id=>by
 have:=h.all id;rw[hT];rcases K7 g (id:=id) hv with h0|⟨h1,ie,ho⟩
 .have bz:id∉dn:=fun hd=>by
   obtain⟨ie,ho⟩:=h.own id hd;rw[Gd g hv ho]at h0;cases h0
  rw[if_neg bz]at this;rw[h0,Nat.mul_zero];exact this
 rw[if_pos (cz id ie ho)]at this;rw[h1,qb1];exact this
end
end
section
open Go.MapKept
variable {es:Array MapEntry}{iB bB new:ByteArray->Option Value}{seen:Array Nat}{u w:World}{M0 M:Mem}{D:List Nat}
def st1(b m f:Option Value):Option Value:=
 match b with
 |some v=>some v
 |none=>match m with
  |some v=>some (if f.isSome=true then .pointer none else v)
  |none=>none
def st2(b f:Option Value):Option Value:=
 match b with
 |some v=>some v
 |none=>if f.isSome=true then some (.pointer none)else none
theorem Gt(b m f:Option Value):st2 (st1 b m f) f=p_ b m f:=by
 cases b<;>cases m<;>cases f<;>rfl
theorem KF.at{es:Array MapEntry}{f:ByteArray->Option Value}(h:KF es f){en:MapEntry}(he:en∈es.toList):∃id,en.key= .string id/\f id=some en.val:=by
 have hm:(en.key,en.val)∈bt es:=qaj.2 ⟨en,he,rfl⟩;obtain⟨id,hid⟩:=IsKey.str (h.key _ hm);simp only at hid;exact⟨id,hid,(h.mem id en.val).1 (by rw[<-hid];exact hm)⟩
structure s9(es:Array MapEntry)(seen:Array Nat)(iB bB new:ByteArray->Option Value):Prop where
 i1:∀id,new id=iB id\/new id=bB id
 i2:∀en∈es.toList,seen.contains en.born=true->∀id,en.key= .string id->new id=bB id
theorem s9.start:s9 es #[] iB bB iB:=⟨fun _=> .inl rfl,fun en _ h=>by simp at h⟩
theorem s9.step{bJ:Nat}{KK:ByteArray->Option Value}{en:MapEntry}{bH:ByteArray}(h:s9 es seen iB bB new)(hb:j7 es bJ)(he:en∈es.toList)(hk:en.key= .string bH)(h1:KK bH=bB bH)(h2:∀i,i≠bH->KK i=new i):s9 es (seen.push en.born) iB bB KK:=by
 refine⟨fun id=> ?_,fun jA dD hs id hid=> ?_⟩
 .by_cases hi:id=bH
  .rw[hi];exact .inr h1
  rw[h2 id hi];exact h.i1 id
 by_cases hi:id=bH
 .rw[hi];exact h1
 rw[h2 id hi];by_cases hc:seen.contains jA.born=true
 .exact h.i2 jA dD hc id hid
 exfalso;have wN:jA.born=en.born:=by
  simp only[qch,Array.mem_push,qbp]at hs hc;rcases hs with hs|hs
  .exact absurd hs hc
  exact hs
 obtain⟨p,hp,rfl⟩:=qak dD;obtain⟨q,hq,rfl⟩:=qak he;have kF:p=q:=(qbw (h₀:=by simpa using hp) (h₁:=by simpa using hq) hb.2).1 (by simpa using wN);subst kF;rw[hk]at hid;exact hi (qcc hid).symm
theorem s9.done{gf:ByteArray->Option Value}(h:s9 es seen iB bB new)(hk:KF es gf)(cz:∀x∈es.toList,seen.contains x.born=true)(bz:∀id,gf id=none->bB id=iB id):∀id,new id=bB id:=fun id=>by
 cases hg:gf id with
 |none=>
  rcases h.i1 id with h1|h1
  .rw[h1,bz id hg]
  exact h1
 |some v=>
  have hm:=(hk.mem id v).2 hg;obtain⟨en,he,hx⟩:=qaj.1 hm;simp only[qby]at hx;exact h.i2 en he (cz en he) id hx.1
theorem SH.r3{a b c:aB}{R:List aB}(h:SH u M0 D M (c::a::b::R) w):SH u M0 D M (a::b::c::R) w:=
 h.perm ((List.Perm.swap a c _).trans (.cons _ (.swap b c _)))
theorem SH.lvl{A il m s f b:List aB}(h:SH u M0 D M (A++(il++((m++s)++(f++b)))) w):SH u M0 D M (m++(b++(f++(A++(il++s))))) w:=by
 refine h.perm ?_;have e:A++(il++((m++s)++(f++b)))=(A++il)++(m++(s++(f++b))):=by simp
 have p1:((A++il)++(s++(f++b))).Perm (b++(f++(A++(il++s)))):=by
  have e2:(A++il)++(s++(f++b))=(A++(il++s))++(f++b):=by simp
  rw[e2,<-qap b f];exact List.perm_append_comm.trans (List.Perm.append_right _ qbD)
 rw[e];have p2:((A++il)++(m++(s++(f++b)))).Perm (m++((A++il)++(s++(f++b)))):=by
  rw[<-qap,<-qap m];exact List.Perm.append_right _ qbD
 exact p2.trans (List.Perm.append_left m p1)
end
section
open Go.MapKept
variable {es:Array MapEntry}{en jA:MapEntry}
structure ut(es:Array MapEntry)(seen:Array Nat)(bf:ByteArray->Option Value)(aX acc rem:List bR):Prop where
 pm:aX.Perm (acc++rem)
 j1:∀x∈acc,bf x.id=some (vp x.b)/\∃en∈es.toList,seen.contains en.born=true/\en.key= .string x.id
 j2:∀en∈es.toList,seen.contains en.born=true->∀id b,en.key= .string id->bf id=some (vp b)->∃x∈acc,x.id=id
 nd:(acc.map bR.id).Nodup
theorem ut.start{bf:ByteArray->Option Value}{aX:List bR}:ut es #[] bf aX [] aX:=⟨.refl _,fun x h=>(by cases h),fun en _ h=>by simp at h,.nil⟩
theorem Ss{seen:Array Nat}{bJ:Nat}(hb:j7 es bJ)(he:en∈es.toList)(dD:jA∈es.toList)(hs:(seen.push en.born).contains jA.born=true):seen.contains jA.born=true\/jA=en:=by
 simp only[qch,Array.mem_push,qbp]at hs⊢;rcases hs with hs|hs
 .exact .inl hs
 right;obtain⟨p,hp,rfl⟩:=qak dD;obtain⟨q,hq,rfl⟩:=qak he;have kF:p=q:=(qbw (h₀:=by simpa using hp) (h₁:=by simpa using hq) hb.2).1 (by simpa using hs);subst kF;rfl
theorem QD{f:ByteArray->Option Value}(h:KF es f)(he:en∈es.toList)(dD:jA∈es.toList)(hk:en.key=jA.key):en=jA:=by
 obtain⟨p,hp,rfl⟩:=qak he;obtain⟨q,hq,rfl⟩:=qak dD;have:=h.nd;have kF:p=q:=(qbw (h₀:=by simpa[bt]using hp) (h₁:=by simpa[bt]using hq) this).1 (by simpa[bt]using hk);subst kF;rfl
section
variable {es:Array MapEntry}{seen:Array Nat}{bJ:Nat}{bf:ByteArray->Option Value}{aX acc rem:List bR}{en:MapEntry}{bH:ByteArray}
theorem Sr{x:Nat}(h:seen.contains x=true)(y:Nat):(seen.push y).contains x=true:=by
 simp only[qch,Array.mem_push,qbp]at h⊢;exact .inl h
theorem ut.skip(h:ut es seen bf aX acc rem)(hb:j7 es bJ)(he:en∈es.toList)(hk:en.key= .string bH)(hn:∀b,bf bH≠some (vp b)):ut es (seen.push en.born) bf aX acc rem:=by
 refine⟨h.pm,fun x hx=> ?_,fun jA dD hs id b hid on=> ?_,h.nd⟩
 .obtain⟨h1,jA,h2,h3,h4⟩:=h.j1 x hx;exact⟨h1,jA,h2,Sr h3 _,h4⟩
 rcases Ss hb he dD hs with h1|rfl
 .exact h.j2 jA dD h1 id b hid on
 rw[hk]at hid;cases hid;exact absurd on (hn b)
theorem ut.take{x:bR}{r1 r2:List bR}(h:ut es seen bf aX acc (r1++x::r2))(iw:KF es bf)(hb:j7 es bJ)(he:en∈es.toList)(oz:seen.contains en.born=false)(hk:en.key= .string x.id)(hx:bf x.id=some (vp x.b)):ut es (seen.push en.born) bf aX (acc++[x]) (r1++r2):=by
 refine⟨h.pm.trans ?_,fun y hy=> ?_,fun jA dD hs id b hid on=> ?_,?_⟩
 .rw[qap];exact List.Perm.append_left acc qbU
 .rcases qah.1 hy with hy|hy
  .obtain⟨h1,jA,h2,h3,h4⟩:=h.j1 y hy;exact⟨h1,jA,h2,Sr h3 _,h4⟩
  rw[qac.1 hy];exact⟨hx,en,he,by simp[qch],hk⟩
 .rcases Ss hb he dD hs with h1|rfl
  .obtain⟨y,hy,oN⟩:=h.j2 jA dD h1 id b hid on;exact⟨y,qaA _ hy,oN⟩
  rw[hk]at hid;exact⟨x,by simp,qcc hid⟩
 rw[qaq,qbL];refine⟨h.nd,by simp,fun a ha b cV d8=> ?_⟩;obtain⟨y,hy,rfl⟩:=qaj.1 ha;have qk:b=x.id:=by simpa using cV
 obtain⟨_,jA,h2,h3,h4⟩:=h.j1 y hy;have:=QD iw h2 he (by rw[h4,hk,d8,qk]);rw[this,oz]at h3;cases h3
end
end
def Qa:List ByteArray:=(List.range 16).filterMap (fun n:Nat=>if n=8 then none else some (aM 0 (n:Int)))++(List.range 16).filterMap (fun n:Nat=>if n=8\/exported (n:Int)=true then none else some (aM 1 (n:Int)))
theorem zcl:Qa.length=22:=by decide
theorem zcm:∀q:Fin 2,∀i:Fin 16,i.val≠8->Qa.any (fun x=>decide (x=aM ((q.val:Nat):Int) ((i.val:Nat):Int)))=true:=by decide
theorem zck{l:List ByteArray}(hn:l.Nodup)(h:∀id∈l,∃p n,cN p/\bL n/\n≠8/\id=aM p n):l.length<=22:=by
 rw[<-zcl];refine Bp hn fun id hid=> ?_;obtain⟨p,n,hp,cD,h8,rfl⟩:=h id hid;have h1:=cD.1;have h2:=cD.2;have ea:∃q:Fin 2,p=((q.val:Nat):Int):=by
  rcases hp with rfl|rfl
  .exact⟨0,rfl⟩
  exact⟨1,rfl⟩
 obtain⟨q,rfl⟩:=ea;have:=zcm q ⟨n.toNat,by omega⟩ (by show n.toNat≠8;omega);rw[List.any_eq_true]at this;obtain⟨x,hx,he⟩:=this;have e1:((n.toNat:Nat):Int)=n:=by omega
 simp only[e1,qbp]at he;rw[<-he];exact hx
theorem SH.UF{u:World}{M0 M:Mem}{D:List Nat}{L:List aB}{w:World}{g n cap:Nat}{T:TypeId}{css:List (List Value)}(h:SH u M0 D M (.own (.slice (some ⟨g,0,none⟩) n cap) 1 T css::L) w):∃cs,cs.take css.length=css.flatten/\css.length=n/\SH u M0 D M (.ah g T cs::L) w:=by
 have ho:eG w 1 T (.slice (some ⟨g,0,none⟩) n cap) css:=h.ok (.own _ _ _ _) qal;obtain⟨h1,h2⟩:=ho.own;rcases h2 with⟨h2,_⟩|⟨g',wz,cur,h2,_,h3,h4,_,h5,h6⟩
 .cases h2
 simp only[qa5,qao,qbW]at h2;obtain⟨⟨rfl,_⟩,rfl,rfl⟩:=h2;refine⟨cur.toList,by simpa using h6,rfl,h.swap (e':= .ah g T cur.toList) (by simpa[aB.holds,a_]using h3) rfl (fun b o hc=> ?_) (fun b hb=>hb.elim)⟩;simpa[aB.jf,cZ,Value.ownBlock]using hc
section
variable {M:Mem}{l acc:List bR}{cs:List Value}
theorem zd4{α β:Type}{f:α->β}{zs ys:List β}(h:zs.Perm ys):∀{l:List α},zs=l.map f->∃l':List α,l'.Perm l/\l'.map f=ys:=by
 induction h with
 |nil=>
  intro l hl;cases l with
  |nil=>exact⟨[],.nil,rfl⟩
  |cons a l=>cases hl
 |cons x _ ih=>
  intro l hl;cases l with
  |nil=>cases hl
  |cons a l=>
   simp only[qaB,qbS]at hl;obtain⟨rfl,hl⟩:=hl;obtain⟨l',h1,h2⟩:=ih hl;exact⟨a::l',h1.cons a,by simp[h2]⟩
 |swap x y l0=>
  intro l hl
  match l,hl with
  |a::b::l,hl=>
   simp only[qaB,qbS]at hl;obtain⟨rfl,rfl,rfl⟩:=hl;exact⟨b::a::l,.swap a b l,rfl⟩
 |trans _ _ Qe Qf=>
  intro l hl;obtain⟨l1,p1,e1⟩:=Qe hl;obtain⟨l2,p2,e2⟩:=Qf e1.symm;exact⟨l2,p2.trans p1,e2⟩
theorem F8{α β:Type}{f:α->β}:∀{l:List α},(l.map f).Nodup->∀{x y},x∈l->y∈l->f x=f y->x=y
 |[],_,_,_,hx,_,_=>by cases hx
 |a::l,h,x,y,hx,hy,e=>by
  rw[qaB,List.nodup_cons]at h;rcases qan.1 hx with e1|h1<;>rcases qan.1 hy with e2|h2
  .rw[e1,e2]
  .exact absurd (qaj.2 ⟨y,h2,by rw[<-e,e1]⟩) h.1
  .exact absurd (qaj.2 ⟨x,h1,by rw[e,e2]⟩) h.1
  exact F8 h.2 h1 h2 e
theorem SH.zeM{u:World}{M0:Mem}{D:List Nat}{R:List aB}{aX:List bR}{w:World}(h:SH u M0 D M (R++aX.map bR.e) w):(aX.map bR.b).Nodup:=by
 have hp:=(qbs.1 h.pd).2.1;rw[qbl]at hp;rw[List.Nodup,qbl];exact hp.imp fun{x y} ha he=>ha x.b (by simp[aB.bX]) (by simp[aB.bX,he])
def zi(l:List bR)(b:Nat):ByteArray:=((l.find? fun x=>x.b==b).map bR.id).getD ⟨#[]⟩
theorem Dw(hn:(l.map bR.b).Nodup){x:bR}(hx:x∈l):zi l x.b=x.id:=by
 unfold zi;cases hf:l.find? fun y=>y.b==x.b with
 |none=>have:=List.find?_eq_none.1 hf x hx;simp at this
 |some y=>
  have h1:=List.find?_some hf;have h2:=List.mem_of_find?_eq_some hf;have:y=x:=F8 hn h2 hx (by simpa using h1);subst this;rfl
theorem pw1{α:Type}{R:α->α->Prop}:∀{l:List α},l.length<=1->l.Pairwise R
 |[],_=> .nil
 |[a],_=>by simp
 |a::b::l,h=>by simp at h
theorem ze7{ys:List Nat}(hn:(acc.map bR.b).Nodup)(hp:ys.Perm (acc.map bR.b))(hs:Sd (xu (zi acc)) 0 acc.length ys):∃l:List bR,l.Perm acc/\l.map bR.b=ys/\l.Pairwise (fun x y=>ga x.id y.id=true):=by
 obtain⟨l,p,e⟩:=zd4 hp.symm rfl;refine⟨l,p,e,?_⟩;subst e;rw[qb8];intro i j hi hj dc;have hl:=p.length_eq;have h1:=hs i j (qae _) dc (by omega);rw[n9 (by simpa using hi),n9 (by simpa using hj)]at h1;simp only[qaU]at h1;unfold xu at h1;rw[Dw hn (p.mem_iff.1 (qaf hi)),Dw hn (p.mem_iff.1 (qaf hj))]at h1;exact h1
theorem zeW{g n c:Nat}(hb:Bk M g cs)(ha:fX cs (l.map bR.b))(hn:n=l.length)(hc:n<=c):Sl M 1 gz (.slice (some ⟨g,0,none⟩) n c) (l.map fun x=>[vp x.b]):=by
 refine⟨some ⟨g,0,none⟩,c,by rw[qat,hn],by rw[qat];omega,fun i x hi=> ?_⟩;rw[qaE]at hi;cases hl:l[i]? with
 |none=>rw[hl]at hi;cases hi
 |some y=>
  rw[hl]at hi;cases hi;have aG:=(qab.1 hl).1;have hly:=(qab.1 hl).2;refine⟨g,0,[vp y.b],rfl,rfl,fun j v hj=> ?_,rfl⟩;cases j with
  |zero=>
   simp at hj;subst hj;have h1:=ha i (by simpa using aG);rw[n9 (by simpa using aG)]at h1;simp only[qaU,hly]at h1;simpa using hb.rw i _ h1
  |succ j=>simp at hj
theorem Nq:∀l:List bR,(l.map fun x=>[vp x.b]).flatten=l.map fun x=>vp x.b
 |[]=>rfl
 |x::l=>by simp[Nq l]
theorem UE(h:cs.take (acc.map fun x=>[vp x.b]).length=(acc.map fun x=>[vp x.b]).flatten):fX cs (acc.map bR.b):=fun i hi=>by
 have hi':i<acc.length:=by simpa using hi
 rw[qat,Nq]at h;have h1:(cs.take acc.length)[i]? =some (vp acc[i].b):=by rw[h];simp[hi']
 rw[qbG,if_pos hi']at h1;rw[h1,n9 hi];simp
end
section
open Go.MapKept Go.ChangeMaps
variable {u w:World}{M0 M:Mem}{D:List Nat}{b:Nat}{v:Value}{e:Env}{a:l8}{A B C F G:List aB}{mo:ky}{aX:List bR}
attribute [local instance] Classical.propDecidable
def G1(r:Value)(M:Mem):Prop:=∃rb,r=vp rb/\Bk M rb [.slice none 0 0]
def T3(W:Wd)(E:Ev)(s:Sp)(ind:Bool)(Tv:Value)(r:Value)(M:Mem):Prop:=∃(rb:Nat) (v:Value) (l:List bR),r=vp rb/\Bk M rb [v]/\Sl M 1 gz v (l.map fun x=>[vp x.b])/\l.Pairwise (fun x y=>ga x.id y.id=true)/\l.length<=22/\
 (∀x∈l,Bk M x.b (x.cs Tv)/\∃e ie,Uq W s ind x.id (e.nS W) ie/\uv W E M x.id x e ie)/\(∀id x e,Uq W s ind id x e->e.bO=true->(e.ptr=true->x.ind=true)->∃y∈l,y.id=id)
def Es(W:Wd)(E:Ev)(s0 s:Sp)(ind:Bool)(Tv:Value)(r:Value)(M:Mem):Prop:=
 (((W.plain s0).of.kind=1/\(W.under s0).of.kind=2)/\G1 r M)\/
 (¬((W.plain s0).of.kind=1/\(W.under s0).of.kind=2)/\((ind=true/\(W.under s).of.kind=5/\G1 r M)\/(¬(ind=true/\(W.under s).of.kind=5)/\T3 W E s ind Tv r M)))
def GX(fo:ky)(ff:ByteArray->Option Value):Prop:=nV fo ff/\∀id v,ff id=some v->v= .bool true
theorem Uz:h_ prog 148 148 108 1 8=true:=by kernel_rfl
theorem Sk{L:List aB}{P:Program}{r bJ:Nat}{seen:Array Nat}{es:Array MapEntry}{en:MapEntry}{it:Operand}{ty:TypeId}{Q:Value->World->Prop}(h:SH u M0 D M (.raw r (.mapIter (some b) bJ (seen.push en.born) bJ):: .raw b (.map es bJ)::L) w)(hit:ev e it= .pointer (some ⟨r,0,none⟩))(dP:j7 es bJ)(he:en∈es.toList)(hv:en.val=v)
 (k:Q (.tuple #[en.key,v]) w):bB P (.gen (.entry it) ty) e w Q:=DT h hit dP he (by rw[hv];exact k)
@[reducible]def vO(il:List aB)(mo:ky)(aX:List bR)(fo bo:ky):List aB:=il++(iD mo aX++(dK fo++dK bo))
theorem Ui{fn:ap}{b:l8}{Q:Exit->Env->World->Prop}(hb:fn.body= .seq a b)(h:DW (WP prog a) (WP prog b) Q e w):WP prog fn.body Q e w:=by rw[hb];exact h
theorem Ex{b:l8}{Q:Exit->Env->World->Prop}(h:DW (WP prog a) (WP prog b) Q e w):WP prog (.seq a b) Q e w:=h
theorem SH.up(h:SH u M0 D M (A++(B++C)) w):SH u M0 D M (B++(A++C)) w:=
 h.perm (by rw[<-qap,<-qap];exact List.Perm.append_right _ qbD)
theorem SH.Ef(h:SH u M0 D M (A++(B++(C++F))) w):SH u M0 D M (C++(A++(B++F))) w:=by
 rw[<-qap]at h;have:=h.up
 rwa [qap]at this
theorem SH.HC(h:SH u M0 D M (C++(A++(B++F))) w):SH u M0 D M (A++(B++(C++F))) w:=by
 rw[<-qap A]at h;have:=h.up
 rwa [qap]at this
theorem zdf(h:b∈cp (iD mo aX)):∃e∈iD mo aX,∀o,e.jf b o:=by
 obtain⟨e,he,hb⟩:=xv.1 h;refine⟨e,he,fun o=> ?_⟩;rcases qah.1 he with he|he
 .cases mo with
  |none=>cases he
  |some me=>rw[qac.1 he]at hb⊢;simpa[aB.bX,aB.jf]using hb
 obtain⟨x,_,rfl⟩:=qaj.1 he;simpa[aB.bX,aB.jf]using hb
theorem SH.zdd(h:SH u M0 D M (A++(B++(iD mo aX++C))) w){o:Nat}(hc:M.cell b o=some v):b∉cp (iD mo aX):=fun hf=>by
 obtain⟨e,he,hg⟩:=zdf hf;have:=h.off e (by simp only[qah];exact .inr (.inr (.inl (qah.1 he)))) b o (hg o);rw[hc]at this;cases this
theorem SH.up3(h:SH u M0 D M (A++(B++(C++(F++G)))) w):SH u M0 D M (F++(A++(B++(C++G)))) w:=by
 rw[<-qap]at h;have:=h.Ef
 rwa [qap]at this
theorem SH.XF(h:SH u M0 D M (F++(A++(B++(C++G)))) w):SH u M0 D M (A++(B++(C++(F++G)))) w:=by
 rw[<-qap A]at h;have:=h.HC
 rwa [qap]at this
theorem SH.RF{e:aB}(h:SH u M0 D M (e::(A++(B++C))) w)(hb:b∈e.bX):b∉cp B:=fun hf=>by
 obtain⟨e',dD,aW⟩:=xv.1 hf;have:=(qau.1 h.pd).1 e' (by simp[dD]);exact this b hb aW
section
variable {W:Wd}{E:Ev}{w0:World}
theorem Rt(
 g:GD W) (B:eZ W E) {s s0:Sp} {tv:TypeId} {bv:Nat} (fv:∀d∈W,∀m∈d.methods,m.1≠8/\bL m.1) (kY:Den W E s0 (.iface tv (vp bv))) (dR:GS W s0) (hs:bY W s) {ind:Bool}
 (eU:¬((W.plain s0).of.kind=1/\(W.under s0).of.kind=2)->((W.plain s0).of.kind=2/\ind=true/\bY W (W.plain s0).elem/\W.plain (W.plain s0).elem=W.plain s/\RL W (W.length+2) (W.plain s0).elem/\(W.under (W.plain s0).elem).of.fields.length<=2^19)\/
  ((W.plain s0).of.kind≠2/\ind=false/\bY W s0/\W.plain s0=W.plain s/\RL W (W.length+2) s0/\(W.under s0).of.fields.length<=2^19)) (hM:E.mem.Le (Wm w0)):
 az prog 26 [.iface tv (vp bv)] w0 fun r w'=>∃M',Es W E s0 s ind (.iface tv (vp bv)) r M'/\Gr E.mem w0 M' w':=by
 have h:=SH.start hM;have km:=dR.ok.num;have eF:=ku g.later km;have KD:∀{w:World} {rb:Nat} (L:List aB),SH w0 E.mem [] E.mem (.ah rb 150 [.slice none 0 0]::L) w->∃M',G1 (vp rb) M'/\Gr E.mem w0 M' w:=fun{w rb} L h=>by
  obtain⟨M1,bG,hb,h⟩:=h.dA rb;exact⟨M1,⟨rb,rfl,hb⟩,SH.gr h⟩
 refine aL mixed func26 VV ?_;refine Ui rfl ?_;refine lq (X:=Unit) (fun _=>[(0,.iface tv (vp bv))]) (fun _ w=>SH w0 E.mem [] E.mem [] w) (fun N hN=>hN () _ _ ⟨rfl,tV⟩ h) ?_;clear h;rintro _ aK w h;refine Ex ?_;refine lq (X:=Unit) (fun _=>[(0,.iface tv (vp bv))]) (fun _ w=>¬((W.plain s0).of.kind=1/\(W.under s0).of.kind=2)/\SH w0 E.mem [] E.mem [] w) ?_ ?_
 .intro N hN;refine s_call h (z8 B g.later h.le kY km) ?_;clear h;rintro _ w (⟨nb,rfl,dx,nE⟩|⟨rfl,dx⟩) h
  .obtain⟨Bu,La⟩:=pR g.later km dx;have hint:(((W.plain s0).of.num.toNat:Nat):Int)=(W.plain s0).of.num:=by have:=Bu.1;omega
   have wS:Den W E (W.plain s0) (.iface 120 (vp nb)):=by
    have:=Den.named (W:=W) (E:=E) dx nE
    rwa [show dT W (W.plain s0).of.num.toNat=120 by unfold dT;rw[hint,La];rfl]at this
   refine s_call h (zcA B g.later h.le wS fun _=>Bu) ?_;clear h;rintro _ w (⟨rfl,hp⟩|⟨rfl,hp⟩) h
   .rw[eF]at hp;refine au (cs:=[.slice none 0 0]) h ?_;clear h;intro rb w h;exact(KD _ h).elim fun M' hy=>⟨M',.inl ⟨⟨dx,hp⟩,hy.1⟩,hy.2⟩
   rw[eF]at hp;exact hN () _ _ ⟨rfl,tV⟩ ⟨fun hx=>hp hx.2,h⟩
  exact hN () _ _ ⟨rfl,tV⟩ ⟨fun hx=>dx hx.1,h⟩
 clear h;rintro _ aK w ⟨Df,h⟩;replace eU:=eU Df;refine Ex ?_;refine lq (X:=Unit) (fun _=>[(0,.iface tv (vp bv)),(4,.map none)]) (fun _ w=>SH w0 E.mem [] E.mem [] w) (fun N hN=>hN () _ _ ⟨rfl,rfl,tV⟩ h) ?_;clear h;rintro _ aK w h;refine Ex ?_;refine lq (X:=Sp×TypeId×Nat) (fun x=>[(0,.iface tv (vp bv)),(4,.map none),(5,.iface x.2.1 (vp x.2.2)),(6,.bool ind)])
  (fun x w=>Den W E x.1 (.iface x.2.1 (vp x.2.2))/\bY W x.1/\W.plain x.1=W.plain s/\RL W (W.length+2) x.1/\(W.under x.1).of.fields.length<=2^19/\SH w0 E.mem [] E.mem [] w) ?_ ?_
 .intro N hN;refine s_call h (EQ B g.later h.le kY dR.ok.num) ?_;clear h;intro r w hr h;rcases hr with⟨v1,rfl,dC,jC⟩|⟨rfl,dC⟩
  .rcases eU with⟨_,rfl,jq,jI,mz,c_⟩|⟨h1,_⟩
   .obtain⟨t1,b1,rfl,_⟩:=jC.iface;exact hN ((W.plain s0).elem,t1,b1) _ _ ⟨rfl,rfl,rfl,rfl,tV⟩ ⟨jC,jq,jI,mz,c_,h⟩
   exact absurd dC h1
  rcases eU with⟨h1,_⟩|⟨_,rfl,jq,jI,mz,c_⟩
  .exact absurd h1 dC
  exact hN (s0,tv,bv) _ _ ⟨rfl,rfl,rfl,rfl,tV⟩ ⟨kY,jq,jI,mz,c_,h⟩
 clear h eU kY;rintro⟨s1,t1,b1⟩ aK w ⟨jC,jq,jI,mz,c_,h⟩;simp only at jC jq jI mz c_;have xj:W.under s1=W.under s:=by rw[<-ku g.later jq.gs.ok.num,jI,ku g.later hs.gs.ok.num]
 refine Ex ?_;refine lq (X:=Unit) (fun _=>[(0,.iface tv (vp bv)),(4,.map none),(5,.iface t1 (vp b1)),(6,.bool ind)])
  (fun _ w=>¬(ind=true/\(W.under s).of.kind=5)/\SH w0 E.mem [] E.mem [] w) ?_ ?_
 .intro N hN;cases ind with
  |false=>exact hN () _ _ ⟨rfl,rfl,rfl,rfl,tV⟩ ⟨fun h=>absurd h.1 (by decide),h⟩
  |true=>
   refine s_call h (zcz B g.later h.le jC jq.gs.ok.num) ?_;clear h;rintro _ w (⟨rfl,hp⟩|⟨rfl,hp⟩) h
   .rw[xj]at hp;refine au (cs:=[.slice none 0 0]) h ?_;clear h;intro rb w h;exact(KD _ h).elim fun M' hx=>⟨M',.inr ⟨Df,.inl ⟨rfl,hp,hx.1⟩⟩,hx.2⟩
   rw[xj]at hp;exact hN () _ _ ⟨rfl,rfl,rfl,rfl,tV⟩ ⟨fun hx=>hp hx.2,h⟩
 clear h KD;rintro _ aK w ⟨yT,h⟩;refine au (cs:=[.iface t1 (vp b1),.slice none 0 0,.bool ind,.bool false]) h ?_;clear h;intro cb w h;obtain⟨M1,bG,kB,h⟩:=h.dA cb;refine au h ?_;clear h;intro sb w h;have sM:pZ W E s ind ⟨0,[⟨s1,[],ind,false⟩],some ⟨cb,0,none⟩,1,[],.pointer none,.pointer none,.pointer none,none,W.length+2,M1⟩:=
  .start g hs jq jI mz c_ bG (qad _) (Sl.pi (Sl.one kB rfl ⟨_,_,rfl,jC,Sl.nil _ _ _⟩)).2.2
 clear jC jq jI mz c_ kB bG;refine lq (X:=LS×ky×(ByteArray->Option Value)×List bR) (fun x=>[(0,.iface tv (vp bv)),(4,gB x.2.1)])
  (fun x w=>pZ W E s ind x.1/\x.1.cur=[]/\mH W E s ind x.1.k x.2.2.1 x.2.2.2 x.1.M/\nV x.2.1 x.2.2.1/\SH w0 E.mem [] x.1.M (x.2.2.2.map bR.e++dK x.2.1) w) ?_ ?_
 .intro N0 lC;refine bN (X:=LS×ky×(ByteArray->Option Value)×List bR) (fun x=>[(0,.iface tv (vp bv)),(4,gB x.2.1),(7,.slice x.1.ca x.1.cur.length x.1.cc),(8,vp sb)])
   (fun x w=>pZ W E s ind x.1/\mH W E s ind x.1.k x.2.2.1 x.2.2.2 x.1.M/\nV x.2.1 x.2.2.1/\SH w0 E.mem [] x.1.M (vO (dl sb x.1.x0 x.1.x1 x.1.x2 x.1.mo) none x.2.2.2 none x.2.1) w) (fun x=>vQ W x.1.cur (dz x.1.sn) x.1.r) (_,none,fun _=>none,[]) ⟨rfl,rfl,rfl,rfl,tV⟩ ⟨sM,.start,fun _=>rfl,h⟩ ?_
  clear h sM;rintro⟨⟨k,cur,ca,cc,sn,x0,x1,x2,mo,r,M⟩,bo,bf,aX⟩ aK w N ⟨aU,jB,dP,h⟩ hN;have uX:=aU.idx g hs;have hlen:=aU.inv.len;have Oe:=W.len;have yw:=g.gw.aj;simp only at aU jB dP h uX hlen;refine aI (fun mj=> ?_) (fun hle=> ?_);rotate_left 1
  .simp only at hle;have Ax:cur=[]:=qaD (by omega);subst Ax;exact lC (⟨k,[],ca,cc,sn,x0,x1,x2,mo,r,M⟩,bo,bf,aX) _ _ ⟨rfl,rfl,tV⟩ ⟨aU,rfl,jB,dP,SH.right h⟩
  simp only at mj;have aT:cur≠[]:=fun h0=>by rw[h0]at mj;exact absurd mj (by decide)
  replace h:=h.gV 4 156;refine bN (X:=LI×ky×ky×(ByteArray->Option Value)×(ByteArray->Option Value)×List bR) (fun x=>[(0,.iface tv (vp bv)),(4,gB bo),(8,vp sb),(9,x.1.nv),(10,gB x.2.2.1),(11,gB x.2.1),(62,.slice ca cur.length cc),(63,.int .i64 (cur.length:Int)),(64,.int .i64 (x.1.j:Int))])
   (fun x w=>pY W E ⟨k,cur,ca,cc,sn,x0,x1,x2,mo,r,M⟩ x.1/\(∀id,jP W E cur x.1.M x.2.2.2.2.2 id (x.2.2.2.1 id) (x.2.2.2.2.1 id).isSome (eY (NN W id 0) (ed W (dz sn) (cur.take x.1.j))))/\mH W E s ind k bf x.2.2.2.2.2 x.1.M/\nV x.2.1 x.2.2.2.1/\GX x.2.2.1 x.2.2.2.2.1/\x.1.nl=oR W (ed W (dz sn) (cur.take x.1.j))/\SH w0 E.mem [] x.1.M (.own x.1.nv 4 156 x.1.nc::vO (dl sb x.1.x0 x.1.x1 x.1.x2 x.1.mo) x.2.1 x.2.2.2.2.2 x.2.2.1 bo) w) (fun x=>cur.length-x.1.j)
   (⟨0,.slice none 0 0,[],[],sn,x0,x1,x2,mo,M⟩,none,none,fun _=>none,fun _=>none,aX) ⟨rfl,rfl,rfl,rfl,rfl,rfl,rfl,rfl,rfl,tV⟩ ⟨.start aU,fun id=> .inl ⟨rfl,rfl,rfl⟩,jB,fun _=>rfl,⟨fun _=>rfl,fun id v h=>by cases h⟩,rfl,h⟩ ?_
  clear h jB;rintro⟨⟨j,nv,nl,nc,nQ,y0,y1,y2,dH,M'⟩,mm,fo,gf,ff,aX⟩ aK w N2 ⟨hy,qs,jB,eD,fg,xd,h⟩ d7;simp only at hy qs jB eD fg xd h;have CZ:=hy.hj;simp only at CZ;refine aI (fun aG=> ?_) (fun aY=> ?_);rotate_left 1
  .
   simp only at aY;obtain rfl:j=cur.length:=by omega
   rw[qay]at qs xd;obtain⟨i4,AI,ua⟩:=zcp;obtain⟨i108,uW,vG⟩:=Qh;replace h:SH w0 E.mem [] M' (dK mm++(dK bo++(dK fo++([.own nv 4 156 nc]++(dl sb y0 y1 y2 dH++aX.map bR.e))))) w:=SH.lvl (A:=[.own nv 4 156 nc]) h;cases mm with
   |none=>
    have eE:∀id,bf id=st1 (bf id) (gf id) (ff id):=fun id=>by rw[eD id];cases bf id<;>rfl
    refine Lk h rfl gy ?_;clear h;intro rr w h;refine bN (X:=Unit) (fun _=>[(0,.iface tv (vp bv)),(4,gB bo),(8,vp sb),(9,nv),(10,gB fo),(168,.pointer (some ⟨rr,0,none⟩))]) (fun _ w=>SH w0 E.mem [] M' (.raw rr (.mapIter none 0 #[] 0)::(dK bo++(dK fo++([.own nv 4 156 nc]++(dl sb y0 y1 y2 dH++aX.map bR.e))))) w) (fun _=>0) () ⟨rfl,rfl,rfl,rfl,rfl,rfl,tV⟩ h ?_;clear h;rintro _ aK w N5 h H0;refine Lj h rfl ?_;replace h:=SH.tail h;cases fo with
    |none=>
     refine Lk h rfl wg ?_;clear h;intro rr w h;refine bN (X:=Unit) (fun _=>[(0,.iface tv (vp bv)),(4,gB bo),(8,vp sb),(9,nv),(192,.pointer (some ⟨rr,0,none⟩))]) (fun _ w=>SH w0 E.mem [] M' (.raw rr (.mapIter none 0 #[] 0)::(dK bo++([.own nv 4 156 nc]++(dl sb y0 y1 y2 dH++aX.map bR.e)))) w) (fun _=>0) () ⟨rfl,rfl,rfl,rfl,rfl,tV⟩ h ?_;clear h;rintro _ aK w N6 h uK;refine Lj h rfl ?_;replace h:=SH.tail h;have cV:∀id,bf id=p_ (bf id) (gf id) (ff id):=fun id=>by
      have e:=eE id;rw[<-Gt,<-e,fg.1 id];cases bf id<;>rfl
     have uL:nl.length<=2^40:=by
      have h1:nl.length<=cur.length*2^19:=hy.nb;have h2:cur.length<=W.length+1:=aU.inv.len;have h3:cur.length*2^19<=(2^19+1)*2^19:=qaJ _ (by omega);omega
     refine du [.own nv 4 156 nc] (dK bo++(dl sb y0 y1 y2 dH++aX.map bR.e)) (SH.up (B:=[.own nv 4 156 nc]) h) (Co g B hy.sP hy.nl hy.gs uL) ?_;clear h;rintro r1 M3 A1 w ⟨jh,⟨a',c',rfl,gg,qn⟩,pu,rfl⟩ bT _ h;rw[xd]at pu;refine qbd (aU.step g hs aT hy rfl pu bT gg qn) fun r' hq=> ?_;replace h:SH w0 E.mem [] M3 (vO (dl sb y0 y1 y2 dH) none aX none bo) w:=by
      have h1:SH w0 E.mem [] M3 (dK bo++(dl sb y0 y1 y2 dH++aX.map bR.e)) w:=h;have h2:=h1.mG;rw[qap]at h2;exact h2
     exact hN (⟨k+1,jh,a',c',nQ,y0,y1,y2,dH,r',M3⟩,bo,_,aX) _ _ ⟨rfl,rfl,rfl,rfl,tV⟩ ⟨hq.1,(mH.next g hs aU.inv jB qs cV).le bT (fun _ h=>h),dP,h⟩ hq.2
    |some fe=>
     obtain⟨fb,mN⟩:=fe;have iw:KF mN ff:=fg.1;replace h:SH w0 E.mem [] M' (.map fb mN::(dK bo++([.own nv 4 156 nc]++(dl sb y0 y1 y2 dH++aX.map bR.e)))) w:=SH.up (A:=dK bo) (B:=[.map fb mN]) h;refine DV h rfl wg ?_;clear h;intro rr yl w gF h;refine bN (X:=Array Nat×ky×(ByteArray->Option Value)) (fun x=>[(0,.iface tv (vp bv)),(4,gB x.2.1),(8,vp sb),(9,nv),(192,.pointer (some ⟨rr,0,none⟩))])
      (fun x w=>s9 mN x.1 bf (fun id=>st2 (bf id) (ff id)) x.2.2/\nV x.2.1 x.2.2/\SH w0 E.mem [] M' (.raw rr (.mapIter (some fb) yl x.1 yl):: .raw fb (.map mN yl)::(dK x.2.1++([.own nv 4 156 nc]++(dl sb y0 y1 y2 dH++aX.map bR.e)))) w) (fun x=>(leftOf mN x.1).size) (#[],bo,bf) ⟨rfl,rfl,rfl,rfl,rfl,tV⟩ ⟨.start,dP,h⟩ ?_
     clear h;rintro⟨seen,p9,p8⟩ aK w N6 ⟨fw,lE,h⟩ uK;simp only at fw lE h;refine DU h rfl gF (qad _) (fun cz=> ?_) (fun en w dp oz aG h=> ?_)
     .have cV:∀id,p8 id=p_ (bf id) (gf id) (ff id):=fun id=>by
       have e1:=fw.done iw cz (fun id h0=>by show st2 (bf id) (ff id)=_;rw[h0];cases bf id<;>rfl) id;have e:=eE id;rw[e1];show st2 (bf id) (ff id)=_;rw[<-Gt,<-e]
      replace h:SH w0 E.mem [] M' (dK p9++([.own nv 4 156 nc]++(dl sb y0 y1 y2 dH++aX.map bR.e))) w:=SH.tail (SH.Ee gF h);have uL:nl.length<=2^40:=by
       have h1:nl.length<=cur.length*2^19:=hy.nb;have h2:cur.length<=W.length+1:=aU.inv.len;have h3:cur.length*2^19<=(2^19+1)*2^19:=qaJ _ (by omega);omega
      refine du [.own nv 4 156 nc] (dK p9++(dl sb y0 y1 y2 dH++aX.map bR.e)) (SH.up (B:=[.own nv 4 156 nc]) h) (Co g B hy.sP hy.nl hy.gs uL) ?_;clear h;rintro r1 M3 A1 w ⟨jh,⟨a',c',rfl,gg,qn⟩,pu,rfl⟩ bT _ h;rw[xd]at pu;refine qbd (aU.step g hs aT hy rfl pu bT gg qn) fun r' hq=> ?_;replace h:SH w0 E.mem [] M3 (vO (dl sb y0 y1 y2 dH) none aX none p9) w:=by
       have h1:SH w0 E.mem [] M3 (dK p9++(dl sb y0 y1 y2 dH++aX.map bR.e)) w:=h;have h2:=h1.mG;rw[qap]at h2;exact h2
      exact hN (⟨k+1,jh,a',c',nQ,y0,y1,y2,dH,r',M3⟩,p9,_,aX) _ _ ⟨rfl,rfl,rfl,rfl,tV⟩ ⟨hq.1,(mH.next g hs aU.inv jB qs cV).le bT (fun _ h=>h),lE,h⟩ hq.2
     refine DT h rfl gF dp ?_;obtain⟨bH,hid,Ix⟩:=iw.at dp;have ek:IsKey .string en.key:=by rw[hid];trivial
     have dR:∀{f:ByteArray->Option Value},f bH=none->st2 (f bH) (ff bH)=some (.pointer none):=fun h0=>by rw[h0,Ix];rfl
     cases p9 with
     |none=>
      refine BB (key:=en.key) rfl rfl gy fW uW vG ek ?_;refine qG h ?_;clear h;intro nb w h;have jS:bf bH=none:=by
       rcases fw.i1 bH with h1|h1
       .rw[<-h1];exact lE bH
       rw[lE bH]at h1;cases hq:bf bH with
       |none=>rfl
       |some v=>rw[hq]at h1;cases h1
      refine jN (key:=en.key) (val:= .pointer none) h rfl rfl rfl gy fW (KF.nil lE).key ek (KF.nil lE).nd ?_;clear h;intro lA w hu h;rw[hid]at hu;exact uK (seen.push en.born,some (nb,lA),eR p8 bH (.pointer none)) _ _ ⟨rfl,rfl,rfl,rfl,rfl,tV⟩ ⟨fw.step gF dp hid (by show eR _ bH _ bH=_;rw[pV];exact(dR jS).symm) (fun i hi=>pW _ _ hi),(KF.nil lE).iS hu,SH.r3 h⟩ aG
     |some be=>
      obtain⟨nb,ma⟩:=be;have gj:KF ma p8:=lE;refine vX (key:=en.key) h rfl rfl gy fW uW vG gj.key ek (fun v hv=> ?_) (fun bz=> ?_)
      .rw[hid]at hv;have iz:=(gj.mem bH v).1 hv;refine uK (seen.push en.born,some (nb,ma),p8) _ _ ⟨rfl,rfl,rfl,rfl,rfl,tV⟩ ⟨fw.step gF dp hid ?_ (fun i hi=>rfl),lE,h⟩ aG;rcases fw.i1 bH with h1|h1
       .show p8 bH=st2 (bf bH) (ff bH);rw[<-h1,iz];rfl
       exact h1
      rw[hid]at bz;have nD:=gj.no bz;have jS:bf bH=none:=by
       rcases fw.i1 bH with h1|h1
       .rw[<-h1];exact nD
       rw[nD]at h1;cases hq:bf bH with
       |none=>rfl
       |some v=>rw[hq]at h1;cases h1
      refine jN (key:=en.key) (val:= .pointer none) h rfl rfl rfl gy fW gj.key ek gj.nd ?_;clear h;intro lA w hu h;rw[hid]at hu;exact uK (seen.push en.born,some (nb,lA),eR p8 bH (.pointer none)) _ _ ⟨rfl,rfl,rfl,rfl,rfl,tV⟩ ⟨fw.step gF dp hid (by show eR _ bH _ bH=_;rw[pV];exact(dR jS).symm) (fun i hi=>pW _ _ hi),gj.iS hu,SH.r3 h⟩ aG
   |some me=>
    obtain⟨mb,DD⟩:=me;have O3:KF DD gf:=eD;replace h:SH w0 E.mem [] M' (.map mb DD::(dK bo++(dK fo++([.own nv 4 156 nc]++(dl sb y0 y1 y2 dH++aX.map bR.e))))) w:=h;refine DV h rfl gy ?_;clear h;intro rr KA w gF h;refine bN (X:=Array Nat×ky×(ByteArray->Option Value)) (fun x=>[(0,.iface tv (vp bv)),(4,gB x.2.1),(8,vp sb),(9,nv),(10,gB fo),(168,.pointer (some ⟨rr,0,none⟩))])
     (fun x w=>s9 DD x.1 bf (fun id=>st1 (bf id) (gf id) (ff id)) x.2.2/\nV x.2.1 x.2.2/\SH w0 E.mem [] M' (.raw rr (.mapIter (some mb) KA x.1 KA):: .raw mb (.map DD KA)::(dK x.2.1++(dK fo++([.own nv 4 156 nc]++(dl sb y0 y1 y2 dH++aX.map bR.e))))) w) (fun x=>(leftOf DD x.1).size) (#[],bo,bf) ⟨rfl,rfl,rfl,rfl,rfl,rfl,tV⟩ ⟨.start,dP,h⟩ ?_
    clear h;rintro⟨seen,sh,jx⟩ aK w N7 ⟨fw,mQ,h⟩ yr;simp only at fw mQ h;refine DU h rfl gF (qad _) (fun cz=> ?_) (fun en w dp oz aG h=> ?_)
    .have eE:∀id,jx id=st1 (bf id) (gf id) (ff id):=fun id=>by
      rw[fw.done O3 cz (fun id h0=>by show st1 (bf id) (gf id) (ff id)=_;rw[h0];cases bf id<;>rfl) id]
     replace h:SH w0 E.mem [] M' (dK sh++(dK fo++([.own nv 4 156 nc]++(dl sb y0 y1 y2 dH++aX.map bR.e)))) w:=SH.tail (SH.Ee gF h);cases fo with
     |none=>
      refine Lk h rfl wg ?_;clear h;intro rr w h;refine bN (X:=Unit) (fun _=>[(0,.iface tv (vp bv)),(4,gB sh),(8,vp sb),(9,nv),(192,.pointer (some ⟨rr,0,none⟩))]) (fun _ w=>SH w0 E.mem [] M' (.raw rr (.mapIter none 0 #[] 0)::(dK sh++([.own nv 4 156 nc]++(dl sb y0 y1 y2 dH++aX.map bR.e)))) w) (fun _=>0) () ⟨rfl,rfl,rfl,rfl,rfl,tV⟩ h ?_;clear h;rintro _ aK w N6 h uK;refine Lj h rfl ?_;replace h:=SH.tail h;have cV:∀id,jx id=p_ (bf id) (gf id) (ff id):=fun id=>by
       have e:=eE id;rw[<-Gt,<-e,fg.1 id];cases jx id<;>rfl
      have uL:nl.length<=2^40:=by
       have h1:nl.length<=cur.length*2^19:=hy.nb;have h2:cur.length<=W.length+1:=aU.inv.len;have h3:cur.length*2^19<=(2^19+1)*2^19:=qaJ _ (by omega);omega
      refine du [.own nv 4 156 nc] (dK sh++(dl sb y0 y1 y2 dH++aX.map bR.e)) (SH.up (B:=[.own nv 4 156 nc]) h) (Co g B hy.sP hy.nl hy.gs uL) ?_;clear h;rintro r1 M3 A1 w ⟨jh,⟨a',c',rfl,gg,qn⟩,pu,rfl⟩ bT _ h;rw[xd]at pu;refine qbd (aU.step g hs aT hy rfl pu bT gg qn) fun r' hq=> ?_;replace h:SH w0 E.mem [] M3 (vO (dl sb y0 y1 y2 dH) none aX none sh) w:=by
       have h1:SH w0 E.mem [] M3 (dK sh++(dl sb y0 y1 y2 dH++aX.map bR.e)) w:=h;have h2:=h1.mG;rw[qap]at h2;exact h2
      exact hN (⟨k+1,jh,a',c',nQ,y0,y1,y2,dH,r',M3⟩,sh,_,aX) _ _ ⟨rfl,rfl,rfl,rfl,tV⟩ ⟨hq.1,(mH.next g hs aU.inv jB qs cV).le bT (fun _ h=>h),mQ,h⟩ hq.2
     |some fe=>
      obtain⟨fb,mN⟩:=fe;have iw:KF mN ff:=fg.1;replace h:SH w0 E.mem [] M' (.map fb mN::(dK sh++([.own nv 4 156 nc]++(dl sb y0 y1 y2 dH++aX.map bR.e)))) w:=SH.up (A:=dK sh) (B:=[.map fb mN]) h;refine DV h rfl wg ?_;clear h;intro rr yl w gF h;refine bN (X:=Array Nat×ky×(ByteArray->Option Value)) (fun x=>[(0,.iface tv (vp bv)),(4,gB x.2.1),(8,vp sb),(9,nv),(192,.pointer (some ⟨rr,0,none⟩))])
       (fun x w=>s9 mN x.1 jx (fun id=>st2 (jx id) (ff id)) x.2.2/\nV x.2.1 x.2.2/\SH w0 E.mem [] M' (.raw rr (.mapIter (some fb) yl x.1 yl):: .raw fb (.map mN yl)::(dK x.2.1++([.own nv 4 156 nc]++(dl sb y0 y1 y2 dH++aX.map bR.e)))) w) (fun x=>(leftOf mN x.1).size) (#[],sh,jx) ⟨rfl,rfl,rfl,rfl,rfl,tV⟩ ⟨.start,mQ,h⟩ ?_
      clear h;rintro⟨seen,p9,p8⟩ aK w N6 ⟨fw,lE,h⟩ uK;simp only at fw lE h;refine DU h rfl gF (qad _) (fun cz=> ?_) (fun en w dp oz aG h=> ?_)
      .have cV:∀id,p8 id=p_ (bf id) (gf id) (ff id):=fun id=>by
        have e1:=fw.done iw cz (fun id h0=>by show st2 (jx id) (ff id)=_;rw[h0];cases jx id<;>rfl) id;have e:=eE id;rw[e1];show st2 (jx id) (ff id)=_;rw[<-Gt,<-e]
       replace h:SH w0 E.mem [] M' (dK p9++([.own nv 4 156 nc]++(dl sb y0 y1 y2 dH++aX.map bR.e))) w:=SH.tail (SH.Ee gF h);have uL:nl.length<=2^40:=by
        have h1:nl.length<=cur.length*2^19:=hy.nb;have h2:cur.length<=W.length+1:=aU.inv.len;have h3:cur.length*2^19<=(2^19+1)*2^19:=qaJ _ (by omega);omega
       refine du [.own nv 4 156 nc] (dK p9++(dl sb y0 y1 y2 dH++aX.map bR.e)) (SH.up (B:=[.own nv 4 156 nc]) h) (Co g B hy.sP hy.nl hy.gs uL) ?_;clear h;rintro r1 M3 A1 w ⟨jh,⟨a',c',rfl,gg,qn⟩,pu,rfl⟩ bT _ h;rw[xd]at pu;refine qbd (aU.step g hs aT hy rfl pu bT gg qn) fun r' hq=> ?_;replace h:SH w0 E.mem [] M3 (vO (dl sb y0 y1 y2 dH) none aX none p9) w:=by
        have h1:SH w0 E.mem [] M3 (dK p9++(dl sb y0 y1 y2 dH++aX.map bR.e)) w:=h;have h2:=h1.mG;rw[qap]at h2;exact h2
       exact hN (⟨k+1,jh,a',c',nQ,y0,y1,y2,dH,r',M3⟩,p9,_,aX) _ _ ⟨rfl,rfl,rfl,rfl,tV⟩ ⟨hq.1,(mH.next g hs aU.inv jB qs cV).le bT (fun _ h=>h),lE,h⟩ hq.2
      refine DT h rfl gF dp ?_;obtain⟨bH,hid,Ix⟩:=iw.at dp;have ek:IsKey .string en.key:=by rw[hid];trivial
      have dR:∀{f:ByteArray->Option Value},f bH=none->st2 (f bH) (ff bH)=some (.pointer none):=fun h0=>by rw[h0,Ix];rfl
      cases p9 with
      |none=>
       refine BB (key:=en.key) rfl rfl gy fW uW vG ek ?_;refine qG h ?_;clear h;intro nb w h;have jS:jx bH=none:=by
        rcases fw.i1 bH with h1|h1
        .rw[<-h1];exact lE bH
        rw[lE bH]at h1;cases hq:jx bH with
        |none=>rfl
        |some v=>rw[hq]at h1;cases h1
       refine jN (key:=en.key) (val:= .pointer none) h rfl rfl rfl gy fW (KF.nil lE).key ek (KF.nil lE).nd ?_;clear h;intro lA w hu h;rw[hid]at hu;exact uK (seen.push en.born,some (nb,lA),eR p8 bH (.pointer none)) _ _ ⟨rfl,rfl,rfl,rfl,rfl,tV⟩ ⟨fw.step gF dp hid (by show eR _ bH _ bH=_;rw[pV];exact(dR jS).symm) (fun i hi=>pW _ _ hi),(KF.nil lE).iS hu,SH.r3 h⟩ aG
      |some be=>
       obtain⟨nb,ma⟩:=be;have gj:KF ma p8:=lE;refine vX (key:=en.key) h rfl rfl gy fW uW vG gj.key ek (fun v hv=> ?_) (fun bz=> ?_)
       .rw[hid]at hv;have iz:=(gj.mem bH v).1 hv;refine uK (seen.push en.born,some (nb,ma),p8) _ _ ⟨rfl,rfl,rfl,rfl,rfl,tV⟩ ⟨fw.step gF dp hid ?_ (fun i hi=>rfl),lE,h⟩ aG;rcases fw.i1 bH with h1|h1
        .show p8 bH=st2 (jx bH) (ff bH);rw[<-h1,iz];rfl
        exact h1
       rw[hid]at bz;have nD:=gj.no bz;have jS:jx bH=none:=by
        rcases fw.i1 bH with h1|h1
        .rw[<-h1];exact nD
        rw[nD]at h1;cases hq:jx bH with
        |none=>rfl
        |some v=>rw[hq]at h1;cases h1
       refine jN (key:=en.key) (val:= .pointer none) h rfl rfl rfl gy fW gj.key ek gj.nd ?_;clear h;intro lA w hu h;rw[hid]at hu;exact uK (seen.push en.born,some (nb,lA),eR p8 bH (.pointer none)) _ _ ⟨rfl,rfl,rfl,rfl,rfl,tV⟩ ⟨fw.step gF dp hid (by show eR _ bH _ bH=_;rw[pV];exact(dR jS).symm) (fun i hi=>pW _ _ hi),gj.iS hu,SH.r3 h⟩ aG
    refine DT h rfl gF dp ?_;obtain⟨bH,hid,yH⟩:=O3.at dp;have ek:IsKey .string en.key:=by rw[hid];trivial
    have jS:jx bH=none->bf bH=none:=fun h0=>by
     rcases fw.i1 bH with h1|h1
     .rw[<-h1];exact h0
     rw[h0,yH]at h1;cases hq:bf bH with
     |none=>rfl
     |some v=>rw[hq]at h1;cases h1
    cases sh with
    |none=>
     refine BB (key:=en.key) rfl rfl gy fW uW vG ek ?_;cases fo with
     |none=>
      refine BB (key:=en.key) rfl rfl wg fW AI ua ek ?_;have iY:=fg.1 bH;refine qG h ?_;clear h;intro nb w h;refine jN (key:=en.key) (val:=en.val) h rfl rfl rfl gy fW (KF.nil mQ).key ek (KF.nil mQ).nd ?_;clear h;intro lA w hu h;rw[hid]at hu;exact yr (seen.push en.born,some (nb,lA),eR jx bH en.val) _ _ ⟨rfl,rfl,rfl,rfl,rfl,rfl,tV⟩ ⟨fw.step gF dp hid (by show eR _ bH _ bH=st1 (bf bH) (gf bH) (ff bH);rw[pV,jS (mQ bH),yH,iY];rfl) (fun i hi=>pW _ _ hi),(KF.nil mQ).iS hu,SH.r3 h⟩ aG
     |some fe=>
      obtain⟨fb,mN⟩:=fe;have iw:KF mN ff:=fg.1;refine vX (key:=en.key) h rfl rfl wg fW AI ua iw.key ek (fun v hv=> ?_) (fun bz=> ?_)
      .rw[hid]at hv;have iY:=(iw.mem bH v).1 hv;have zc:=fg.2 _ _ iY;subst zc;refine qG h ?_;clear h;intro nb w h;refine jN (key:=en.key) (val:=(.pointer none)) h rfl rfl rfl gy fW (KF.nil mQ).key ek (KF.nil mQ).nd ?_;clear h;intro lA w hu h;rw[hid]at hu;exact yr (seen.push en.born,some (nb,lA),eR jx bH (.pointer none)) _ _ ⟨rfl,rfl,rfl,rfl,rfl,rfl,tV⟩ ⟨fw.step gF dp hid (by show eR _ bH _ bH=st1 (bf bH) (gf bH) (ff bH);rw[pV,jS (mQ bH),yH,iY];rfl) (fun i hi=>pW _ _ hi),(KF.nil mQ).iS hu,SH.r3 h⟩ aG
      rw[hid]at bz;have iY:=iw.no bz;refine qG h ?_;clear h;intro nb w h;refine jN (key:=en.key) (val:=en.val) h rfl rfl rfl gy fW (KF.nil mQ).key ek (KF.nil mQ).nd ?_;clear h;intro lA w hu h;rw[hid]at hu;exact yr (seen.push en.born,some (nb,lA),eR jx bH en.val) _ _ ⟨rfl,rfl,rfl,rfl,rfl,rfl,tV⟩ ⟨fw.step gF dp hid (by show eR _ bH _ bH=st1 (bf bH) (gf bH) (ff bH);rw[pV,jS (mQ bH),yH,iY];rfl) (fun i hi=>pW _ _ hi),(KF.nil mQ).iS hu,SH.r3 h⟩ aG
    |some be=>
     obtain⟨nb,ma⟩:=be;have gj:KF ma jx:=mQ;refine vX (key:=en.key) h rfl rfl gy fW uW vG gj.key ek (fun v hv=> ?_) (fun nE=> ?_)
     .rw[hid]at hv;have iz:=(gj.mem bH v).1 hv;refine yr (seen.push en.born,some (nb,ma),jx) _ _ ⟨rfl,rfl,rfl,rfl,rfl,rfl,tV⟩ ⟨fw.step gF dp hid ?_ (fun i hi=>rfl),mQ,h⟩ aG;rcases fw.i1 bH with h1|h1
      .show jx bH=st1 (bf bH) (gf bH) (ff bH);rw[<-h1,iz];rfl
      exact h1
     rw[hid]at nE;have nD:=gj.no nE;cases fo with
     |none=>
      refine BB (key:=en.key) rfl rfl wg fW AI ua ek ?_;have iY:=fg.1 bH;refine jN (key:=en.key) (val:=en.val) h rfl rfl rfl gy fW gj.key ek gj.nd ?_;clear h;intro lA w hu h;rw[hid]at hu;exact yr (seen.push en.born,some (nb,lA),eR jx bH en.val) _ _ ⟨rfl,rfl,rfl,rfl,rfl,rfl,tV⟩ ⟨fw.step gF dp hid (by show eR _ bH _ bH=st1 (bf bH) (gf bH) (ff bH);rw[pV,jS nD,yH,iY];rfl) (fun i hi=>pW _ _ hi),gj.iS hu,SH.r3 h⟩ aG
     |some fe=>
      obtain⟨fb,mN⟩:=fe;have iw:KF mN ff:=fg.1;refine vX (key:=en.key) h rfl rfl wg fW AI ua iw.key ek (fun v hv=> ?_) (fun bz=> ?_)
      .rw[hid]at hv;have iY:=(iw.mem bH v).1 hv;have zc:=fg.2 _ _ iY;subst zc;refine jN (key:=en.key) (val:=(.pointer none)) h rfl rfl rfl gy fW gj.key ek gj.nd ?_;clear h;intro lA w hu h;rw[hid]at hu;exact yr (seen.push en.born,some (nb,lA),eR jx bH (.pointer none)) _ _ ⟨rfl,rfl,rfl,rfl,rfl,rfl,tV⟩ ⟨fw.step gF dp hid (by show eR _ bH _ bH=st1 (bf bH) (gf bH) (ff bH);rw[pV,jS nD,yH,iY];rfl) (fun i hi=>pW _ _ hi),gj.iS hu,SH.r3 h⟩ aG
      rw[hid]at bz;have iY:=iw.no bz;refine jN (key:=en.key) (val:=en.val) h rfl rfl rfl gy fW gj.key ek gj.nd ?_;clear h;intro lA w hu h;rw[hid]at hu;exact yr (seen.push en.born,some (nb,lA),eR jx bH en.val) _ _ ⟨rfl,rfl,rfl,rfl,rfl,rfl,tV⟩ ⟨fw.step gF dp hid (by show eR _ bH _ bH=st1 (bf bH) (gf bH) (ff bH);rw[pV,jS nD,yH,iY];rfl) (fun i hi=>pW _ _ hi),gj.iS hu,SH.r3 h⟩ aG
  simp only at aG;have hj:j<cur.length:=by omega
  have hE:=hy.sP;have pt:=hy.le;simp only at hE pt;have sv:=aU.inv.w cur[j] (qaf hj);have eh:=sv.2;obtain⟨b2,o2,xs,rfl,cR,ct,jX⟩:=aU.el.at hj;have kn:=gL.one jX;obtain⟨v2,iv2,rfl,gG,AY⟩:=jX;obtain⟨t2,jc,rfl,_⟩:=gG.iface;obtain⟨ai,ci,rfl,aE,kZ⟩:=AY;have lK:=uX cur[j] (qaf hj);obtain⟨bi,mP⟩:∃x,x=cur[j].ind:=⟨_,rfl⟩;obtain⟨bm,jT⟩:∃x,x=cur[j].mult:=⟨_,rfl⟩;rw[<-mP,<-jT]at ct kn;have kE:(W.plain cur[j].s).of.kind=1->W.has (W.plain cur[j].s).of.num/\(W.at (W.plain cur[j].s).of.num).bU=false:=pR g.later eh.gs.ok.num;have hint:(W.plain cur[j].s).of.kind=1->(((W.plain cur[j].s).of.num.toNat:Nat):Int)=(W.plain cur[j].s).of.num:=fun hk=>by have:=(kE hk).1.1;omega
  obtain⟨T,hT⟩:∃T:ByteArray->Nat,T=fun id=>eY (NN W id 0) (ed W (dz sn) (cur.take j)):=⟨_,rfl⟩;refine aJ (j) ?_;refine cG h (ct.le pt) ?_;refine au h ?_;clear h;intro dv w h;refine br h kn ?_;clear h;intro w h;refine ak h ?_;refine lq (X:=List (Nat×Nat)×Value×Value×Value×Option (Nat×Array MapEntry)×Mem×ky×(ByteArray->Option Value)×List bR×List ByteArray) (fun z=>[(0,.iface tv (vp bv)),(4,gB bo),(8,vp sb),(9,nv),(10,gB fo),(11,gB z.2.2.2.2.2.2.1),(13,vp dv),(14,.iface t2 (vp jc)),(62,.slice (some ⟨b2,o2,none⟩) cur.length cc),(63,.int .i64 (cur.length:Int)),(64,.int .i64 (j:Int))])
   (fun z w=>¬kw W (dz sn) cur[j]/\((W.plain cur[j].s).of.kind=1->∀i,i<(W.at (W.plain cur[j].s).of.num).methods.length->aM (W.at (W.plain cur[j].s).of.num).aC ((W.at (W.plain cur[j].s).of.num).methods.getD i default).1∈z.2.2.2.2.2.2.2.2.2)/\(∀id∈z.2.2.2.2.2.2.2.2.2,∃ie,ep W (W.plain cur[j].s) id ie/\ie.bO=true/\ie.cM=false)/\(∀p∈z.1,gN W E p.1 p.2)/\kQ z.2.2.2.2.2.1 z.2.1 z.2.2.1 z.2.2.2.1 z.2.2.2.2.1 (ul z.1)/\M'.Le z.2.2.2.2.2.1/\
    (∀T,T∈dz z.1↔T∈dz nQ\/((W.plain cur[j].s).of.kind=1/\(W.plain cur[j].s).of.num=T))/\jO W E cur T cur[j] z.2.2.2.2.2.2.2.2.2 z.2.2.2.2.2.2.2.1 ff z.2.2.2.2.2.2.2.2.1 z.2.2.2.2.2.1/\(∀x∈aX,x∈z.2.2.2.2.2.2.2.2.1)/\nV z.2.2.2.2.2.2.1 z.2.2.2.2.2.2.2.1/\
    SH w0 E.mem [] z.2.2.2.2.2.1 ([.ah dv 156 [.iface t2 (vp jc),.slice ai cur[j].index.length ci,.bool bi,.bool bm],.own nv 4 156 nc]++vO (dl sb z.2.1 z.2.2.1 z.2.2.2.1 z.2.2.2.2.1) z.2.2.2.2.2.2.1 z.2.2.2.2.2.2.2.2.1 fo bo) w) ?_ ?_
  .intro N3 kc;refine s_call h (z8 B g.later (hE.trans h.le) gG eh.gs.ok.num) ?_;clear h;rintro _ w (⟨nb,rfl,dx,I1⟩|⟨rfl,dx⟩) h;rotate_left 1
   .exact kc (nQ,y0,y1,y2,dH,M',mm,gf,aX,[]) _ _ ⟨rfl,rfl,rfl,rfl,rfl,rfl,rfl,rfl,rfl,rfl,rfl,tV⟩ ⟨fun hd=>dx hd.1,fun hk=>absurd hk dx,fun id h=>(by cases h),hy.nm,hy.il,.refl _,fun T=>by simp[dx],.start (by rw[hT];exact qs),fun x hx=>hx,eD,h⟩
   have oh:gN W E (W.plain cur[j].s).of.num.toNat nb:=⟨(kE dx).1.2,by rw[hint dx];exact(kE dx).2,I1⟩;have gk:=QX B hy.nm oh;rw[hint dx]at gk;have kC:=aU.inv.Rv hj dx hy.s1 hy.s2;simp only at gk kC;refine du (dl sb y0 y1 y2 dH) ([.ah dv 156 [.iface t2 (vp jc),.slice ai cur[j].index.length ci,.bool bi,.bool bm],.own nv 4 156 nc]++(iD mm aX++(dK fo++dK bo))) (SH.up (A:=[.ah dv 156 [.iface t2 (vp jc),.slice ai cur[j].index.length ci,.bool bi,.bool bm],.own nv 4 156 nc]) h) (Sq g B oh (fun a ha=>by obtain⟨p,hp,rfl⟩:=qaj.1 ha;exact⟨_,hy.nm p hp⟩) hE hy.il) ?_;clear h;rintro r1 M1 A1 w ⟨yW,rfl,rfl⟩ _ _ h;replace h:=h.up;rcases yW with⟨rfl,jG⟩|⟨rfl,jG⟩
   .have iq:=kC.1 (gk.1 jG);refine aA ((j+1:Nat):Int) ?_ (hy:=rfl);exact d7 (⟨j+1,nv,nl,nc,nQ,y0,y1,y2,dH,M1⟩,mm,fo,gf,ff,aX) _ _ ⟨rfl,rfl,rfl,rfl,rfl,rfl,rfl,rfl,rfl,tV⟩ ⟨hy.dead hj iq,fun id=>by simp only;rw[xr hj,if_pos iq,qaC];exact qs id,jB,eD,fg,by simp only;rw[xr hj,if_pos iq,qaC];exact xd,SH.tail h⟩ (by simp only;omega)
   have iq:¬kw W (dz sn) cur[j]:=fun hd=>jG (gk.2 (kC.2 hd));refine du (dl sb y0 y1 y2 dH) ([.ah dv 156 [.iface t2 (vp jc),.slice ai cur[j].index.length ci,.bool bi,.bool bm],.own nv 4 156 nc]++(iD mm aX++(dK fo++dK bo))) (SH.up (A:=[.ah dv 156 [.iface t2 (vp jc),.slice ai cur[j].index.length ci,.bool bi,.bool bm],.own nv 4 156 nc]) h) (Sn B oh (fun a ha=>by obtain⟨p,hp,rfl⟩:=qaj.1 ha;exact⟨_,hy.nm p hp⟩) jG hE hy.il) ?_;clear h;rintro _ M2 A1 w ⟨z0,z1,z2,gv,rfl,pB,rfl⟩ aQ _ h;replace h:=h.up;rw[<-SS (j:=(W.plain cur[j].s).of.num.toNat)]at pB;have pI:=So nQ (W.plain cur[j].s).of.num.toNat nb;rw[hint dx]at pI;have nH:=Rs hy.nm oh;simp only at nH;generalize nQ++[((W.plain cur[j].s).of.num.toNat,nb)]=lY at pB pI nH;obtain⟨am,cm,bF,wJ⟩:=(B.ctx.nm _ _ oh.1 oh.2.1 oh.2.2).m;have wR:=W.mem _ (kE dx).1;have FC:=wJ.len;have cz:=wJ.all;rw[hint dx]at FC cz;have yQ:bF.length<=2^40:=by
    have h1:=(sm (kE dx).1.2).2;have e1:W[(W.plain cur[j].s).of.num.toNat]'(kE dx).1.2=W.at (W.plain cur[j].s).of.num:=by simp[Wd.at,(kE dx).1.2]
    rw[e1]at h1;omega
   obtain⟨ks,xa⟩:∃f:Nat->ByteArray,f=fun q=>aM (W.at (W.plain cur[j].s).of.num).aC ((W.at (W.plain cur[j].s).of.num).methods.getD q default).1:=⟨_,rfl⟩;have fG:∀i,i<bF.length->ep W (W.plain cur[j].s) (ks i) ⟨W.start (W.plain cur[j].s).of.num.toNat+i,true,i,((W.at (W.plain cur[j].s).of.num).methods.getD i default).2,false⟩:=fun i hi=> .bO dx (by omega) (by rw[xa]);refine bN (X:=Nat×ky×(ByteArray->Option Value)×List bR×Mem) (fun z=>[(0,.iface tv (vp bv)),(4,gB bo),(8,vp sb),(9,nv),(10,gB fo),(11,gB z.2.1),(13,vp dv),(14,.iface t2 (vp jc)),(15,vp nb),(17,.int .i64 (z.1:Int)),(62,.slice (some ⟨b2,o2,none⟩) cur.length cc),(63,.int .i64 (cur.length:Int)),(64,.int .i64 (j:Int))])
    (fun z w=>z.1<=bF.length/\M2.Le z.2.2.2.2/\jO W E cur T cur[j] ((List.range z.1).map ks) z.2.2.1 ff z.2.2.2.1 z.2.2.2.2/\(∀x∈aX,x∈z.2.2.2.1)/\nV z.2.1 z.2.2.1/\SH w0 E.mem [] z.2.2.2.2 ([.ah dv 156 [.iface t2 (vp jc),.slice ai cur[j].index.length ci,.bool bi,.bool bm],.own nv 4 156 nc]++vO (dl sb z0 z1 z2 gv) z.2.1 z.2.2.2.1 fo bo) w) (fun z=>bF.length-z.1)
    (0,mm,gf,aX,M2) ⟨rfl,rfl,rfl,rfl,rfl,rfl,rfl,rfl,rfl,rfl,rfl,rfl,rfl,tV⟩ ⟨qae _,.refl _,.start fun id=>(by rw[hT];exact(qs id).le aQ fun x hx=>hx),fun x hx=>hx,eD,h⟩ ?_
   clear h eD;rintro⟨i,mm,gf,lW,M3⟩ aK w N4 ⟨hi,bT,dp,lR,eD,h⟩ od;simp only at hi bT dp lR eD h;refine s_call h (RH (hE.trans (aQ.trans (bT.trans h.le))) wJ) ?_;clear h;rintro _ w rfl h;refine aI (fun zbh=> ?_) (fun zbg=> ?_);rotate_left 1
   .simp only at zbg;obtain rfl:i=bF.length:=by omega
    refine kc (lY,z0,z1,z2,gv,M3,mm,gf,lW,(List.range bF.length).map ks) _ _ ⟨rfl,rfl,rfl,rfl,rfl,rfl,rfl,rfl,rfl,rfl,rfl,tV⟩ ⟨iq,fun _ i hi=>qaj.2 ⟨i,qaz.2 (by omega),by rw[xa]⟩,fun id hid=> ?_,nH,pB.le bT,aQ.trans bT,fun T=>by rw[pI T];simp[dx],dp,lR,eD,h⟩;obtain⟨q,hq,rfl⟩:=qaj.1 hid;exact⟨_,fG q (qaz.1 hq),rfl,rfl⟩
   simp only at zbh;have eB:i<bF.length:=by omega
   have E3:=hE.trans (aQ.trans bT);have sC:i<(W.at (W.plain cur[j].s).of.num).methods.length:=by omega
   obtain⟨fF,Dg⟩:=cz i bF[i] _ (qaa eB) (qaa sC);have Ph:=fv _ wR _ (qaf sC);rw[<-fS sC]at fF Ph;have Dh:=fF.DF B.ctx.pk (g.aC _ wR) Ph.2;have dB:=SH.RF (A:= .own nv 4 156 nc::dl sb z0 z1 z2 gv) (B:=iD mm lW) h (b:=dv) (by simp[aB.bX]);refine b_ (cp (iD mm lW)) h ?_;clear h;intro w h;refine bI h ?_ (hS:=dB);refine bI h ?_ (hS:=dB);refine bI h ?_ (hS:=dB);refine aI ?_ trivial;refine dg h (F4 (E3.trans h.le) wJ eB) ?_;clear h;rintro _ w rfl h;generalize bF[i]=fb at*;refine aI ?_ trivial;refine fN h (qc (i:=((i:Nat):Int)) h.le (bQ.gu kZ (pt.trans (aQ.trans bT))) lK) ?_;clear h;rintro _ M5 w ⟨a5,c5,rfl,ik,dw⟩ aV h;refine aI ?_ trivial;refine K9 (iD mm lW) ([.ah dv 156 [.iface t2 (vp jc),.slice ai cur[j].index.length ci,.bool bi,.bool bm],.own nv 4 156 nc]++(dl sb z0 z1 z2 gv++(dK fo++dK bo))) (SH.Ef (A:=[.ah dv 156 [.iface t2 (vp jc),.slice ai cur[j].index.length ci,.bool bi,.bool bm],.own nv 4 156 nc]) h)
    (L9 (B.ctx.jt.le (E3.trans aV)) (fF.le (E3.trans aV)) (Dh.le (E3.trans aV)) eD) (fun _ h=>h) ?_
   clear h;rintro r M6 A' w ⟨me,f',iC,rfl,rfl,lL,ha,rfl⟩ _ _ h;replace h:=h.HC;have bz:ks i∉(List.range i).map ks:=fun hq=>by
    obtain⟨q,oE,rE⟩:=qaj.1 hq;have h1:=fG q (by have:=qaz.1 oE;omega);rw[rE]at h1;have h2:=h1.uniq g (fG i eB) (eh.plain g);have h3:=qaL IE.last h2;simp only at h3;have:=qaz.1 oE;omega
   have mr:=jO.bO g (dp.le aV fun x hx=>hx) (qaf hj) (eh.plain g) (id:=ks i) bz (fG i eB) rfl Dg ⟨_,_,fF,Dh,by rw[xa]⟩ ⟨_,_,rfl,ik,dw⟩ (.inl mP) (by rw[xa,<-jT];exact ha);refine aA ((i+1:Nat):Int) ?_ (hy:=rfl);exact od (i+1,some me,f',iC,_) _ _ ⟨rfl,rfl,rfl,rfl,rfl,rfl,rfl,rfl,rfl,rfl,rfl,rfl,rfl,tV⟩ ⟨eB,bT.trans aV,by rw[qbB,qaq];exact mr.1,fun x hx=>mr.2 x (lR x hx),lL,h⟩ (by simp only;omega)
  clear h qs eD;rintro⟨lY,z0,z1,z2,gv,M2,mm,gf,lW,dn⟩ aK w ⟨iq,wR,Im,nH,pB,aQ,pI,dp,lR,eD,h⟩;simp only at wR Im nH pB aQ pI dp lR eD h;have ig:=hE.trans aQ;have rn:=bQ.gu kZ (pt.trans aQ);have cW:=eh.gs.under g.gw;have vC:=ku g.later eh.gs.ok.num;have qZ:∀{nl':List En} {zt:List (List Value)} {DE:Value} {M3:Mem},M2.Le M3->bC (gL W E M3) nl' zt->nl'.length<=nl.length+(W.under cur[j].s).of.fields.length->(∀e∈nl',GS W e.s/\e.s.of.kind=1)->
   pY W E ⟨k,cur,some ⟨b2,o2,none⟩,cc,sn,x0,x1,x2,mo,r,M⟩ ⟨j+1,DE,nl',zt,lY,z0,z1,z2,gv,M3⟩:=fun{nl' zt DE M3} mV xc hlen rq=>by
   refine hy.next hj iq xc ?_ rq nH (pB.le mV) (aQ.trans mV) pI;have h1:=hy.nb;have h2:=aU.fl cur[j] (qaf hj);simp only at h1;show nl'.length<=(j+1)*2^19;rw[qbr];omega
  have H1:∀id,eY (NN W id 0) (ed W (dz sn) (cur.take (j+1)))=T id+cur[j].w*NN W id 0 cur[j].s:=fun id=>by
   rw[hT];exact Gz (st:=⟨k,cur,some ⟨b2,o2,none⟩,cc,sn,x0,x1,x2,mo,r,M⟩) hj iq
  have comp:∀{ES:List ByteArray},(∀id∈dn,id∈ES)->(∀i,i<(W.under cur[j].s).of.fields.length->W.fieldName ((W.under cur[j].s).of.fields.getD i default)≠8->aM (W.under cur[j].s).aC (W.fieldName ((W.under cur[j].s).of.fields.getD i default))∈ES)->
   ((W.under cur[j].s).of.kind=5->∀n,g_ W n (W.under cur[j].s)->∀m∈dj W n (W.under cur[j].s),m.id∈ES)->∀id ie,ep W (W.plain cur[j].s) id ie->id∈ES:=fun h1 h2 h3 id ie ho=>by
   cases ho with
   |bO hk hi hid=>rw[<-hid];exact h1 _ (wR hk _ hi)
   |eS hi h8 hid=>rw[vC]at hi h8 hid;rw[<-hid];exact h2 _ hi h8
   |cM hk hn hm hid=>rw[vC]at hk hn hm;rw[<-hid];exact h3 hk _ hn _ (qax hm)
  refine DB B g.later (ig.trans h.le) gG eh.gs.ok.num ?_;intro t' b' w1 hf nu rA;replace h:=h.lu hf;have flat:∀{kk:Int},(W.under cur[j].s).of.kind=kk->kk≠4->(W.under cur[j].s).of.fields=[]:=fun h1 h2=>by
   obtain⟨d,vv,iY⟩:=cW.form;exact iY.xB (by rw[h1];exact h2)
  have Pp:∀{l':List En},l'=nl++uc W cur[j]->l'=oR W (ed W (dz sn) (cur.take (j+1))):=fun hl=>by rw[xr hj,if_neg iq,Rn,Ro,<-xd];exact hl
  have FD:∀{kk:Int},(W.under cur[j].s).of.kind=kk->kk≠4->nl=oR W (ed W (dz sn) (cur.take (j+1))):=fun h1 h2=>Pp (by rw[QE (flat h1 h2),qaC]);have ends:∀{kk:Int},(W.under cur[j].s).of.kind=kk->kk≠4->kk≠5->∀id,jP W E cur M2 lW id (gf id) (ff id).isSome (eY (NN W id 0) (ed W (dz sn) (cur.take (j+1)))):=fun h1 h2 h3=>
   dp.close g eh (comp (fun _ h=>h) (fun i hi=>by rw[flat h1 h2]at hi;exact absurd hi (qav _)) fun h5=>absurd (h1.symm.trans h5) h3) H1
  rcases rA with⟨rfl,hk⟩|⟨rfl,hk⟩|⟨rfl,hk⟩|⟨rfl,hk⟩|⟨rfl,hk⟩
  .refine aA ((j+1:Nat):Int) ?_ (hy:=rfl);exact d7 (⟨j+1,nv,nl,nc,lY,z0,z1,z2,gv,M2⟩,mm,fo,gf,ff,lW) _ _ ⟨rfl,rfl,rfl,rfl,rfl,rfl,rfl,rfl,rfl,tV⟩ ⟨qZ (.refl _) (hy.nl.mono fun _ _ _ h=>h.le aQ) (qbx _ _) hy.gs,ends hk (by decide) (by decide),jB.le aQ lR,eD,fg,FD hk (by decide),SH.tail h⟩ (by simp only;omega)
  .refine aA ((j+1:Nat):Int) ?_ (hy:=rfl);exact d7 (⟨j+1,nv,nl,nc,lY,z0,z1,z2,gv,M2⟩,mm,fo,gf,ff,lW) _ _ ⟨rfl,rfl,rfl,rfl,rfl,rfl,rfl,rfl,rfl,tV⟩ ⟨qZ (.refl _) (hy.nl.mono fun _ _ _ h=>h.le aQ) (qbx _ _) hy.gs,ends hk (by decide) (by decide),jB.le aQ lR,eD,fg,FD hk (by decide),SH.tail h⟩ (by simp only;omega)
  .refine aA ((j+1:Nat):Int) ?_ (hy:=rfl);exact d7 (⟨j+1,nv,nl,nc,lY,z0,z1,z2,gv,M2⟩,mm,fo,gf,ff,lW) _ _ ⟨rfl,rfl,rfl,rfl,rfl,rfl,rfl,rfl,rfl,tV⟩ ⟨qZ (.refl _) (hy.nl.mono fun _ _ _ h=>h.le aQ) (qbx _ _) hy.gs,ends hk (by decide) (by decide),jB.le aQ lR,eD,fg,FD hk (by decide),SH.tail h⟩ (by simp only;omega)
  .
   obtain⟨q',va,cH,gZ,e1,fD,IJ,IV,fH,jD,AO,kf⟩:=nu.inv hk;cases e1;have nB:cH.length=(W.under cur[j].s).of.fields.length:=IJ;have mr:gZ.length=(W.under cur[j].s).of.fields.length:=IV;obtain⟨af,cf,rfl,iJ,Iq⟩:=fH;rw[qat]at fD;have c_:(W.under cur[j].s).of.fields.length<=2^19:=aU.fl cur[j] (qaf hj);have CS:∀i,i<(W.under cur[j].s).of.fields.length->bL (W.fieldName ((W.under cur[j].s).of.fields.getD i default)):=fun i hi=>by
    obtain⟨d,vv,iY⟩:=cW.form;rw[fS hi];exact nq g.gw.name iY (qaf hi)
   obtain⟨n7,Fm⟩:∃f:Nat->ByteArray,f=fun i=>aM (W.under cur[j].s).aC (W.fieldName ((W.under cur[j].s).of.fields.getD i default)):=⟨_,rfl⟩;have JA:∀i,i<(W.under cur[j].s).of.fields.length->W.fieldName ((W.under cur[j].s).of.fields.getD i default)≠8->ep W (W.plain cur[j].s) (n7 i) ⟨(W.under cur[j].s).fieldAt i,false,i,false,false⟩:=fun i hi h8=>by
    have:=ep.eS (W:=W) (s:=W.plain cur[j].s) (id:=n7 i) (i:=i) (by rw[vC];exact hi) (by rw[vC];exact h8) (by rw[vC,Fm]);rw[vC]at this;exact this
   have hT0:∀id,wh W id->T id=0:=fun id hb=>by
    rw[hT];exact zF.2 fun e he=>by
     rw[hb.zero g 0 e.s (aU.inv.w e (List.mem_of_mem_take (vM.1 he).1)).2,Nat.mul_zero]
   refine aP h (ig.cell _ _ _ (fD.at 0 rfl)) ?_;refine bN (X:=Nat×Value×List En×List (List Value)×Mem×ky×(ByteArray->Option Value)×List ByteArray) (fun x=>[(0,.iface tv (vp bv)),(4,gB bo),(8,vp sb),(9,x.2.1),(10,gB x.2.2.2.2.2.1),(11,gB mm),(13,vp dv),(62,.slice (some ⟨b2,o2,none⟩) cur.length cc),(63,.int .i64 (cur.length:Int)),(64,.int .i64 (j:Int)),(107,.slice af cH.length cf),(108,.int .i64 (cH.length:Int)),(109,.int .i64 (x.1:Int))])
    (fun x w=>x.1<=cH.length/\M2.Le x.2.2.2.2.1/\bC (gL W E x.2.2.2.2.1) x.2.2.1 x.2.2.2.1/\(∀e∈x.2.2.1,GS W e.s/\e.s.of.kind=1)/\x.2.2.1=nl++kG W cur[j] x.1/\jO W E cur T cur[j] x.2.2.2.2.2.2.2 gf x.2.2.2.2.2.2.1 lW x.2.2.2.2.1/\
     (∀id∈x.2.2.2.2.2.2.2,∃ie,ep W (W.plain cur[j].s) id ie/\(ie.bO=true\/(ie.bO=false/\ie.last<x.1)))/\(∀id∈dn,id∈x.2.2.2.2.2.2.2)/\(∀i,i<x.1->W.fieldName ((W.under cur[j].s).of.fields.getD i default)≠8->n7 i∈x.2.2.2.2.2.2.2)/\GX x.2.2.2.2.2.1 x.2.2.2.2.2.2.1/\
     SH w0 E.mem [] x.2.2.2.2.1 ([.ah dv 156 [.iface t2 (vp jc),.slice ai cur[j].index.length ci,.bool bi,.bool bm],.own x.2.1 4 156 x.2.2.2.1]++vO (dl sb z0 z1 z2 gv) mm lW x.2.2.2.2.2.1 bo) w) (fun x=>cH.length-x.1)
    (0,nv,nl,nc,M2,fo,ff,dn) ⟨rfl,rfl,rfl,rfl,rfl,rfl,rfl,rfl,rfl,rfl,rfl,rfl,rfl,tV⟩ ⟨qae _,.refl _,hy.nl.mono fun _ _ _ h=>h.le aQ,hy.gs,by simp only;rw[QH,qaC],dp,fun id hid=>(Im id hid).imp fun ie h=>⟨h.1,.inl h.2.1⟩,fun _ h=>h,fun i hi=>absurd hi (qav _),fg,h⟩ ?_
   clear h fg;rintro⟨fi,iA,js,kH,M9,Nu,uG,Cw⟩ aK w N4 ⟨uS,cB,lN,mU,u_,Fj,In,yF,If,fg,h⟩ od;simp only at uS cB lN mU u_ Fj In yF If fg h;have pq:=ig.trans cB;refine aI (fun Iv=> ?_) (fun Iu=> ?_);rotate_left 1
   .simp only at Iu;obtain rfl:fi=cH.length:=by omega
    have nA:=QF W cur[j] cH.length;refine aA ((j+1:Nat):Int) ?_ (hy:=rfl);exact d7 (⟨j+1,iA,js,kH,lY,z0,z1,z2,gv,M9⟩,mm,Nu,gf,uG,lW) _ _ ⟨rfl,rfl,rfl,rfl,rfl,rfl,rfl,rfl,rfl,tV⟩ ⟨qZ cB lN (by rw[u_,qar];omega) mU,
     Fj.close g eh (comp yF (fun i hi h8=>by have:=If i (by omega) h8;rw[Fm]at this;exact this) fun h5=>absurd (hk.symm.trans h5) (by decide)) H1,jB.le (aQ.trans cB) lR,eD,fg,Pp (by rw[u_,nB,Kt]),SH.tail h⟩ (by simp only;omega)
   simp only at Iv;have lH:fi<cH.length:=by omega
   have iu:fi<(W.under cur[j].s).of.fields.length:=by omega
   have g1:=jD fi _ _ _ (qaa lH) (qaa (by omega)) (qaa iu);have d1:=kf fi _ (qaa (by omega));obtain⟨bf,RN,Xm,rfl,u7,JJ,Ii⟩:=Iq fi [vp cH[fi]] (by simp[lH]);cases Ii;have rf:=JJ 0 _ rfl;rw[qa6]at rf;generalize cH[fi]=yb at*;generalize Od:gZ[fi]'(by omega)=V1 at*;obtain⟨tVv,bV,rfl,_⟩:=d1.iface;rw[<-fS iu]at g1;have KX:ln E.mem yb (W.under cur[j].s).aC (W.fieldName ((W.under cur[j].s).of.fields.getD fi default)):=⟨by obtain⟨x,hx⟩:=B.ctx.pk _ cW.aC;exact⟨_,x,g1.at 1 rfl,hx⟩,g1.at 2 rfl,cW.aC,CS fi iu⟩;have AG:=fg.2;have lS:∃so,jO W E cur T cur[j] so gf (eR uG (n7 fi) (.bool true)) lW M9/\(∀id∈so,∃ie,ep W (W.plain cur[j].s) id ie/\(ie.bO=true\/(ie.bO=false/\ie.last<fi+1)))/\(∀id∈Cw,id∈so)/\(W.fieldName ((W.under cur[j].s).of.fields.getD fi default)≠8->n7 fi∈so):=by
    have up:∀id∈Cw,∃ie,ep W (W.plain cur[j].s) id ie/\(ie.bO=true\/(ie.bO=false/\ie.last<fi+1)):=fun id hid=>(In id hid).imp fun ie h=>⟨h.1,h.2.imp_right fun h=>⟨h.1,Nat.lt_succ_of_lt h.2⟩⟩;by_cases h8:W.fieldName ((W.under cur[j].s).of.fields.getD fi default)=8
    .have fu:wh W (n7 fi):=by rw[Fm];exact Hg g fv cW.aC h8
     exact⟨Cw,Fj.blank (eh.plain g) fu (hT0 _ fu),up,fun _ h=>h,fun h=>absurd h8 h⟩
    have ho:=JA fi iu h8;have bz:n7 fi∉Cw:=fun hq=>by
     obtain⟨ie,mY,hx⟩:=In _ hq;rw[mY.uniq g ho (eh.plain g)]at hx;rcases hx with hx|⟨_,hx⟩
     .cases hx
     exact absurd hx (Nat.lt_irrefl _)
    refine⟨Cw++[n7 fi],Fj.eS (qaf hj) (eh.plain g) bz ho rfl,fun id hid=> ?_,fun _ h=>qaA _ h,fun _=>by simp⟩;rcases qah.1 hid with hid|hid
    .exact up id hid
    rw[qac.1 hid];exact⟨_,ho,.inr ⟨rfl,qam _⟩⟩
   refine aJ (fi) ?_;refine aP h (pq.cell _ _ _ rf) ?_;refine lq (X:=Nat×Array MapEntry) (fun x=>[(0,.iface tv (vp bv)),(4,gB bo),(8,vp sb),(9,iA),(10,.map (some x.1)),(11,gB mm),(13,vp dv),(19,.int .i64 (fi:Int)),(20,vp yb),(62,.slice (some ⟨b2,o2,none⟩) cur.length cc),(63,.int .i64 (cur.length:Int)),(64,.int .i64 (j:Int)),(107,.slice (some ⟨bf,RN,none⟩) cH.length cf),(108,.int .i64 (cH.length:Int)),(109,.int .i64 (fi:Int))])
    (fun x w=>KF x.2 uG/\SH w0 E.mem [] M9 (.map x.1 x.2::([.ah dv 156 [.iface t2 (vp jc),.slice ai cur[j].index.length ci,.bool bi,.bool bm],.own iA 4 156 kH]++(dl sb z0 z1 z2 gv++(iD mm lW++dK bo)))) w) ?_ ?_
   .intro N5 H0;cases Nu with
    |none=>
     refine qG h ?_;clear h;intro mb w h;exact H0 (mb,#[]) _ _ ⟨rfl,rfl,rfl,rfl,rfl,rfl,rfl,rfl,rfl,rfl,rfl,rfl,rfl,rfl,rfl,tV⟩ ⟨KF.nil fg.1,h⟩
    |some me=>
     obtain⟨mb,es⟩:=me;exact H0 (mb,es) _ _ ⟨rfl,rfl,rfl,rfl,rfl,rfl,rfl,rfl,rfl,rfl,rfl,rfl,rfl,rfl,rfl,tV⟩ ⟨fg.1,SH.up3 (A:=[.ah dv 156 [.iface t2 (vp jc),.slice ai cur[j].index.length ci,.bool bi,.bool bm],.own iA 4 156 kH]) h⟩
   clear h fg;rintro⟨mb,es⟩ aK w ⟨iw,h⟩;simp only at iw h;refine s_call h (xC B.ctx.jt (pq.trans h.le) KX) ?_;clear h;rintro _ w rfl h;refine jN (key:= .string (aM (W.under cur[j].s).aC (W.fieldName ((W.under cur[j].s).of.fields.getD fi default)))) (val:= .bool true) h rfl rfl rfl wg fW iw.key trivial iw.nd ?_;clear h;intro bP w hu h;have C3:GX (some (mb,bP)) (eR uG (n7 fi) (.bool true)):=⟨by rw[Fm];exact iw.iS hu,fun id v hv=>by
    unfold eR at hv;split at hv
    .cases hv;rfl
    exact AG id v hv⟩
   replace h:SH w0 E.mem [] M9 ([.ah dv 156 [.iface t2 (vp jc),.slice ai cur[j].index.length ci,.bool bi,.bool bm],.own iA 4 156 kH]++(dl sb z0 z1 z2 gv++(iD mm lW++(dK (some (mb,bP))++dK bo)))) w:=SH.XF (A:=[.ah dv 156 [.iface t2 (vp jc),.slice ai cur[j].index.length ci,.bool bi,.bool bm],.own iA 4 156 kH]) (F:=dK (some (mb,bP))) h;refine qbd lS fun so lS=> ?_;have CM:∀i,i<fi+1->W.fieldName ((W.under cur[j].s).of.fields.getD i default)≠8->n7 i∈so:=fun i hi h8=>by
    by_cases lI:i=fi
    .rw[lI]at h8⊢;exact lS.2.2.2 h8
    exact lS.2.2.1 _ (If i (by omega) h8)
   have c5:=g1.at 5 rfl;obtain⟨em,jk⟩:∃x,x=((W.under cur[j].s).of.fields.getD fi default).2.1:=⟨_,rfl⟩;rw[<-jk]at c5;cases em with
   |false=>
    refine aP h (pq.cell _ _ _ c5) ?_;refine aA ((fi+1:Nat):Int) ?_ (hy:=rfl);exact od (fi+1,iA,js,kH,M9,some (mb,bP),eR uG (n7 fi) (.bool true),so) _ _ ⟨rfl,rfl,rfl,rfl,rfl,rfl,rfl,rfl,rfl,rfl,rfl,rfl,rfl,tV⟩ ⟨lH,cB,lN,mU,by simp only;rw[QG jk.symm,u_],lS.1,lS.2.1,fun id h=>lS.2.2.1 id (yF id h),CM,C3,h⟩ (by simp only;omega)
   |true=>
    obtain⟨vI,vJ,DA⟩:=Nc g eh iu (by rw[<-fS iu];exact jk.symm);refine aP h (pq.cell _ _ _ c5) ?_;refine aP h (pq.cell _ _ _ (g1.at 3 rfl)) ?_;refine s_call h (EQ B g.later (pq.trans h.le) d1 (cW.field iu).ok.num) ?_;clear h;have zaD:nl.length<=j*2^19:=hy.nb;have zaF:cur.length<=W.length+1:=aU.inv.len;have qt:=lN.len;have nA:=QF W cur[j] fi;have uM:(kH.length+1)*(48+1)<=140737488355328:=by
     have zbl:j*2^19<=(2^19+1)*2^19:=qaJ _ (by omega);rw[u_,qar]at qt;omega
    rintro _ w (⟨v',rfl,dE,ke⟩|⟨rfl,dE⟩) h
    .have gi:((W.under cur[j].s).field fi).of.kind=2:=by
      rcases DA with⟨_,h1⟩|h1
      .exact absurd dE h1
      exact h1
     rw[eu (.inl (by rw[gi];decide))]at ke;have ge:((W.under cur[j].s).field fi).base=((W.under cur[j].s).field fi).elem:=by unfold Sp.base;rw[if_pos gi]
     rw[<-ge]at ke;obtain⟨tw,bw,rfl,_⟩:=ke.iface;cases bi with
     |true=>
      have dB:=h.lT (b:=dv) (v:=iA);refine b_ (cZ iA) h ?_;clear h;intro w h;refine bI h ?_ (hS:=dB);refine bI h ?_ (hS:=dB);refine bI h ?_ (hS:=dB);refine aI ?_ trivial;refine fN h (qc (i:=((fi:Nat):Int)) h.le (bQ.gu rn cB) lK) ?_;clear h;rintro _ M5 w ⟨a5,c5,rfl,ik,dw⟩ aV h;have gq:gL W E M5 ⟨((W.under cur[j].s).field fi).base,cur[j].index++[((fi:Nat):Int)],true,bm⟩ [Value.iface tw (vp bw),.slice a5 (cur[j].index++[((fi:Nat):Int)]).length c5,.bool true,.bool bm]:=⟨Value.iface tw (vp bw),_,rfl,ke,⟨a5,c5,rfl,ik,dw⟩⟩;refine aI ?_ trivial;refine dX h ?_;clear h;intro bq w h;refine aI ?_ trivial;refine eI h ww h.df (de gq.one) ?_ (hb:=uM);clear h;intro v10 w h;refine aA ((fi+1:Nat):Int) ?_ (hy:=rfl);refine od (fi+1,v10,js++[⟨((W.under cur[j].s).field fi).base,cur[j].index++[((fi:Nat):Int)],true,bm⟩],kH++[[Value.iface tw (vp bw),.slice a5 (cur[j].index++[((fi:Nat):Int)]).length c5,.bool true,.bool bm]],M5,some (mb,bP),eR uG (n7 fi) (.bool true),so) _ _ ⟨rfl,rfl,rfl,rfl,rfl,rfl,rfl,rfl,rfl,rfl,rfl,rfl,rfl,tV⟩ ⟨lH,cB.trans aV,(lN.mono fun _ _ _ h=>h.le aV).snoc gq,fun e he=> ?_,?_,lS.1.le aV (fun _ h=>h),lS.2.1,fun id h=>lS.2.2.1 id (yF id h),CM,C3,h.xJ⟩ (by simp only;omega)
      .rcases qah.1 he with he|he
       .exact mU e he
       rw[qac.1 he];exact⟨vI,vJ⟩
      show js++_=nl++kG W cur[j] (fi+1);rw[xq jk.symm,u_,qap,<-mP,<-jT,qaH gi];rfl
     |false=>
      have dB:=h.lT (b:=dv) (v:=iA);refine b_ (cZ iA) h ?_;clear h;intro w h;refine bI h ?_ (hS:=dB);refine bI h ?_ (hS:=dB);refine bI h ?_ (hS:=dB);refine aI ?_ trivial;refine fN h (qc (i:=((fi:Nat):Int)) h.le (bQ.gu rn cB) lK) ?_;clear h;rintro _ M5 w ⟨a5,c5,rfl,ik,dw⟩ aV h;have gq:gL W E M5 ⟨((W.under cur[j].s).field fi).base,cur[j].index++[((fi:Nat):Int)],true,bm⟩ [Value.iface tw (vp bw),.slice a5 (cur[j].index++[((fi:Nat):Int)]).length c5,.bool true,.bool bm]:=⟨Value.iface tw (vp bw),_,rfl,ke,⟨a5,c5,rfl,ik,dw⟩⟩;refine aI ?_ trivial;refine dX h ?_;clear h;intro bq w h;refine aI ?_ trivial;refine eI h ww h.df (de gq.one) ?_ (hb:=uM);clear h;intro v10 w h;refine aA ((fi+1:Nat):Int) ?_ (hy:=rfl);refine od (fi+1,v10,js++[⟨((W.under cur[j].s).field fi).base,cur[j].index++[((fi:Nat):Int)],true,bm⟩],kH++[[Value.iface tw (vp bw),.slice a5 (cur[j].index++[((fi:Nat):Int)]).length c5,.bool true,.bool bm]],M5,some (mb,bP),eR uG (n7 fi) (.bool true),so) _ _ ⟨rfl,rfl,rfl,rfl,rfl,rfl,rfl,rfl,rfl,rfl,rfl,rfl,rfl,tV⟩ ⟨lH,cB.trans aV,(lN.mono fun _ _ _ h=>h.le aV).snoc gq,fun e he=> ?_,?_,lS.1.le aV (fun _ h=>h),lS.2.1,fun id h=>lS.2.2.1 id (yF id h),CM,C3,h.xJ⟩ (by simp only;omega)
      .rcases qah.1 he with he|he
       .exact mU e he
       rw[qac.1 he];exact⟨vI,vJ⟩
      show js++_=nl++kG W cur[j] (fi+1);rw[xq jk.symm,u_,qap,<-mP,<-jT,qaH gi];rfl
    have gi:((W.under cur[j].s).field fi).of.kind=1:=by
     rcases DA with⟨h1,_⟩|h1
     .exact h1
     exact absurd (by rw[eu (.inl (by rw[h1];decide))];exact h1) dE
    have yL:¬((W.under cur[j].s).field fi).of.kind=2:=by rw[gi];decide
    have ge:((W.under cur[j].s).field fi).base=(W.under cur[j].s).field fi:=by unfold Sp.base;rw[if_neg yL]
    rw[<-ge]at d1;cases bi with
    |true=>
     have dB:=h.lT (b:=dv) (v:=iA);refine b_ (cZ iA) h ?_;clear h;intro w h;refine bI h ?_ (hS:=dB);refine bI h ?_ (hS:=dB);refine bI h ?_ (hS:=dB);refine aI ?_ trivial;refine fN h (qc (i:=((fi:Nat):Int)) h.le (bQ.gu rn cB) lK) ?_;clear h;rintro _ M5 w ⟨a5,c5,rfl,ik,dw⟩ aV h;have gq:gL W E M5 ⟨((W.under cur[j].s).field fi).base,cur[j].index++[((fi:Nat):Int)],true,bm⟩ [Value.iface tVv (vp bV),.slice a5 (cur[j].index++[((fi:Nat):Int)]).length c5,.bool true,.bool bm]:=⟨Value.iface tVv (vp bV),_,rfl,d1,⟨a5,c5,rfl,ik,dw⟩⟩;refine aI ?_ trivial;refine dX h ?_;clear h;intro bq w h;refine aI ?_ trivial;refine eI h ww h.df (de gq.one) ?_ (hb:=uM);clear h;intro v10 w h;refine aA ((fi+1:Nat):Int) ?_ (hy:=rfl);refine od (fi+1,v10,js++[⟨((W.under cur[j].s).field fi).base,cur[j].index++[((fi:Nat):Int)],true,bm⟩],kH++[[Value.iface tVv (vp bV),.slice a5 (cur[j].index++[((fi:Nat):Int)]).length c5,.bool true,.bool bm]],M5,some (mb,bP),eR uG (n7 fi) (.bool true),so) _ _ ⟨rfl,rfl,rfl,rfl,rfl,rfl,rfl,rfl,rfl,rfl,rfl,rfl,rfl,tV⟩ ⟨lH,cB.trans aV,(lN.mono fun _ _ _ h=>h.le aV).snoc gq,fun e he=> ?_,?_,lS.1.le aV (fun _ h=>h),lS.2.1,fun id h=>lS.2.2.1 id (yF id h),CM,C3,h.xJ⟩ (by simp only;omega)
     .rcases qah.1 he with he|he
      .exact mU e he
      rw[qac.1 he];exact⟨vI,vJ⟩
     show js++_=nl++kG W cur[j] (fi+1);rw[xq jk.symm,u_,qap,<-mP,<-jT,qaK yL];rfl
    |false=>
     have dB:=h.lT (b:=dv) (v:=iA);refine b_ (cZ iA) h ?_;clear h;intro w h;refine bI h ?_ (hS:=dB);refine bI h ?_ (hS:=dB);refine bI h ?_ (hS:=dB);refine aI ?_ trivial;refine fN h (qc (i:=((fi:Nat):Int)) h.le (bQ.gu rn cB) lK) ?_;clear h;rintro _ M5 w ⟨a5,c5,rfl,ik,dw⟩ aV h;have gq:gL W E M5 ⟨((W.under cur[j].s).field fi).base,cur[j].index++[((fi:Nat):Int)],false,bm⟩ [Value.iface tVv (vp bV),.slice a5 (cur[j].index++[((fi:Nat):Int)]).length c5,.bool false,.bool bm]:=⟨Value.iface tVv (vp bV),_,rfl,d1,⟨a5,c5,rfl,ik,dw⟩⟩;refine aI ?_ trivial;refine dX h ?_;clear h;intro bq w h;refine aI ?_ trivial;refine eI h ww h.df (de gq.one) ?_ (hb:=uM);clear h;intro v10 w h;refine aA ((fi+1:Nat):Int) ?_ (hy:=rfl);refine od (fi+1,v10,js++[⟨((W.under cur[j].s).field fi).base,cur[j].index++[((fi:Nat):Int)],false,bm⟩],kH++[[Value.iface tVv (vp bV),.slice a5 (cur[j].index++[((fi:Nat):Int)]).length c5,.bool false,.bool bm]],M5,some (mb,bP),eR uG (n7 fi) (.bool true),so) _ _ ⟨rfl,rfl,rfl,rfl,rfl,rfl,rfl,rfl,rfl,rfl,rfl,rfl,rfl,tV⟩ ⟨lH,cB.trans aV,(lN.mono fun _ _ _ h=>h.le aV).snoc gq,fun e he=> ?_,?_,lS.1.le aV (fun _ h=>h),lS.2.1,fun id h=>lS.2.2.1 id (yF id h),CM,C3,h.xJ⟩ (by simp only;omega)
     .rcases qah.1 he with he|he
      .exact mU e he
      rw[qac.1 he];exact⟨vI,vJ⟩
     show js++_=nl++kG W cur[j] (fi+1);rw[xq jk.symm,u_,qap,<-mP,<-jT,qaK yL];rfl
  
  have lI:E.cM (W.under cur[j].s) b':=by
   generalize t8:Value.iface 134 (vp b')=v at nu;cases nu with
   |cM _ hi=>rw[kN (qaP t8).2];exact hi
   |basic ad=>rw[hk]at ad;cases ad
   |named ad=>rw[hk]at ad;cases ad
   |ptr ad=>rw[hk]at ad;cases ad
   |lX ad=>rw[hk]at ad;cases ad
   |lZ ad=>rw[hk]at ad;cases ad
  obtain⟨tb,nr,my,Fc,vm,vt,bF,cL,cu,oG,dQ⟩:=B.ts _ _ lI;have tU:=(B.ctx.ifs _ _ lI).1;have dC:(W.under cur[j].s).of.kind≠1:=by rw[hk];decide
  have AN:=we g.gw nr _ cW;have zbN:=Br (zG W nr (W.under cur[j].s)) fun x hx=>(AN x hx).1;have gl:∀n',g_ W n' (W.under cur[j].s)->dj W n' (W.under cur[j].s)=dj W nr (W.under cur[j].s):=fun n' h'=>D8 g.later g.rd h' my;have FF:∀i m,(dj W nr (W.under cur[j].s))[i]? =some m->ep W (W.plain cur[j].s) m.id ⟨m.num,true,i,false,true⟩:=fun i m h1=>
   .cM (n:=nr) (by rw[vC];exact hk) (by rw[vC];exact my) (by rw[vC];exact h1) rfl
  generalize dj W nr (W.under cur[j].s)=ms at*;have ov:=dQ.len;obtain⟨am,cm,rfl,rj,CQ⟩:=cu;rw[qat]at cL;have yQ:bF.length<=2^40:=by omega
  have fF:∀(i b:Nat),bF[i]? =some b->∃m,ms[i]? =some m/\s7 E m false b:=fun i b h1=>by
   have hi:i<ms.length:=by have:=(qab.1 h1).1;omega
   obtain⟨b',h3,h4⟩:=dQ.get (qaa hi);rw[h1]at h3;cases h3;exact⟨_,qaa hi,h4⟩
  have dB:=SH.RF (A:= .own nv 4 156 nc::dl sb z0 z1 z2 gv) (B:=iD mm lW) h (b:=dv) (by simp[aB.bX]);have oj:=SH.zdd (A:=[.ah dv 156 [.iface t2 (vp jc),.slice ai cur[j].index.length ci,.bool bi,.bool bm],.own nv 4 156 nc]) h (ig.cell _ _ _ (cL.at 1 rfl));refine b_ (cp (iD mm lW)) h ?_;clear h;intro w h;refine bI h ?_ (hS:=dB);refine bI h ?_ (hS:=dB);refine aI ?_ trivial;refine dg h (GH (ig.trans h.le) tU.c0 Fc) ?_;clear h;rintro _ w rfl h;refine cd h (ig.cell _ _ _ (cL.at 1 rfl)) ?_ (hS:=oj);refine aI ?_ trivial;refine K9 (iD mm lW) ([.ah dv 156 [.iface t2 (vp jc),.slice ai cur[j].index.length ci,.bool bi,.bool bm],.own nv 4 156 nc]++(dl sb z0 z1 z2 gv++(dK fo++dK bo))) (SH.Ef (A:=[.ah dv 156 [.iface t2 (vp jc),.slice ai cur[j].index.length ci,.bool bi,.bool bm],.own nv 4 156 nc]) h)
   (Ur (pk:=E.pk) (J:=fun M1 i f aX=>jO W E cur T cur[j] (dn++(ms.take i).map bD.id) f ff aX M1/\∀x∈lW,x∈aX) (B.ctx.jt.le ig) (CQ.mono ig fun _ _ _ h=>h) rn lK yQ eD ⟨by simpa using dp,fun x hx=>hx⟩ (fun hl hJ=>⟨hJ.1.le hl fun x hx=>hx,hJ.2⟩) ?_) (fun _ h=>h) ?_
  .intro i b qq;obtain⟨m,nC,hF⟩:=fF i b qq;have cQ:=(AN m (qax nC)).1;have Dh:=hF.uA.DF B.ctx.pk cQ.1 cQ.2;refine⟨m.aC,m.name,false,hF.uA.le ig,Dh.le ig,fun M1 f aX a l c f' iC hl hJ cu ha=> ?_⟩;have ho:=FF i m nC;have bz:m.id∉dn++(ms.take i).map bD.id:=fun hq=>by
    rcases qah.1 hq with hq|hq
    .obtain⟨ie,mY,_,gh⟩:=Im _ hq;rw[mY.uniq g ho (eh.plain g)]at gh;cases gh
    obtain⟨m',lL,he⟩:=qaj.1 hq;obtain⟨q,oE,rE⟩:=qak lL;simp only[qaG]at oE;rw[List.getElem_take]at rE;have h1:=FF q m' (by rw[<-rE];exact qaa (by omega));rw[he]at h1;have h3:=qaL IE.last (h1.uniq g ho (eh.plain g));simp only at h3;omega
   have mr:=jO.bO g hJ.1 (qaf hj) (eh.plain g) (id:=m.id) bz ho rfl hF.ob ⟨_,_,hF.uA,Dh,rfl⟩ cu (.inr ⟨rfl,rfl,rfl⟩) (by rw[<-jT];exact ha);refine⟨?_,fun x hx=>mr.2 x (hJ.2 x hx)⟩;have hi:i<ms.length:=(qab.1 nC).1;rw[<-dN hi,qaq,<-qap];have:ms[i]=m:=(qab.1 nC).2;rw[this];exact mr.1
  clear h;rintro r6 M6 A' w ⟨mo6,f6,zeN,rfl,hm6,HY,rfl⟩ ck _ h;replace h:=h.HC;rw[show ms.take bF.length=ms by rw[<-ov];exact qay]at HY;refine aA ((j+1:Nat):Int) ?_ (hy:=rfl);exact d7 (⟨j+1,nv,nl,nc,lY,z0,z1,z2,gv,M6⟩,mo6,fo,f6,ff,zeN) _ _ ⟨rfl,rfl,rfl,rfl,rfl,rfl,rfl,rfl,rfl,tV⟩ ⟨qZ ck (hy.nl.mono fun _ _ _ h=>h.le (aQ.trans ck)) (qbx _ _) hy.gs,
   HY.1.close g eh (comp (fun _ h=>qaA _ h) (fun i hi=>by rw[flat hk (by decide)]at hi;exact absurd hi (qav _)) fun _ n' lM m hm=>qaR _ (qaj.2 ⟨m,by rw[gl n' lM]at hm;exact hm,rfl⟩)) H1,
   jB.le (aQ.trans ck) (fun x hx=>HY.2 x (lR x hx)),hm6,fg,FD hk (by decide),SH.tail h⟩ (by simp only;omega)
 clear h sM;rintro⟨⟨k,cur,ca,cc,sn,x0,x1,x2,mo,r,M⟩,bo,bf,aX⟩ aK w ⟨aU,Ax,jB,dP,h⟩;simp only at aU Ax jB dP h;subst Ax;have cz:∀id x e,Uq W s ind id x e->e.bO=true->(e.ptr=true->x.ind=true)->∃y∈aX,bf id=some (vp y.b)/\y.id=id:=fun id x e hu hm hp=>jB.fin aU.inv id hu hm hp;have KO:∀{w:World} {rb:Nat} {L:List aB},(∀id,bf id=none)->SH w0 E.mem [] M (.ah rb 150 [.slice none 0 0]::L) w->∃M',Es W E s0 s ind (.iface tv (vp bv)) (vp rb) M'/\Gr E.mem w0 M' w:=fun{w rb L} hb h=>by
  obtain⟨M1,bG,fD,h⟩:=h.dA rb;refine⟨M1,.inr ⟨Df,.inr ⟨yT,rb,_,[],rfl,fD,Sl.nil _ _ _,.nil,by simp,fun x hx=>(by cases hx),fun id x e hu hm hp=> ?_⟩⟩,SH.gr h⟩;obtain⟨y,_,h1,_⟩:=cz id x e hu hm hp;rw[hb id]at h1;cases h1
 cases bo with
 |none=>
  refine aI (fun _=> ?_) (fun hx=>absurd rfl hx);refine au (cs:=[.slice none 0 0]) h ?_;clear h;intro rb w h;exact KO dP h
 |some be=>
  obtain⟨mb,ma⟩:=be;have gj:KF ma bf:=dP;replace h:SH w0 E.mem [] M (.map mb ma::aX.map bR.e) w:=h.mG;have PL:=SH.zeM (R:=[.map mb ma]) h;refine qbd (h.zo .here) fun W8 hx=>⟨ma,W8,hx.1,?_⟩;refine aI (fun h0=> ?_) (fun _=> ?_)
  .refine au (cs:=[.slice none 0 0]) h ?_;clear h;intro rb w h;refine KO (fun id=> ?_) h;cases hq:bf id with
   |none=>rfl
   |some v=>
    have hm:=(gj.mem id v).2 hq;obtain⟨en,he,_⟩:=qaj.1 hm;have:ma.size=0:=by omega
    rw[Array.eq_empty_of_size_eq_zero this]at he;cases he
  clear hx KO;refine au (cs:=[.slice none 0 0]) h ?_;clear h;intro lv w h;refine DV h rfl gy ?_;clear h;intro rr bJ w gF h;replace h:=SH.r3 (h.gV 1 108);refine bN (X:=Array Nat×Value×List bR×List bR×Mem) (fun x=>[(0,.iface tv (vp bv)),(31,vp lv),(217,.pointer (some ⟨rr,0,none⟩))])
   (fun x w=>ut ma x.1 bf aX x.2.2.1 x.2.2.2.1/\M.Le x.2.2.2.2/\(∀y∈x.2.2.1,Bk x.2.2.2.2 y.b (y.cs (.iface tv (vp bv))))/\SH w0 E.mem [] x.2.2.2.2 (.raw rr (.mapIter (some mb) bJ x.1 bJ):: .raw mb (.map ma bJ):: .own x.2.1 1 108 (x.2.2.1.map fun y=>[vp y.b]):: .ah lv 148 [x.2.1]::x.2.2.2.1.map bR.e) w) (fun x=>(leftOf ma x.1).size) (#[],.slice none 0 0,[],aX,M) ⟨rfl,rfl,rfl,tV⟩ ⟨.start,.refl _,fun y hy=>(by cases hy),h⟩ ?_
  clear h;rintro⟨seen,v,acc,rem,M1⟩ aK w N ⟨dJ,hle,fD,h⟩ hN;simp only at dJ hle fD h;have zaw:acc.length<=22:=by
   have:=zck dJ.nd fun id hid=>by
    obtain⟨y,hy,rfl⟩:=qaj.1 hid;have oM:=(dJ.j1 y hy).1;rcases jB y.id with⟨q1,_⟩|⟨q1,_⟩|⟨y',_,_,e',ie',pJ,cT⟩
    .rw[oM]at q1;cases q1
    .rw[oM]at q1;cases q1
    obtain⟨p,n,_,ho,he⟩:=cT.fn;refine⟨p,n,ho.pO,ho.pN,fun h8=> ?_,he⟩;have fu:=Hg g fv ho.pO h8;rw[<-he]at fu;exact fu _ _ (pJ.lv g hs).1 pJ.own
   simpa using this
  refine DU h rfl gF (qad _) (fun iI=> ?_) (fun en w dp oz aG h=> ?_)
  .have uO:∀id x e,Uq W s ind id x e->e.bO=true->(e.ptr=true->x.ind=true)->∃y∈acc,y.id=id:=fun id x e hu hm hp=>by
    obtain⟨y,_,h1,h2⟩:=cz id x e hu hm hp;have hm:=(gj.mem id _).2 h1;obtain⟨en,he,hq⟩:=qaj.1 hm;simp only[qby]at hq;exact dJ.j2 en he (iI en he) id y.b hq.1 h1
   replace h:SH w0 E.mem [] M1 (.own v 1 108 (acc.map fun y=>[vp y.b]):: .ah lv 148 [v]::rem.map bR.e) w:=SH.tail (SH.tail h);have PJ:∀M3,M1.Le M3->∀x∈acc,Bk M3 x.b (x.cs (.iface tv (vp bv)))/\∃e ie,Uq W s ind x.id (e.nS W) ie/\uv W E M3 x.id x e ie:=fun M3 mV x hx=>by
    refine⟨(fD x hx).le mV,?_⟩;obtain⟨h1,_⟩:=dJ.j1 x hx;have vF:x∈aX:=dJ.pm.mem_iff.2 (qaA _ hx);rcases jB x.id with⟨q,_⟩|⟨q,_⟩|⟨y,hy,q,e,ie,hu,pH⟩
    .rw[q]at h1;cases h1
    .rw[q]at h1;cases h1
    rw[q]at h1;have hyx:y=x:=F8 PL hy vF (by simpa[vp]using h1);rw[hyx]at pH;exact⟨e,ie,hu,pH.le (hle.trans mV)⟩
   have fin:∀{w:World} {rb:Nat} {L:List aB} {M3:Mem} {l:List bR} {v:Value},l.Perm acc->l.Pairwise (fun x y=>ga x.id y.id=true)->M1.Le M3->Sl M3 1 gz v (l.map fun x=>[vp x.b])->SH w0 E.mem [] M3 (.ah rb 150 [v]::L) w->∃M',Es W E s0 s ind (.iface tv (vp bv)) (vp rb) M'/\Gr E.mem w0 M' w:=fun{w rb L M3 l v} hp JB mV cu h=>by
    obtain⟨M4,fj,zaJ,h⟩:=h.dA rb;refine⟨M4,.inr ⟨Df,.inr ⟨yT,rb,v,l,rfl,zaJ,cu.mono fj fun _ _ _ h=>h,JB,by rw[hp.length_eq];exact zaw,fun x hx=>PJ M4 (mV.trans fj) x (hp.mem_iff.1 hx),fun id x e hu hm nJ=> ?_⟩⟩,SH.gr h⟩;obtain⟨y,hy,he⟩:=uO id x e hu hm nJ;exact⟨y,hp.mem_iff.2 hy,he⟩
   have hand:(acc.map bR.b).Nodup:=by
    have:=(dJ.pm.map bR.b).nodup_iff.1 PL;rw[qaq,qbL]at this;exact this.1
   refine qbd (SH.dA (h.perm (L':= .ah lv 148 [v]:: .own v 1 108 (acc.map fun y=>[vp y.b])::rem.map bR.e) (List.Perm.swap _ _ _)) lv) fun M2 hq=> ?_;clear h;have h:=hq.2.2;obtain⟨va,vc,t8,PS⟩:=h.oW (v:=v);rw[qat]at t8 PS;have yO:=hq.2.1;by_cases E2:acc.length<=1
   .rw[t8]at h yO;refine aP h (yO.at 0 rfl) ?_;refine s_call h (zeX E2) ?_;clear h;rintro _ w rfl h;refine aP h (yO.at 0 rfl) ?_;refine au (cs:=[.slice va acc.length vc]) h ?_;clear h;intro rb w h;refine qbd (h.d6 (.slice va acc.length vc)) fun M3 hr=> ?_;exact fin (.refl _) (pw1 E2) (hq.1.trans hr.1) hr.2.1 hr.2.2
   have hva:∃g,v= .slice (some ⟨g,0,none⟩) acc.length vc:=by
    have ho:eG w 1 108 v (acc.map fun y=>[vp y.b]):=h.ok (.own v 1 108 _) qal;rcases ho.open_ with⟨_,h0⟩|⟨g,cap,h0,_⟩
    .have:acc=[]:=List.map_eq_nil_iff.1 h0;rw[this]at E2;exact absurd (qae _) E2
    rw[t8,qat]at h0;simp only[qa5,qco]at h0;exact⟨g,by rw[t8,h0.1]⟩
   refine qbd hva fun g hg=> ?_;rw[hg]at h yO;refine aP h (yO.at 0 rfl) ?_;refine qbd (SH.UF h) fun cs d9=> ?_;have O6:=h.dG;clear h;have h:=d9.2.2;have hSI:∀b∈acc.map bR.b,G4 M2 b (zi acc b):=fun b hb=>by
    obtain⟨x,hx,rfl⟩:=qaj.1 hb;obtain⟨k1,e,ie,_,k2⟩:=PJ M2 hq.1 x hx;obtain⟨p,n,_,k3,k4⟩:=k2.fn;exact⟨x.fb,p,n,k1.at 2 rfl,k3.le O6,by rw[Dw hand hx];exact k4⟩
   have zbj:∀a∈acc.map bR.b,∀b∈acc.map bR.b,zi acc a=zi acc b->a=b:=fun a ha b hb he=>by
    obtain⟨x,hx,rfl⟩:=qaj.1 ha;obtain⟨y,hy,rfl⟩:=qaj.1 hb;rw[Dw hand hx,Dw hand hy]at he;rw[F8 dJ.nd hx hy he]
   refine du [.ah g 108 cs] (rem.map bR.e) h (zeY (n:=acc.length) (xs:=acc.map bR.b) (lt:=xu (zi acc)) (by omega) (by simp) (by omega) (zcO (B.ctx.jt.le O6) (yO.at 0 rfl) (by simp) hSI) (zcY hand zbj) (UE d9.1)) ?_;clear h;rintro _ M' A' w ⟨ys,cs',rfl,hp,hsd,har,pt,hAA⟩ _ _ h;rw[pt,hAA]at h;replace h:SH w0 E.mem [] M2 (.ah g 108 cs'::rem.map bR.e) w:=h;refine aP h (yO.at 0 rfl) ?_;refine au (cs:=[.slice (some ⟨g,0,none⟩) acc.length vc]) h ?_;clear h;intro rb w h;refine qbd (h.dA g) fun M3 hr=> ?_;refine qbd (ze7 hand hp hsd) fun l hl=> ?_;exact fin hl.1 hl.2.2 (hq.1.trans hr.1) (zeW hr.2.1 (by rw[hl.2.1];exact har) hl.1.length_eq.symm PS) hr.2.2
  obtain⟨bH,hid,hv⟩:=gj.at dp;rcases jB bH with⟨h1,_⟩|⟨h1,_⟩|⟨x,hx,h1,e,ie,hu,y7⟩
  .rw[hv]at h1;cases h1
  .have mZ:en.val= .pointer none:=qaF (hv.symm.trans h1);refine Sk h rfl gF dp mZ ?_;exact hN (seen.push en.born,v,acc,rem,M1) _ _ ⟨rfl,rfl,rfl,tV⟩ ⟨dJ.skip gF dp hid (fun b hb=>by rw[h1]at hb;cases hb),hle,fD,h⟩ aG
  have mZ:en.val=vp x.b:=qaF (hv.symm.trans h1);refine Sk h rfl gF dp mZ ?_;have jY:x.id=bH:=y7.id;have hxr:x∈rem:=by
   rcases qah.1 (dJ.pm.mem_iff.1 hx)with h2|h2
   .exfalso;obtain⟨_,jA,a1,a2,a3⟩:=dJ.j1 x h2;have:=QD gj a1 dp (by rw[a3,hid,jY]);rw[this,oz]at a2;cases a2
   exact h2
  refine qbd (List.append_of_mem hxr) fun r1 hr=>qbd hr fun r2 hr=> ?_;rw[hr]at dJ;replace h:SH w0 E.mem [] M1 (.ah x.b 191 (x.cs .nilIface)::(.raw rr (.mapIter (some mb) bJ (seen.push en.born) bJ):: .raw mb (.map ma bJ):: .own v 1 108 (acc.map fun y=>[vp y.b]):: .ah lv 148 [v]::(r1++r2).map bR.e)) w:=by
   rw[hr,qaq,qaB]at h;rw[qaq];exact h.perm (qbU (l₁:=_::_::_::_::r1.map bR.e))
  refine eQ (cs':=x.cs (.iface tv (vp bv))) h ?_;clear h;intro w h;refine qbd (h.dA x.b) fun M2 hq=> ?_;clear h;have h:=hq.2.2;refine ak h ?_;refine au h ?_;clear h;intro bq w h;refine gJ h Uz h.df (de (cO (vs:=[vp x.b]) rfl)) ?_ (hb:=by simp only[qat,qaw];omega);clear h;intro v2 w h;have kn:=h.lU (v:=v2);refine eQ h ?_ (hv:=kn);clear h;intro w h;refine hN (seen.push en.born,v2,acc++[x],r1++r2,M2) _ _ ⟨rfl,rfl,rfl,tV⟩ ⟨dJ.take gj gF dp oz (by rw[hid,jY]) (by rw[jY];exact h1),hle.trans hq.1,fun y hy=> ?_,by rw[qaq];exact SH.r3 (SH.tail (h.perm (List.Perm.swap _ _ _)))⟩ aG;rcases qah.1 hy with hy|hy
  .exact(fD y hy).le hq.1
  rw[qac.1 hy];exact hq.2.1
end
end
end Go.Proofs.YtlfcbbcdiecelaaGreatDoor
