import Derived.Test.YtlfcbbcdiecelaaGreatDoorZ12
import Derived.Test.YtlfcbbcdiecelaaGreatDoorZ13
import Derived.Test.YtlfcbbcdiecelaaGreatDoorZ14
namespace Go.Proofs.YtlfcbbcdiecelaaGreatDoor
open Go Go.Proofs.Tryz
set_option maxRecDepth 100000
set_option maxHeartbeats 4000000
set_option linter.all false
section
variable {u w:World}{M0 M M1 M2 M':Mem}{D:List Nat}{L:List aB}{b lo hi k k' at_:Nat}{a:aB}{f:FuncId}{args cs:List Value}{t:TypeId}{W:Wd}{v:Value}{s:Sp}
inductive xY:List aB->List aB->Prop where
 |tail {T:List aB}:xY T T
 |cons {L L1 L':List aB} {e:aB} (h:Pk L e L1) (h':xY L1 L'):xY L (e::L')
theorem SH.qI{L':List aB}(h:SH u M0 D M L w)(hs:xY L L':=by repeat(first|exact xY.tail|refine xY.cons (by repeat(first|exact Pk.here|apply Pk.there)) ?_)):SH u M0 D M L' w:=by
 have key:∀{L L':List aB},xY L L'->(∀x∈L',x∈L)/\(L.Pairwise jv->L'.Pairwise jv):=by
  intro L L' hs
  induction hs with
  |tail=>exact⟨fun _ h=>h,fun h=>h⟩
  |cons hp _ ih=>
   refine⟨fun x hx=> ?_,fun hq=> ?_⟩
   .rcases qan.1 hx with rfl|hx
    .exact hp.mem
    exact hp.sub x (ih.1 x hx)
   have h1:=hp.pd hq;rw[qau]at h1⊢;exact⟨fun x hx=>h1.1 x (ih.1 x hx),ih.2 h1.2⟩
 exact h.sub (key hs).1 ((key hs).2 h.pd)
theorem SH.KS{A B:List aB}(h:SH u M0 D M (A++B) w){e:aB}(he:e∈A)(hb:b∈e.bX):b∉cp B:=fun hm=>by
 obtain⟨x,hx,wO⟩:=xv.1 hm;exact(qbs.1 h.pd).2.2 e he x hx b hb wO
theorem SH.del{x:aB}{T:List aB}(h:SH u M0 D M (a::x::T) w):SH u M0 D M (a::T) w:=
 h.sub (fun e he=>by rcases qan.1 he with rfl|he;exact qal;exact qag _ (qag _ he)) (by have:=h.pd;simp only[qau]at this⊢;exact⟨fun e he=>this.1 e (qag _ he),this.2.2⟩)
theorem SH.ks{X Y Q:List aB}(h:SH u M0 D M (a::(X++(Y++Q))) w):SH u M0 D M (X++(Y++(a::Q))) w:=
 h.perm (by rw[<-qap,<-qap];exact List.perm_middle.symm)
theorem Sj{P:Program}{G:Value->World->Prop}(h:SH u M0 D M L w)(c:az P f args w (mL t cs w))(k:∀b w',w.heap.size<=w'.heap.size->SH u M0 D M (.ah b t cs::L) w'->G (vp b) w'):az P f args w G:=
 c.mono fun r w' ⟨b,hr,hf,hb,hn⟩=>by subst hr;exact k b w' hf.size (h.add hf hb (by simpa[aB.bX]using hn))
structure BS where
 bb:Nat
 pb:Nat
 tb:Nat
 ob:Nat
 pk:Int->Nat
 aR:List Value
 oc:List Value
 vi:Value
 il:List (Sp×Nat)
 gW:List (Nat×List Value)
namespace BS
def ev(S:BS)(W:Wd)(M:Mem):Ev:=⟨M,S.pk,fun n b=>S.aR[n]? =some (.iface (dT W n) (vp b)),fun n t b=>S.oc[n]? =some (.iface t (vp b)),fun s b=>(s,b)∈S.il⟩
@[reducible]def bc(S:BS):List Value:=[.slice (some ⟨S.pb,0,none⟩) 2 2,.slice (some ⟨S.tb,0,none⟩) S.aR.length S.aR.length,.slice (some ⟨S.ob,0,none⟩) S.oc.length S.oc.length,S.vi]
@[reducible]def bM(S:BS):List aB:= .ah S.bb 79 S.bc:: .ah S.tb 65 S.aR:: .ah S.ob 70 S.oc:: .own S.vi 1 134 (S.il.map fun p=>[vp p.2])::S.gW.map fun p=> .part p.1 247 p.2 6
end BS
structure BV(W:Wd)(s:Sp):Prop where
 gs:GS W s
 val:Valid W s
 kind:s.of.kind=5
structure fq(W:Wd)(S:BS)(M:Mem):Prop where
 pk:wu M S.pk S.pb
 inj:∀(i j:Nat) (v:Value),S.oc[i]? =some v->S.oc[j]? =some v->v≠.nilIface->i=j
 xD:∀(i:Nat) (v:Value),S.oc[i]? =some v->v= .nilIface\/∃t b,v= .iface t (vp b)/\M.own b
 ifs:∀s b,(s,b)∈S.il->xS W (S.ev W M) s b/\BV W s/\((∃cs,(b,cs)∈S.gW)\/r_ W (S.ev W M) s b)
 Bv:∀p∈S.gW,p.2[6]? =some (.pointer none)
 Dx:(S.il.map (·.2)).Nodup
structure dU(W:Wd)(lo hi k:Nat)(S:BS)(M:Mem)(S':BS)(M':Mem):Prop where
 bb:S'.bb=S.bb
 pb:S'.pb=S.pb
 tb:S'.tb=S.tb
 ob:S'.ob=S.ob
 pk:S'.pk=S.pk
 aR:S'.aR=S.aR
 len:S'.oc.length=S.oc.length
 oc:∀n,¬(lo<=n/\n<hi)->S'.oc[n]? =S.oc[n]?
 il:∃new,S'.il=S.il++new/\new.length<=k
 le:M.Le M'
theorem dU.refl(W:Wd)(lo hi k:Nat)(S:BS)(M:Mem):dU W lo hi k S M S M:=⟨rfl,rfl,rfl,rfl,rfl,rfl,rfl,fun _ _=>rfl,⟨[],by simp,qae _⟩,.refl M⟩
theorem dU.trans{ks:Nat}{S S1 S2:BS}(h:dU W lo ks k S M S1 M1)(h':dU W ks hi k' S1 M1 S2 M2)(h1:lo<=ks)(h2:ks<=hi):dU W lo hi (k+k') S M S2 M2:=by
 obtain⟨n1,e1,l1⟩:=h.il;obtain⟨n2,e2,l2⟩:=h'.il;exact⟨h'.bb.trans h.bb,h'.pb.trans h.pb,h'.tb.trans h.tb,h'.ob.trans h.ob,h'.pk.trans h.pk,h'.aR.trans h.aR,h'.len.trans h.len,fun n hn=>(h'.oc n (by omega)).trans (h.oc n (by omega)),⟨n1++n2,by rw[e2,e1,qap],by rw[qar];omega⟩,h.le.trans h'.le⟩
theorem dU.jd{lo' hi':Nat}{S S1:BS}(h:dU W lo hi k S M S1 M1)(h1:lo'<=lo)(h2:hi<=hi')(h3:k<=k'):dU W lo' hi' k' S M S1 M1:=by
 obtain⟨n1,e1,l1⟩:=h.il;exact⟨h.bb,h.pb,h.tb,h.ob,h.pk,h.aR,h.len,fun n hn=>h.oc n (by omega),⟨n1,e1,by omega⟩,h.le⟩
theorem dU.ev{S S':BS}(h:dU W lo hi k S M S' M')(hn:∀n,lo<=n->n<hi->S.oc[n]? =some .nilIface):(S.ev W M).Le (S'.ev W M') where
 mem:=h.le
 pk:=h.pk.symm
 ty:=fun n b hx=>by show S'.aR[n]? =_;rw[h.aR];exact hx
 ob:=fun n t b hx=>by
  show S'.oc[n]? =_;have iR:S.oc[n]? =some (.iface t (vp b)):=hx;rw[h.oc n fun hr=>by have:=hn n hr.1 hr.2;rw[this]at iR;cases iR];exact iR
 cM:=fun s b hx=>by
  obtain⟨new,e,_⟩:=h.il;show(s,b)∈S'.il;rw[e];exact qaA _ hx
theorem Gf{w0:World}{Mr bb ob:Nat}{c0 c1 c3:Value}{oc:List Value}{x:Value}(e_:Mr=bb)(cK:at_<oc.length)
 (h:SH w0 M [bb,ob] M [.ah bb 79 [c0,c1,.slice (some ⟨ob,0,none⟩) oc.length oc.length,c3],.ah ob 70 oc] w0):
 az prog 48 [vp Mr,.int .i64 (at_:Int),.iface t x] w0 fun r w'=>∃M' A',(r= .tuple #[]/\M'=M/\A'=[.ah bb 79 [c0,c1,.slice (some ⟨ob,0,none⟩) oc.length oc.length,c3],.ah ob 70 (oc.set at_ (.iface t x))])/\SH w0 M [bb,ob] M' A' w':=by
 subst e_;refine aL mixed func48 Wo ?_;refine ak h ?_;refine aJ at_ ?_ cK rfl;refine eQ (cs:=oc) h ?_ (hs:=by rw[qbm,qb1];exact fQ.of cK);clear h;intro w h;exact⟨M,_,⟨rfl,rfl,rfl⟩,h⟩
namespace BS
def put(S:BS)(at_:Nat)(v:Value):BS:={S with oc:=S.oc.set at_ v}
theorem Ld(S:BS)(at_:Nat)(v:Value):(S.put at_ v).bM= .ah S.bb 79 S.bc:: .ah S.tb 65 S.aR:: .ah S.ob 70 (S.oc.set at_ v):: .own S.vi 1 134 (S.il.map fun p=>[vp p.2])::S.gW.map fun p=> .part p.1 247 p.2 6:=by
 simp[BS.put,BS.bM,BS.bc]
theorem Lf{S:BS}(hl:M.Le M')(hn:S.oc[at_]? =some .nilIface):(S.ev W M).Le ((S.put at_ v).ev W M') where
 mem:=hl
 pk:=rfl
 ty:=fun _ _ h=>h
 ob:=fun n t b hx=>by
  have iR:S.oc[n]? =some (.iface t (vp b)):=hx;show(S.oc.set at_ v)[n]? =_;rw[qa7]
  .exact iR
  rintro rfl;rw[hn]at iR;cases iR
 cM:=fun _ _ h=>h
end BS
theorem fq.put{S:BS}(h:fq W S M)(hn:S.oc[at_]? =some .nilIface)(hl:M.Le M')(hw:M.Le (Wm w))(hb:w.heap.size<=b)(aW:M'.own b):fq W (S.put at_ (.iface t (vp b))) M':=by
 have hE:=S.Lf (W:=W) (v:= .iface t (vp b)) hl hn;have aG:=(qab.1 hn).1;have hold:∀(i:Nat) (v:Value),(S.oc.set at_ (.iface t (vp b)))[i]? =some v->(i=at_/\v= .iface t (vp b))\/(i≠at_/\S.oc[i]? =some v):=by
  intro i v hv;rw[qaX]at hv;by_cases hi:at_=i
  .subst hi;simp[aG]at hv;exact .inl ⟨rfl,hv.symm⟩
  rw[if_neg hi]at hv;exact .inr ⟨Ne.symm hi,hv⟩
 have iK:∀(i:Nat),S.oc[i]?≠some (.iface t (vp b)):=fun i hi=>by
  rcases h.xD i _ hi with h1|⟨t',b',h1,h2⟩
  .cases h1
  simp only[Value.iface.injEq,qbM,qao,qbW,qca]at h1;have:=(hw.own _ h2).lt;omega
 refine⟨h.pk.le hl,fun i j v hi hj hv=> ?_,fun i v hv=> ?_,fun s x hx=> ?_,h.Bv,h.Dx⟩
 .rcases hold i v hi with⟨h1,h2⟩|⟨h1,h2⟩<;>rcases hold j v hj with⟨h3,h4⟩|⟨h3,h4⟩
  .omega
  .rw[h2]at h4;exact absurd h4 (iK j)
  .rw[h4]at h2;exact absurd h2 (iK i)
  exact h.inj i j v h2 h4 hv
 .rcases hold i v hv with⟨_,h2⟩|⟨_,h2⟩
  .exact .inr ⟨t,b,h2,aW⟩
  rcases h.xD i v h2 with h3|⟨t',b',h3,h4⟩
  .exact .inl h3
  exact .inr ⟨t',b',h3,hl.own _ h4⟩
 obtain⟨h1,h2,h3⟩:=h.ifs s x hx;exact⟨h1.le hE,h2,h3.imp_right fun h=>h.le hE⟩
theorem dU.put{S:BS}(hl:M.Le M')(h1:lo<=at_)(h2:at_<hi):dU W lo hi 0 S M (S.put at_ v) M':=
 ⟨rfl,rfl,rfl,rfl,rfl,rfl,by simp[BS.put],fun n hn=>by
  show(S.oc.set at_ v)[n]? =_;rw[qa7];rintro rfl;exact hn ⟨h1,h2⟩,⟨[],by simp[BS.put],qad _⟩,hl⟩
theorem dU.GE{S S1 S2:BS}(h:dU W lo hi k S M S1 M1)(h':dU W lo hi k' S1 M1 S2 M2):dU W lo hi (k+k') S M S2 M2:=by
 obtain⟨n1,e1,l1⟩:=h.il;obtain⟨n2,e2,l2⟩:=h'.il;exact⟨h'.bb.trans h.bb,h'.pb.trans h.pb,h'.tb.trans h.tb,h'.ob.trans h.ob,h'.pk.trans h.pk,h'.aR.trans h.aR,h'.len.trans h.len,fun n hn=>(h'.oc n hn).trans (h.oc n hn),⟨n1++n2,by rw[e2,e1,qap],by rw[qar];omega⟩,h.le.trans h'.le⟩
theorem dU.qD{S S':BS}(h:dU W lo hi k S M S' M')(hl:M'.Le M2):dU W lo hi k S M S' M2:=⟨h.bb,h.pb,h.tb,h.ob,h.pk,h.aR,h.len,h.oc,h.il,h.le.trans hl⟩
theorem BF{α:Type}{l:List α}{x y:α}{i:Nat}(hl:l.length=k)(h:(l++[x])[i]? =some y):(i<k/\l[i]? =some y)\/(i=k/\y=x):=by
 rcases qa1 i l.length with hi|hi
 .rw[qbi hi]at h;exact .inl ⟨by omega,h⟩
 rw[qbA hi]at h;have h0:i-l.length=0:=by
  have:=(qab.1 h).1;simp only[qaO,qbb]at this;omega
 rw[h0]at h;simp at h;exact .inr ⟨by omega,h.symm⟩
section
variable {u:World}{M0:Mem}{D:List Nat}{M:Mem}{L:List aB}{w:World}{P:Program}{S:List Nat}
theorem QC{kp:Nat->Nat->Value->Prop}{G:Value->List Nat->World->Prop}(h:SH u M0 D M L w)(c:az P f args w (mL t cs w))(hk:∀w',SH u M0 D M L w'->∀b o v,kp b o v->w'.cell? ⟨b,o,none⟩=some v)(k:∀b w',w.heap.size<=b->b<w'.heap.size->SH u M0 D M (.ah b t cs::L) w'->G (vp b) S w'):
 az P f args w fun v w'=>∃S',(mJ kp S w w'/\∀b∈S',b∈S\/w.heap.size<=b)/\G v S' w':=
 c.mono fun r w' ⟨b,hr,hf,hb,hn⟩=>by
  subst hr;have h':=h.add (e:= .ah b t cs) hf hb (by simpa[aB.bX]using hn);exact⟨S,⟨⟨hf.nil,hk w' h'.tail⟩,fun _ hb=> .inl hb⟩,k b w' hn hb.lt h'⟩
end
theorem Mc:h_ prog 169 169 172 1 8=true:=by kernel_rfl
theorem Mh:h_ prog 77 77 134 1 8=true:=by kernel_rfl
theorem UC:h_ prog 75 75 65 1 16=true:=by kernel_rfl
theorem Sp.XV(hk:k<s.of.fields.length):s.fieldAt (k+1)=s.fieldAt k+qg s.of.fields[k]:=by
 unfold Sp.fieldAt;rw[<-dN hk,qaq,qaN];simp;omega
theorem Sp.Nk(k:Nat):s.fieldAt k<=s.at_+s.of.size:=by
 have h1:=nR (s.of.fields.map qg) k;have h2:=Ty.size_eq s.of;have h3:(s.of.fields.map qg).sum=(s.of.fields.map fun f=>1+f.2.2.size).sum:=rfl;unfold Sp.fieldAt;rw[qbt];omega
theorem Sp.EU(k:Nat):s.at_<=s.fieldAt k:=by unfold Sp.fieldAt;omega
end
section
variable {W:Wd}{d:Int}{t:Ty}{v:Bool}{M:Mem}{E:Ev}{s:Sp}{k:Nat}{cH:List Nat}{gZ:List Value}
theorem cP.zdm(h:cP W d t v)(hk:t.kind=1):W.has t.num/\(d<t.num\/d<0\/(W.at d).bU=false\/(W.at t.num).bU=false):=by
 cases h with
 |basic ad=>rw[hk]at ad;cases ad
 |named _ _ hn hd=>exact⟨hn,hd.elim .inl fun h=> .inr h.2⟩
 |to ad=>rw[hk]at ad;rcases ad with h|h<;>cases h
 |struct ad=>rw[hk]at ad;cases ad
 |iface ad=>rw[hk]at ad;cases ad
theorem cP.Tc(h:cP W d t v)(hk:t.kind=2\/t.kind=3):∃e,t.elem=[e]/\cP W d e false/\t.methods=[]/\t.fields=[]/\t.aD=[]:=by
 cases h with
 |basic ad=>rw[ad]at hk;rcases hk with h|h<;>cases h
 |named ad=>rw[ad]at hk;rcases hk with h|h<;>cases h
 |to _ hh he hf=>exact⟨_,he,hf,(m0 hh.2.2.1).1,m0 hh.2.1,(m0 hh.2.2.1).2⟩
 |struct ad=>rw[ad]at hk;rcases hk with h|h<;>cases h
 |iface ad=>rw[ad]at hk;rcases hk with h|h<;>cases h
theorem cP.UP(h:cP W d t v)(h1:t.kind≠1)(h2:t.kind≠2)(h3:t.kind≠3)(h4:t.kind≠4)(h5:t.kind≠5):t.kind=0/\0<=t.num/\t.num<=2:=by
 cases h with
 |basic ad _ a b=>exact⟨ad,a,b⟩
 |named ad=>exact absurd ad h1
 |to ad=>rcases ad with h|h;exact absurd h h2;exact absurd h h3
 |struct ad=>exact absurd ad h4
 |iface ad=>exact absurd ad h5
structure wv(W:Wd)(d:Int)(s:Sp)(S:BS)(M:Mem):Prop where
 gs:GS W s
 val:Valid W s
 jt:fA M
 ok:fq W S M
 aR:∀k:Nat,k<W.length->(d<k\/d<0\/(W.at d).bU=false\/(W.at (k:Int)).bU=false)->∃b,S.aR[k]? =some (.iface (dT W k) (vp b))
 nil:∀k,s.at_<=k->k<s.at_+s.of.size->S.oc[k]? =some .nilIface
 nX:S.il.length+s.of.aj<=2^40
def Ue(W:Wd)(s:Sp)(S:BS)(M:Mem)(r:Value)(M':Mem)(A':List aB):Prop:=
 ∃S',A'=S'.bM/\dU W s.at_ (s.at_+s.of.size) s.of.aj S M S' M'/\fq W S' M'/\Den W (S'.ev W M') s r
def Ud(W:Wd)(d:Int)(s:Sp):Prop:=
 ∀⦃M:Mem⦄⦃w0:World⦄⦃S:BS⦄⦃tc:List Value⦄⦃a:Option Addr⦄⦃c:Nat⦄,wv W d s S M->eK M W a c->cC M s.of tc->SH w0 M (cp S.bM) M S.bM w0->
  az prog 46 [vp S.bb,bK W a c,.int .i64 s.aC,.agg tc.toArray,.int .i64 (s.at_:Int)] w0 fun r w'=>∃M' A',Ue W s S M r M' A'/\SH w0 M (cp S.bM) M' A' w'
theorem fq.mono{S:BS}{M':Mem}(h:fq W S M)(hl:M.Le M'):fq W S M':=by
 have hE:(S.ev W M).Le (S.ev W M'):=⟨hl,rfl,fun _ _ h=>h,fun _ _ _ h=>h,fun _ _ h=>h⟩;refine⟨h.pk.le hl,h.inj,fun i v hv=> ?_,fun s b hb=> ?_,h.Bv,h.Dx⟩
 .rcases h.xD i v hv with h1|⟨t,b,h1,h2⟩
  .exact .inl h1
  exact .inr ⟨t,b,h1,hl.own _ h2⟩
 obtain⟨h1,h2,h3⟩:=h.ifs s b hb;exact⟨h1.le hE,h2,h3.imp_right fun h=>h.le hE⟩
theorem Ty.SL{e:Ty}(he:t.elem=[e])(hm:t.methods=[])(hf:t.fields=[])(hs:t.aD=[]):t.size=e.size/\t.aj=e.aj+1:=by
 rw[Ty.size_eq,Ty.iW,he,hm,hf,hs];simp;omega
structure wk(W:Wd)(E:Ev)(s:Sp)(k:Nat)(cH:List Nat)(gZ:List Value):Prop where
 l1:cH.length=k
 l2:gZ.length=k
 hv:∀(i b:Nat) (v:Value) (f:Int×Bool×Ty),cH[i]? =some b->gZ[i]? =some v->s.of.fields[i]? =some f->Bk E.mem b [.int .i64 0,vp (E.pk s.aC),.string (bZ (W.fieldName f)),v,.int .u8 6,.bool f.2.1]
 ho:∀(i b:Nat),cH[i]? =some b->E.ob (s.fieldAt i) 172 b
 hd:∀(i:Nat) (v:Value),gZ[i]? =some v->Den W E (s.field i) v
theorem wk.le{F:Ev}(hl:E.Le F)(h:wk W E s k cH gZ):wk W F s k cH gZ:=
 ⟨h.l1,h.l2,fun i b v f a1 a2 a3=>by rw[<-hl.pk];exact(h.hv i b v f a1 a2 a3).le hl.mem,fun i b a=>hl.ob _ _ _ (h.ho i b a),fun i v a=>(h.hd i v a).le hl⟩
theorem wk.snoc{fb:Nat}{v:Value}(h:wk W E s k cH gZ)(hk:k<s.of.fields.length)
 (hv:Bk E.mem fb [.int .i64 0,vp (E.pk s.aC),.string (bZ (W.fieldName s.of.fields[k])),v,.int .u8 6,.bool s.of.fields[k].2.1]) (ho:E.ob (s.fieldAt k) 172 fb) (hd:Den W E (s.field k) v):wk W E s (k+1) (cH++[fb]) (gZ++[v]):=by
 refine⟨by simp[h.l1],by simp[h.l2],fun i b x f a1 a2 a3=> ?_,fun i b a=> ?_,fun i x a=> ?_⟩
 .rcases BF h.l1 a1 with⟨hi,a1⟩|⟨rfl,rfl⟩
  .rcases BF h.l2 a2 with⟨_,a2⟩|⟨h0,_⟩
   .exact h.hv i b x f a1 a2 a3
   omega
  rcases BF h.l2 a2 with⟨h0,_⟩|⟨_,rfl⟩
  .omega
  rw[qaa hk]at a3;cases a3;exact hv
 .rcases BF h.l1 a with⟨hi,a⟩|⟨rfl,rfl⟩
  .exact h.ho i b a
  exact ho
 rcases BF h.l2 a with⟨hi,a⟩|⟨rfl,rfl⟩
 .exact h.hd i x a
 exact hd
@[reducible]def wD(f:Int×Bool×Ty)(a1:Option Addr)(c1:Nat)(a2:Option Addr)(c2:Nat)(a3:Option Addr)(c3:Nat)(a4:Option Addr)(c4:Nat):List Value:= .int .i64 f.1:: .bool f.2.1::bh f.2.2 a1 c1 a2 c2 a3 c3 a4 c4
def Bf(M:Mem)(bb pb:Nat):Nat->Nat->Value->Prop:=fun b o x=>M.cell b o=some x\/(b=bb/\o=0/\x= .slice (some ⟨pb,0,none⟩) 2 2)
theorem bC.of_map{α β γ:Type}{R:β->γ->Prop}{f:α->β}{g:α->γ}:∀{l:List α},(∀q∈l,R (f q) (g q))->bC R (l.map f) (l.map g)
 |[],_=>trivial
 |x::l,h=>⟨h x (by simp),bC.of_map fun q hq=>h q (by simp[hq])⟩
theorem fY.Nt{m:bD}{p:Bool}{b:Nat}(h:fY E.mem E.pk m.aC m.name p b)(ho:E.ob m.num 128 b):s7 E m p b:=⟨ho,h⟩
theorem cP.Qc(h:cP W d t v)(hk:t.kind=5):cP W d t true/\t.fields=[]/\t.elem=[]:=by
 cases h with
 |basic ad=>rw[hk]at ad;cases ad
 |named ad=>rw[hk]at ad;cases ad
 |to ad=>rw[hk]at ad;rcases ad with h|h<;>cases h
 |struct ad=>rw[hk]at ad;cases ad
 |iface ad hh hm h1 h2=>exact⟨.iface ad hh hm h1 h2,m0 hh.2.1,m0 hh.1⟩
def Sp.kS(s:Sp)(k:Nat):Nat:=s.at_+s.of.methods.length+((s.of.aD.take k).map Ty.size).sum
theorem Sp.XL(hk:k<s.of.aD.length):s.kS (k+1)=s.kS k+s.of.aD[k].size:=by
 unfold Sp.kS;rw[<-dN hk,qaq,qaN];simp;omega
theorem Sp.HH(k:Nat):s.kS k<=s.at_+s.of.size:=by
 have h1:=nR (s.of.aD.map Ty.size) k;have h2:=Ty.size_eq s.of;unfold Sp.kS;rw[qbt];omega
theorem DJ(s:Sp):(m8 s).length=s.of.methods.length:=by simp[m8]
theorem zdP(hk:k<s.of.methods.length):(m8 s)[k]? =some ⟨s.at_+k,s.aC,s.of.methods[k].1⟩:=by
 simp[m8,hk]
theorem SH.zeJ{u:World}{M0:Mem}{D:List Nat}{a x:aB}{Y Q:List aB}{w:World}(h:SH u M0 D M (a::x::(Y++Q)) w):SH u M0 D M (Y++(a::Q)) w:=
 h.del.perm List.perm_middle.symm
theorem Kp(hW:GW W):∀(n:Nat) (s:Sp),s.of.aj<n->∀{d:Int} {v:Bool},cP W d s.of v->Ud W d s:=by
 intro n
 induction n with
 |zero=>intro s h;omega
 |succ n ih=>
 intro s fL d v hF M w0 S tc a c dI cA bA h;obtain⟨x1,d1,x2,d2,x3,d3,x4,d4,rfl,cE,c_,ov,jk,ql,yA,Fb,Ib⟩:=bA.lit;refine aL mixed func46 Wn ?_;refine au (cs:=(bh s.of x1 d1 x2 d2 x3 d3 x4 d4)) h ?_;clear h;intro b8 w h;refine ak h ?_;refine aI (fun k1=> ?_) (fun k1=> ?_)
 .obtain⟨hn,hr⟩:=hF.zdm k1;obtain⟨tb,oF⟩:=dI.aR s.of.num.toNat hn.2 (by rw[<-Wd.ji hn];exact hr);refine b_ [] h ?_;clear h;intro w h;refine bI h ?_;refine bI h ?_;refine aJ s.of.num.toNat ?_ (by have:=(qab.1 oF).1;exact this) (Wd.ji hn);refine bI (b:=S.tb) (cs:=S.aR) h ?_ (hv:=by simpa using oF);exact⟨M,_,⟨S,rfl,dU.refl _ _ _ _ _ _,dI.ok,.named k1 oF⟩,h.tail⟩
 have Kq:=k1;clear k1;refine aI (fun k1=> ?_) (fun k2=> ?_)
 .refine ak h ?_;obtain⟨e,he,oq,em,ef,ee⟩:=hF.Tc (by simp[k1]);obtain⟨dF,fD⟩:=Ty.SL he em ef ee;have h0:0<s.of.elem.length:=by rw[he];simp
  have aT:s.of.elem≠[]:=by rw[he];simp
  have jp:s.elem=⟨e,s.at_,s.aC⟩:=by unfold Sp.elem;rw[he];rfl
  obtain⟨b2,o2,gD,rfl,cR,ct,gG⟩:=cE.at h0;have wU:s.of.elem[0]=e:=by simp[he]
  rw[wU]at gG;refine aJ 0 ?_ h0;refine cG h ct ?_ cR;have oC:wv W d s.elem S M:=⟨dI.gs.elem aT,by cases dI.val;rename_i qn;exact qn aT,dI.jt,dI.ok,dI.aR,fun k a b=>dI.nil k (by rw[jp]at a;exact a) (by rw[jp]at b;simp only at b;omega),by rw[jp];simp only;have:=dI.nX;omega⟩;have jF:=ih s.elem (by rw[jp];simp only;omega) (d:=d) (v:=false) (by rw[jp];exact oq) (w0:=w) oC cA (tc:=gD) (by rw[jp];exact gG);rw[jp]at jF;replace h:=h.tail;refine du S.bM [] (by rw[qaC];exact h) jF ?_;clear h jF;rintro r M' A' w' ⟨S',rfl,aU,I6,mg⟩ wZ zb6 h;rw[qaC]at h;have nK:=h.size;obtain⟨tt,l6,rfl,oH⟩:=mg.iface;refine Sj h Rk ?_;clear h;intro b9 w JS h;obtain⟨M2,aQ,H9,h⟩:=h.dA b9;have vA:dU W s.at_ (s.at_+s.of.size) s.of.aj S M S' M2:=by
   have:=aU.jd (lo':=s.at_) (hi':=s.at_+s.of.size) (k':=s.of.aj) (qad _) (by simp only;omega) (by simp only;omega);exact⟨this.bb,this.pb,this.tb,this.ob,this.pk,this.aR,this.len,this.oc,this.il,this.le.trans aQ⟩
  have hE:(S'.ev W M').Le (S'.ev W M2):=⟨aQ,rfl,fun _ _ h=>h,fun _ _ _ h=>h,fun _ _ h=>h⟩;exact⟨M2,_,⟨S',rfl,vA,I6.mono aQ,(.ptr k1 H9 (by rw[jp];exact mg.le hE))⟩,h⟩
 refine aI (fun k1=> ?_) (fun k3=> ?_)
 .refine ak h ?_;obtain⟨e,he,oq,em,ef,ee⟩:=hF.Tc (by simp[k1]);obtain⟨dF,fD⟩:=Ty.SL he em ef ee;have h0:0<s.of.elem.length:=by rw[he];simp
  have aT:s.of.elem≠[]:=by rw[he];simp
  have jp:s.elem=⟨e,s.at_,s.aC⟩:=by unfold Sp.elem;rw[he];rfl
  obtain⟨b2,o2,gD,rfl,cR,ct,gG⟩:=cE.at h0;have wU:s.of.elem[0]=e:=by simp[he]
  rw[wU]at gG;refine aJ 0 ?_ h0;refine cG h ct ?_ cR;have oC:wv W d s.elem S M:=⟨dI.gs.elem aT,by cases dI.val;rename_i qn;exact qn aT,dI.jt,dI.ok,dI.aR,fun k a b=>dI.nil k (by rw[jp]at a;exact a) (by rw[jp]at b;simp only at b;omega),by rw[jp];simp only;have:=dI.nX;omega⟩;have jF:=ih s.elem (by rw[jp];simp only;omega) (d:=d) (v:=false) (by rw[jp];exact oq) (w0:=w) oC cA (tc:=gD) (by rw[jp];exact gG);rw[jp]at jF;replace h:=h.tail;refine du S.bM [] (by rw[qaC];exact h) jF ?_;clear h jF;rintro r M' A' w' ⟨S',rfl,aU,I6,mg⟩ wZ zb6 h;rw[qaC]at h;have nK:=h.size;obtain⟨tt,l6,rfl,oH⟩:=mg.iface;refine Sj h zdw ?_;clear h;intro b9 w JS h;obtain⟨M2,aQ,H9,h⟩:=h.dA b9;have vA:dU W s.at_ (s.at_+s.of.size) s.of.aj S M S' M2:=by
   have:=aU.jd (lo':=s.at_) (hi':=s.at_+s.of.size) (k':=s.of.aj) (qad _) (by simp only;omega) (by simp only;omega);exact⟨this.bb,this.pb,this.tb,this.ob,this.pk,this.aR,this.len,this.oc,this.il,this.le.trans aQ⟩
  have hE:(S'.ev W M').Le (S'.ev W M2):=⟨aQ,rfl,fun _ _ h=>h,fun _ _ _ h=>h,fun _ _ h=>h⟩;exact⟨M2,_,⟨S',rfl,vA,I6.mono aQ,(.lX k1 H9 (by rw[jp];exact mg.le hE))⟩,h⟩
 refine aI (fun k4=> ?_) (fun k4=> ?_)
 .refine ak h ?_;obtain⟨S0,CG⟩:∃x,x=S:=⟨_,rfl⟩;rw[<-CG]at dI h⊢;clear CG;have nE:s.of.aj<=2^30:=by have:=dI.gs.top;unfold Sp.top at this;omega
  have fF:s.of.fields.length<=s.of.aj:=s.of.lB;refine fB (X:=Nat×BS×Mem×Value×List Nat×List Value) (Y:=BS×Mem×Value×List Nat×List Value) 1 (fun y=>[(0,vp y.2.1.bb),(1,bK W a c),(2,.int .i64 s.aC),(4,.int .i64 ((s.fieldAt y.1:Nat):Int)),(10,.nilIface),(11,y.2.2.2.1),(65,.slice x2 s.of.fields.length d2),(66,.int .i64 (s.of.fields.length:Int)),(67,.int .i64 (y.1:Int))])
   (fun y w=>y.1<=s.of.fields.length/\dU W s.at_ (s.fieldAt y.1) (((s.of.fields.take y.1).map fun f=>f.2.2.aj).sum) S0 M y.2.1 y.2.2.1/\fq W y.2.1 y.2.2.1/\wk W (y.2.1.ev W y.2.2.1) s y.1 y.2.2.2.2.1 y.2.2.2.2.2/\SH w0 M (cp S0.bM) y.2.2.1 (.own y.2.2.2.1 1 172 (y.2.2.2.2.1.map fun b=>[vp b])::y.2.1.bM) w) (fun y=>s.of.fields.length-y.1)
   (fun y=>[(11,y.2.2.1)])
   (fun y w=>dU W s.at_ (s.at_+s.of.size) s.of.aj S0 M y.1 y.2.1/\fq W y.1 y.2.1/\wk W (y.1.ev W y.2.1) s s.of.fields.length y.2.2.2.1 y.2.2.2.2/\SH w0 M (cp S0.bM) y.2.1 (.own y.2.2.1 1 172 (y.2.2.2.1.map fun b=>[vp b])::y.1.bM) w)
   (0,S0,M,.slice none 0 0,[],[]) ⟨rfl,rfl,rfl,qaL (fun n:Nat=>Value.int .i64 (n:Int)) (by simp[Sp.fieldAt]),rfl,rfl,rfl,rfl,rfl,tV⟩ ⟨qae _,dU.refl _ _ _ _ _ _,dI.ok,⟨rfl,rfl,by simp,by simp,by simp⟩,(h.tail.gV 1 172)⟩ ?_ ?_
  .clear h;rintro⟨k,S,Mk,vw,cH,gZ⟩ aK w N Z hx hN hZ;obtain⟨hk,dm,eN,qo,h⟩:=hx;simp only at hk dm eN qo h;have d_:M.Le Mk:=dm.le;refine aI (fun aG=> ?_) (fun aY=> ?_);rotate_left 1
   .obtain rfl:k=s.of.fields.length:=by omega
    refine hZ (S,Mk,vw,cH,gZ) _ _ ⟨rfl,tV⟩ ⟨dm.jd (qad _) (Sp.Nk _) ?_,eN,qo,h⟩;rw[qay,Ty.iW];have:=s5 s.of.fields (fun f=>f.2.2.aj) (fun f=>1+f.2.2.aj) fun x _=>by omega
    omega
   have ad:k<s.of.fields.length:=by omega
   obtain⟨b2,o2,gD,rfl,cR,ct,iJ⟩:=c_.at ad;have aZ:=iJ.one;have cI:=Sp.XV ad;have zgj:=Sp.Nk (s:=s) (k+1);have AF:=Sp.tE ad;have Ao:=hF.fields (f:=s.of.fields[k]) (by simp);have Oq:=Ty.sj (t:=s.of) (f:=s.of.fields[k]) (by simp);have zbM:=(dI.gs.field ad).ok;have rB:S.oc[s.fieldAt k]? =some .nilIface:=by rw[dm.oc _ (by omega)];exact dI.nil _ (Sp.EU k) (by unfold qg at cI;omega)
   have I4:∀n,(s.field k).at_<=n->n<(s.field k).at_+(s.field k).of.size->S.oc[n]? =some .nilIface:=fun n h1 h2=>by
    have e1:(s.field k).at_=s.fieldAt k+1:=rfl;rw[AF]at h2;unfold qg at cI;have:=Sp.EU (s:=s) k;rw[dm.oc _ (by omega)];exact dI.nil _ (by omega) (by omega)
   have lD:S.il.length+(s.field k).of.aj<=2^40:=by
    obtain⟨new,e,hl⟩:=dm.il;have h1:=dN ad;have h2:((s.of.fields.take (k+1)).map fun f=>f.2.2.aj).sum=((s.of.fields.take k).map fun f=>f.2.2.aj).sum+s.of.fields[k].2.2.aj:=by rw[<-h1,qaq,qaN];simp
    have h3:((s.of.fields.take (k+1)).map fun f=>f.2.2.aj).sum<=s.of.aj:=by
     rw[qbt];refine qaQ (nR _ _) ?_;rw[Ty.iW];have:=s5 s.of.fields (fun f=>f.2.2.aj) (fun f=>1+f.2.2.aj) fun x _=>by omega
     omega
    have:=dI.nX;rw[e,qar,AF];omega
   have oC:wv W d (s.field k) S Mk:=⟨dI.gs.field ad,by cases dI.val;rename_i gh _ _;exact gh k ad,dI.jt.le d_,eN,by rw[dm.aR];exact dI.aR,I4,lD⟩;have jF:=ih (s.field k) (by rw[AF];omega) (d:=d) (v:=v) (by rw[AF];exact Ao.2.1);have H4:=cA.fr d_;obtain⟨⟨fn,fe,ft⟩,jE⟩:∃x,x=s.of.fields[k]:=⟨_,rfl⟩;rw[<-jE]at iJ Ao AF cI Oq;simp only at Ao Oq;have nx:(s.field k).of=ft:=AF;obtain⟨tc2,rfl,iJ⟩:=iJ;obtain⟨u1,g1,u2,g2,u3,g3,u4,g4,rfl,_⟩:=iJ.lit;have Fd:cC Mk (s.field k).of (bh ft u1 g1 u2 g2 u3 g3 u4 g4):=by rw[nx];exact iJ.le d_
   cases fe with
   |true=>
    refine aJ (k) ?_;refine cG h (ct.le d_) ?_ cR;refine au (cs:=Nj) h ?_;clear h;intro dv w h;refine br h aZ ?_;clear h;intro w h;refine ak h ?_;refine s_call h (sN Ao.2.2.1) ?_;clear h;rintro _ w rfl h;refine ak h ?_;refine i_ h (bh ft u1 g1 u2 g2 u3 g3 u4 g4) ?_;refine s_call h (zfz h.le H4 (iJ.le d_) fn (Ao.2.2.2 rfl).2 (by rw[<-nx];exact zbM) (fun d hd=>(hW.name d hd).1)) ?_;clear h;rintro _ w rfl h;have e1:(s.field k).at_=s.fieldAt k+1:=rfl;have xh:s.at_+s.of.aj<=2^30:=dI.gs.top;have PN:s.of.size<=s.of.aj:=Ty.size_le _ _ (qam _);have jo:=dI.gs.aC;have yM:∀{w:World} {M':Mem} {S':BS} {X:List aB},Mk.Le M'->S'.bb=S.bb->S'.pb=S.pb->SH w0 M (cp S0.bM) M' (X++S'.bM) w->∀b o x,Bf Mk S.bb S.pb b o x->w.cell? ⟨b,o,none⟩=some x:=by
     intro w M' S' X hl e1 e2 h b o x hx;rcases hx with hx|⟨rfl,rfl,rfl⟩
     .exact h.le.cell _ _ _ (hl.cell _ _ _ hx)
     have:=(h.right.fK .here).ld 0 rfl;rw[e1,e2]at this;exact this
    refine Ge (Bf Mk S.bb S.pb) (cp S.bM) h (fun w' h=>yM (X:=[_,_]) (.refl _) rfl rfl h) ?_;clear h;intro w h;have kj:dv∉cp S.bM:=h.KS (A:=[_,_]) (B:=S.bM) (e:= .ah dv 101 (wD (fn,true,ft) u1 g1 u2 g2 u3 g3 u4 g4)) qal (by simp[aB.bX]);refine FW (kp:=Bf Mk S.bb S.pb) (b:=S.bb) (o:=0) (v:= .slice (some ⟨S.pb,0,none⟩) 2 2) h ?_ (Or.inr ⟨rfl,rfl,rfl⟩);refine aJ s.aC.toNat ?_ (by rcases jo with h|h<;>rw[h]<;>decide) (by rcases jo with h|h<;>rw[h]<;>rfl);refine Dz h (by simpa using eN.pk.c _ jo) ?_ (Or.inr (Or.inl (by simpa using eN.pk.c _ jo)));refine uh h (bh ft u1 g1 u2 g2 u3 g3 u4 g4) ?_ (hS:=kj);refine aA (((s.field k).at_:Nat):Int) ?_ (by show((s.fieldAt k:Nat):Int)+1=(((s.field k).at_:Nat):Int);rw[e1];omega);refine k_ld h ?_ kj (v:= .bool true);refine aI ?_ trivial;refine DO S.bM [.ah dv 101 (wD (fn,true,ft) u1 g1 u2 g2 u3 g3 u4 g4),.own vw 1 172 (cH.map fun b=>[vp b])] (SH.mG (A:=[_,_]) h) (jF oC H4 Fd) (fun b hb=>hb) (fun r M' A' w' hr hl h=> ?_) ?_
    .obtain⟨S',rfl,aU,_,_⟩:=hr;exact yM (X:=[_,_]) hl aU.bb aU.pb (SH.mG h)
    clear h;rintro r M1 A1 w ⟨S1,rfl,eE,vb,mR⟩ bG A6 h;replace h:=SH.mG h;obtain⟨tt,l6,rfl,oH⟩:=mR.iface;refine aI ?_ trivial;refine QC h Rh (fun w' h=>yM (X:=[_,_]) bG eE.bb eE.pb h) ?_;have nK:=h.le;clear h;intro fb w' It za8 h;obtain⟨M2,aQ,on,h⟩:=h.dA fb;have cK:s.fieldAt k<S1.oc.length:=by rw[eE.len];exact(qab.1 rB).1
    have iM:S1.oc[s.fieldAt k]? =some .nilIface:=by rw[eE.oc _ (by omega)];exact rB
    have yU:fq W (S1.put (s.fieldAt k) (.iface 172 (vp fb))) M2:=vb.put iM aQ nK It on.own;have n_:(S.ev W Mk).Le (S1.ev W M1):=eE.ev I4;have ig:(S1.ev W M1).Le ((S1.put (s.fieldAt k) (.iface 172 (vp fb))).ev W M2):=S1.Lf aQ iM;refine du [.ah S1.bb 79 S1.bc,.ah S1.ob 70 S1.oc] (.ah dv 101 (wD (fn,true,ft) u1 g1 u2 g2 u3 g3 u4 g4):: .own vw 1 172 (cH.map fun b=>[vp b]):: .ah S1.tb 65 S1.aR:: .own S1.vi 1 134 (S1.il.map fun p=>[vp p.2])::S1.gW.map fun p=> .part p.1 247 p.2 6) h.qI (Gf eE.bb.symm cK) ?_;clear h;rintro _ M3 A3 w3 ⟨rfl,rfl,rfl⟩ _ JT h;replace h:SH w0 M (cp S0.bM) M3 (.ah dv 101 (wD (fn,true,ft) u1 g1 u2 g2 u3 g3 u4 g4):: .own vw 1 172 (cH.map fun b=>[vp b])::(S1.put (s.fieldAt k) (.iface 172 (vp fb))).bM) w3:=by rw[BS.Ld];exact h.qI
    refine au (cs:=[vp fb]) h ?_;clear h;intro b6 w h;refine gJ h Mc h.df (de (cO (vs:=[vp fb]) rfl)) ?_ (hb:=by simp only[qat,qaw,qo.l1];omega);clear h;intro v' w h;refine i_ h (bh ft u1 g1 u2 g2 u3 g3 u4 g4) ?_;refine s_call h (Cp (ft.aj+1) ft (qam _) _ _ h.le (iJ.le (d_.trans (bG.trans aQ))) (by omega)) ?_;clear h;rintro _ w rfl h;have zbc:qg (fn,true,ft)=1+ft.size:=rfl;have zb7:ft.size<=ft.aj:=Ty.size_le _ _ (qam _);refine aA (((1+ft.size:Nat):Int)) ?_;refine aA ((s.fieldAt (k+1):Nat):Int) ?_ (by show((s.fieldAt k:Nat):Int)+((1+ft.size:Nat):Int)=_;omega);refine aA (((k+1:Nat):Int)) ?_;have JR:dU W s.at_ (s.fieldAt (k+1)) (((s.of.fields.take (k+1)).map fun f=>f.2.2.aj).sum) S0 M (S1.put (s.fieldAt k) (.iface 172 (vp fb))) M3:=by
     have hb:=dm.trans (hi:=s.fieldAt (k+1)) ((eE.jd (lo':=s.fieldAt k) (hi':=s.fieldAt (k+1)) (k':=ft.aj) (by omega) (by rw[e1,nx];omega) (by rw[nx];exact qad _)).GE (dU.put (lo:=s.fieldAt k) (hi:=s.fieldAt (k+1)) (v:= .iface 172 (vp fb)) aQ (qad _) (by omega))) (Sp.EU k) (by omega);refine hb.jd (qad _) (qad _) ?_;rw[<-dN ad,qaq,qaN,<-jE];simp
    have Il:Den W ((S1.put (s.fieldAt k) (.iface 172 (vp fb))).ev W M3) (s.field k) (.iface tt (vp l6)):=mR.le ig;have eT:((S1.put (s.fieldAt k) (.iface 172 (vp fb))).ev W M3).ob (s.fieldAt k) 172 fb:=by
     show(S1.oc.set (s.fieldAt k) _)[s.fieldAt k]? =_;simp[cK]
    exact hN (k+1,S1.put (s.fieldAt k) (.iface 172 (vp fb)),M3,v',cH++[fb],gZ++[.iface tt (vp l6)]) _ _ ⟨qaL vp eE.bb.symm,rfl,rfl,rfl,rfl,rfl,rfl,rfl,rfl,tV⟩ ⟨ad,JR,yU,((qo.le n_).le ig).snoc ad (by rw[<-jE];show Bk M3 fb [_,vp (S1.pk s.aC),_,_,_,_];rw[eE.pk];exact on) eT Il,(by rw[qaq];exact h.del.del)⟩ (by simp only;omega)
   |false=>
    have CS:W.fieldName (fn,false,ft)=fn:=by simp[Wd.fieldName]
    refine aJ (k) ?_;refine cG h (ct.le d_) ?_ cR;refine au (cs:=Nj) h ?_;clear h;intro dv w h;refine br h aZ ?_;clear h;intro w h;refine ak h ?_;refine s_call h (sN Ao.2.2.1) ?_;clear h;rintro _ w rfl h;refine ak h ?_;have e1:(s.field k).at_=s.fieldAt k+1:=rfl;have xh:s.at_+s.of.aj<=2^30:=dI.gs.top;have PN:s.of.size<=s.of.aj:=Ty.size_le _ _ (qam _);have jo:=dI.gs.aC;have yM:∀{w:World} {M':Mem} {S':BS} {X:List aB},Mk.Le M'->S'.bb=S.bb->S'.pb=S.pb->SH w0 M (cp S0.bM) M' (X++S'.bM) w->∀b o x,Bf Mk S.bb S.pb b o x->w.cell? ⟨b,o,none⟩=some x:=by
     intro w M' S' X hl e1 e2 h b o x hx;rcases hx with hx|⟨rfl,rfl,rfl⟩
     .exact h.le.cell _ _ _ (hl.cell _ _ _ hx)
     have:=(h.right.fK .here).ld 0 rfl;rw[e1,e2]at this;exact this
    refine Ge (Bf Mk S.bb S.pb) (cp S.bM) h (fun w' h=>yM (X:=[_,_]) (.refl _) rfl rfl h) ?_;clear h;intro w h;have kj:dv∉cp S.bM:=h.KS (A:=[_,_]) (B:=S.bM) (e:= .ah dv 101 (wD (fn,false,ft) u1 g1 u2 g2 u3 g3 u4 g4)) qal (by simp[aB.bX]);refine FW (kp:=Bf Mk S.bb S.pb) (b:=S.bb) (o:=0) (v:= .slice (some ⟨S.pb,0,none⟩) 2 2) h ?_ (Or.inr ⟨rfl,rfl,rfl⟩);refine aJ s.aC.toNat ?_ (by rcases jo with h|h<;>rw[h]<;>decide) (by rcases jo with h|h<;>rw[h]<;>rfl);refine Dz h (by simpa using eN.pk.c _ jo) ?_ (Or.inr (Or.inl (by simpa using eN.pk.c _ jo)));refine uh h (bh ft u1 g1 u2 g2 u3 g3 u4 g4) ?_ (hS:=kj);refine aA (((s.field k).at_:Nat):Int) ?_ (by show((s.fieldAt k:Nat):Int)+1=(((s.field k).at_:Nat):Int);rw[e1];omega);refine k_ld h ?_ kj (v:= .bool false);refine aI ?_ trivial;refine DO S.bM [.ah dv 101 (wD (fn,false,ft) u1 g1 u2 g2 u3 g3 u4 g4),.own vw 1 172 (cH.map fun b=>[vp b])] (SH.mG (A:=[_,_]) h) (jF oC H4 Fd) (fun b hb=>hb) (fun r M' A' w' hr hl h=> ?_) ?_
    .obtain⟨S',rfl,aU,_,_⟩:=hr;exact yM (X:=[_,_]) hl aU.bb aU.pb (SH.mG h)
    clear h;rintro r M1 A1 w ⟨S1,rfl,eE,vb,mR⟩ bG A6 h;replace h:=SH.mG h;obtain⟨tt,l6,rfl,oH⟩:=mR.iface;refine aI ?_ trivial;refine QC h Rh (fun w' h=>yM (X:=[_,_]) bG eE.bb eE.pb h) ?_;have nK:=h.le;clear h;intro fb w' It za8 h;obtain⟨M2,aQ,on,h⟩:=h.dA fb;have cK:s.fieldAt k<S1.oc.length:=by rw[eE.len];exact(qab.1 rB).1
    have iM:S1.oc[s.fieldAt k]? =some .nilIface:=by rw[eE.oc _ (by omega)];exact rB
    have yU:fq W (S1.put (s.fieldAt k) (.iface 172 (vp fb))) M2:=vb.put iM aQ nK It on.own;have n_:(S.ev W Mk).Le (S1.ev W M1):=eE.ev I4;have ig:(S1.ev W M1).Le ((S1.put (s.fieldAt k) (.iface 172 (vp fb))).ev W M2):=S1.Lf aQ iM;refine du [.ah S1.bb 79 S1.bc,.ah S1.ob 70 S1.oc] (.ah dv 101 (wD (fn,false,ft) u1 g1 u2 g2 u3 g3 u4 g4):: .own vw 1 172 (cH.map fun b=>[vp b]):: .ah S1.tb 65 S1.aR:: .own S1.vi 1 134 (S1.il.map fun p=>[vp p.2])::S1.gW.map fun p=> .part p.1 247 p.2 6) h.qI (Gf eE.bb.symm cK) ?_;clear h;rintro _ M3 A3 w3 ⟨rfl,rfl,rfl⟩ _ JT h;replace h:SH w0 M (cp S0.bM) M3 (.ah dv 101 (wD (fn,false,ft) u1 g1 u2 g2 u3 g3 u4 g4):: .own vw 1 172 (cH.map fun b=>[vp b])::(S1.put (s.fieldAt k) (.iface 172 (vp fb))).bM) w3:=by rw[BS.Ld];exact h.qI
    refine au (cs:=[vp fb]) h ?_;clear h;intro b6 w h;refine gJ h Mc h.df (de (cO (vs:=[vp fb]) rfl)) ?_ (hb:=by simp only[qat,qaw,qo.l1];omega);clear h;intro v' w h;refine i_ h (bh ft u1 g1 u2 g2 u3 g3 u4 g4) ?_;refine s_call h (Cp (ft.aj+1) ft (qam _) _ _ h.le (iJ.le (d_.trans (bG.trans aQ))) (by omega)) ?_;clear h;rintro _ w rfl h;have zbc:qg (fn,false,ft)=1+ft.size:=rfl;have zb7:ft.size<=ft.aj:=Ty.size_le _ _ (qam _);refine aA (((1+ft.size:Nat):Int)) ?_;refine aA ((s.fieldAt (k+1):Nat):Int) ?_ (by show((s.fieldAt k:Nat):Int)+((1+ft.size:Nat):Int)=_;omega);refine aA (((k+1:Nat):Int)) ?_;have JR:dU W s.at_ (s.fieldAt (k+1)) (((s.of.fields.take (k+1)).map fun f=>f.2.2.aj).sum) S0 M (S1.put (s.fieldAt k) (.iface 172 (vp fb))) M3:=by
     have hb:=dm.trans (hi:=s.fieldAt (k+1)) ((eE.jd (lo':=s.fieldAt k) (hi':=s.fieldAt (k+1)) (k':=ft.aj) (by omega) (by rw[e1,nx];omega) (by rw[nx];exact qad _)).GE (dU.put (lo:=s.fieldAt k) (hi:=s.fieldAt (k+1)) (v:= .iface 172 (vp fb)) aQ (qad _) (by omega))) (Sp.EU k) (by omega);refine hb.jd (qad _) (qad _) ?_;rw[<-dN ad,qaq,qaN,<-jE];simp
    have Il:Den W ((S1.put (s.fieldAt k) (.iface 172 (vp fb))).ev W M3) (s.field k) (.iface tt (vp l6)):=mR.le ig;have eT:((S1.put (s.fieldAt k) (.iface 172 (vp fb))).ev W M3).ob (s.fieldAt k) 172 fb:=by
     show(S1.oc.set (s.fieldAt k) _)[s.fieldAt k]? =_;simp[cK]
    exact hN (k+1,S1.put (s.fieldAt k) (.iface 172 (vp fb)),M3,v',cH++[fb],gZ++[.iface tt (vp l6)]) _ _ ⟨qaL vp eE.bb.symm,rfl,rfl,rfl,rfl,rfl,rfl,rfl,rfl,tV⟩ ⟨ad,JR,yU,((qo.le n_).le ig).snoc ad (by rw[<-jE,CS];show Bk M3 fb [_,vp (S1.pk s.aC),_,_,_,_];rw[eE.pk];exact on) eT Il,(by rw[qaq];exact h.del.del)⟩ (by simp only;omega)
  clear h;rintro⟨S,Mk,vw,cH,gZ⟩ aK w ⟨dm,eN,qo,h⟩;simp only at dm eN qo h;obtain⟨M1,bG,y8,h⟩:=h.d6 vw;have jo:=dI.gs.aC;obtain⟨px,pG⟩:=(eN.pk.le bG).b _ jo;have zgq:(List.zipWith (fun b f=>(b,W.fieldName f)) cH s.of.fields).length=s.of.fields.length:=by simp[qo.l1]
  have rp:∀(j:Nat) (q:Nat×Int),(List.zipWith (fun b f=>(b,W.fieldName f)) cH s.of.fields)[j]? =some q->∃b f,cH[j]? =some b/\s.of.fields[j]? =some f/\q=(b,W.fieldName f):=fun j q hq=>by
   rw[List.getElem?_zipWith]at hq;cases hb:cH[j]? with
   |none=>rw[hb]at hq;cases hq
   |some b=>cases gh:s.of.fields[j]? with
    |none=>rw[hb,gh]at hq;cases hq
    |some f=>rw[hb,gh]at hq;exact⟨b,f,rfl,rfl,(qaF hq).symm⟩
  have mr:(List.zipWith (fun b f=>(b,W.fieldName f)) cH s.of.fields).map (fun q=>[vp q.1])=cH.map fun b=>[vp b]:=by
   apply qbe;intro j;rw[qaE,qaE];cases hq:(List.zipWith (fun b f=>(b,W.fieldName f)) cH s.of.fields)[j]? with
   |none=>
    have:=List.getElem?_eq_none_iff.1 hq;rw[qa3 (by rw[qo.l1];omega)];rfl
   |some q=>obtain⟨b,f,h1,_,rfl⟩:=rp j q hq;rw[h1];rfl
  have yP:∀j,((List.zipWith (fun b f=>(b,W.fieldName f)) cH s.of.fields).take j).map (·.2)=(s.of.fields.take j).map W.fieldName:=fun j=>by
   have:(List.zipWith (fun b f=>(b,W.fieldName f)) cH s.of.fields).map (·.2)=s.of.fields.map W.fieldName:=by
    apply qbe;intro j;rw[qaE,qaE];cases hq:(List.zipWith (fun b f=>(b,W.fieldName f)) cH s.of.fields)[j]? with
    |none=>
     have:=List.getElem?_eq_none_iff.1 hq;rw[qa3 (by omega)];rfl
    |some q=>obtain⟨b,f,_,h1,rfl⟩:=rp j q hq;rw[h1];rfl
   rw[qbt,this,qbt]
  refine du [] S.bM h (fun _=>zdx (pb:=S.pk s.aC) (p:=s.aC) (fs:=List.zipWith (fun b f=>(b,W.fieldName f)) cH s.of.fields) (dI.jt.le (dm.le.trans bG)) h.le pG jo (fun q hq=> ?_) (by rw[mr];exact y8) (fun j q hq h8=> ?_) (by omega)) ?_
  .obtain⟨j,hj,rfl⟩:=qak hq;obtain⟨b,f,h1,h2,h3⟩:=rp j _ (qaa hj);rw[h3];have ki:j<s.of.fields.length:=by omega
   obtain⟨vv,t8⟩:∃vv,gZ[j]? =some vv:=⟨_,qaa (by rw[qo.l2];exact ki)⟩;have Ov:=(qo.hv j b vv f h1 t8 h2).le bG;refine⟨Ov.at 1 rfl,Ov.at 2 rfl,?_⟩;exact nq hW.name hF (qax h2)
  .obtain⟨b,f,h1,h2,rfl⟩:=rp j q hq;rw[yP];cases dI.val;rename_i gh _ _ _;exact gh j f h2 h8
  clear h;rintro _ M2 A2 w2 ⟨zE,GP,rfl,AY,rfl⟩ aQ _ h;obtain⟨M3,bT,zb5,h⟩:=SH.dA (L':=S.bM) h zE;have hE:(S.ev W Mk).Le (S.ev W M3):=⟨bG.trans (aQ.trans bT),rfl,fun _ _ h=>h,fun _ _ _ h=>h,fun _ _ h=>h⟩;have mT:=qo.le hE;rw[mr]at AY;exact⟨M3,_,⟨S,rfl,dm.qD (bG.trans (aQ.trans bT)),eN.mono (bG.trans (aQ.trans bT)),.lZ k4 zb5 mT.l1 mT.l2 (AY.mono bT fun _ _ _ h=>h) mT.hv mT.ho mT.hd⟩,h⟩
 refine aI (fun k5=> ?_) (fun k5=> ?_)
 .obtain⟨hFt,lH,wU⟩:=hF.Qc k5;have xh:s.at_+s.of.aj<=2^30:=dI.gs.top;have yQ:=s.of.zp;have AC:=s.of.qX;have PN:s.of.size<=s.of.aj:=Ty.size_le _ _ (qam _);have zbA:s.of.methods.length<=s.of.size:=by rw[Ty.size_eq];omega
  have eD:=hF.methods;have jo:=dI.gs.aC;obtain⟨S0,CG⟩:∃x,x=S:=⟨_,rfl⟩;rw[<-CG]at dI h⊢;clear CG;refine ak h ?_;refine fB (X:=Nat×BS×Mem×Value×List (bD×Nat)×List Nat) (Y:=BS×Mem×Value×List (bD×Nat)×List Nat) 3 (fun y=>[(0,vp y.2.1.bb),(1,bK W a c),(2,.int .i64 s.aC),(4,.int .i64 ((s.at_+y.1:Nat):Int)),(8,vp b8),(10,.nilIface),(16,y.2.2.2.1),(121,.slice x3 s.of.methods.length d3),(122,.int .i64 (s.of.methods.length:Int)),(123,.int .i64 (y.1:Int))])
   (fun y w=>y.1<=s.of.methods.length/\dU W s.at_ (s.at_+y.1) 0 S0 M y.2.1 y.2.2.1/\fq W y.2.1 y.2.2.1/\y.2.2.2.2.1.map (·.1)=(m8 s).take y.1/\(∀q∈y.2.2.2.2.1,y.2.1.oc[q.1.num]? =some (.iface 128 (vp q.2)))/\
    bC (fun(q:bD×Nat) sg=>Bk y.2.2.1 q.2 [.int .i64 0,vp (y.2.1.pk q.1.aC),.string (bZ q.1.name),.iface 235 (vp sg),.bool false,.bool false]/\cN q.1.aC/\bL q.1.name) y.2.2.2.2.1 y.2.2.2.2.2/\
    SH w0 M (cp S0.bM) y.2.2.1 (.own y.2.2.2.1 1 128 (y.2.2.2.2.1.map fun q=>[vp q.2]):: .ah b8 28 (bh s.of x1 d1 x2 d2 x3 d3 x4 d4)::(y.2.1.bM++y.2.2.2.2.2.reverse.map fun b=> .ah b 291 kL)) w) (fun y=>s.of.methods.length-y.1)
   (fun y=>[(0,vp y.1.bb),(1,bK W a c),(2,.int .i64 s.aC),(4,.int .i64 ((s.kS 0:Nat):Int)),(8,vp b8),(10,.nilIface),(16,y.2.2.1)])
   (fun y w=>dU W s.at_ (s.kS 0) 0 S0 M y.1 y.2.1/\fq W y.1 y.2.1/\y.2.2.2.1.map (·.1)=m8 s/\(∀q∈y.2.2.2.1,y.1.oc[q.1.num]? =some (.iface 128 (vp q.2)))/\
    bC (fun(q:bD×Nat) sg=>Bk y.2.1 q.2 [.int .i64 0,vp (y.1.pk q.1.aC),.string (bZ q.1.name),.iface 235 (vp sg),.bool false,.bool false]/\cN q.1.aC/\bL q.1.name) y.2.2.2.1 y.2.2.2.2/\
    SH w0 M (cp S0.bM) y.2.1 (.own y.2.2.1 1 128 (y.2.2.2.1.map fun q=>[vp q.2]):: .ah b8 28 (bh s.of x1 d1 x2 d2 x3 d3 x4 d4)::(y.1.bM++y.2.2.2.2.reverse.map fun b=> .ah b 291 kL)) w)
   (0,S0,M,.slice none 0 0,[],[]) ⟨rfl,rfl,rfl,rfl,rfl,rfl,rfl,rfl,rfl,rfl,tV⟩ ⟨qae _,dU.refl _ _ _ _ _ _,dI.ok,rfl,by simp,tV,by simpa using h.gV 1 128⟩ ?_ ?_
  .clear h;rintro⟨k,S,Mk,vw,l,gK⟩ aK w N Z hx hN hZ;obtain⟨hk,dm,eN,sH,mq,hle,h⟩:=hx;simp only at hk dm eN sH mq hle h;have d_:M.Le Mk:=dm.le;have eC:l.length=k:=by have:=qaL List.length sH;rw[qat,qaG,DJ]at this;omega
   refine aI (fun aG=> ?_) (fun aY=> ?_);rotate_left 1
   .obtain rfl:k=s.of.methods.length:=by omega
    refine hZ (S,Mk,vw,l,gK) _ _ ⟨rfl,rfl,rfl,qaL (fun n:Nat=>Value.int .i64 (n:Int)) (by simp[Sp.kS]),rfl,rfl,rfl,tV⟩ ⟨by simpa[Sp.kS]using dm,eN,by rw[sH,<-DJ,qay],mq,hle,h⟩
   have ad:k<s.of.methods.length:=by omega
   obtain⟨b2,o2,gD,rfl,cR,ct,rj⟩:=ov.at ad;obtain⟨iM,yS,Df⟩:=eD s.of.methods[k] (by simp);have I8:=zdP ad;obtain⟨⟨mn,mp⟩,AM⟩:∃x,x=s.of.methods[k]:=⟨_,rfl⟩;rw[<-AM]at rj iM I8;cases rj;refine aJ (k) ?_;refine cG h (ct.le d_) ?_ rfl;refine au (cs:=[.int .i64 0,.bool false]) h ?_;clear h;intro b18 w h;refine br h (cO rfl) ?_;clear h;intro w h;refine bj h ?_;replace h:=h.tail;refine du [] _ h (fun _=>zc7 h.le ((h.fK (.there (.there .here))).ld 0 rfl) eN.pk jo iM) ?_;have nK:=h.le;clear h;rintro _ M1 A1 w1 ⟨fb,sb,rfl,on,uR,rfl⟩ bG A6 h;have rB:S.oc[s.at_+k]? =some .nilIface:=by rw[dm.oc _ (by omega)];exact dI.nil _ (by omega) (by omega)
   have cK:s.at_+k<S.oc.length:=(qab.1 rB).1;have yU:fq W (S.put (s.at_+k) (.iface 128 (vp fb))) M1:=eN.put rB bG nK uR on.own;refine du [.ah S.bb 79 S.bc,.ah S.ob 70 S.oc] (.ah sb 291 kL:: .own vw 1 128 (l.map fun q=>[vp q.2]):: .ah b8 28 (bh s.of x1 d1 x2 d2 (some ⟨b2,o2,none⟩) d3 x4 d4):: .ah S.tb 65 S.aR:: .own S.vi 1 134 (S.il.map fun p=>[vp p.2])::((S.gW.map fun p=> .part p.1 247 p.2 6)++gK.reverse.map fun b=> .ah b 291 kL)) h.qI (Gf rfl cK) ?_;clear h;rintro _ M3 A3 w3 ⟨rfl,rfl,rfl⟩ _ JT h;replace h:SH w0 M (cp S0.bM) M3 (.own vw 1 128 (l.map fun q=>[vp q.2]):: .ah b8 28 (bh s.of x1 d1 x2 d2 (some ⟨b2,o2,none⟩) d3 x4 d4)::((S.put (s.at_+k) (.iface 128 (vp fb))).bM++(gK++[sb]).reverse.map fun b=> .ah b 291 kL)) w3:=by
    rw[BS.Ld,List.reverse_append];refine SH.ks (X:=[.own vw 1 128 (l.map fun q=>[vp q.2]),.ah b8 28 (bh s.of x1 d1 x2 d2 (some ⟨b2,o2,none⟩) d3 x4 d4)]) (Y:= .ah S.bb 79 S.bc:: .ah S.tb 65 S.aR:: .ah S.ob 70 (S.oc.set (s.at_+k) (.iface 128 (vp fb))):: .own S.vi 1 134 (S.il.map fun p=>[vp p.2])::S.gW.map fun p=> .part p.1 247 p.2 6) (Q:=gK.reverse.map fun b=> .ah b 291 kL) (a:= .ah sb 291 kL) ?_;exact h.qI
   refine au (cs:=[vp fb]) h ?_;clear h;intro zf4 w h;refine gJ h Hb h.df (de (cO (vs:=[vp fb]) rfl)) ?_ (hb:=by simp only[qat,qaw,eC];omega);clear h;intro v' w h;refine aA ((s.at_+(k+1):Nat):Int) ?_ (by show((s.at_+k:Nat):Int)+1=_;omega);refine aA (((k+1:Nat):Int)) ?_;have tT:∀q∈l,(S.put (s.at_+k) (.iface 128 (vp fb))).oc[q.1.num]? =some (.iface 128 (vp q.2)):=fun q hq=>by
    show(S.oc.set (s.at_+k) _)[q.1.num]? =_;rw[qa7]
    .exact mq q hq
    intro h0;have:=mq q hq;rw[<-h0,rB]at this;cases this
   refine hN (k+1,S.put (s.at_+k) (.iface 128 (vp fb)),M3,v',l++[(⟨s.at_+k,s.aC,mn⟩,fb)],gK++[sb]) _ _ ⟨rfl,rfl,rfl,rfl,rfl,rfl,rfl,rfl,rfl,rfl,tV⟩ ⟨ad,?_,yU,?_,?_,?_,?_⟩ (by simp only;omega)
   .exact(dm.trans (hi:=s.at_+(k+1)) (dU.put (lo:=s.at_+k) bG (qad _) (by omega)) (by omega) (by omega))
   .simp only;rw[qaq,sH];have nA:k<(m8 s).length:=by rw[DJ];exact ad
    rw[<-dN nA];rw[qaa nA]at I8;rw[qaF I8];rfl
   .intro q hq;rcases qah.1 hq with hq|hq
    .exact tT q hq
    simp only[qac]at hq;subst hq;show(S.oc.set (s.at_+k) _)[s.at_+k]? =_;simp[cK]
   .exact(hle.mono fun q _ sg hx=>⟨hx.1.le bG,hx.2⟩).snoc ⟨on,jo,iM⟩
   simp only;rw[qaq];exact h.del
  clear h;rintro⟨S,Mk,vw,l,gK⟩ aK w ⟨dm,eN,sH,mq,hle,h⟩;simp only at dm eN sH mq hle h;have eC:l.length=s.of.methods.length:=by have:=qaL List.length sH;rw[qat,DJ]at this;exact this
  refine ak h ?_;replace h:=h.zeJ;obtain⟨S1,dB⟩:∃x,x=S:=⟨_,rfl⟩;obtain⟨LV,N8⟩:∃x,x=Mk:=⟨_,rfl⟩;rw[<-dB,<-N8]at hle;rw[<-dB]at mq;have km:∀q∈l,q.1.num<s.at_+s.of.methods.length:=fun q hq=>by
   have:q.1∈m8 s:=by rw[<-sH];exact qaj.2 ⟨q,hq,rfl⟩
   obtain⟨j,hj,e⟩:=qaj.1 this;have:=qaz.1 hj;rw[<-e];simp only;omega
  refine fB (X:=Nat×BS×Mem×Value×List Value) (Y:=BS×Mem×Value×List Value) 5 (fun y=>[(0,vp y.2.1.bb),(1,bK W a c),(2,.int .i64 s.aC),(4,.int .i64 ((s.kS y.1:Nat):Int)),(10,.nilIface),(16,vw),(20,y.2.2.2.1),(144,.slice x4 s.of.aD.length d4),(145,.int .i64 (s.of.aD.length:Int)),(146,.int .i64 (y.1:Int))])
   (fun y w=>y.1<=s.of.aD.length/\dU W s.at_ (s.kS y.1) (((s.of.aD.take y.1).map Ty.aj).sum) S0 M y.2.1 y.2.2.1/\fq W y.2.1 y.2.2.1/\LV.Le y.2.2.1/\y.2.1.pk=S1.pk/\(∀q∈l,y.2.1.oc[q.1.num]? =some (.iface 128 (vp q.2)))/\
    bC (fun i v=>Den W (y.2.1.ev W y.2.2.1) (s.bE i) v) (List.range y.1) y.2.2.2.2/\
    SH w0 M (cp S0.bM) y.2.2.1 (.own y.2.2.2.1 1 65 (y.2.2.2.2.map fun v=>[v])::(y.2.1.bM++(aB.own vw 1 128 (l.map fun q=>[vp q.2])::gK.reverse.map fun b=>aB.ah b 291 kL))) w) (fun y=>s.of.aD.length-y.1)
   (fun y=>[(0,vp y.1.bb),(1,bK W a c),(10,.nilIface),(16,vw),(20,y.2.2.1)])
   (fun y w=>dU W s.at_ (s.kS s.of.aD.length) (((s.of.aD.take s.of.aD.length).map Ty.aj).sum) S0 M y.1 y.2.1/\fq W y.1 y.2.1/\LV.Le y.2.1/\y.1.pk=S1.pk/\(∀q∈l,y.1.oc[q.1.num]? =some (.iface 128 (vp q.2)))/\
    bC (fun i v=>Den W (y.1.ev W y.2.1) (s.bE i) v) (List.range s.of.aD.length) y.2.2.2/\
    SH w0 M (cp S0.bM) y.2.1 (.own y.2.2.1 1 65 (y.2.2.2.map fun v=>[v])::(y.1.bM++(aB.own vw 1 128 (l.map fun q=>[vp q.2])::gK.reverse.map fun b=>aB.ah b 291 kL))) w)
   (0,S,Mk,.slice none 0 0,[]) ⟨rfl,rfl,rfl,rfl,rfl,rfl,rfl,rfl,rfl,rfl,tV⟩ ⟨qae _,by simpa using dm,eN,by rw[N8];exact .refl _,by rw[dB],by rw[<-dB];exact mq,tV,h.gV 1 65⟩ ?_ ?_
  .clear h dm eN;rintro⟨k,S,Mk,ve,ew⟩ aK w N Z hx hN hZ;obtain⟨hk,dm,eN,mX,AU,mq,mg,h⟩:=hx;simp only at hk dm eN mX AU mq mg h;have d_:M.Le Mk:=dm.le;have t7:ew.length=k:=by have:=mg.len;rw[qb0]at this;exact this.symm
   refine aI (fun aG=> ?_) (fun aY=> ?_);rotate_left 1
   .obtain rfl:k=s.of.aD.length:=by omega
    exact hZ (S,Mk,ve,ew) _ _ ⟨rfl,rfl,rfl,rfl,rfl,tV⟩ ⟨dm,eN,mX,AU,mq,mg,h⟩
   have ad:k<s.of.aD.length:=by omega
   obtain⟨b2,o2,gD,rfl,cR,ct,iJ⟩:=jk.at ad;have aZ:=iJ.one;have cI:=Sp.XL ad;have CP:=Sp.HH (s:=s) (k+1);have zgi:s.at_+s.of.methods.length<=s.kS k:=by unfold Sp.kS;omega
   have sw:(s.bE k).of=s.of.aD[k]:=Sp.pj ad;have bS:(s.bE k).at_=s.kS k:=rfl;have hFe:=hF.aD s.of.aD[k] (by simp);have Fa:=Ty.nY (t:=s.of) (u:=s.of.aD[k]) (by simp);have zgz:s.of.aD[k].size<=s.of.aD[k].aj:=Ty.size_le _ _ (qam _);have nG:∀n,(s.bE k).at_<=n->n<(s.bE k).at_+(s.bE k).of.size->S.oc[n]? =some .nilIface:=fun n h1 h2=>by
    rw[sw]at h2;rw[bS]at h1 h2;rw[dm.oc _ (by omega)];exact dI.nil _ (by omega) (by omega)
   have A0:((s.of.aD.take (k+1)).map Ty.aj).sum=((s.of.aD.take k).map Ty.aj).sum+s.of.aD[k].aj:=by rw[<-dN ad,qaq,qaN];simp
   have zgx:((s.of.aD.take (k+1)).map Ty.aj).sum<=s.of.aj:=by
    rw[qbt];refine qaQ (nR _ _) ?_;rw[Ty.iW];omega
   have lD:S.il.length+(s.bE k).of.aj<=2^40:=by
    obtain⟨new,e,hl⟩:=dm.il;have:=dI.nX;rw[e,qar,sw];omega
   have oC:wv W d (s.bE k) S Mk:=⟨dI.gs.bE ad,by cases dI.val;rename_i dD _ _ _ _;exact dD k ad,dI.jt.le d_,eN,by rw[dm.aR];exact dI.aR,nG,lD⟩;have jF:=ih (s.bE k) (by rw[sw];omega) (d:=d) (v:=true) (by rw[sw];exact hFe);obtain⟨u1,g1,u2,g2,u3,g3,u4,g4,rfl,_⟩:=iJ.lit;have Fd:cC Mk (s.bE k).of (bh s.of.aD[k] u1 g1 u2 g2 u3 g3 u4 g4):=by rw[sw];exact iJ.le d_
   refine aJ (k) ?_;refine cG h (ct.le d_) ?_ cR;refine au (cs:=D9) h ?_;clear h;intro EF w h;refine br h aZ ?_;clear h;intro w h;refine bj h ?_;refine du S.bM (.ah EF 28 (bh s.of.aD[k] u1 g1 u2 g2 u3 g3 u4 g4):: .own ve 1 65 (ew.map fun v=>[v]):: .own vw 1 128 (l.map fun q=>[vp q.2])::gK.reverse.map fun b=> .ah b 291 kL) (SH.perm (L:=[.ah EF 28 (bh s.of.aD[k] u1 g1 u2 g2 u3 g3 u4 g4),.own ve 1 65 (ew.map fun v=>[v])]++(S.bM++(aB.own vw 1 128 (l.map fun q=>[vp q.2])::gK.reverse.map fun b=>aB.ah b 291 kL))) h (qbc _ _ _)) (jF oC (cA.fr d_) Fd) ?_;clear h jF;rintro r M1 A1 w1 ⟨S2,rfl,eE,vb,mR⟩ bG A6 h;replace h:SH w0 M (cp S0.bM) M1 (.ah EF 28 (bh s.of.aD[k] u1 g1 u2 g2 u3 g3 u4 g4):: .own ve 1 65 (ew.map fun v=>[v])::(S2.bM++(aB.own vw 1 128 (l.map fun q=>[vp q.2])::gK.reverse.map fun b=>aB.ah b 291 kL))) w1:=
    SH.perm h (qbc S2.bM [.ah EF 28 (bh s.of.aD[k] u1 g1 u2 g2 u3 g3 u4 g4),.own ve 1 65 (ew.map fun v=>[v])] _)
   obtain⟨tt,l6,rfl,oH⟩:=mR.iface;refine au (cs:=[.iface tt (vp l6)]) h ?_;clear h;intro zf5 w h;refine gJ h UC h.df (de (cO (vs:=[Value.iface tt (vp l6)]) rfl)) ?_ (hb:=by simp only[qat,qaw,t7];omega);clear h;intro v' w h;refine i_ h (bh s.of.aD[k] u1 g1 u2 g2 u3 g3 u4 g4) ?_;refine s_call h (Cp (s.of.aD[k].aj+1) s.of.aD[k] (qam _) _ _ h.le (iJ.le (d_.trans bG)) (by omega)) ?_;clear h;rintro _ w rfl h;refine aA ((s.kS (k+1):Nat):Int) ?_ (by show((s.kS k:Nat):Int)+((s.of.aD[k].size:Nat):Int)=_;omega);refine aA (((k+1:Nat):Int)) ?_;have n_:=eE.ev nG;refine hN (k+1,S2,M1,v',ew++[.iface tt (vp l6)]) _ _ ⟨qaL vp eE.bb.symm,rfl,rfl,rfl,rfl,rfl,rfl,rfl,rfl,rfl,tV⟩ ⟨ad,?_,vb,mX.trans bG,eE.pk.trans AU,fun q hq=> ?_,?_,?_⟩ (by simp only;omega)
   .have hb:=dm.trans (hi:=s.kS (k+1)) (eE.jd (lo':=s.kS k) (hi':=s.kS (k+1)) (k':=s.of.aD[k].aj) (qad _) (by rw[bS,sw];omega) (by rw[sw];exact qad _)) (by omega) (by omega);exact hb.jd (qad _) (qad _) (by simp only;omega)
   .have:=km q hq;simp only;rw[eE.oc _ (by rw[bS];omega)];exact mq q hq
   .simp only;rw[qbB];exact(mg.mono fun _ _ _ h=>h.le n_).snoc mR
   simp only;rw[qaq];exact h.del.del
  clear h dm eN;rintro⟨S,Mk,ve,ew⟩ aK w ⟨dm,eN,mX,AU,mq,mg,h⟩;simp only at dm eN mX AU mq mg h;obtain⟨M1,bG,y8,h⟩:=h.d6 ve;have zba:∀p∈S.il,p.2<w.heap.size/\p.2∉cp (.own vw 1 128 (l.map fun q=>[vp q.2])::gK.map fun b=> .ah b 291 kL):=fun p hp=>by
   obtain⟨h1,_⟩:=eN.ifs p.1 p.2 hp;have hx:=h.perm (List.perm_append_comm.trans ((List.Perm.cons _ ((List.reverse_perm gK).map _)).append_right _));refine⟨(hx.le.own _ (bG.own _ h1.own)).lt,fun hm=> ?_⟩;obtain⟨e,he,wN⟩:=xv.1 hm;have hc:=hx.off e (qaA _ he) p.2 0;have zaQ:e.jf p.2 0:=by
    rcases qan.1 he with rfl|he
    .exact wN
    obtain⟨x,_,rfl⟩:=qaj.1 he;simpa[aB.bX,aB.jf]using wN
   rw[bG.cell _ _ _ h1.c0]at hc;cases hc zaQ
  refine du (.own vw 1 128 (l.map fun q=>[vp q.2])::gK.map fun b=> .ah b 291 kL) S.bM (h.perm (List.perm_append_comm.trans ((List.Perm.cons _ ((List.reverse_perm gK).map _)).append_right _))) (fun h=>zdt (pk:=S.pk) (dI.jt.le (dm.le.trans bG)) (fun p hp=>by obtain⟨x,hx⟩:=eN.pk.b p hp;exact⟨x,hx.le bG⟩) (by rw[AU];exact hle.mono fun q _ sg hx=>⟨hx.1.le (mX.trans bG),hx.2⟩) y8 (by omega) h) ?_;clear h;rintro r M2 A2 w2 ⟨ib,rfl,yI,qu⟩ aQ _ h;have OV:((S.il++[(s,ib)]).map (·.2)).Nodup:=by
   rw[qaq];refine qbL.2 ⟨eN.Dx,by simp,fun x hx y hy ze=> ?_⟩;simp only[qaB,qa0,qac]at hy;obtain⟨p,hp,rfl⟩:=qaj.1 hx;obtain⟨h1,h2⟩:=zba p hp;rw[ze,hy]at h1 h2;rcases yI with h3|h3
   .omega
   exact h2 h3
  rcases qu.ts with⟨cs,Aw,rfl⟩|⟨O5,hv0,rfl,tb,vt,Dp,t6,FO⟩
  .refine ak h ?_;refine au (cs:=[vp ib]) h ?_;clear h;intro UN w h;have fu:S.il.length<=2^41:=by
    obtain⟨new,e,hl⟩:=dm.il;have h1:=dI.nX;have h2:=Ty.iW s.of;rw[qay]at hl;rw[e,qar];omega
   refine gJ h Mh h.df (de (cO (vs:=[vp ib]) rfl)) ?_ (hb:=by simp only[qat,qaw];omega);clear h;intro oZ w h;have kn:=h.lU (v:=oZ);refine eQ h ?_ (hv:=kn);clear h;intro w h;have hE:(S.ev W Mk).Le (({S with vi:=oZ,il:=S.il++[(s,ib)],gW:=[(ib,cs)]++S.gW}:BS).ev W M2):=⟨bG.trans aQ,rfl,fun _ _ h=>h,fun _ _ _ h=>h,fun _ _ h=>qaA _ h⟩;have vA:dU W s.at_ (s.at_+s.of.size) s.of.aj S0 M {S with vi:=oZ,il:=S.il++[(s,ib)],gW:=[(ib,cs)]++S.gW} M2:=by
    obtain⟨new,e,hl⟩:=dm.il;refine⟨dm.bb,dm.pb,dm.tb,dm.ob,dm.pk,dm.aR,dm.len,fun n hn=>dm.oc n (fun hx=>hn ⟨hx.1,qb4 hx.2 (Sp.HH _)⟩),⟨new++[(s,ib)],by show S.il++_=_;rw[e,qap],?_⟩,dm.le.trans (bG.trans aQ)⟩;have h1:=Ty.iW s.of;rw[qar];simp only[qaw];rw[qay]at hl;omega
   have nF:xS W (({S with vi:=oZ,il:=S.il++[(s,ib)],gW:=[(ib,cs)]++S.gW}:BS).ev W M2) s ib:=by
    obtain⟨vm,ve,l',a1,a2,a3,a4,a5,a6⟩:=qu.all;refine⟨qu.own,qu.c0,qu.c3,qu.c4,qu.c5,vm,ve,l'.map (·.1),l'.map (·.2),ew,a1,a2,by rw[qbE];exact a3,a4,by rw[<-sH];exact a5.map _,?_,mg.mono fun _ _ _ h=>h.le hE⟩;refine bC.of_map fun q hq=> ?_;have vh:=a5.mem_iff.1 hq;exact fY.Nt (a6 q vh) (mq q vh)
   refine⟨M2,_,⟨{S with vi:=oZ,il:=S.il++[(s,ib)],gW:=[(ib,cs)]++S.gW},rfl,vA,⟨eN.pk.le (bG.trans aQ),eN.inj,fun i v hv=>(eN.xD i v hv).imp_right fun⟨t,b,h1,h2⟩=>⟨t,b,h1,(bG.trans aQ).own _ h2⟩,fun s' b hb=> ?_,fun p hp=> ?_,OV⟩,.cM k5 (qaR _ (by simp))⟩,?_⟩
   .rcases qah.1 hb with hb|hb
    .obtain⟨a1,a2,a3⟩:=eN.ifs s' b hb;exact⟨a1.le hE,a2,a3.imp (fun⟨c,hc⟩=>⟨c,qaR _ hc⟩) fun h=>h.le hE⟩
    simp only[qac,qby]at hb;obtain⟨rfl,rfl⟩:=hb;exact⟨nF,⟨dI.gs,dI.val,k5⟩,.inl ⟨cs,by simp⟩⟩
   .rcases qah.1 hp with hp|hp
    .simp only[qac]at hp;subst hp;exact Aw
    exact eN.Bv p hp
   have h2:SH w0 M (cp S0.bM) M2 (.own oZ 1 134 ((S.il++[(s,ib)]).map fun p=>[vp p.2]):: .part ib 247 cs 6:: .ah S.bb 79 (S.bc.set 3 oZ):: .ah S.tb 65 S.aR:: .ah S.ob 70 S.oc::S.gW.map fun p=> .part p.1 247 p.2 6) w:=by
    rw[qaq];exact h.del
   exact h2.qI
  refine ak h ?_;refine au (cs:=[vp ib]) h ?_;clear h;intro UN w h;have fu:S.il.length<=2^41:=by
   obtain⟨new,e,hl⟩:=dm.il;have h1:=dI.nX;have h2:=Ty.iW s.of;rw[qay]at hl;rw[e,qar];omega
  refine gJ h Mh h.df (de (cO (vs:=[vp ib]) rfl)) ?_ (hb:=by simp only[qat,qaw];omega);clear h;intro oZ w h;have kn:=h.lU (v:=oZ);refine eQ h ?_ (hv:=kn);clear h;intro w h;have hE:(S.ev W Mk).Le (({S with vi:=oZ,il:=S.il++[(s,ib)],gW:=[]++S.gW}:BS).ev W M2):=⟨bG.trans aQ,rfl,fun _ _ h=>h,fun _ _ _ h=>h,fun _ _ h=>qaA _ h⟩;have vA:dU W s.at_ (s.at_+s.of.size) s.of.aj S0 M {S with vi:=oZ,il:=S.il++[(s,ib)],gW:=[]++S.gW} M2:=by
   obtain⟨new,e,hl⟩:=dm.il;refine⟨dm.bb,dm.pb,dm.tb,dm.ob,dm.pk,dm.aR,dm.len,fun n hn=>dm.oc n (fun hx=>hn ⟨hx.1,qb4 hx.2 (Sp.HH _)⟩),⟨new++[(s,ib)],by show S.il++_=_;rw[e,qap],?_⟩,dm.le.trans (bG.trans aQ)⟩;have h1:=Ty.iW s.of;rw[qar];simp only[qaw];rw[qay]at hl;omega
  have nF:xS W (({S with vi:=oZ,il:=S.il++[(s,ib)],gW:=[]++S.gW}:BS).ev W M2) s ib:=by
   obtain⟨vm,ve,l',a1,a2,a3,a4,a5,a6⟩:=qu.all;refine⟨qu.own,qu.c0,qu.c3,qu.c4,qu.c5,vm,ve,l'.map (·.1),l'.map (·.2),ew,a1,a2,by rw[qbE];exact a3,a4,by rw[<-sH];exact a5.map _,?_,mg.mono fun _ _ _ h=>h.le hE⟩;refine bC.of_map fun q hq=> ?_;have vh:=a5.mem_iff.1 hq;exact fY.Nt (a6 q vh) (mq q vh)
  refine⟨M2,_,⟨{S with vi:=oZ,il:=S.il++[(s,ib)],gW:=[]++S.gW},rfl,vA,⟨eN.pk.le (bG.trans aQ),eN.inj,fun i v hv=>(eN.xD i v hv).imp_right fun⟨t,b,h1,h2⟩=>⟨t,b,h1,(bG.trans aQ).own _ h2⟩,fun s' b hb=> ?_,eN.Bv,OV⟩,.cM k5 (qaR _ (by simp))⟩,?_⟩
  .rcases qah.1 hb with hb|hb
   .obtain⟨a1,a2,a3⟩:=eN.ifs s' b hb;exact⟨a1.le hE,a2,a3.imp_right fun h=>h.le hE⟩
   simp only[qac,qby]at hb;obtain⟨rfl,rfl⟩:=hb;refine⟨nF,⟨dI.gs,dI.val,k5⟩,.inr ⟨tb,_,⟨d,hFt,qam _⟩,Dp,?_⟩⟩;have FB:s'.of.methods.length=0:=by rw[<-eC,O5];rfl
   have wU:s'.of.aD.length=0:=by have:=mg.len;rw[hv0,qb0]at this;exact this
   have FM:dj W (vW W d s'.of+1) s'=[]:=by
    rw[dj,wU];simp[m8,FB,iF,xN]
   rw[FM];exact⟨_,_,[],t6,Sl.nil _ _ _,FO,tV⟩
  have h2:SH w0 M (cp S0.bM) M2 (.own oZ 1 134 ((S.il++[(s,ib)]).map fun p=>[vp p.2]):: .ah S.bb 79 (S.bc.set 3 oZ):: .ah S.tb 65 S.aR:: .ah S.ob 70 S.oc::S.gW.map fun p=> .part p.1 247 p.2 6) w:=by
   rw[qaq];exact h.del
  exact h2.qI
 obtain⟨k0,nD,mt⟩:=hF.UP Kq k2 k3 k4 k5;refine au (cs:=[.int .i64 2,.int .i64 17,.int .i64 1]) h ?_;clear h;intro zf6 w h;refine ak h ?_;have d9:s.of.num=0\/s.of.num=1\/s.of.num=2:=by omega
 rcases d9 with h0|h0|h0;refine aJ 0 ?_ (by decide) (by rw[h0];rfl);refine ak h ?_;refine fk (R:=fun r M'=>∃b i nm,r=vp b/\Bk M' b [.int .i64 2,.int .i64 i,.string nm]) h ((zfx h.le).mono fun r w' ⟨M',b,i,nm,h1,h2,h3⟩=>⟨M',⟨b,i,nm,h1,h2⟩,h3⟩) ?_;rotate_left;refine aJ 1 ?_ (by decide) (by rw[h0];rfl);refine ak h ?_;refine fk (R:=fun r M'=>∃b i nm,r=vp b/\Bk M' b [.int .i64 17,.int .i64 i,.string nm]) h ((zfy h.le).mono fun r w' ⟨M',b,i,nm,h1,h2,h3⟩=>⟨M',⟨b,i,nm,h1,h2⟩,h3⟩) ?_;rotate_left;refine aJ 2 ?_ (by decide) (by rw[h0];rfl);refine ak h ?_;refine fk (R:=fun r M'=>∃b i nm,r=vp b/\Bk M' b [.int .i64 1,.int .i64 i,.string nm]) h ((zfw h.le).mono fun r w' ⟨M',b,i,nm,h1,h2,h3⟩=>⟨M',⟨b,i,nm,h1,h2⟩,h3⟩) ?_
 all_goals
  clear h;rintro r M1 w1 ⟨b,i,nm,rfl,hb⟩ bG h;exact⟨M1,_,⟨S,rfl,dU.qD (dU.refl _ _ _ _ _ _) bG,dI.ok.mono bG,.basic k0 hb⟩,h.tail.tail⟩
end
section
variable {w0:World}{M M':Mem}{ab n ob b j k:Nat}{t:TypeId}{x y v:Value}{f:FuncId}{args cs:List Value}{W:Wd}{E F:Ev}{S:BS}
theorem W6{o:Value}(sr:mI M n (.iface t x) y)(h:SH w0 M [ab] M [.ah ab 281 [o,vp ab,.iface t x,.nilIface]] w0):
 az prog 90 [vp ab] w0 fun r w'=>∃M' A',(r= .tuple #[]/\M'=M/\A'=[.ah ab 281 [o,vp ab,.iface t x,y]])/\SH w0 M [ab] M' A' w':=by
 refine aL mixed func90 WX ?_;refine du [.ah ab 281 [o,vp ab,.iface t x,.nilIface]] [] h (W7 sr) ?_;clear h;rintro _ M' A' w' ⟨rfl,rfl,rfl⟩ _ _ h;exact⟨_,_,⟨rfl,rfl,rfl⟩,h⟩
theorem zds{p:Option Addr}{s:ByteArray}(sr:mI M n (.iface t x) y)(h:SH w0 M [ob] M [.ah ob 220 [.int .i64 0,.pointer p,.string s,.nilIface]] w0):
 az prog 45 [vp ob,.iface t x] w0 fun r w'=>∃M' A',(∃ab,r=vp ab/\M'=M/\A'=[.ah ab 281 [vp ob,vp ab,.iface t x,y],.ah ob 220 [.int .i64 0,.pointer p,.string s,.iface 125 (vp ab)]])/\SH w0 M [ob] M' A' w':=by
 refine aL mixed func45 Wl ?_;refine du [.ah ob 220 [.int .i64 0,.pointer p,.string s,.nilIface]] [] h zdr ?_;clear h;rintro _ M' A' w' ⟨ab,rfl,rfl,rfl⟩ _ _ h;simp only[qa_,qbk,qaC]at h;refine du [.ah ab 281 [vp ob,vp ab,.iface t x,.nilIface]] [.ah ob 220 [.int .i64 0,.pointer p,.string s,.iface 125 (vp ab)]] h (W6 sr) ?_;clear h;rintro _ M' A' w' ⟨rfl,rfl,rfl⟩ _ _ h;exact⟨_,_,⟨ab,rfl,rfl,rfl⟩,h⟩
section
variable {u:World}{M0:Mem}{D:List Nat}{M:Mem}{L:List aB}{w:World}{P:Program}{S:List Nat}
theorem zcE{kp:Nat->Nat->Value->Prop}{G:Value->List Nat->World->Prop}(h:SH u M0 D M L w)(c:az P f args w (mL t cs w))(hk:∀w',SH u M0 D M L w'->∀b o v,kp b o v->w'.cell? ⟨b,o,none⟩=some v)(k:∀b w',w.heap.size<=b->b<w'.heap.size->SH u M0 D M (.ah b t cs::L) w'->G (vp b) (b::S) w'):
 az P f args w fun v w'=>∃S',(mJ kp S w w'/\∀b∈S',b∈S\/w.heap.size<=b)/\G v S' w':=
 c.mono fun r w' ⟨b,hr,hf,hb,hn⟩=>by
  subst hr;have h':=h.add (e:= .ah b t cs) hf hb (by simpa[aB.bX]using hn);exact⟨b::S,⟨⟨hf.nil,hk w' h'.tail⟩,fun b' aW=>by rcases qan.1 aW with rfl|aW;exact .inr hn;exact .inl aW⟩,k b w' hn hb.lt h'⟩
theorem zcF{kp:Nat->Nat->Value->Prop}{o:Nat}{cs':List Value}{L':List aB}{G:List Nat->World->Prop}(h:SH u M0 D M L w)(hk:∀w',SH u M0 D M L' w'->∀b o v,kp b o v->w'.cell? ⟨b,o,none⟩=some v)
 (k:∀w',SH u M0 D M L' w'->G S w') (hS:b∈S) (hu:Up L (.ah b t cs) (.ah b t cs') L':=by repeat(first|exact Up.here|apply Up.there)) (hs:fQ cs o v cs':=by repeat(first|exact fQ.here|apply fQ.there)) (hv:v.oneCell'=true:=by rfl):
 ∃t cs,(a_ w b t cs/\o<cs.length/\v.oneCell'=true)/\∀w1,Fr [b] w w1->a_ w1 b t (cs.set o v)->∃S',(mJ kp S w w1/\∀b'∈S',b'∈S\/w.heap.size<=b')/\G S' w1:=by
 obtain⟨L1,h1,_⟩:=hu.pk;obtain⟨rfl,ho⟩:=hs.set;exact⟨t,cs,⟨h.fK h1,ho,hv⟩,fun w1 hf hb=>⟨S,⟨⟨hf.jd fun b' aW=>by simp at aW;subst aW;exact hS,hk w1 (h.rS hu hf hb)⟩,fun _ hb=> .inl hb⟩,k w1 (h.rS hu hf hb)⟩⟩
theorem zdU{G:Value->List Nat->World->Prop}(h:SH u M0 D M L w)(c:az P f args w (mL t cs w))(k:∀b w',SH u M0 D M (.ah b t cs::L) w'->G (vp b) (b::S) w'):
 az P f args w fun v w'=>∃S',(Fr S w w'/\∀b∈S',b∈S\/w.heap.size<=b)/\G v S' w':=
 c.mono fun r w' ⟨b,hr,hf,hb,hn⟩=>by
  subst hr;exact⟨b::S,⟨hf.nil,fun b' aW=>by rcases qan.1 aW with rfl|aW;exact .inr hn;exact .inl aW⟩,k b w' (h.add hf hb (by simpa[aB.bX]using hn))⟩
end
def ux(W:Wd)(E:Ev)(j ob:Nat)(t:TypeId)(b:Nat):Prop:=Bk E.mem ob [.int .i64 0,vp (E.pk (W.at (j:Nat)).aC),.string (bZ (W.at (j:Nat)).name),.iface t (vp b)]
theorem ux.le(hl:E.Le F)(h:ux W E j ob t b):ux W F j ob t b:=by
 unfold ux at*;rw[<-hl.pk];exact h.le hl.mem
def uq(W:Wd)(E:Ev)(j ab:Nat):Prop:=∃ob x y n,Bk E.mem ab [vp ob,vp ab,x,y]/\ux W E j ob 125 ab/\Den W E (W.spot (j:Nat)) x/\Den W E (W.plain (W.spot (j:Nat))) y/\mI E.mem n x y
theorem uq.le(hl:E.Le F)(h:uq W E j ab):uq W F j ab:=by
 obtain⟨ob,x,y,n,h1,h2,h3,h4,h5⟩:=h;exact⟨ob,x,y,n,h1.le hl.mem,h2.le hl,h3.le hl,h4.le hl,h5.le hl.mem⟩
theorem Den.chain{s:Sp}(hL:dV W)(hd:Den W E s v)(hs:s.of.kind=1->W.has s.of.num)
 (iI:s.of.kind=1->(W.at s.of.num).bU=true->∀b,E.ty s.of.num.toNat b->uq W E s.of.num.toNat b):∃n y,mI E.mem n v y/\Den W E (W.plain s) y:=by
 by_cases hk:s.of.kind=1
 .by_cases ha:(W.at s.of.num).bU=true
  .have hh:=hs hk;have e:((s.of.num.toNat:Nat):Int)=s.of.num:=by have:=hh.1;omega
   cases hd with
   |named _ hv=>
    obtain⟨ob,x,y,n,h1,h2,h3,h4,h5⟩:=iI hk ha _ hv;rw[e]at h3 h4;have ht:dT W s.of.num.toNat=125:=by unfold dT;rw[e,if_pos ha]
    rw[ht,pQ hL hk hh ha];exact⟨n+1,y,.step (h1.at 2 rfl) h5,h4⟩
   |basic ad=>rw[hk]at ad;cases ad
   |ptr ad=>rw[hk]at ad;cases ad
   |lX ad=>rw[hk]at ad;cases ad
   |lZ ad=>rw[hk]at ad;cases ad
   |cM ad=>rw[hk]at ad;cases ad
  rw[eu (Or.inr (by simpa using ha))];refine⟨0,v,?_,hd⟩;have e:((s.of.num.toNat:Nat):Int)=s.of.num:=by have:=(hs hk).1;omega
  cases hd with
  |named _ hv=>
   have ht:dT W s.of.num.toNat=120:=by unfold dT;rw[e,if_neg ha]
   rw[ht];exact .stop (.inr rfl)
  |basic ad=>rw[hk]at ad;cases ad
  |ptr ad=>rw[hk]at ad;cases ad
  |lX ad=>rw[hk]at ad;cases ad
  |lZ ad=>rw[hk]at ad;cases ad
  |cM ad=>rw[hk]at ad;cases ad
 rw[eu (Or.inl hk)];refine⟨0,v,?_,hd⟩;cases hd with
 |named ad=>exact absurd ad hk
 |basic ad=>exact .stop (.inl (by simp[Plain]))
 |ptr ad=>exact .stop (.inl (by simp[Plain]))
 |lX ad=>exact .stop (.inl (by simp[Plain]))
 |lZ ad=>exact .stop (.inl (by simp[Plain]))
 |cM ad=>exact .stop (.inl (by simp[Plain]))
def BS.DY(S:BS)(k:Nat)(v:Value):BS:={S with aR:=S.aR.set k v}
theorem BS.Su(hl:M.Le M')(hn:S.aR[k]? =some .nilIface):(S.ev W M).Le ((S.DY k v).ev W M') where
 mem:=hl
 pk:=rfl
 ty:=fun n b hx=>by
  have iR:S.aR[n]? =some (.iface (dT W n) (vp b)):=hx;show(S.aR.set k v)[n]? =_;rw[qa7]
  .exact iR
  rintro rfl;rw[hn]at iR;cases iR
 ob:=fun _ _ _ h=>h
 cM:=fun _ _ h=>h
theorem fq.DY(h:fq W S M)(hl:M.Le M')(hn:S.aR[k]? =some .nilIface):fq W (S.DY k v) M':=by
 have hE:=S.Su (W:=W) (v:=v) hl hn;refine⟨h.pk.le hl,h.inj,fun i v hv=>(h.xD i v hv).imp_right fun⟨t,b,h1,h2⟩=>⟨t,b,h1,hl.own _ h2⟩,fun s b hb=> ?_,h.Bv,h.Dx⟩;obtain⟨h1,h2,h3⟩:=h.ifs s b hb;exact⟨h1.le hE,h2,h3.imp_right fun h=>h.le hE⟩
end
section
variable {W:Wd}{E:Ev}{b:Nat}{w0:World}{M:Mem}{t:TypeId}{x:Value}{s:Sp}{cs:List Value}
def rZ(W:Wd)(E:Ev)(j b:Nat):Prop:=∃ob u vm,∃bF:List Nat,Bk E.mem b [.pointer none,vp ob,.bool false,.int .i32 0,.int .u32 0,.int .u32 15,u,u,.bool false,vm]/\ux W E j ob 120 b/\Den W E (W.under (W.spot (j:Nat))) u/\Sl E.mem 1 gz vm (bF.map fun b=>[vp b])/\
 bF.length=(W.at (j:Nat)).methods.length/\∀(i x:Nat) (m:Int×Bool),bF[i]? =some x->(W.at (j:Nat)).methods[i]? =some m->fY E.mem E.pk (W.at (j:Nat)).aC m.1 m.2 x/\E.ob (W.start j+i) 128 x
theorem rZ.le{F:Ev}(hl:E.Le F){j:Nat}(h:rZ W E j b):rZ W F j b:=by
 obtain⟨ob,u,vm,bF,h1,h2,h3,h4,h5,h6⟩:=h;refine⟨ob,u,vm,bF,h1.le hl.mem,h2.le hl,h3.le hl,h4.mono hl.mem fun _ _ _ h=>h,h5,fun i x m a1 a2=> ?_⟩;obtain⟨h7,h8⟩:=h6 i x m a1 a2;rw[<-hl.pk];exact⟨h7.le hl.mem,hl.ob _ _ _ h8⟩
theorem GM(hM:M.Le (Wm w0))(h5:M.cell b 5=some (.int .u32 15)):az prog 103 [vp b] w0 fun r w'=>r=vp b/\w'=w0:=by
 refine aL mixed func103 Mz ?_;refine az.mono (zD (s:=15) (m:=3) (x:=true) (hM.cell _ _ _ h5) (by decide)) ?_;rintro _ w' ⟨rfl,rfl⟩;exact⟨rfl,rfl⟩
theorem zeh{u:Value}(hM:M.Le (Wm w0))(h6:M.cell b 6=some u):az prog 140 [vp b] w0 fun r w'=>r=u/\Fr [] w0 w':=by
 have h:=SH.start hM;refine aL mixed func140 Vk ?_;refine aP h h6 ?_;exact⟨rfl,h.fr⟩
theorem Rf(hM:M.Le (Wm w0))(h5:M.cell b 5=some (.int .u32 15))(h6:M.cell b 6=some (.iface t x))(h7:M.cell b 7=some (.iface t x)):
 az prog 108 [vp b] w0 fun r w'=>r= .iface t x/\Fr [] w0 w':=by
 have h:=SH.start hM;refine aL mixed func108 U2 ?_;refine s_call h (az.pl (GM h.le h5)) ?_;clear h;rintro _ w rfl h;refine s_call h (zeh h.le h6) ?_;clear h;rintro _ w rfl h;refine s_call h (az.pl (zD (s:=15) (m:=8) (x:=true) (h.le.cell _ _ _ h5) (by decide))) ?_;clear h;rintro _ w rfl h;refine aP h h7 ?_;exact⟨rfl,h.fr⟩
theorem zd9(ht:Plain t):∃f,fZ prog t x "Underlying" f x/\az prog f [x] w0 fun r w'=>r= .iface t x/\Fr [] w0 w':=by
 obtain⟨_,_,m3,m4,m5,m6,m7⟩:=KC x;rcases ht with rfl|rfl|rfl|rfl|rfl
 .exact⟨281,m6,aL mixed func281 VZ ⟨rfl,Fr.refl _⟩⟩
 .exact⟨282,m5,aL mixed func282 V0 ⟨rfl,Fr.refl _⟩⟩
 .exact⟨286,m3,aL mixed func286 V3 ⟨rfl,Fr.refl _⟩⟩
 .exact⟨288,m4,aL mixed func288 V4 ⟨rfl,Fr.refl _⟩⟩
 exact⟨290,m7,aL mixed func290 V6 ⟨rfl,Fr.refl _⟩⟩
theorem Tq{ab:Nat}(hM:M.Le (Wm w0))(h3:M.cell ab 3=some (.iface t x)):az prog 124 [vp ab] w0 fun r w'=>r= .iface t x/\Fr [] w0 w':=by
 have h:=SH.start hM;refine aL mixed func124 MB ?_;refine aP h h3 ?_;refine aP h h3 ?_;exact⟨rfl,h.fr⟩
theorem Tt(hL:dV W)(hM:E.mem.Le (Wm w0))(hd:Den W E s (.iface t x))(hs:s.of.kind=1->W.has s.of.num/\(W.at s.of.num).bU=false)
 (cD:s.of.kind=1->∀b,E.ty s.of.num.toNat b->rZ W E s.of.num.toNat b):
 ∃f,fZ prog t x "Underlying" f x/\az prog f [x] w0 fun r w'=>Den W E (W.under s) r/\Fr [] w0 w':=by
 by_cases hk:s.of.kind=1
 .obtain⟨hh,ha⟩:=hs hk;have e:((s.of.num.toNat:Nat):Int)=s.of.num:=by have:=hh.1;omega
  have ht:dT W s.of.num.toNat=120:=by unfold dT;rw[e,ha];rfl
  generalize hv:Value.iface t x=v at hd;cases hd with
  |named _ iQ=>
   rename_i b;rw[ht]at hv;obtain⟨rfl,rfl⟩:=qaP hv;obtain⟨ob,u,vm,bF,h1,_,h3,_⟩:=cD hk _ iQ;obtain⟨tu,bu,rfl,_⟩:=h3.iface;rw[e]at h3;rw[kM hL hk hh];exact⟨108,(KC _).1,(Rf hM (h1.at 5 rfl) (h1.at 6 rfl) (h1.at 7 rfl)).mono fun r w' ⟨hr,hf⟩=>⟨hr▸h3,hf⟩⟩
  |basic ad=>rw[hk]at ad;cases ad
  |ptr ad=>rw[hk]at ad;cases ad
  |lX ad=>rw[hk]at ad;cases ad
  |lZ ad=>rw[hk]at ad;cases ad
  |cM ad=>rw[hk]at ad;cases ad
 rw[fO hk];have hp:Plain t:=by
  obtain⟨t',b',e,h⟩:=hd.iface;obtain⟨rfl,rfl⟩:=qaP e;rcases h with⟨rfl,h⟩|⟨rfl,h⟩|⟨rfl,_⟩|⟨rfl,_⟩|⟨rfl,_⟩|⟨rfl,_⟩|⟨rfl,_⟩
  .exact absurd h hk
  .exact absurd h hk
  all_goals simp[Plain]
 obtain⟨f,h1,h2⟩:=zd9 (w0:=w0) (x:=x) hp;exact⟨f,h1,h2.mono fun r w' ⟨hr,hf⟩=>⟨hr▸hd,hf⟩⟩
theorem Tu(hL:dV W)(hM:E.mem.Le (Wm w0))(hd:Den W E s (.iface t x))(hs:s.of.kind=1->W.has s.of.num)
 (iI:s.of.kind=1->(W.at s.of.num).bU=true->∀b,E.ty s.of.num.toNat b->uq W E s.of.num.toNat b)
 (cD:(W.plain s).of.kind=1->∀b,E.ty (W.plain s).of.num.toNat b->rZ W E (W.plain s).of.num.toNat b):
 ∃f,fZ prog t x "Underlying" f x/\az prog f [x] w0 fun r w'=>Den W E (W.under s) r/\Fr [] w0 w':=by
 by_cases ha:s.of.kind=1/\(W.at s.of.num).bU=true
 .obtain⟨hk,ha⟩:=ha;have hh:=hs hk;have e:((s.of.num.toNat:Nat):Int)=s.of.num:=by have:=hh.1;omega
  have ht:dT W s.of.num.toNat=125:=by unfold dT;rw[e,if_pos ha]
  generalize hv:Value.iface t x=v at hd;cases hd with
  |named _ iQ=>
   rename_i b;rw[ht]at hv;obtain⟨rfl,rfl⟩:=qaP hv;obtain⟨ob,x1,y,n,h1,_,_,h4,_⟩:=iI hk ha _ iQ;obtain⟨ty,My,rfl,_⟩:=h4.iface;rw[e]at h4;have hp:=pQ hL hk hh ha;rw[<-hp]at h4;refine⟨279,(KC _).2.1,?_⟩;have h:=SH.start hM;refine aL mixed func279 VX ?_;refine s_call h (Tq h.le (h1.at 3 rfl)) ?_;clear h;rintro _ w rfl h;obtain⟨f,m1,m2⟩:=Tt (w0:=w) hL h.le h4 (fun hk=>pR hL hs hk) cD;refine⟨f,_,m1,?_⟩;refine s_call h m2 ?_;clear h;intro r w hr h;rw[ku hL hs]at hr;exact⟨hr,h.fr⟩
  |basic ad=>rw[hk]at ad;cases ad
  |ptr ad=>rw[hk]at ad;cases ad
  |lX ad=>rw[hk]at ad;cases ad
  |lZ ad=>rw[hk]at ad;cases ad
  |cM ad=>rw[hk]at ad;cases ad
 have hp:W.plain s=s:=eu (by
  by_cases hk:s.of.kind=1
  .exact .inr (by simpa using fun h=>ha ⟨hk,h⟩)
  exact .inl hk)
 rw[hp]at cD;exact Tt hL hM hd (fun hk=>⟨hs hk,by simpa using fun h=>ha ⟨hk,h⟩⟩) cD
theorem zeP{w:World}{t:Nat}(ht:Plain t)(hx:x.oneCell'=true)(hl:cs.length=10)(h:a_ w b 218 cs)(h3:cs[3]? =some (.int .i32 0)){s:Int}(h5:cs[5]? =some (.int .u32 s))(hs:s=0\/s=7):
 az prog 50 [vp b,.iface t x] w fun r w'=>r= .tuple #[]/\Fr [b] w w'/\a_ w' b 218 ((((cs.set 2 (.bool false)).set 5 (.int .u32 15)).set 6 (.iface t x)).set 7 (.iface t x)):=
 uC func50 (c:=_) rfl (by kernel_rfl) ((zeQ ht hx hl h h3 h5 hs).mono fun e w' ⟨h1,h2,h3⟩=>⟨_,h1,rfl,h2,h3⟩)
section
variable {u:World}{M0:Mem}{D:List Nat}{M:Mem}{L:List aB}{w:World}{P:Program}{S:List Nat}
theorem zcD{kp:Nat->Nat->Value->Prop}{f:FuncId}{args:List Value}{R:Value->Prop}{G:Value->List Nat->World->Prop}{cs':List Value}{L':List aB}(h:SH u M0 D M L w)(c:az P f args w fun r w'=>R r/\Fr [b] w w'/\a_ w' b t cs')
 (hk:∀w',SH u M0 D M L' w'->∀b o v,kp b o v->w'.cell? ⟨b,o,none⟩=some v) (hS:b∈S) (k:∀r w',R r->SH u M0 D M L' w'->G r S w') (hu:Up L (.ah b t cs) (.ah b t cs') L':=by repeat(first|exact Up.here|apply Up.there)):
 az P f args w fun v w'=>∃S',(mJ kp S w w'/\∀b∈S',b∈S\/w.heap.size<=b)/\G v S' w':=
 c.mono fun r w' ⟨hr,hf,hb⟩=>⟨S,⟨⟨hf.jd fun x hx=>by simp at hx;subst hx;exact hS,hk w' (h.rS hu hf hb)⟩,fun _ hb=> .inl hb⟩,k r w' hr (h.rS hu hf hb)⟩
end
theorem Den.plain(hd:Den W E s (.iface t x))(hk:s.of.kind≠1):Plain t:=by
 obtain⟨t',b',e,h⟩:=hd.iface;obtain⟨rfl,rfl⟩:=qaP e;rcases h with⟨rfl,h⟩|⟨rfl,h⟩|⟨rfl,_⟩|⟨rfl,_⟩|⟨rfl,_⟩|⟨rfl,_⟩|⟨rfl,_⟩
 .exact absurd h hk
 .exact absurd h hk
 all_goals simp[Plain]
end
section
variable {M:Mem}{v v':Value}{w0:World}{pk:Int->Nat}
theorem iV.lit(h:iV M v):∃q b o c,v= .slice (some ⟨b,o,none⟩) 1 c/\1<=c/\M.cell b o=some (vp q)/\Bk M q [.bool false,.nilIface]:=by
 obtain⟨q,⟨a,c,rfl,hc,cE⟩,hq⟩:=h;obtain⟨b,o,cs,rfl,hl,aO,hx⟩:=cE.at (i:=0) (by simp);have h1:cs=[vp q]:=hx;have:=aO 0 (vp q) (by rw[h1];rfl);exact⟨q,b,o,c,rfl,hc,by simpa using this,hq⟩
theorem Kn(hM:M.Le (Wm w0))(hv:iV M v):az prog 225 [v] w0 fun r w'=>r= .bool false/\Fr [] w0 w':=by
 obtain⟨q,b,o,c,rfl,hc,hq,hb⟩:=hv.lit;have h:=SH.start hM;refine aL mixed func225 VM ?_;refine bN (X:=Unit) (fun _=>[(0,.slice (some ⟨b,o,none⟩) 1 c),(5,.slice (some ⟨b,o,none⟩) 1 c),(6,.int .i64 1),(7,.int .i64 0)]) (fun _ w=>SH w0 M [] M [] w) (fun _=>0) () ⟨rfl,rfl,rfl,rfl,tV⟩ h ?_;clear h;rintro _ aK w N h hN;refine aI (fun aG=> ?_) (fun aY=> ?_);rotate_left 1
 .omega
 refine aJ (0) ?_;refine aP h (by simpa using hq) ?_;exact⟨rfl,h.fr⟩
theorem zfj{x y:Nat}(hM:M.Le (Wm w0))(hx:Bk M x [.bool false,.nilIface]):az prog 226 [vp x,vp y] w0 fun r w'=>r=vp y/\Fr [] w0 w':=by
 have h:=SH.start hM;refine aL mixed func226 VN ?_;refine aP h (hx.at 1 rfl) ?_;refine aI trivial ?_;exact⟨rfl,h.fr⟩
theorem Md:h_ prog 182 182 327 1 8=true:=by kernel_rfl
theorem zdF(hM:M.Le (Wm w0))(hv:iV M v):az prog 224 [v] w0 fun r w'=>∃M',iV M' r/\Gr M w0 M' w':=by
 obtain⟨q,b,o,c,rfl,hc,hq,hb⟩:=hv.lit;have h:=SH.start hM;refine aL mixed func224 VL ?_;refine qai 1 (aI ⟨rfl,by omega,by omega⟩ ?_);refine au (cs:=[.bool false]) h ?_;clear h;intro ub w h;replace h:=h.gV 1 327;refine bN (X:=Nat×Value×List (List Value)) (fun y=>[(0,.slice (some ⟨b,o,none⟩) 1 c),(3,.slice (some ⟨ub,0,none⟩) 1 1),(4,y.2.1),(14,.slice (some ⟨b,o,none⟩) 1 c),(15,.int .i64 1),(16,.int .i64 (y.1:Int))]) (fun y w=>y.1<=1/\y.2.2=(if y.1=0 then []else [[vp q]])/\SH w0 M [] M [.own y.2.1 1 327 y.2.2,.ah ub 4 [.bool false]] w) (fun y=>1-y.1) (0,.slice none 0 0,[]) ⟨rfl,rfl,rfl,rfl,rfl,rfl,tV⟩ ⟨qae _,rfl,h⟩ ?_;clear h;rintro⟨k,v4,css⟩ aK w N ⟨hk,he,h⟩ hN;simp only at hk he h;refine aI (fun aG=> ?_) (fun aY=> ?_);rotate_left 1
 .obtain rfl:k=1:=by omega
  simp only[if_neg (show ¬(1=0) by decide)]at he;subst he;obtain⟨M',hle,hs,h⟩:=h.d6 v4;exact⟨M',⟨q,hs,hb.le hle⟩,h.gr⟩
 obtain rfl:k=0:=by omega
 obtain rfl:css=[]:=he;refine aJ (0) ?_;refine aP h (by simpa using hq) ?_;refine aJ (0) ?_;refine ak h ?_;refine aA (1) ?_;refine fB (X:=Unit) (Y:=Unit) 2 (fun _=>[(0,.slice (some ⟨b,o,none⟩) 1 c),(3,.slice (some ⟨ub,0,none⟩) 1 1),(4,v4),(6,vp q),(7,.int .i64 1),(14,.slice (some ⟨b,o,none⟩) 1 c),(15,.int .i64 1),(16,.int .i64 0)]) (fun _ w=>SH w0 M [] M [.own v4 1 327 [],.ah ub 4 [.bool false]] w) (fun _=>0)
  (fun _=>[(0,.slice (some ⟨b,o,none⟩) 1 c),(3,.slice (some ⟨ub,0,none⟩) 1 1),(4,v4),(6,vp q),(14,.slice (some ⟨b,o,none⟩) 1 c),(15,.int .i64 1),(16,.int .i64 0)]) (fun _ w=>SH w0 M [] M [.own v4 1 327 [],.ah ub 4 [.bool false]] w) () ⟨rfl,rfl,rfl,rfl,rfl,rfl,rfl,rfl,tV⟩ h ?_ ?_
 .clear h;rintro _ aK w N' Z h E6 hZ;refine aI (fun aG=> ?_) (fun aY=> ?_)
  .omega
  exact hZ () _ _ ⟨rfl,rfl,rfl,rfl,rfl,rfl,rfl,tV⟩ h
 clear h;rintro _ aK w h;refine au (cs:=[vp q]) h ?_;clear h;intro tb w h;refine gJ h Md h.df (de (cO (vs:=[vp q]) rfl)) ?_ (hb:=by simp);clear h;intro v' w h;refine aA (1) ?_;exact hN (1,v',[[vp q]]) _ _ ⟨rfl,rfl,rfl,rfl,rfl,rfl,tV⟩ ⟨qad _,rfl,h.aF⟩ (by simp only;omega)
theorem zcv(hM:M.Le (Wm w0))(hv:iV M v)(iQ:iV M v'):az prog 201 [v,v'] w0 fun r w'=>∃M',iV M' r/\Gr M w0 M' w':=by
 have h:=SH.start hM;refine aL mixed func201 c201 ?_;refine s_call h (Kn h.le hv) ?_;clear h;rintro _ w rfl h;refine s_call h (Kn h.le iQ) ?_;clear h;rintro _ w rfl h;obtain⟨q,b,o,c,rfl,hc,hq,hb⟩:=hv.lit;obtain⟨q',b',o',c',rfl,gg,vh,aW⟩:=iQ.lit;refine fB (X:=Nat×Value×List (List Value)) (Y:=Value) 0 (fun y=>[(0,.slice (some ⟨b,o,none⟩) 1 c),(1,.slice (some ⟨b',o',none⟩) 1 c'),(5,y.2.1),(17,.slice (some ⟨b,o,none⟩) 1 c),(18,.int .i64 1),(19,.int .i64 (y.1:Int))]) (fun y w=>y.1<=1/\y.2.2=(if y.1=0 then []else [[vp q']])/\SH w0 M [] M [.own y.2.1 1 327 y.2.2] w) (fun y=>1-y.1)
  (fun y=>[(5,y)]) (fun y w=>SH w0 M [] M [.own y 1 327 [[vp q']]] w) (0,.slice none 0 0,[]) ⟨rfl,rfl,rfl,rfl,rfl,rfl,tV⟩ ⟨qae _,rfl,h.gV 1 327⟩ ?_ ?_
 .clear h;rintro⟨k,v5,css⟩ aK w N Z ⟨hk,he,h⟩ hN hZ;simp only at hk he h;refine aI (fun aG=> ?_) (fun aY=> ?_);rotate_left 1
  .obtain rfl:k=1:=by omega
   simp only[if_neg (show ¬(1=0) by decide)]at he;subst he;exact hZ v5 _ _ ⟨rfl,tV⟩ h
  obtain rfl:k=0:=by omega
  obtain rfl:css=[]:=he;refine aJ (0) ?_;refine aP h (by simpa using hq) ?_;refine fB (X:=Nat×Value×List (List Value)) (Y:=Value) 2 (fun y=>[(0,.slice (some ⟨b,o,none⟩) 1 c),(1,.slice (some ⟨b',o',none⟩) 1 c'),(5,y.2.1),(7,vp q),(17,.slice (some ⟨b,o,none⟩) 1 c),(18,.int .i64 1),(19,.int .i64 0),(23,.slice (some ⟨b',o',none⟩) 1 c'),(24,.int .i64 1),(25,.int .i64 (y.1:Int))]) (fun y w=>y.1<=1/\y.2.2=(if y.1=0 then []else [[vp q']])/\SH w0 M [] M [.own y.2.1 1 327 y.2.2] w) (fun y=>1-y.1)
   (fun y=>[(0,.slice (some ⟨b,o,none⟩) 1 c),(1,.slice (some ⟨b',o',none⟩) 1 c'),(5,y),(17,.slice (some ⟨b,o,none⟩) 1 c),(18,.int .i64 1),(19,.int .i64 0)]) (fun y w=>SH w0 M [] M [.own y 1 327 [[vp q']]] w) (0,v5,[]) ⟨rfl,rfl,rfl,rfl,rfl,rfl,rfl,rfl,rfl,rfl,tV⟩ ⟨qae _,rfl,h⟩ ?_ ?_
  .clear h;rintro⟨k,v5,css⟩ aK w N' Z' ⟨hk,he,h⟩ E6 H5;simp only at hk he h;refine aI (fun aG=> ?_) (fun aY=> ?_);rotate_left 1
   .obtain rfl:k=1:=by omega
    simp only[if_neg (show ¬(1=0) by decide)]at he;subst he;exact H5 v5 _ _ ⟨rfl,rfl,rfl,rfl,rfl,rfl,tV⟩ h
   obtain rfl:k=0:=by omega
   obtain rfl:css=[]:=he;refine aJ (0) ?_;refine aP h (by simpa using vh) ?_;refine s_call h (zfj h.le hb) ?_;clear h;rintro _ w rfl h;refine au (cs:=[vp q']) h ?_;clear h;intro tb w h;refine gJ h Md h.df (de (cO (vs:=[vp q']) rfl)) ?_ (hb:=by simp);clear h;intro v' w h;refine aA (1) ?_;exact E6 (1,v',[[vp q']]) _ _ ⟨rfl,rfl,rfl,rfl,rfl,rfl,rfl,rfl,rfl,rfl,tV⟩ ⟨qad _,rfl,h.aF⟩ (by simp only;omega)
  clear h;rintro v5 aK w h;refine aA (1) ?_;exact hN (1,v5,[[vp q']]) _ _ ⟨rfl,rfl,rfl,rfl,rfl,rfl,tV⟩ ⟨qad _,rfl,h⟩ (by simp only;omega)
 clear h;rintro v5 aK w h;obtain⟨M1,hle,hs,h⟩:=h.d6 v5;refine fk h (zdF h.le ⟨q',hs,aW.le hle⟩) ?_;clear h;intro r M2 w hr aQ h;exact⟨M2,hr,h.gr⟩
theorem EE{w:World}:az prog 101 [.bool true] w fun r w'=>r= .tuple #[]/\Fr [] w w':=Hd.mono fun r w' ⟨h1,h2⟩=>⟨h1,h2▸Fr.refl _⟩
theorem zcw(hM:M.Le (Wm w0))(hv:iV M v)(iQ:iV M v'):az prog 154 [v,.bool false,v',.bool false] w0 fun r w'=>∃M',(∃u,r= .tuple #[u,.bool false]/\iV M' u)/\Gr M w0 M' w':=by
 have h:=SH.start hM;refine aL mixed func154 Vt ?_;refine fk h (zcv h.le hv iQ) ?_;clear h;intro r M1 w hr bG h;refine s_call h EE ?_;clear h;rintro _ w rfl h;exact⟨M1,⟨r,rfl,hr⟩,h.gr⟩
structure kP where
 sb:Nat
 mo:Option (Nat×Array MapEntry)
 ab:Nat
 vm:Value
 acc:List (bD×Nat)
 pb:Nat
 pm:Nat
 es:Array MapEntry
@[reducible]def kP.bM(g:kP):List aB:=[.ah g.ab 180 [g.vm],.own g.vm 1 128 (g.acc.map fun q=>[vp q.2]),.ah g.pb 322 [.map (some g.pm)],.map g.pm g.es]++oS g.sb g.mo
structure nh(g:kP)(M:Mem)(pk:Int->Nat):Prop where
 os:∃l,Et g.mo l/\(∀q∈l,(∃x∈g.acc,x.1.id=q.1)/\∃t' b',q.2= .iface t' (vp b'))/\∀x∈g.acc,∃q∈l,q.1=x.1.id
 key:∀p∈bt g.es,∃b,p.1=vp b/\M.own b
 nd:((bt g.es).map (·.1)).Nodup
 all:∀x∈g.acc,fY M pk x.1.aC x.1.name false x.2/\cN x.1.aC/\bL x.1.name
theorem nh.le{g:kP}{N:Mem}(hl:M.Le N)(h:nh g M pk):nh g N pk:=
 ⟨h.os,fun p hp=>by obtain⟨b,h1,h2⟩:=h.key p hp;exact⟨b,h1,hl.own _ h2⟩,h.nd,fun x hx=>⟨(h.all x hx).1.le hl,(h.all x hx).2⟩⟩
def n5(acc:List (bD×Nat))(x:bD×Nat):List (bD×Nat):=if∃y∈acc,y.1.id=x.1.id then acc else acc++[x]
theorem zfu:prog.underlying 322=some (.map 128 124):=by kernel_rfl
theorem zfs:prog.underlying 128=some (.pointer 240):=by kernel_rfl
theorem zco:(prog.info? 240).map (fun j=>Nat.beq j.size 0)=some false:=by kernel_rfl
theorem zcJ(w:World):KL prog w 128 (zO w):=by
 have h:=zco;cases hi:prog.info? 240 with
 |none=>rw[hi]at h;cases h
 |some j=>rw[hi]at h;exact QJ zfs hi (qaF h)
theorem L8{g:kP}{m:bD}{fb:Nat}{pos:Value}{ex:Bool}(hT:fA M)(dW:∀p,cN p->∃x,Bk M (pk p) [.string (dY p),x])(hg:nh g M pk)(hf:fY M pk m.aC m.name false fb)(hp:cN m.aC)(hn:bL m.name)(hlen:g.acc.length<=2^40)
 (h:SH w0 M (cp g.bM) M g.bM w0):
 az prog 150 [pos,vp fb,.bool ex,vp g.sb,vp g.ab,vp g.pb] w0 fun r w'=>∃M' A',(∃g',M'=M/\A'=g'.bM/\g'.acc=n5 g.acc (m,fb)/\g'.sb=g.sb/\g'.ab=g.ab/\g'.pb=g.pb/\g'.pm=g.pm/\nh g' M pk)/\SH w0 M (cp g.bM) M' A' w':=by
 obtain⟨sb,mo,ab,vm,acc,pb,pm,es⟩:=g;obtain⟨⟨l,mu,nB,cR⟩,Fx,pE,cz⟩:=hg;simp only at mu nB cR Fx pE cz hlen h⊢;obtain⟨sg,rb,rt,kk,dQ,Dn⟩:=id hf;obtain⟨px,pG⟩:=dW m.aC hp;generalize hD:cp (kP.bM ⟨sb,mo,ab,vm,acc,pb,pm,es⟩)=D at h⊢;refine aL mixed func150 Vr ?_;refine du (oS sb mo) [.ah ab 180 [vm],.own vm 1 128 (acc.map fun q=>[vp q.2]),.ah pb 322 [.map (some pm)],.map pm es] h.mG (Qr (F3 fb) hT (dQ.at 1 rfl) (dQ.at 2 rfl) pG hp hn (fun q hq=>(nB q hq).2) mu) ?_;clear h;rintro r M1 A1 w ⟨rfl,hr⟩ _ _ h;rcases hr with⟨q,hq,tX,rfl,rfl⟩|⟨bz,rfl,dH,Pu,rfl⟩
 .obtain⟨⟨x,hx,jY⟩,t',b',tW⟩:=nB q hq;obtain⟨q1,q2⟩:=q;simp only at tW tX jY⊢;subst tW;have hd:n5 acc (m,fb)=acc:=if_pos ⟨x,hx,jY.trans tX⟩;have sz:∃M' A',(∃g':kP,M'=M1/\A'=g'.bM/\g'.acc=n5 acc (m,fb)/\g'.sb=sb/\g'.ab=ab/\g'.pb=pb/\g'.pm=pm/\nh g' M1 pk)/\SH w0 M1 D M' A' w:=⟨M1,_,⟨⟨sb,mo,ab,vm,acc,pb,pm,es⟩,rfl,rfl,hd.symm,rfl,rfl,rfl,rfl,⟨l,mu,nB,cR⟩,Fx,pE,cz⟩,h.mG⟩;cases ex with
  |true=>exact sz
  |false=>exact sz
 replace h:=h.mG;refine aI trivial ?_;refine ak h ?_;refine au (cs:=[vp fb]) h ?_;clear h;intro tb w h;refine gJ h Hb h.df (de (cO (vs:=[vp fb]) rfl)) ?_ (hb:=by simp only[qat,qaw];omega);clear h;intro v' w h;replace h:=h.del;have kn:=h.lU (v:=v');refine eQ h ?_ (hv:=kn);clear h;intro w h;refine ak h ?_;have Ar:∀{b:Nat},M1.own b->iE w b:=fun hb=>h.le.own _ hb;refine Sm (key:=vp fb) (val:=pos) h (zcJ w) rfl rfl rfl zfu (fun p hp=>by obtain⟨b,h1,h2⟩:=Fx p hp;exact⟨b,h1,Ar h2⟩) ⟨fb,rfl,Ar dQ.own⟩ pE ?_;clear h Ar;intro bP w' hu h;have hd:n5 acc (m,fb)=acc++[(m,fb)]:=if_neg fun⟨y,hy,oN⟩=>by
  obtain⟨q,hq,tX⟩:=cR y hy;exact bz q hq (tX.trans oN)
 refine⟨M1,_,⟨⟨sb,dH,ab,v',acc++[(m,fb)],pb,pm,bP⟩,rfl,rfl,hd.symm,rfl,rfl,rfl,rfl,⟨_,Pu,fun q hq=> ?_,fun x hx=> ?_⟩,fun p hp=> ?_,hu.nd pE,fun x hx=> ?_⟩,?_⟩
 .rcases qan.1 hq with rfl|hq
  .exact⟨⟨(m,fb),by simp,rfl⟩,_,_,rfl⟩
  obtain⟨⟨x,hx,jY⟩,h2⟩:=nB q hq;exact⟨⟨x,qaA _ hx,jY⟩,h2⟩
 .rcases qah.1 hx with hx|hx
  .obtain⟨q,hq,tX⟩:=cR x hx;exact⟨q,qag _ hq,tX⟩
  simp only[qac]at hx;subst hx;exact⟨_,qal,rfl⟩
 .obtain⟨k,v⟩:=p;rcases(hu.mem k v).1 hp with⟨rfl,_⟩|⟨_,hm⟩
  .exact⟨fb,rfl,dQ.own⟩
  exact Fx _ hm
 .rcases qah.1 hx with hx|hx
  .exact cz x hx
  simp only[qac]at hx;subst hx;exact⟨hf,‹cN m.aC›,hn⟩
 simp only[kP.bM,qaq,qaB,qa0,qa_,qbk];exact h.qI
end
section
variable {E:Ev}{M N:Mem}{W:Wd}{s:Sp}{w0:World}{t:TypeId}{x:Value}{P:List (Nat×List Value)}{n:Nat}
def Ev.at_(E:Ev)(M:Mem):Ev:={E with mem:=M}
theorem Ev.tA(h:M.Le N):(E.at_ M).Le (E.at_ N):=⟨h,rfl,fun _ _ h=>h,fun _ _ _ h=>h,fun _ _ h=>h⟩
structure Ctx(W:Wd)(E:Ev):Prop where
 jt:fA E.mem
 pk:∀p,cN p->∃x,Bk E.mem (E.pk p) [.string (dY p),x]
 nm:∀(j b:Nat),j<W.length->(W.at (j:Nat)).bU=false->E.ty j b->rZ W E j b
 al:∀(j b:Nat),j<W.length->(W.at (j:Nat)).bU=true->E.ty j b->uq W E j b
 ifs:∀s b,E.cM s b->xS W E s b/\BV W s
 A_:∀s s' b,E.cM s b->E.cM s' b->s=s'
theorem Ctx.le(h:M.Le N)(c:Ctx W (E.at_ M)):Ctx W (E.at_ N):=
 ⟨c.jt.le h,fun p hp=>by obtain⟨x,hx⟩:=c.pk p hp;exact⟨x,hx.le h⟩,fun j b h1 h2 h3=>(c.nm j b h1 h2 h3).le (Ev.tA h),fun j b h1 h2 h3=>(c.al j b h1 h2 h3).le (Ev.tA h),fun s b h1=>⟨(c.ifs s b h1).1.le (Ev.tA h),(c.ifs s b h1).2⟩,c.A_⟩
theorem Ctx.num{E:Ev}(hs:W.has s.of.num):((s.of.num.toNat:Nat):Int)=s.of.num:=by have:=hs.1;omega
theorem Ctx.under(c:Ctx W E)(hL:dV W)(hM:E.mem.Le (Wm w0))(hd:Den W E s (.iface t x))(hs:s.of.kind=1->W.has s.of.num):
 ∃f,fZ prog t x "Underlying" f x/\az prog f [x] w0 fun r w'=>Den W E (W.under s) r/\Fr [] w0 w':=by
 refine Tu hL hM hd hs (fun hk ha b hb=> ?_) (fun hk b hb=> ?_)
 .have e:((s.of.num.toNat:Nat):Int)=s.of.num:=by have:=(hs hk).1;omega
  exact c.al _ b (hs hk).2 (by rw[e];exact ha) hb
 obtain⟨h1,h2⟩:=pR hL hs hk;have e:(((W.plain s).of.num.toNat:Nat):Int)=(W.plain s).of.num:=by have:=h1.1;omega
 exact c.nm _ b h1.2 (by rw[e];exact h2) hb
theorem Ctx.Eb(c:Ctx W E)(hL:dV W)(hM:E.mem.Le (Wm w0))(hd:Den W E s (.iface t x))(hs:s.of.kind=1->W.has s.of.num):
 az prog 112 [.iface t x] w0 fun r w'=>Den W E (W.plain s) r/\Fr [] w0 w':=by
 by_cases ha:s.of.kind=1/\(W.at s.of.num).bU=true
 .obtain⟨hk,ha⟩:=ha;have hh:=hs hk;have e:((s.of.num.toNat:Nat):Int)=s.of.num:=by have:=hh.1;omega
  have ht:dT W s.of.num.toNat=125:=by unfold dT;rw[e,if_pos ha]
  generalize hv:Value.iface t x=v at hd⊢;cases hd with
  |named ek iQ=>
   rename_i b;rw[ht];obtain⟨ob,x1,y,n,h1,_,_,h4,_⟩:=c.al _ b hh.2 (by rw[e];exact ha) iQ;obtain⟨ty,My,rfl,_⟩:=h4.iface;rw[e,<-pQ hL hk hh ha]at h4;have h:=SH.start hM;refine aL mixed func112 EL ?_;refine s_call h (Tq h.le (h1.at 3 rfl)) ?_;clear h;rintro _ w rfl h;exact⟨h4,h.fr⟩
  |basic ad=>rw[hk]at ad;cases ad
  |ptr ad=>rw[hk]at ad;cases ad
  |lX ad=>rw[hk]at ad;cases ad
  |lZ ad=>rw[hk]at ad;cases ad
  |cM ad=>rw[hk]at ad;cases ad
 have hp:W.plain s=s:=eu (by
  by_cases hk:s.of.kind=1
  .exact .inr (by simpa using fun h=>ha ⟨hk,h⟩)
  exact .inl hk)
 rw[hp];have ht:Plain t\/t=120:=by
  obtain⟨t',b',e,h⟩:=hd.iface;obtain⟨rfl,rfl⟩:=qaP e;rcases h with⟨rfl,h⟩|⟨rfl,h⟩|⟨rfl,_⟩|⟨rfl,_⟩|⟨rfl,_⟩|⟨rfl,_⟩|⟨rfl,_⟩
  .exact .inr rfl
  .exfalso;have e:((s.of.num.toNat:Nat):Int)=s.of.num:=by have:=(hs h).1;omega
   generalize hv:Value.iface 125 (vp b')=v at hd;cases hd with
   |named _ iQ=>
    have hq:=(qaP hv).1;unfold dT at hq;rw[e,if_neg (fun h'=>ha ⟨h,h'⟩)]at hq;cases hq
   |basic ad=>rw[h]at ad;cases ad
   |ptr ad=>rw[h]at ad;cases ad
   |lX ad=>rw[h]at ad;cases ad
   |lZ ad=>rw[h]at ad;cases ad
   |cM ad=>rw[h]at ad;cases ad
  all_goals exact .inl (by simp[Plain])
 refine(zI (ht.imp_right .inl)).mono ?_;rintro r w' ⟨rfl,rfl⟩;exact⟨hd,Fr.refl _⟩
theorem Ctx.zdG(c:Ctx W E)(hL:dV W)(hM:E.mem.Le (Wm w0))(hd:Den W E s (.iface t x))(hs:s.of.kind=1->W.has s.of.num):
 az prog 151 [.iface t x] w0 fun r w'=>r= .bool false/\Fr [] w0 w':=by
 have h:=SH.start hM;refine aL mixed func151 Vs ?_;refine s_call h (c.Eb hL h.le hd hs) ?_;clear h;intro r w hr h;obtain⟨t',b',rfl,ht⟩:=hr.iface;rcases ht with⟨rfl,_⟩|⟨rfl,_⟩|⟨rfl,_⟩|⟨rfl,_⟩|⟨rfl,_⟩|⟨rfl,_⟩|⟨rfl,_⟩<;>exact⟨rfl,h.fr⟩
@[reducible]def fI(P:List (Nat×List Value)):List aB:=P.map fun p=> .part p.1 247 p.2 6
structure o7(W:Wd)(E:Ev)(n:Nat)(P:List (Nat×List Value)):Prop where
 each:∀s b,E.cM s b->g_ W n s->(∃cs,(b,cs)∈P)\/r_ W E s b
 nil:∀p∈P,p.2[6]? =some (.pointer none)
structure qM(W:Wd)(E:Ev)(M':Mem)(P P':List (Nat×List Value)):Prop where
 sub:∀p∈P',p∈P
 left:∀p∈P,p∈P'∨∃s,E.cM s p.1/\r_ W (E.at_ M') s p.1
theorem qM.refl(W:Wd)(E:Ev)(M:Mem)(P:List (Nat×List Value)):qM W E M P P:=⟨fun _ h=>h,fun _ h=> .inl h⟩
theorem qM.trans{M1 M2:Mem}{P1 P2:List (Nat×List Value)}(h:qM W E M1 P P1)(hl:M1.Le M2)(h':qM W E M2 P1 P2):qM W E M2 P P2:=
 ⟨fun p hp=>h.sub p (h'.sub p hp),fun p hp=>by
  rcases h.left p hp with h1|⟨s,h1,h2⟩
  .exact h'.left p h1
  exact .inr ⟨s,h1,h2.le (Ev.tA hl)⟩⟩
theorem o7.post{M':Mem}{P':List (Nat×List Value)}(h:o7 W (E.at_ M) n P)(c:Ctx W (E.at_ M))(hl:M.Le M')(hp:qM W E M' P P'):o7 W (E.at_ M') n P':=by
 refine⟨fun s b h1 h2=> ?_,fun p ea=>h.nil p (hp.sub p ea)⟩;rcases h.each s b h1 h2 with⟨cs,h3⟩|h3
 .rcases hp.left _ h3 with h4|⟨s',h4,h5⟩
  .exact .inl ⟨cs,h4⟩
  rw[c.A_ s s' b h1 h4];exact .inr h5
 exact .inr (h3.le (Ev.tA hl))
theorem o7.mono{m:Nat}(h:o7 W E m P)(hn:n<=m):o7 W E n P:=
 ⟨fun s b h1 ⟨d,h2,h3⟩=>h.each s b h1 ⟨d,h2,qb4 h3 hn⟩,h.nil⟩
theorem EO(l:List (bD×Nat)):∀(acc:List (bD×Nat)),(l.foldl n5 acc).map (·.1)=iF (acc.map (·.1)) (l.map (·.1)):=by
 induction l with
 |nil=>intro acc;rfl
 |cons x r ih=>
  intro acc;rw[qbo,ih,qaB,iF];have e:(∃y∈acc,y.1.id=x.1.id)↔∃y∈acc.map (·.1),y.id=x.1.id:=by
   constructor
   .rintro⟨y,h1,h2⟩;exact⟨_,qaj.2 ⟨y,h1,rfl⟩,h2⟩
   rintro⟨y,h1,h2⟩;obtain⟨z,h3,rfl⟩:=qaj.1 h1;exact⟨z,h3,h2⟩
  by_cases h:∃y∈acc,y.1.id=x.1.id
  .rw[if_pos (e.1 h)];unfold n5;rw[if_pos h]
  rw[if_neg (fun h'=>h (e.2 h'))];unfold n5;rw[if_neg h,qaq];rfl
end
section
variable {l:List (bD×Nat)}{E:Ev}{W:Wd}{s:Sp}{g:kP}{M:Mem}{pk:Int->Nat}
theorem Rx:∀(n:Nat) (l:List Nat),l.Nodup->(∀x∈l,x<n)->l.length<=n
 |0,l,_,h=>by
  cases l with
  |nil=>exact qad _
  |cons x r=>exact absurd (h x qal) (qav _)
 |n+1,l,hn,h=>by
  have h1:=Rx n (l.erase n) (hn.erase n) fun x hx=>by
   have h2:=(hn.mem_erase_iff).1 hx;have:=h x h2.2;have:=h2.1;omega
  have h2:l.length<=(l.erase n).length+1:=by
   rw[List.length_erase];split<;>omega
  omega
theorem zda(p n:Int):zr p n<33:=by
 have key:∀l:List Nat,(∀x∈l,x<=1)->l.sum<=l.length:=by
  intro l
  induction l with
  |nil=>intro _;exact qad _
  |cons x r ih=>
   intro h;have h1:=h x qal;have h2:=ih fun y hy=>h y (qag _ hy);simp only[qaT,qaO];omega
 have h:=key ((List.range 2).flatMap fun q=>(List.range 16).map fun k=>if mlt ⟨0,(q:Nat),(k:Nat)⟩ ⟨0,p,n⟩then 1 else 0) fun x hx=>by
  obtain⟨q,_,h1⟩:=qaS.1 hx;obtain⟨k,_,rfl⟩:=qaj.1 h1;split<;>omega
 have hl:((List.range 2).flatMap fun q=>(List.range 16).map fun k=>if mlt ⟨0,(q:Nat),(k:Nat)⟩ ⟨0,p,n⟩then 1 else 0).length=32:=by
  simp[List.length_flatMap];rfl
 unfold zr;omega
theorem Br{l:List bD}(h:iU l)(hm:∀x∈l,p5 x):l.length<=33:=by
 have h1:(l.map bD.rk).Nodup:=by
  unfold iU at h;rw[List.Nodup,qbl]at h⊢;exact h.imp_of_mem fun{x y} hx hy aT he=>aT ((P7 (hm x hx) (hm y hy)).2 he)
 have:=Rx 33 (l.map bD.rk) h1 fun x hx=>by obtain⟨y,_,rfl⟩:=qaj.1 hx;exact zda _ _
 simpa using this
theorem s7.uA{m:bD}{p:Bool}{b:Nat}(h:s7 E m p b):fY E.mem E.pk m.aC m.name p b:=h.all
theorem g_.min:∀{n:Nat},g_ W n s->∃m,m+1<=n/\g_ W (m+1) s/\¬g_ W m s
 |0,h=>by obtain⟨d,_,h⟩:=h;omega
 |n+1,h=>by
  by_cases h':g_ W n s
  .obtain⟨m,h1,h2⟩:=h'.min;exact⟨m,by omega,h2⟩
  exact⟨n,qad _,h,h'⟩
theorem zd3{α:Type}(p r g:List α):(p++(r++g)).Perm (r++(g++p)):=by rw[<-qap r g p];exact qbD
theorem zaa(hg:nh g M pk)(ha:g.acc=l.foldl n5 []):g.acc.length<=2^40:=by
 have h1:iU (g.acc.map (·.1)):=by rw[ha,EO];exact Cs (acc:=[]) (by unfold iU;simp)
 have:=Br h1 fun x hx=>by obtain⟨q,hq,rfl⟩:=qaj.1 hx;exact(hg.all q hq).2
 rw[qat]at this;omega
theorem NG{L:List bD}(h:l.map (·.1)=iF [] L):iU (l.map (·.1)):=by rw[h];exact Cs (acc:=[]) (by unfold iU;simp)
theorem NF{l0:List (bD×Nat)}(hg:nh g M pk)(ha:g.acc=l.foldl n5 l0)(h0:iU (l0.map (·.1))):g.acc.length<=2^40:=by
 have h1:iU (g.acc.map (·.1)):=by rw[ha,EO];exact Cs h0
 have:=Br h1 fun x hx=>by obtain⟨q,hq,rfl⟩:=qaj.1 hx;exact(hg.all q hq).2
 rw[qat]at this;omega
theorem MQ:∀{acc:List (bD×Nat)} {x:bD×Nat},x∈l.foldl n5 acc->x∈acc\/x∈l:=by
 induction l with
 |nil=>intro acc x h;exact .inl h
 |cons y r ih=>
  intro acc x h;rw[qbo]at h;rcases ih h with h1|h1
  .unfold n5 at h1;split at h1
   .exact .inl h1
   rcases qah.1 h1 with h1|h1
   .exact .inl h1
   simp only[qac]at h1;subst h1;exact .inr qal
  exact .inr (qag _ h1)
theorem bC.zip{α β:Type}{R:α->β->Prop}:∀{a:List α} {b:List β},bC R a b->∀q∈a.zip b,R q.1 q.2
 |[],_,_,q,hq=>by simp at hq
 |_::_,[],h,q,hq=>by simp at hq
 |x::a,y::b,h,q,hq=>by
  rw[List.zip_cons_cons]at hq;rcases qan.1 hq with rfl|hq
  .exact h.1
  exact bC.zip h.2 q hq
theorem Td{n tb:Nat}{ms:List bD}{kT l':List (bD×Nat)}{LN vt:Value}(hW:GW W)(eU:BV W s)(yR:ms.Perm (m8 s))(k6:kT.map (·.1)=iF [] (ms++(List.range s.of.aD.length).flatMap fun i=>dj W n (W.under (s.bE i))))
 (uU:∀x∈kT,fY E.mem E.pk x.1.aC x.1.name false x.2/\E.ob x.1.num 128 x.2) (hp:l'.Perm kT) (hs:Ew (l'.map (·.1))) (oF:Bk E.mem tb [.bool false,LN,vt,.bool false]) (cu:Sl E.mem 1 gz LN (l'.map fun q=>[vp q.2])) (zc:iV E.mem vt):uy E (dj W (n+1) s) tb:=by
 have e:l'.map (·.1)=dj W (n+1) s:=by
  rw[dj];refine ze4 ?_ (Cs (acc:=[]) (by unfold iU;simp)) (fun x hx=> ?_) hs
  .have h1:=hp.map (·.1);rw[k6]at h1;refine h1.trans ?_;rw[HA,HA,MP (acc:=[]) (by simpa using(RZ eU.gs eU.val).perm yR.symm),MP (acc:=[]) (by simpa using RZ eU.gs eU.val)];exact Xz (by simpa using yR)
  rcases HB hx with h1|h1
  .simp at h1
  rcases qah.1 h1 with h1|h1
  .exact(K5 eU.gs x h1).1
  obtain⟨i,hi,h2⟩:=qaS.1 h1;exact(we hW n _ ((eU.gs.bE (qaz.1 hi)).under hW) x h2).1
 refine⟨LN,vt,l'.map (·.2),oF,by rw[qbE];exact cu,zc,?_⟩;rw[<-e];refine bC.of_map fun q hq=> ?_;obtain⟨h1,h2⟩:=uU q (hp.mem_iff.1 hq);exact⟨h2,h1⟩
theorem Xf(hW:GW W)(hL:dV W)(gp:Forms W):∀(n:Nat) (s:Sp) (ib:Nat),g_ W n s->∀{M:Mem} {w0:World} {P:List (Nat×List Value)},Ctx W (E.at_ M)->E.cM s ib->o7 W (E.at_ M) n P->SH w0 M (cp (fI P)) M (fI P) w0->
 az prog 116 [.pointer none,.int .i64 0,vp ib] w0 fun r w'=>∃M' A',(∃P' tb,r=vp tb/\A'=fI P'/\qM W E M' P P'/\uy (E.at_ M') (dj W n s) tb/\M'.cell ib 6=some (vp tb))/\SH w0 M (cp (fI P)) M' A' w':=by
 intro n0
 induction n0 using Nat.strongRecOn with
 |_ n0 Qd=>
 intro s ib JH M w0 P hc tQ sM h;obtain⟨n,hn,my,IX⟩:=JH.min;have ih:=Qd n (by omega);clear Qd;have aU:o7 W (E.at_ M) (n+1) P:=sM.mono hn;rw[D8 hL gp JH my];clear sM JH hn;obtain⟨lI,eU⟩:=hc.ifs s ib tQ;refine aL mixed func116 MA ?_;rcases aU.each s ib tQ my with⟨cs,d9⟩|lF
 .obtain⟨PA,PB,hP⟩:=List.append_of_mem d9;have Aw:=aU.nil _ d9;simp only at Aw;generalize hD:cp (fI P)=D at h⊢;have Px:(fI P).Perm (.part ib 247 cs 6::fI (PA++PB)):=by
   rw[hP];have h1:(PA++(ib,cs)::PB).Perm ((ib,cs)::(PA++PB)):=qbU;exact h1.map _
  replace h:=h.perm Px;clear Px;obtain⟨P1,As⟩:∃x,x=PA++PB:=⟨_,rfl⟩;rw[<-As]at h;have c5:M.cell ib 5=some (.bool true):=lI.c5;obtain⟨vm,ve,ms,bF,ew,J7,FQ,JN,zb2,yR,I0,mg⟩:=lI.all;have PV:M.cell ib 1=some vm:=J7;have PT:M.cell ib 2=some ve:=FQ;have zb4:Sl M 1 gz vm (bF.map fun b=>[vp b]):=JN;have zb3:Sl M 1 gz ve (ew.map fun v=>[v]):=zb2;obtain⟨am,cm,rfl,rj,CQ⟩:=zb4;obtain⟨ae,ce,rfl,kW,CP⟩:=zb3;rw[qat]at rj kW;rw[qat]at PV PT;refine BA h ?_ (hv:=Aw);refine aP h c5 ?_;refine fk h (G_ h.le) ?_;clear h;rintro _ M1 w ht bG h;obtain⟨tq,GA,GC,GB,rfl,_,_,_⟩:=ht.lit;clear ht;refine au (cs:=[.bool false,.slice none 0 0,.slice (some ⟨GA,GC,none⟩) 1 GB,.bool false]) h ?_;clear h;intro tb w h;have hu6:fQ cs 6 (vp tb) (cs.set 6 (vp tb)):=fQ.of (qab.1 Aw).1;refine zeE h ?_ (hs:=hu6);clear h;intro w h;refine qG h ?_;clear h;intro m7 w h;replace h:=h.tail;refine au (cs:=[.map none]) h ?_;clear h;intro sb w h;refine au (cs:=[.slice none 0 0]) h ?_;clear h;intro ab w h;refine qG h ?_;clear h;intro pm w h;refine au (cs:=[.map none]) h ?_;clear h;intro pb w h;refine eQ h ?_;clear h;intro w h;replace h:=h.gV 1 128;replace h:SH w0 M D M1 ([.part ib 247 (cs.set 6 (vp tb)) 6,.ah tb 184 [.bool false,.slice none 0 0,.slice (some ⟨GA,GC,none⟩) 1 GB,.bool false]]++((kP.bM ⟨sb,none,ab,.slice none 0 0,[],pb,pm,#[]⟩)++fI P1)) w:=by
   simp only[kP.bM,oS,qa_,qbk,qa0];exact h.qI
  obtain⟨R,hR⟩:∃R,R=[aB.part ib 247 (cs.set 6 (vp tb)) 6,.ah tb 184 [.bool false,.slice none 0 0,.slice (some ⟨GA,GC,none⟩) 1 GB,.bool false]]:=⟨_,rfl⟩;rw[<-hR]at h;have Fp:nh ⟨sb,none,ab,.slice none 0 0,[],pb,pm,#[]⟩ M1 E.pk:=⟨⟨[],rfl,by simp,by simp⟩,by simp[bt],by simp[bt],by simp⟩;have ql:=hc.le bG;have hlen:ms.length=bF.length:=I0.len;have xh:s.at_+s.of.aj<=2^30:=eU.gs.top;have ov:bF.length<=2^30:=by
   have h1:=yR.length_eq;rw[DJ]at h1;have:=s.of.zp;omega
  have t7:ew.length=s.of.aD.length:=by have:=mg.len;rw[qb0]at this;exact this.symm
  have hvb:ew.length<=2^30:=by have:=s.of.qX;omega
  have OP:(ms.zip bF).length=bF.length:=by simp[hlen]
  have eD:∀q∈ms.zip bF,fY M1 E.pk q.1.aC q.1.name false q.2/\cN q.1.aC/\bL q.1.name:=fun q hq=>by
   obtain⟨k,hk,rfl⟩:=qak hq;have dC:k<ms.length:=by rw[OP]at hk;omega
   have dE:k<bF.length:=by omega
   obtain⟨b,gc,cV⟩:=I0.get (i:=k) (x:=ms[k]) (by simp[dC]);rw[qaa dE]at gc;cases gc;rw[List.getElem_zip];obtain⟨⟨h1,h2⟩,_⟩:=K5 eU.gs ms[k] (yR.mem_iff.1 (by simp));exact⟨cV.uA.le bG,h1,h2⟩
  refine aP h (bG.cell _ _ _ PV) ?_;refine fB (X:=Nat×kP) (Y:=kP) 0 (fun y=>[(0,.pointer none),(2,vp ib),(8,vp sb),(9,vp ab),(10,vp pb),(11,.func (.func 150) #[] #[vp sb,vp ab,vp pb]),(55,.slice am bF.length cm),(56,.int .i64 (bF.length:Int)),(57,.int .i64 (y.1:Int))])
   (fun y w=>y.1<=bF.length/\(y.2.sb=sb/\y.2.ab=ab/\y.2.pb=pb)/\y.2.acc=((ms.zip bF).take y.1).foldl n5 []/\nh y.2 M1 E.pk/\SH w0 M D M1 (R++(y.2.bM++fI P1)) w) (fun y=>bF.length-y.1)
   (fun y=>[(0,.pointer none),(2,vp ib),(8,vp sb),(9,vp ab),(10,vp pb),(11,.func (.func 150) #[] #[vp sb,vp ab,vp pb])])
   (fun y w=>(y.sb=sb/\y.ab=ab/\y.pb=pb)/\y.acc=(ms.zip bF).foldl n5 []/\nh y M1 E.pk/\SH w0 M D M1 (R++(y.bM++fI P1)) w)
   (0,⟨sb,none,ab,.slice none 0 0,[],pb,pm,#[]⟩) ⟨rfl,rfl,rfl,rfl,rfl,rfl,rfl,rfl,rfl,tV⟩ ⟨qae _,⟨rfl,rfl,rfl⟩,rfl,Fp,h⟩ ?_ ?_
  .clear h;rintro⟨k,g⟩ aK w N Z ⟨hk,sA,k6,hg,h⟩ hN hZ;simp only at hk sA k6 hg h;refine aI (fun aG=> ?_) (fun aY=> ?_);rotate_left 1
   .obtain rfl:k=bF.length:=by omega
    exact hZ g _ _ ⟨rfl,rfl,rfl,rfl,rfl,rfl,tV⟩ ⟨sA,by rw[k6,<-OP,qay],hg,h⟩
   have ad:k<bF.length:=by omega
   have O4:k<(ms.zip bF).length:=by omega
   obtain⟨b2,o2,gD,rfl,cR,ct,gH⟩:=CQ.at (i:=k) (by simpa using ad);have kX:M1.cell b2 (o2+k*1)=some (vp bF[k]):=by
    have h1:gD=[vp bF[k]]:=by
     have h0:gD=_:=gH;rw[h0,qaU]
    have:=ct 0 (vp bF[k]) (by rw[h1];rfl);exact bG.cell _ _ _ (by simpa using this)
   obtain⟨oE,rE,cS⟩:=eD (ms.zip bF)[k] (qaf O4);have tU:(ms.zip bF)[k].2=bF[k]:=by rw[List.getElem_zip]
   obtain⟨sg,rb,rt,kk,dQ,_⟩:=id oE;rw[tU]at dQ;refine aJ (k) ?_;refine aP h kX ?_;refine aP h (dQ.at 0 rfl) ?_;obtain⟨uJ,yo,uI,CC,kT,yp,Am,CB⟩:=g;obtain⟨rfl,rfl,rfl⟩:=sA;simp only at k6 h;rw[tU]at oE;refine du (args:=[.int .i64 0,vp bF[k],.bool true,vp uJ,vp uI,vp yp]) (kP.bM ⟨uJ,yo,uI,CC,kT,yp,Am,CB⟩) (R++fI P1) (h.perm (qbc _ _ _)) (fun h=>L8 (M:=M1) (pk:=E.pk) (m:=(ms.zip bF)[k].1) (ex:=true) ql.jt ql.pk hg oE rE cS (zaa hg k6) h) ?_;clear h;rintro r M' A' w' ⟨g',rfl,rfl,h1,h2,h3,h4,h5,tL⟩ _ _ h;refine aA (((k+1:Nat):Int)) ?_;exact hN (k+1,g') _ _ ⟨rfl,rfl,rfl,rfl,rfl,rfl,rfl,rfl,rfl,tV⟩ ⟨ad,⟨h2,h3,h4⟩,by simp only;rw[h1,k6,<-dN O4,qbF,qbo,List.foldl_nil,<-tU],tL,h.perm (qbc _ _ _)⟩ (by simp only;omega)
  clear h;rintro g aK w ⟨sA,k6,hg,h⟩;have eE:o7 W (E.at_ M) n P1:=by
   refine⟨fun s' b h1 h2=> ?_,fun p hp=>aU.nil p ?_⟩
   .rcases(aU.mono (qcf n)).each s' b h1 h2 with⟨cs',h3⟩|h3
    .rw[hP]at h3;rcases qah.1 h3 with h3|h3
     .exact .inl ⟨cs',by rw[As];exact qaA _ h3⟩
     rcases qan.1 h3 with h3|h3
     .obtain⟨rfl,_⟩:=Prod.mk.inj h3;rw[hc.A_ s' s _ h1 tQ]at h2;exact absurd h2 IX
     exact .inl ⟨cs',by rw[As];exact qaR _ h3⟩
    exact .inr h3
   rw[As]at hp;rw[hP];rcases qah.1 hp with hp|hp
   .exact qaA _ hp
   exact qaR _ (qag _ hp)
  refine fk h (G_ h.le) ?_;clear h;rintro _ M2 w t6 aQ h;refine aP h ((bG.trans aQ).cell _ _ _ PT) ?_;have uU:g.acc.map (·.1)=iF [] ms:=by
   rw[k6,EO,qa0,List.map_fst_zip (by omega)]
  have Fq:nh g M2 E.pk:=hg.le aQ;rename_i BL;refine fB (X:=Nat×Mem×kP×List (Nat×List Value)×Value) (Y:=Mem×kP×List (Nat×List Value)×Value) 2 (fun y=>[(0,.pointer none),(2,vp ib),(9,vp ab),(11,.func (.func 150) #[] #[vp sb,vp ab,vp pb]),(14,y.2.2.2.2),(15,.bool false),(74,.slice ae ew.length ce),(75,.int .i64 (ew.length:Int)),(76,.int .i64 (y.1:Int))])
   (fun y w=>y.1<=ew.length/\M2.Le y.2.1/\iV y.2.1 y.2.2.2.2/\(y.2.2.1.sb=sb/\y.2.2.1.ab=ab/\y.2.2.1.pb=pb)/\y.2.2.1.acc.map (·.1)=iF [] (ms++(List.range y.1).flatMap fun i=>dj W n (W.under (s.bE i)))/\nh y.2.2.1 y.2.1 E.pk/\(∀x∈y.2.2.1.acc,E.ob x.1.num 128 x.2)/\qM W E y.2.1 P1 y.2.2.2.1/\SH w0 M D y.2.1 (R++(y.2.2.1.bM++fI y.2.2.2.1)) w) (fun y=>ew.length-y.1)
   (fun y=>[(0,.pointer none),(2,vp ib),(9,vp ab),(14,y.2.2.2),(15,.bool false)])
   (fun y w=>M2.Le y.1/\iV y.1 y.2.2.2/\(y.2.1.sb=sb/\y.2.1.ab=ab/\y.2.1.pb=pb)/\y.2.1.acc.map (·.1)=iF [] (ms++(List.range ew.length).flatMap fun i=>dj W n (W.under (s.bE i)))/\nh y.2.1 y.1 E.pk/\(∀x∈y.2.1.acc,E.ob x.1.num 128 x.2)/\qM W E y.1 P1 y.2.2.1/\SH w0 M D y.1 (R++(y.2.1.bM++fI y.2.2.1)) w)
   (0,M2,g,P1,BL) ⟨rfl,rfl,rfl,rfl,rfl,rfl,rfl,rfl,rfl,tV⟩ ⟨qae _,.refl _,t6,sA,by simpa using uU,Fq,(fun x hx=>by rw[k6]at hx;rcases MQ hx with hx|hx;simp at hx;exact(I0.zip x hx).ob),.refl _ _ _ _,h⟩ ?_ ?_
  .clear h;rintro⟨k,Mk,g,Pn,BL⟩ aK w N Z ⟨hk,d_,ht,sA,k6,hg,tO,tS,h⟩ hN hZ;simp only at hk d_ ht sA k6 hg tO tS h;refine aI (fun aG=> ?_) (fun aY=> ?_);rotate_left 1
   .obtain rfl:k=ew.length:=by omega
    exact hZ (Mk,g,Pn,BL) _ _ ⟨rfl,rfl,rfl,rfl,rfl,tV⟩ ⟨d_,ht,sA,k6,hg,tO,tS,h⟩
   have ad:k<ew.length:=by omega
   have fh:k<s.of.aD.length:=by omega
   have w9:M.Le Mk:=(bG.trans aQ).trans d_;have su:=hc.le w9;obtain⟨v,PU,Az⟩:=mg.get (i:=k) (x:=k) (by simp[fh]);rw[qaa ad]at PU;have zcg:=qaF PU;obtain⟨tt,tx,rfl,_⟩:=Az.iface;replace Az:=Az.le (Ev.tA w9);obtain⟨b2,o2,gD,rfl,cR,ct,gH⟩:=CP.at (i:=k) (by simpa using ad);have kX:Mk.cell b2 (o2+k*1)=some (.iface tt (vp tx)):=by
    have h1:gD=[.iface tt (vp tx)]:=by
     have h0:gD=_:=gH;rw[h0,qaU,zcg]
    have:=ct 0 (.iface tt (vp tx)) (by rw[h1];rfl);exact w9.cell _ _ _ (by simpa using this)
   have c3:M.cell ib 3=some (.pointer none):=lI.c3;have y7:(s.bE k).of.kind=1->W.has (s.bE k).of.num:=(eU.gs.bE fh).ok.num;have sF:(W.under (s.bE k)).of.kind=5:=by
    have hv:=eU.val;cases hv;rename_i dD _ _ _ _ _;exact dD k fh
   refine aJ (k) ?_;refine aP h kX ?_;refine aP h (w9.cell _ _ _ c3) ?_;obtain⟨fU,H2,CH⟩:=su.under (w0:=w) hL h.le Az y7;refine qai fU (qai _ (aI H2 ?_));refine s_call h CH ?_;clear h CH;intro u w nu h;obtain⟨b',rfl,hi⟩:∃b',u= .iface 134 (vp b')/\E.cM (W.under (s.bE k)) b':=by
    cases nu with
    |cM _ hi=>exact⟨_,rfl,hi⟩
    |basic ad=>rw[sF]at ad;cases ad
    |ptr ad=>rw[sF]at ad;cases ad
    |lX ad=>rw[sF]at ad;cases ad
    |lZ ad=>rw[sF]at ad;cases ad
    |named ad=>rw[sF]at ad;cases ad
   refine s_call h (su.zdG hL h.le Az y7) ?_;clear h;rintro _ w rfl h;refine s_call h EE ?_;clear h;rintro _ w rfl h;have dm:o7 W (E.at_ Mk) n Pn:=eE.post hc w9 tS;refine du (fI Pn) (R++g.bM) (h.perm (by rw[<-qap];exact qbD)) (ih _ b' (my.step hL gp fh) su hi dm) ?_;clear h;rintro r M3 A3 w ⟨P2,Ly,rfl,rfl,zbR,dS,zgd⟩ bT _ h;obtain⟨BN,vt',jL,Dp,zb8,FO,JV⟩:=dS;have FN:Bk M3 Ly [.bool false,BN,vt',.bool false]:=Dp;obtain⟨tq',zgG,zgI,zgH,rfl,_,_,_⟩:=FO.lit;obtain⟨Ux,W9,rfl,zaV,za5⟩:=zb8;rw[qat]at zaV FN;replace h:SH w0 M D M3 (R++(g.bM++fI P2)) w:=h.perm (zd3 _ _ _);refine aP h (FN.at 3 rfl) ?_;refine aP h (FN.at 1 rfl) ?_;have cW:GS W (W.under (s.bE k)):=(eU.gs.bE fh).under hW;have Pg:(dj W n (W.under (s.bE k))).length=jL.length:=JV.len;have OQ:((dj W n (W.under (s.bE k))).zip jL).length=jL.length:=by simp[Pg]
   have zgt:jL.length<=33:=by rw[<-Pg];exact Br (zG W n _) fun x hx=>(we hW n _ cW x hx).1
   have zbx:∀q∈(dj W n (W.under (s.bE k))).zip jL,fY M3 E.pk q.1.aC q.1.name false q.2/\cN q.1.aC/\bL q.1.name:=fun q hq=>by
    obtain⟨i,hi,rfl⟩:=qak hq;have dC:i<(dj W n (W.under (s.bE k))).length:=by rw[OQ]at hi;omega
    have dE:i<jL.length:=by omega
    obtain⟨b,gc,cV⟩:=JV.get (i:=i) (x:=(dj W n (W.under (s.bE k)))[i]) (by simp[dC]);rw[qaa dE]at gc;cases gc;rw[List.getElem_zip];obtain⟨⟨h1,h2⟩,_⟩:=we hW n _ cW (dj W n (W.under (s.bE k)))[i] (qaf dC);exact⟨cV.uA,h1,h2⟩
   have Fb:=su.le bT;refine fB (X:=Nat×kP) (Y:=kP) 5 (fun y=>[(0,.pointer none),(2,vp ib),(9,vp ab),(11,.func (.func 150) #[] #[vp sb,vp ab,vp pb]),(14,BL),(15,.bool false),(18,.int .i64 0),(19,.bool false),(22,vp Ly),(74,.slice (some ⟨b2,o2,none⟩) ew.length ce),(75,.int .i64 (ew.length:Int)),(76,.int .i64 (k:Int)),(122,.slice Ux jL.length W9),(123,.int .i64 (jL.length:Int)),(124,.int .i64 (y.1:Int))])
    (fun y w=>y.1<=jL.length/\(y.2.sb=sb/\y.2.ab=ab/\y.2.pb=pb)/\y.2.acc=(((dj W n (W.under (s.bE k))).zip jL).take y.1).foldl n5 g.acc/\nh y.2 M3 E.pk/\SH w0 M D M3 (R++(y.2.bM++fI P2)) w) (fun y=>jL.length-y.1)
    (fun y=>[(0,.pointer none),(2,vp ib),(9,vp ab),(11,.func (.func 150) #[] #[vp sb,vp ab,vp pb]),(14,BL),(15,.bool false),(19,.bool false),(22,vp Ly),(74,.slice (some ⟨b2,o2,none⟩) ew.length ce),(75,.int .i64 (ew.length:Int)),(76,.int .i64 (k:Int))])
    (fun y w=>(y.sb=sb/\y.ab=ab/\y.pb=pb)/\y.acc=((dj W n (W.under (s.bE k))).zip jL).foldl n5 g.acc/\nh y M3 E.pk/\SH w0 M D M3 (R++(y.bM++fI P2)) w)
    (0,g) ⟨rfl,rfl,rfl,rfl,rfl,rfl,rfl,rfl,rfl,rfl,rfl,rfl,rfl,rfl,rfl,tV⟩ ⟨qae _,sA,rfl,hg.le bT,h⟩ ?_ ?_
   .clear h;rintro⟨i,g2⟩ aK w N' Z' ⟨hi',CU,wW,tL,h⟩ E6 H5;simp only at hi' CU wW tL h;refine aI (fun aG=> ?_) (fun aY=> ?_);rotate_left 1
    .obtain rfl:i=jL.length:=by omega
     exact H5 g2 _ _ ⟨rfl,rfl,rfl,rfl,rfl,rfl,rfl,rfl,rfl,rfl,rfl,tV⟩ ⟨CU,by rw[wW,<-OQ,qay],tL,h⟩
    have kh:i<jL.length:=by omega
    have O0:i<((dj W n (W.under (s.bE k))).zip jL).length:=by omega
    obtain⟨b3,o3,Cq,rfl,mV,yZ,AB⟩:=za5.at (i:=i) (by simpa using kh);have zaO:M3.cell b3 (o3+i*1)=some (vp jL[i]):=by
     have h1:Cq=[vp jL[i]]:=by
      have h0:Cq=_:=AB;rw[h0,qaU]
     have:=yZ 0 (vp jL[i]) (by rw[h1];rfl);have h2:(E.at_ M3).mem.cell b3 (o3+i*1)=some (vp jL[i]):=by simpa using this
     exact h2
    obtain⟨oE,rE,cS⟩:=zbx ((dj W n (W.under (s.bE k))).zip jL)[i] (qaf O0);have tU:((dj W n (W.under (s.bE k))).zip jL)[i].2=jL[i]:=by rw[List.getElem_zip]
    refine aJ (i) ?_;refine aP h zaO ?_;obtain⟨uJ,yo,uI,CC,kT,yp,Am,CB⟩:=g2;obtain⟨rfl,rfl,rfl⟩:=CU;simp only at wW h;rw[tU]at oE;refine du (args:=[.int .i64 0,vp jL[i],.bool false,vp uJ,vp uI,vp yp]) (kP.bM ⟨uJ,yo,uI,CC,kT,yp,Am,CB⟩) (R++fI P2) (h.perm (qbc _ _ _)) (fun h=>L8 (M:=M3) (pk:=E.pk) (m:=((dj W n (W.under (s.bE k))).zip jL)[i].1) (ex:=false) Fb.jt Fb.pk tL oE rE cS (NF tL wW (NG k6)) h) ?_;clear h;rintro r M' A' w' ⟨g',rfl,rfl,h1,h2,h3,h4,h5,zbd⟩ _ _ h;refine aA (((i+1:Nat):Int)) ?_;exact E6 (i+1,g') _ _ ⟨rfl,rfl,rfl,rfl,rfl,rfl,rfl,rfl,rfl,rfl,rfl,rfl,rfl,rfl,rfl,tV⟩ ⟨kh,⟨h2,h3,h4⟩,by simp only;rw[h1,wW,<-dN O0,qbF,qbo,List.foldl_nil,<-tU],zbd,h.perm (qbc _ _ _)⟩ (by simp only;omega)
   clear h;rintro g2 aK w ⟨CU,wW,tL,h⟩;refine aP h (FN.at 2 rfl) ?_;refine fk h (zcw h.le (ht.le bT) FO) ?_;clear h;rintro _ M4 w ⟨u,rfl,hu⟩ fj h;refine aA (((k+1:Nat):Int)) ?_;refine hN (k+1,M4,g2,P2,u) _ _ ⟨rfl,rfl,rfl,rfl,rfl,rfl,rfl,rfl,rfl,tV⟩ ⟨ad,d_.trans (bT.trans fj),hu,CU,?_,tL.le fj,(fun x hx=>by simp only at hx;rw[wW]at hx;rcases MQ hx with hx|hx;exact tO x hx;exact(JV.zip x hx).ob),(tS.trans bT zbR).trans fj (.refl _ _ _ _),h⟩ (by simp only;omega);simp only;rw[wW,EO,k6,List.map_fst_zip (by omega),<-HA,qbB,List.flatMap_append,qap];simp
  clear h;rintro⟨Mk,⟨uJ,yo,uI,CC,kT,yp,Am,CB⟩,Pn,BL⟩ aK w ⟨d_,ht,⟨rfl,rfl,rfl⟩,k6,hg,tO,tS,h⟩;simp only at d_ ht k6 tO tS h;have w9:M.Le Mk:=(bG.trans aQ).trans d_;rw[hR]at h;simp only[kP.bM,qa_,qbk,qap]at h;have wP:(cs.set 6 (vp tb))[6]? =some (vp tb):=by simp[(qab.1 Aw).1]
  obtain⟨av,cv,rfl,sv,_⟩:=h.DH (v:=CC);have yG:(kT.map fun q:bD×Nat=>[vp q.2]).length=kT.length:=qat _;rw[yG]at h sv;obtain⟨wq,wqb,wqo,wqc,rfl,_,_,_⟩:=ht.lit;refine BA h ?_ (hv:=wP);refine eQ (v:= .bool false) h ?_;clear h;intro w h;refine ak h ?_;refine aI (fun h0=> ?_) (fun aT=> ?_);have Fp:kT=[]:=qaD (by omega);refine BA h ?_ (hv:=wP);refine eQ h ?_;clear h;intro w h;refine BA h ?_ (hv:=wP);obtain⟨M5,aV,PK,h⟩:=h.d6 (.slice av kT.length cv);obtain⟨M6,ck,oF,h⟩:=h.dA tb;obtain⟨M7,cF,Iz,h⟩:=h.NB (b:=ib);replace h:=SH.right (A:=oS uJ yo) (B:=fI Pn) h.tail.tail.tail;have AL:=aV.trans (ck.trans cF);have dS:uy (E.at_ M7) (dj W (n+1) s) tb:=Td hW eU yR (by rw[<-t7];exact k6) (fun x hx=>⟨((hg.all x hx).1).le AL,tO x hx⟩) (List.Perm.refl kT) (by rw[Fp];exact .nil) (oF.le cF) (by rw[Fp];exact Sl.nil _ _ _) (ht.le AL);rotate_left;refine ak h ?_;have y_:=fun h=>Lt (w0:=w) (M:=Mk) (pk:=E.pk) (l:=kT) (v:= .slice av kT.length cv) (hc.le w9).jt (hc.le w9).pk (fun q hq=>by
   obtain⟨⟨sg,rb,rt,kk,h1,_⟩,h2,h3⟩:=hg.all q hq;exact⟨h1.at 1 rfl,h1.at 2 rfl,h1.own,h2,h3⟩) (NF (l:=[]) hg rfl (NG k6)) h
  refine du [.own (.slice av kT.length cv) 1 128 (kT.map fun q=>[vp q.2])] (.part ib 247 (cs.set 6 (vp tb)) 6:: .ah tb 184 [.bool false,.slice none 0 0,.slice (some ⟨GA,GC,none⟩) 1 GB,.bool false]:: .ah uI 180 [.slice av kT.length cv]:: .ah yp 322 [.map (some Am)]:: .map Am CB::(oS uJ yo++fI Pn)) h.qI y_ ?_;clear h y_;rintro _ M3 A3 w ⟨l',yV,JQ,rfl,rfl,rfl⟩ _ _ h;simp only[qa_,qbk,qaC]at h;have qy:=h.pd;simp only[qau]at qy;have dB:ib∉[tb]:=qy.2.1 _ qal ib (by simp[aB.bX]);have oj:uI∉[tb]:=(qy.2.2.1 _ qal).symm uI (by simp[aB.bX]);clear qy;refine b_ [tb] h ?_;clear h;intro w h;refine zdV h ?_ (hv:=wP) (hS:=dB);refine bI h ?_ (hS:=oj);refine aI ?_ trivial;refine sV (v:= .slice av kT.length cv) h ?_;clear h;intro w h;refine BA h ?_ (hv:=wP);refine eQ h ?_;clear h;intro w h;refine BA h ?_ (hv:=wP);obtain⟨M5,aV,PK,h⟩:=h.d6 (.slice av kT.length cv);obtain⟨M6,ck,oF,h⟩:=h.dA tb;obtain⟨M7,cF,Iz,h⟩:=h.NB (b:=ib);replace h:=SH.right (A:=oS uJ yo) (B:=fI Pn) h.tail.tail.tail;have AL:=aV.trans (ck.trans cF);have dS:uy (E.at_ M7) (dj W (n+1) s) tb:=Td hW eU yR (by rw[<-t7];exact k6) (fun x hx=>⟨((hg.all x hx).1).le AL,tO x hx⟩) yV JQ (oF.le cF) (PK.mono (ck.trans cF) fun _ _ _ h=>h) (ht.le AL)
  all_goals
   refine⟨M7,_,⟨Pn,tb,rfl,rfl,⟨fun p hp=> ?_,fun p hp=> ?_⟩,dS,Iz.at 6 wP⟩,h⟩
   .have:=tS.sub p hp;rw[As]at this;rw[hP];rcases qah.1 this with h1|h1
    .exact qaA _ h1
    exact qaR _ (qag _ h1)
   rw[hP]at hp;have key:p∈P1\/p=(ib,cs):=by
    rw[As];rcases qah.1 hp with h1|h1
    .exact .inl (qaA _ h1)
    rcases qan.1 h1 with h1|h1
    .exact .inr h1
    exact .inl (qaR _ h1)
   rcases key with h1|rfl
   .rcases tS.left p h1 with h2|⟨s',h2,h3⟩
    .exact .inl h2
    exact .inr ⟨s',h2,h3.le (Ev.tA AL)⟩
   exact .inr ⟨s,tQ,tb,n+1,my,Iz.at 6 wP,dS⟩
 obtain⟨tb,m,h1,h2,h3⟩:=lF;have mO:M.cell ib 6=some (vp tb):=h2;refine aP h mO ?_;refine aP h mO ?_;exact⟨M,_,⟨P,tb,rfl,rfl,.refl _ _ _ _,by rw[D8 hL gp my h1];exact h3,mO⟩,h⟩
end
section
variable {W:Wd}{E:Ev}{n ib:Nat}{s:Sp}{M:Mem}{w0:World}{P:List (Nat×List Value)}
theorem zfA(hW:GW W)(hL:dV W)(gp:Forms W)(my:g_ W n s)(hc:Ctx W (E.at_ M))(tQ:E.cM s ib)(aU:o7 W (E.at_ M) n P)(h:SH w0 M (cp (fI P)) M (fI P) w0):
 az prog 72 [vp ib] w0 fun r w'=>∃M' A',(∃P' tb,r=vp tb/\A'=fI P'/\qM W E M' P P'/\uy (E.at_ M') (dj W n s) tb/\M'.cell ib 6=some (vp tb))/\SH w0 M (cp (fI P)) M' A' w':=by
 obtain⟨lI,_⟩:=hc.ifs s ib tQ;have c0:M.cell ib 0=some (.pointer none):=lI.c0;generalize hD:cp (fI P)=D at h⊢;refine aL mixed func72 MF ?_;refine aP h c0 ?_;refine du (fI P) [] (by rw[qaC];exact h) (Xf hW hL gp n s ib my hc tQ aU) ?_;clear h;rintro r M' A' w' ⟨P',tb,rfl,rfl,h1,h2,h3⟩ _ _ h;rw[qaC]at h;exact⟨M',_,⟨P',tb,rfl,rfl,h1,h2,h3⟩,h⟩
theorem Xh(hW:GW W)(hL:dV W)(gp:Forms W)(my:g_ W n s)(hc:Ctx W (E.at_ M))(tQ:E.cM s ib)(aU:o7 W (E.at_ M) n P)(h:SH w0 M (cp (fI P)) M (fI P) w0):
 az prog 51 [vp ib] w0 fun r w'=>∃M' A',(∃P',r=vp ib/\A'=fI P'/\qM W E M' P P'/\r_ W (E.at_ M') s ib)/\SH w0 M (cp (fI P)) M' A' w':=by
 obtain⟨lI,_⟩:=hc.ifs s ib tQ;have c5:M.cell ib 5=some (.bool true):=lI.c5;generalize hD:cp (fI P)=D at h⊢;refine aL mixed func51 c51 ?_;refine aP h c5 ?_;refine du (fI P) [] (by rw[qaC];exact h) (zfA hW hL gp my hc tQ aU) ?_;clear h;rintro r M' A' w' ⟨P',tb,rfl,rfl,h1,h2,h3⟩ _ _ h;rw[qaC]at h;exact⟨M',_,⟨P',rfl,rfl,h1,tb,n,my,h3,h2⟩,h⟩
structure eZ(W:Wd)(E:Ev):Prop where
 ctx:Ctx W E
 ts:∀s b,E.cM s b->r_ W E s b
 Tk:∀n:Nat,n<W.length->∃b,E.ty n b
 BK:∀n b b',E.ty n b->E.ty n b'->b=b'
 D_:∀n m b,(W.at (n:Nat)).bU=false->(W.at (m:Nat)).bU=false->E.ty n b->E.ty m b->n=m
 obU:∀n t t' b b',E.ob n t b->E.ob n t' b'->t=t'/\b=b'
 obI:∀n m t b,E.ob n t b->E.ob m t b->n=m
theorem eZ.le{N:Mem}(h:M.Le N)(b:eZ W (E.at_ M)):eZ W (E.at_ N):=
 ⟨b.ctx.le h,fun s x hx=>(b.ts s x hx).le (Ev.tA h),b.Tk,b.BK,b.D_,b.obU,b.obI⟩
end
section
variable {t:TypeId}{x:Value}{j b c pb:Nat}{a:Option Addr}{bF:List Nat}{M:Mem}{p n q:Int}{pk:Int->Nat}{ptr:Bool}
section
variable {W:Wd}{E:Ev}{w0:World}{s:Sp}
theorem Den.tag{v:Value}(hd:Den W E s v)(hs:s.of.kind=1->(W.at s.of.num).bU=false/\((s.of.num.toNat:Nat):Int)=s.of.num):∃t b,v= .iface t (vp b)/\
 ((t=120/\s.of.kind=1/\E.ty s.of.num.toNat b)\/(t=229/\s.of.kind=0)\/(t=221/\s.of.kind=2/\∃v,Bk E.mem b [v]/\Den W E s.elem v)\/(t=223/\s.of.kind=3)\/(t=168/\s.of.kind=4)\/(t=134/\s.of.kind=5/\E.cM s b)):=by
 cases hd with
 |basic hk hb=>exact⟨_,_,rfl,by simp[hk]⟩
 |named hk hv=>
  obtain⟨h1,h2⟩:=hs hk;refine⟨_,_,rfl,.inl ⟨?_,hk,hv⟩⟩;unfold dT;rw[h2,h1];rfl
 |ptr hk hb hd=>exact⟨_,_,rfl,.inr (.inr (.inl ⟨rfl,hk,_,hb,hd⟩))⟩
 |lX hk hb hd=>exact⟨_,_,rfl,by simp[hk]⟩
 |lZ hk=>exact⟨_,_,rfl,by simp[hk]⟩
 |cM hk hi=>exact⟨_,_,rfl,by simp[hk,hi]⟩
theorem rQ(hL:dV W)(hs:s.of.kind=1->W.has s.of.num):(W.plain s).of.kind=1->(W.at (W.plain s).of.num).bU=false/\(((W.plain s).of.num.toNat:Nat):Int)=(W.plain s).of.num:=fun hk=>by
 obtain⟨h1,h2⟩:=pR hL hs hk;exact⟨h2,by have:=h1.1;omega⟩
theorem z8(B:eZ W E)(hL:dV W)(hM:E.mem.Le (Wm w0))(hd:Den W E s (.iface t x))(hs:s.of.kind=1->W.has s.of.num):
 az prog 60 [.iface t x] w0 fun r w'=>((∃b,r=vp b/\(W.plain s).of.kind=1/\E.ty (W.plain s).of.num.toNat b)\/(r= .pointer none/\(W.plain s).of.kind≠1))/\Fr [] w0 w':=by
 have h:=SH.start hM;refine aL mixed func60 Hq ?_;refine s_call h (B.ctx.Eb hL h.le hd hs) ?_;clear h;intro r w hr h;obtain⟨t',b',rfl,ht⟩:=hr.tag (rQ hL hs);rcases ht with⟨rfl,hk,hv⟩|⟨rfl,hk⟩|⟨rfl,hk,_⟩|⟨rfl,hk⟩|⟨rfl,hk⟩|⟨rfl,hk,_⟩
 .exact⟨.inl ⟨b',rfl,hk,hv⟩,h.fr⟩
 all_goals exact⟨.inr ⟨rfl,by rw[hk];decide⟩,h.fr⟩
theorem EQ(B:eZ W E)(hL:dV W)(hM:E.mem.Le (Wm w0))(hd:Den W E s (.iface t x))(hs:s.of.kind=1->W.has s.of.num):
 az prog 62 [.iface t x] w0 fun r w'=>((∃v,r= .tuple #[v,.bool true]/\(W.plain s).of.kind=2/\Den W E (W.plain s).elem v)\/(r= .tuple #[.iface t x,.bool false]/\(W.plain s).of.kind≠2))/\Fr [] w0 w':=by
 have h:=SH.start hM;refine aL mixed func62 Ck ?_;refine s_call h (B.ctx.Eb hL h.le hd hs) ?_;clear h;intro r w hr h;obtain⟨t',b',rfl,ht⟩:=hr.tag (rQ hL hs);rcases ht with⟨rfl,hk,hv⟩|⟨rfl,hk⟩|⟨rfl,hk,v,hb,hv⟩|⟨rfl,hk⟩|⟨rfl,hk⟩|⟨rfl,hk,_⟩;rotate_left 2
 .obtain⟨tv,bv,rfl,_⟩:=hv.iface;refine aP h (hb.at 0 rfl) ?_;refine aP h (hb.at 0 rfl) ?_;exact⟨.inl ⟨_,rfl,hk,hv⟩,h.fr⟩
 all_goals exact⟨.inr ⟨rfl,by rw[hk];decide⟩,h.fr⟩
theorem DB{K:Value->World->Prop}(B:eZ W E)(hL:dV W)(hM:E.mem.Le (Wm w0))(hd:Den W E s (.iface t x))(hs:s.of.kind=1->W.has s.of.num)
 (hk:∀t' b' w',Fr [] w0 w'->Den W E (W.under s) (.iface t' (vp b'))->((t'=229/\(W.under s).of.kind=0)\/(t'=221/\(W.under s).of.kind=2)\/(t'=223/\(W.under s).of.kind=3)\/(t'=168/\(W.under s).of.kind=4)\/(t'=134/\(W.under s).of.kind=5))->K (.iface t' (vp b')) w'):
 ∃f rc,fZ prog t x "Underlying" f rc/\az prog f [rc] w0 K:=by
 obtain⟨f,h1,h2⟩:=B.ctx.under hL hM hd hs;refine⟨f,x,h1,h2.mono ?_⟩;rintro r w' ⟨hr,hf⟩;have hn:=Ec hL hs;obtain⟨t',b',rfl,ht⟩:=hr.tag (fun h=>absurd h hn);refine hk t' b' w' hf hr ?_;rcases ht with⟨rfl,hk,hv⟩|⟨rfl,hk⟩|⟨rfl,hk,_⟩|⟨rfl,hk⟩|⟨rfl,hk⟩|⟨rfl,hk,_⟩
 .exact absurd hk hn
 all_goals simp[hk]
theorem zcA(B:eZ W E)(hL:dV W)(hM:E.mem.Le (Wm w0))(hd:Den W E s (.iface t x))(hs:s.of.kind=1->W.has s.of.num):
 az prog 61 [.iface t x] w0 fun r w'=>RD r ((W.under s).of.kind=2)/\Fr [] w0 w':=by
 refine aL mixed func61 Hr ?_;refine DB B hL hM hd hs ?_;rintro t' b' w' hf ke (⟨rfl,hk⟩|⟨rfl,hk⟩|⟨rfl,hk⟩|⟨rfl,hk⟩|⟨rfl,hk⟩);rotate_left 1
 .exact⟨.inl ⟨rfl,hk⟩,hf⟩
 all_goals exact⟨.inr ⟨rfl,by rw[hk];decide⟩,hf⟩
theorem zcz(B:eZ W E)(hL:dV W)(hM:E.mem.Le (Wm w0))(hd:Den W E s (.iface t x))(hs:s.of.kind=1->W.has s.of.num):
 az prog 63 [.iface t x] w0 fun r w'=>RD r ((W.under s).of.kind=5)/\Fr [] w0 w':=by
 refine aL mixed func63 Wx ?_;refine DB B hL hM hd hs ?_;rintro t' b' w' hf ke (⟨rfl,hk⟩|⟨rfl,hk⟩|⟨rfl,hk⟩|⟨rfl,hk⟩|⟨rfl,hk⟩);rotate_left 4
 .exact⟨.inl ⟨rfl,hk⟩,hf⟩
 all_goals exact⟨.inr ⟨rfl,by rw[hk];decide⟩,hf⟩
structure zN(W:Wd)(E:Ev)(j b:Nat)(a:Option Addr)(c:Nat)(bF:List Nat):Prop where
 c1:∃ob,E.mem.cell b 1=some (vp ob)/\ux W E j ob 120 b
 c5:E.mem.cell b 5=some (.int .u32 15)
 c9:E.mem.cell b 9=some (.slice a bF.length c)
 el:bQ E.mem 1 gz a (bF.map fun b=>[vp b])
 len:bF.length=(W.at (j:Nat)).methods.length
 all:∀(i x:Nat) (m:Int×Bool),bF[i]? =some x->(W.at (j:Nat)).methods[i]? =some m->fY E.mem E.pk (W.at (j:Nat)).aC m.1 m.2 x/\E.ob (W.start j+i) 128 x
theorem rZ.m(h:rZ W E j b):∃a c bF,zN W E j b a c bF:=by
 obtain⟨ob,u,vm,bF,h1,h2,h3,h4,h5,h6⟩:=h;obtain⟨a,c,rfl,hc,cE⟩:=h4;rw[qat]at h1;exact⟨a,c,bF,⟨ob,h1.at 1 rfl,h2⟩,h1.at 5 rfl,h1.at 9 rfl,cE,h5,h6⟩
theorem RH(hM:E.mem.Le (Wm w0))(hn:zN W E j b a c bF):az prog 66 [vp b] w0 fun r w'=>r= .int .i64 (bF.length:Int)/\Fr [] w0 w':=by
 have h:=SH.start hM;refine aL mixed func66 WA ?_;refine s_call h (az.pl (GM h.le hn.c5)) ?_;clear h;rintro _ w rfl h;refine aP h hn.c9 ?_;exact⟨rfl,h.fr⟩
theorem F4{i:Nat}(hM:E.mem.Le (Wm w0))(hn:zN W E j b a c bF)(hi:i<bF.length):az prog 68 [vp b,.int .i64 ((i:Nat):Int)] w0 fun r w'=>r=vp bF[i]/\Fr [] w0 w':=by
 have h:=SH.start hM;refine aL mixed func68 WC ?_;refine s_call h (az.pl (GM h.le hn.c5)) ?_;clear h;rintro _ w rfl h;refine s_call h (az.pl (zD (s:=15) (m:=4) (x:=true) (h.le.cell _ _ _ hn.c5) (by decide))) ?_;clear h;rintro _ w rfl h;refine aP h hn.c9 ?_;obtain⟨b2,o2,gD,rfl,cR,ct,qm⟩:=hn.el i [vp bF[i]] (by simp[hi]);cases qm;refine aJ (i) ?_;refine aP h (by simpa using ct 0 _ rfl) ?_;exact⟨rfl,h.fr⟩
structure ln(M:Mem)(b:Nat)(p n:Int):Prop where
 pb:∃k x,M.cell b 1=some (vp k)/\Bk M k [.string (dY p),x]
 nm:M.cell b 2=some (.string (bZ n))
 pO:cN p
 pN:bL n
theorem ln.le{N:Mem}(hl:M.Le N)(h:ln M b p n):ln N b p n:=by
 obtain⟨⟨k,x,h1,h2⟩,h3,h4,h5⟩:=h;exact⟨⟨k,x,hl.cell _ _ _ h1,h2.le hl⟩,hl.cell _ _ _ h3,h4,h5⟩
theorem fY.DF(h:fY M pk p n ptr b)(dW:∀p,cN p->∃x,Bk M (pk p) [.string (dY p),x])(hp:cN p)(hn:bL n):ln M b p n:=by
 obtain⟨sg,rb,rt,k,h1,_⟩:=h;obtain⟨x,hx⟩:=dW p hp;exact⟨⟨pk p,x,h1.at 1 rfl,hx⟩,h1.at 2 rfl,hp,hn⟩
theorem xC(hT:fA M)(hM:M.Le (Wm w0))(ho:ln M b p n):az prog 70 [vp b] w0 fun r w'=>r= .string (aM p n)/\Fr [] w0 w':=by
 obtain⟨k,x,h1,h2⟩:=ho.pb;exact RK hT hM h1 ho.nm h2 ho.pO ho.pN
theorem zdH(hT:fA M)(hM:M.Le (Wm w0))(ho:ln M b p n):az prog 191 [vp b] w0 fun r w'=>r= .bool (exported n)/\Fr [] w0 w':=by
 have h:=SH.start hM;refine aL mixed func191 VC ?_;refine aP h ho.nm ?_;refine s_call h (hT _ h.le n ho.pN) ?_;clear h;rintro _ w rfl h;exact⟨rfl,h.fr⟩
theorem Gk{m:Int}(hT:fA M)(hM:M.Le (Wm w0))(ho:ln M b p n)(iO:Bk M pb [.string (dY q),x])(hq:cN q)(hm:bL m):
 az prog 143 [vp b,vp pb,.string (bZ m),.bool false] w0 fun r w'=>RD r (aM p n=aM q m)/\Fr [] w0 w':=by
 have h:=SH.start hM;obtain⟨k,y,h1,h2⟩:=ho.pb;refine aL mixed func143 Vm ?_;refine aP h ho.nm ?_;refine aI (fun he=> ?_) (fun aT=> ?_);rotate_left 1
 .exact⟨.inr ⟨rfl,fun h'=>aT ((qA ho.pO ho.pN hq hm).1 h').1⟩,h.fr⟩
 refine s_call h (zdH hT h.le ho) ?_;clear h;rintro _ w rfl h;by_cases hx:exported n=true
 .rw[hx];exact⟨.inl ⟨rfl,(qA ho.pO ho.pN hq hm).2 ⟨he,.inl hx⟩⟩,h.fr⟩
 have iR:exported n=false:=by simpa using hx
 rw[iR];refine aP h h1 ?_;refine s_call h (Ll h.le h2 iO) ?_;clear h;rintro _ w rfl h;by_cases kF:dY p=dY q
 .exact⟨.inl ⟨qaL Value.bool (qaH kF),(qA ho.pO ho.pN hq hm).2 ⟨he,.inr kF⟩⟩,h.fr⟩
 exact⟨.inr ⟨qaL Value.bool (qaK kF),fun h'=>((qA ho.pO ho.pN hq hm).1 h').2.elim hx kF⟩,h.fr⟩
theorem KI(h8:n≠8)(hn:bL n):bZ n≠⟨#[95]⟩:=fun h=>h8 (ud hn ⟨by decide,by decide⟩ h)
theorem zcV{m:Int}(B:eZ W E)(hM:E.mem.Le (Wm w0))(hn:zN W E j b a c bF)(mw:cN (W.at (j:Nat)).aC)(fv:∀m∈(W.at (j:Nat)).methods,bL m.1)(hb:bF.length<=2^40)
 (iO:Bk E.mem pb [.string (dY q),x]) (hq:cN q) (hm:bL m) (h8:m≠8):
 az prog 142 [vp b,vp pb,.string (bZ m),.bool false] w0 fun r w'=>
  ((
   ∃(i fb:Nat) (hi:i<(W.at (j:Nat)).methods.length),r= .tuple #[.int .i64 ((i:Nat):Int),vp fb]/\bF[i]? =some fb/\aM (W.at (j:Nat)).aC ((W.at (j:Nat)).methods.getD i default).1=aM q m)\/
   (r= .tuple #[.int .i64 (-1),.pointer none]/\∀i,i<(W.at (j:Nat)).methods.length->aM (W.at (j:Nat)).aC ((W.at (j:Nat)).methods.getD i default).1≠aM q m))/\Fr [] w0 w':=by
 have h:=SH.start hM;obtain⟨ob,ql,eT⟩:=hn.c1;obtain⟨px,pG⟩:=B.ctx.pk _ mw;have hlen:=hn.len;have zbC:∀(i:Nat) (hi:i<(W.at (j:Nat)).methods.length),E.mem.cell (bF[i]'(by omega)) 2=some (.string (bZ ((W.at (j:Nat)).methods[i]).1)):=fun i hi=>by
  obtain⟨⟨sg,rb,rt,k,h1,_⟩,_⟩:=hn.all i _ _ (qaa (by omega)) (qaa hi);exact h1.at 2 rfl
 refine aL mixed func142 Vl ?_;refine s_call h (az.pl (GM h.le hn.c5)) ?_;clear h;rintro _ w rfl h;refine aP h ql ?_;refine aP h (eT.at 1 rfl) ?_;refine s_call h (Ll h.le pG iO) ?_;clear h;rintro _ w rfl h;obtain⟨l,hl⟩:∃l,l=((W.at (j:Nat)).methods.zip bF).map fun p=>(bZ p.1.1,p.2):=⟨_,rfl⟩;have eC:l.length=bF.length:=by rw[hl];simp[hlen]
 have cR:(l.map fun p=>[vp p.2])=bF.map fun b=>[vp b]:=by
  rw[hl,qbE];have:=List.map_snd_zip (l₁:=(W.at (j:Nat)).methods) (l₂:=bF) (by omega)
  conv=>rhs;rw[<-this,qbE]
  rfl
 have IR:∀(i:Nat) (hi:i<(W.at (j:Nat)).methods.length),l[i]? =some (bZ ((W.at (j:Nat)).methods[i]).1,bF[i]'(by rw[hlen];exact hi)):=fun i hi=>by
  rw[hl,qaE,qaa (by simp;omega)];simp
 have c9:=hn.c9;have cE:=hn.el;rw[<-cR]at cE;rw[<-eC]at c9;have look:∀{w:World},E.mem.Le (Wm w)->az prog 104 [vp b,.string (bZ m),.bool false] w fun r w'=>(∃z,r= .int .i64 z/\QT l (bZ m) z)/\Fr [] w w':=fun hMw=>
  QZ hMw c9 cE (fun p hp=>by
   obtain⟨i,hi,rfl⟩:=qak hp;have hi':i<(W.at (j:Nat)).methods.length:=by omega
   have:=IR i hi';rw[qaa hi]at this;rw[qaF this];exact zbC i hi') (by omega)
 have fin:∀{w:World},(dY (W.at (j:Nat)).aC=dY q\/exported m=true)->SH w0 E.mem [] E.mem [] w->∀(K:Value->World->Prop),
  (∀(i fb:Nat) (w1:World),i<(W.at (j:Nat)).methods.length->bF[i]? =some fb->aM (W.at (j:Nat)).aC ((W.at (j:Nat)).methods.getD i default).1=aM q m->SH w0 E.mem [] E.mem [] w1->K (.int .i64 ((i:Nat):Int)) w1)->
  (∀w1,(∀i,i<(W.at (j:Nat)).methods.length->aM (W.at (j:Nat)).aC ((W.at (j:Nat)).methods.getD i default).1≠aM q m)->SH w0 E.mem [] E.mem [] w1->K (.int .i64 (-1)) w1)->az prog 104 [vp b,.string (bZ m),.bool false] w K:=fun qx h K k1 k2=>by
  refine s_call h (look h.le) ?_;rintro r w1 ⟨z,rfl,hz⟩ h;rcases hz with⟨i,p,rfl,hp,kE,_⟩|⟨rfl,hz⟩
  .have hi:i<(W.at (j:Nat)).methods.length:=by have:=(qab.1 hp).1;omega
   have h1:=IR i hi;rw[hp]at h1;have h1:=qaF h1;rw[h1]at kE;have nC:=fv _ (qaf hi);refine k1 i _ w1 hi (qaa (by omega)) ?_ h;rw[fS hi];refine(qA mw nC hq hm).2 ⟨kE,?_⟩;rcases qx with h2|h2
   .exact .inr h2
   exact .inl (by rw[ud nC hm kE];exact h2)
  refine k2 w1 (fun i hi he=> ?_) h;rw[fS hi]at he;have nC:=fv _ (qaf hi);rcases hz with hz|hz
  .exact absurd hz (KI h8 hm)
  exact hz _ (qax (IR i hi)) ((qA mw nC hq hm).1 he).1
 by_cases kF:dY (W.at (j:Nat)).aC=dY q
 .rw[qaH kF];refine fin (.inl kF) h _ ?_ ?_
  .intro i fb w hi dQ hid h;refine aI (fun _=> ?_) (fun hx=>absurd hx (by omega));have hi':i<bF.length:=by omega
   refine s_call h (F4 h.le hn hi') ?_;clear h;rintro _ w rfl h;rw[qaa hi']at dQ;cases dQ;exact⟨.inl ⟨i,_,hi,rfl,qaa hi',hid⟩,h.fr⟩
  intro w bz h;refine aI (fun hx=>absurd hx (by omega)) (fun _=> ?_);exact⟨.inr ⟨rfl,bz⟩,h.fr⟩
 rw[qaK kF];refine s_call h (B.ctx.jt _ h.le m hm) ?_;clear h;rintro _ w rfl h;by_cases hx:exported m=true
 .rw[hx];refine fin (.inr hx) h _ ?_ ?_
  .intro i fb w hi dQ hid h;refine aI (fun _=> ?_) (fun hx=>absurd hx (by omega));have hi':i<bF.length:=by omega
   refine s_call h (F4 h.le hn hi') ?_;clear h;rintro _ w rfl h;rw[qaa hi']at dQ;cases dQ;exact⟨.inl ⟨i,_,hi,rfl,qaa hi',hid⟩,h.fr⟩
  intro w bz h;refine aI (fun hx=>absurd hx (by omega)) (fun _=> ?_);exact⟨.inr ⟨rfl,bz⟩,h.fr⟩
 have iR:exported m=false:=by simpa using hx
 rw[iR];refine⟨.inr ⟨rfl,fun i hi he=> ?_⟩,h.fr⟩;rw[fS hi]at he;have nC:=fv _ (qaf hi);obtain⟨h1,h2⟩:=(qA mw nC hq hm).1 he;rw[ud nC hm h1]at h2;exact h2.elim hx kF
theorem GH{ib tb:Nat}(hM:M.Le (Wm w0))(h0:M.cell ib 0=some (.pointer none))(h6:M.cell ib 6=some (vp tb)):az prog 72 [vp ib] w0 fun r w'=>r=vp tb/\Fr [] w0 w':=by
 have h:=SH.start hM;refine aL mixed func72 MF ?_;refine aP h h0 ?_;have h':=h;refine aL mixed func116 MA ?_;refine aP h h6 ?_;refine aP h h6 ?_;exact⟨rfl,h.fr⟩
theorem zc5{ms:List bD}{m:Int}(hT:fA M)(hM:M.Le (Wm w0))(cE:bQ M 1 gz a (bF.map fun b=>[vp b]))(jH:bC (fun(y:bD) b=>ln M b y.aC y.name) ms bF)(hb:bF.length<=2^40)
 (iO:Bk M pb [.string (dY q),x]) (hq:cN q) (hm:bL m) (h8:m≠8):
 az prog 192 [.slice a bF.length c,vp pb,.string (bZ m),.bool false] w0 fun r w'=>
  ((∃(i fb:Nat) (y:bD),r= .tuple #[.int .i64 ((i:Nat):Int),vp fb]/\bF[i]? =some fb/\ms[i]? =some y/\y.id=aM q m)\/(r= .tuple #[.int .i64 (-1),.pointer none]/\∀y∈ms,y.id≠aM q m))/\Fr [] w0 w':=by
 have h:=SH.start hM;have hlen:=jH.len;refine aL mixed func192 VD ?_;refine aI (fun h0=>absurd h0 (KI h8 hm)) (fun _=> ?_);refine bN (X:=Nat) (fun k=>[(1,vp pb),(2,.string (bZ m)),(3,.bool false),(14,.slice a bF.length c),(15,.int .i64 (bF.length:Int)),(16,.int .i64 (k:Int))])
  (fun k w=>k<=bF.length/\(∀y∈ms.take k,y.id≠aM q m)/\SH w0 M [] M [] w) (fun k=>bF.length-k) 0 ⟨rfl,rfl,rfl,rfl,rfl,rfl,tV⟩ ⟨qae _,by simp,h⟩ ?_
 clear h;rintro k aK w N ⟨hk,bz,h⟩ hN;refine aI (fun aG=> ?_) (fun aY=> ?_);rotate_left 1
 .obtain rfl:k=bF.length:=by omega
  rw[<-hlen,qay]at bz;exact⟨.inr ⟨rfl,bz⟩,h.fr⟩
 have ad:k<bF.length:=by omega
 have dE:k<ms.length:=by omega
 obtain⟨b2,o2,gD,rfl,cR,ct,qm⟩:=cE k [vp bF[k]] (by simp[ad]);cases qm;obtain⟨b',aW,eT⟩:=jH.get (i:=k) (x:=ms[k]) (by simp[dE]);rw[qaa ad]at aW;cases aW;refine aJ (k) ?_;refine aP h (by simpa using ct 0 _ rfl) ?_;refine s_call h (Gk hT h.le eT iO hq hm) ?_;clear h;rintro _ w (⟨rfl,he⟩|⟨rfl,he⟩) h
 .exact⟨.inl ⟨k,_,ms[k],rfl,qaa ad,qaa dE,he⟩,h.fr⟩
 refine aA (((k+1:Nat):Int)) ?_;refine hN (k+1) _ _ ⟨rfl,rfl,rfl,rfl,rfl,rfl,tV⟩ ⟨ad,fun y hy=> ?_,h⟩ (by omega);rw[<-dN dE]at hy;rcases qah.1 hy with hy|hy
 .exact bz y hy
 simp only[qac]at hy;subst hy;exact he
theorem XD{u:Value}(ht:t=120\/t=134):az prog 62 [.iface t u] w0 fun r w'=>r= .tuple #[.iface t u,.bool false]/\w'=w0:=by
 refine aL mixed func62 Ck ?_;refine az.mono (zI (t:=t) (u:=u) (by rcases ht with rfl|rfl;exact .inr (.inl rfl);exact .inl (.inl rfl))) ?_;rintro _ _ ⟨rfl,rfl⟩;rcases ht with rfl|rfl<;>exact⟨rfl,rfl⟩
theorem Lc(hM:M.Le (Wm w0))(hf:fY M pk p n ptr b):az prog 114 [vp b] w0 fun r w'=>r= .bool ptr/\Fr [] w0 w':=by
 have h:=SH.start hM;obtain⟨sg,rb,rt,k,h1,h2,h3,h4⟩:=hf;refine aL mixed func114 U8 ?_;refine aP h (h1.at 3 rfl) ?_;refine aP h (h2.at 0 rfl) ?_;refine aP h (h2.at 0 rfl) ?_;refine aP h (h3.at 3 rfl) ?_;rcases h4 with⟨rfl,pb,x,rfl,hb⟩|⟨rfl,t,x,rfl,ht⟩
 .refine aL mixed func62 Ck ?_;refine s_call h (az.pl (zI (t:=221) (u:=vp pb) (.inl (.inr (.inr (.inl rfl)))))) ?_;clear h;rintro _ w rfl h;refine aP h (hb.at 0 rfl) ?_;refine aP h (hb.at 0 rfl) ?_;exact⟨rfl,h.fr⟩
 refine s_call h (az.pl (XD ht)) ?_;clear h;rintro _ w rfl h;exact⟨rfl,h.fr⟩
end
end
section
variable {x cb b i n:Nat}{v v' pv:Value}{M:Mem}{s:Sp}
section
variable {w0:World}{M:Mem}
theorem zfk{y:Nat}(hM:M.Le (Wm w0))(hy:Bk M y [.bool false,.nilIface]):az prog 253 [vp x,vp y] w0 fun r w'=>r= .bool true/\Fr [] w0 w':=by
 have h:=SH.start hM;refine aL mixed func253 VU ?_;refine aP h (hy.at 1 rfl) ?_;refine aI trivial ?_;exact⟨rfl,h.fr⟩
theorem zfa(hM:M.Le (Wm w0))(hv:iV M v):az prog 242 [v,vp x] w0 fun r w'=>r= .bool true/\Fr [] w0 w':=by
 obtain⟨q,b,o,c,rfl,hc,hq,hb⟩:=hv.lit;have h:=SH.start hM;refine aL mixed func242 VT ?_;refine bN (X:=Unit) (fun _=>[(1,vp x),(7,.slice (some ⟨b,o,none⟩) 1 c),(8,.int .i64 1),(9,.int .i64 0)]) (fun _ w=>SH w0 M [] M [] w) (fun _=>0) () ⟨rfl,rfl,rfl,rfl,tV⟩ h ?_;clear h;rintro _ aK w N h hN;refine aI (fun aG=> ?_) (fun aY=> ?_);rotate_left 1
 .omega
 refine aJ (0) ?_;refine aP h (by simpa using hq) ?_;refine s_call h (zfk h.le hb) ?_;clear h;rintro _ w rfl h;exact⟨rfl,h.fr⟩
theorem SY(hM:M.Le (Wm w0))(hv:iV M v)(iQ:iV M v'):az prog 223 [v,v'] w0 fun r w'=>r= .bool true/\Fr [] w0 w':=by
 obtain⟨q,b,o,c,rfl,hc,hq,hb⟩:=hv.lit;have h:=SH.start hM;refine aL mixed func223 VK ?_;refine s_call h (Kn h.le iQ) ?_;clear h;rintro _ w rfl h;refine bN (X:=Nat) (fun k=>[(1,v'),(11,.slice (some ⟨b,o,none⟩) 1 c),(12,.int .i64 1),(13,.int .i64 (k:Int))]) (fun k w=>k<=1/\SH w0 M [] M [] w) (fun k=>1-k) 0 ⟨rfl,rfl,rfl,rfl,tV⟩ ⟨qae _,h⟩ ?_;clear h;rintro k aK w N ⟨hk,h⟩ hN;refine aI (fun aG=> ?_) (fun aY=> ?_);rotate_left 1
 .exact⟨rfl,h.fr⟩
 obtain rfl:k=0:=by omega
 refine aJ (0) ?_;refine aP h (by simpa using hq) ?_;refine s_call h (zfa h.le iQ) ?_;clear h;rintro _ w rfl h;refine aA (((1:Nat):Int)) ?_;exact hN 1 _ _ ⟨rfl,rfl,rfl,rfl,tV⟩ ⟨qad _,h⟩ (by omega)
theorem XN(hM:M.Le (Wm w0))(hv:iV M v)(iQ:iV M v'):az prog 196 [v,v'] w0 fun r w'=>r= .bool true/\Fr [] w0 w':=by
 have h:=SH.start hM;refine aL mixed func196 c196 ?_;refine s_call h (SY h.le hv iQ) ?_;clear h;rintro _ w rfl h;refine s_call h (SY h.le iQ hv) ?_;clear h;rintro _ w rfl h;exact⟨rfl,h.fr⟩
theorem ui:nO prog 235=true/\nO prog 289=true/\nO prog 120=true/\nO prog 229=true/\nO prog 221=true/\nO prog 223=true/\nO prog 168=true/\nO prog 134=true/\nO prog 125=true:=by
 refine⟨?_,?_,?_,?_,?_,?_,?_,?_,?_⟩<;>kernel_rfl
theorem P9(hM:M.Le (Wm w0)):az prog 147 [vp cb,.iface 289 (.pointer none),.iface 289 (.pointer none),pv] w0 fun r w'=>r= .bool true/\Fr [] w0 w':=by
 have h:=SH.start hM;refine aL mixed func147 Hn ?_;refine s_call h (az.pl (zI (t:=289) (u:= .pointer none) (.inr (.inr (.inr rfl))))) ?_;clear h;rintro _ w rfl h;refine s_call h (az.pl (zI (t:=289) (u:= .pointer none) (.inr (.inr (.inr rfl))))) ?_;clear h;rintro _ w rfl h;refine aI ui.2.1 ?_;exact⟨rfl,h.fr⟩
theorem zci{sg Gm:Nat}{rv rv':Value}(hM:M.Le (Wm w0))(kB:Bk M cb [.bool false,.bool false])(h1:Bk M sg [rv,.pointer none,.pointer none,.pointer none,.bool false])(h2:Bk M Gm [rv',.pointer none,.pointer none,.pointer none,.bool false]):
 az prog 147 [vp cb,.iface 235 (vp sg),.iface 235 (vp Gm),pv] w0 fun r w'=>r= .bool true/\Fr [] w0 w':=by
 have h:=SH.start hM;refine aL mixed func147 Hn ?_;refine s_call h (az.pl (zI (t:=235) (u:=vp sg) (.inr (.inr (.inl rfl))))) ?_;clear h;rintro _ w rfl h;refine s_call h (az.pl (zI (t:=235) (u:=vp Gm) (.inr (.inr (.inl rfl))))) ?_;clear h;rintro _ w rfl h;refine aI ui.1 (aI (.inr ⟨h.le.own _ h1.own,h.le.own _ h2.own⟩) (aI (fun _=> ?_) (fun _=> ?_)))
 .exact⟨rfl,h.fr⟩
 refine aP h (kB.at 1 rfl) ?_;refine aP h (h2.at 2 rfl) ?_;refine aP h (h2.at 3 rfl) ?_;refine b_ [] h ?_;clear h;intro w h;refine cd h (h1.at 4 rfl) ?_;refine cd h (h2.at 4 rfl) ?_;refine cd h (h1.at 2 rfl) ?_;refine aI ?_ trivial;refine dg h (P9 (M:=M) h.le) ?_;clear h;rintro _ w rfl h;refine cd h (h1.at 3 rfl) ?_;refine aI ?_ trivial;refine dg h (P9 (M:=M) h.le) ?_;clear h;rintro _ w rfl h;exact⟨rfl,h.fr⟩
end
section
variable {W:Wd}{E:Ev}
theorem Bk.wB{c c':List Value}(h:Bk M b c)(h':Bk M b c')(hv:c[i]? =some v)(iQ:c'[i]? =some v'):v=v':=qaF ((h.at i hv).symm.trans (h'.at i iQ))
theorem mI.ER:∀{n:Nat} {x y:Value},mI M n x y->∀{m:Nat} {y':Value},mI M m x y'->y=y':=by
 intro n x y h
 induction h with
 |stop ht=>
  intro m y' h';generalize hx:Value.iface _ _=x at h';cases h' with
  |stop=>rfl
  |step=>
   have:=(qaP hx).1;subst this;unfold Plain at ht;rcases ht with(h|h|h|h|h)|h<;>cases h
 |step hc h ih=>
  intro m y' h';generalize hx:Value.iface _ _=x at h';cases h' with
  |stop ht=>
   have:=(qaP hx).1;subst this;unfold Plain at ht;rcases ht with(h|h|h|h|h)|h<;>cases h
  |step gg h'=>
   have:=(qaP hx).2;simp only[qbM,qao,qbW,qca]at this;subst this;rw[hc]at gg;cases gg;exact ih h'
theorem eZ.chain(B:eZ W E)(hL:dV W)(hd:Den W E s v)(hs:s.of.kind=1->W.has s.of.num):∃n y,mI E.mem n v y/\Den W E (W.plain s) y:=
 hd.chain hL hs fun hk ha b hb=>by
  have hh:=hs hk;have e:((s.of.num.toNat:Nat):Int)=s.of.num:=by have:=hh.1;omega
  exact B.ctx.al _ b hh.2 (by rw[e];exact ha) hb
theorem zd6(B:eZ W E){p q:Int}(hp:cN p)(hq:cN q)(h:vp (E.pk p)=vp (E.pk q)):dY p=dY q:=by
 obtain⟨x,hx⟩:=B.ctx.pk p hp;obtain⟨y,hy⟩:=B.ctx.pk q hq;simp only[qbM,qao,qbW,qca]at h;rw[h]at hx;have:=hx.wB hy (i:=0) rfl rfl;exact qcc this
theorem Den.inv(h:Den W E s v)(hk:s.of.kind=4):∃(b:Nat) (va:Value) (cH:List Nat) (gZ:List Value),v= .iface 168 (vp b)/\Bk E.mem b [va,.slice none 0 0]/\cH.length=s.of.fields.length/\gZ.length=s.of.fields.length/\Sl E.mem 1 gz va (cH.map fun b=>[vp b])/\
 (∀(i b:Nat) (v:Value) (f:Int×Bool×Ty),cH[i]? =some b->gZ[i]? =some v->s.of.fields[i]? =some f->Bk E.mem b [.int .i64 0,vp (E.pk s.aC),.string (bZ (W.fieldName f)),v,.int .u8 6,.bool f.2.1])/\
 (∀(i b:Nat),cH[i]? =some b->E.ob (s.fieldAt i) 172 b)/\∀(i:Nat) (v:Value),gZ[i]? =some v->Den W E (s.field i) v:=by
 cases h with
 |lZ _ hb h1 h2 h3 h4 h5 h6=>exact⟨_,_,_,_,rfl,hb,h1,h2,h3,h4,h5,h6⟩
 |basic ad=>rw[hk]at ad;cases ad
 |named ad=>rw[hk]at ad;cases ad
 |ptr ad=>rw[hk]at ad;cases ad
 |lX ad=>rw[hk]at ad;cases ad
 |cM ad=>rw[hk]at ad;cases ad
theorem kN{a:Nat}(h:vp a=vp b):a=b:=by
 simp only[qbM,qao,qbW,qca]at h;exact h
theorem Sl.ER{l l':List Nat}(h:Sl M 1 gz v (l.map fun b=>[vp b]))(h':Sl M 1 gz v (l'.map fun b=>[vp b])):l=l':=by
 obtain⟨a,c,rfl,_,he⟩:=h;obtain⟨a',c',hv,_,dD⟩:=h';simp only[qat,qa5]at hv;obtain⟨rfl,hl,rfl⟩:=hv;apply qbe;intro i;by_cases hi:i<l.length
 .have hi':i<l'.length:=by omega
  obtain⟨b,o,cs,rfl,_,hr,hx⟩:=he i [vp l[i]] (by simp[hi]);obtain⟨b',o',cs',ha,_,JG,iR⟩:=dD i [vp l'[i]] (by simp[hi']);cases ha;have e1:cs=[vp l[i]]:=hx;have e2:cs'=[vp l'[i]]:=iR;have h1:=hr 0 (vp l[i]) (by rw[e1];rfl);have h2:=JG 0 (vp l'[i]) (by rw[e2];rfl);have:=kN (qaF (h1.symm.trans h2));rw[qaa hi,qaa hi',this]
 rw[qa3 (by omega),qa3 (by omega)]
theorem VS.field(h:VS W s)(hi:i<s.of.fields.length):VS W (s.field i):=⟨h.gs.field hi,h.val.field i hi⟩
theorem VS.elem(h:VS W s)(hk:s.of.kind=2\/s.of.kind=3):VS W s.elem:=⟨h.gs.elem (h.gs.ok.el hk),h.val.el (h.gs.ok.el hk)⟩
theorem RA.field(g:GD W)(h:RA W (n+1) s)(hv:VS W s)(hk:(W.plain s).of.kind=4)(hi:i<(W.plain s).of.fields.length):RA W n ((W.plain s).field i):=
 h.step g (by rw[hk];decide) ((hv.plain g).gs.field hi) (fun d v hf=>⟨v,by rw[Sp.tE hi];exact(hf.fields (qaf hi)).2.1⟩) (by rw[Sp.tE hi];exact Ty.sj (qaf hi))
theorem RA.elem(g:GD W)(h:RA W (n+1) s)(hv:VS W s)(hk:(W.plain s).of.kind=2):RA W n (W.plain s).elem:=by
 have aT:=(hv.plain g).gs.ok.el (.inl hk);exact h.step g (by rw[hk];decide) ((hv.plain g).gs.elem aT) (fun d v hf=>⟨false,hf.elems _ (Sp.uF aT)⟩) (Ty.pe (Sp.uF aT))
theorem Den.same(g:GD W)(B:eZ W E):∀(n:Nat) (s s':Sp) (v:Value),RA W n s->VS W s->VS W s'->Den W E (W.plain s) v->Den W E (W.plain s') v->jQ W s s':=by
 intro n
 induction n with
 |zero=>
  intro s s' v hr hs cT hd ke;have hk:(W.plain s).of.kind=1:=by
   rcases hr with h|⟨_,_,_,_,h⟩
   .exact h
   exact absurd h (qav _)
  obtain⟨t,b,rfl,ht⟩:=hd.tag (rQ g.later hs.gs.ok.num);obtain⟨t',b',he,rI⟩:=ke.tag (rQ g.later cT.gs.ok.num);obtain⟨rfl,hb⟩:=qaP he;have hb:=kN hb;subst hb;rcases ht with⟨rfl,h1,h2⟩|⟨_,h1⟩|⟨_,h1,_⟩|⟨_,h1⟩|⟨_,h1⟩|⟨_,h1,_⟩;rotate_left 1
  all_goals first|(rw[hk]at h1;exact absurd h1 (by decide))|skip
  rcases rI with⟨_,iH,mO⟩|⟨h,_⟩|⟨h,_⟩|⟨h,_⟩|⟨h,_⟩|⟨h,_⟩;rotate_left 1
  all_goals try cases h
  obtain⟨a1,a2⟩:=rQ g.later hs.gs.ok.num h1;obtain⟨G8,BZ⟩:=rQ g.later cT.gs.ok.num iH;have:=B.D_ _ _ _ (by rw[a2];exact a1) (by rw[BZ];exact G8) h2 mO;exact .named g hs.gs cT.gs h1 iH (by rw[<-a2,<-BZ,this])
 |succ n ih=>
  intro s s' v hr hs cT hd ke;have v1:=hs.plain g;have v2:=cT.plain g;have sub:∀{c c':Sp} {u:Value},RA W n c->VS W c->VS W c'->Den W E c u->Den W E c' u->jQ W c c':=fun{c c' u} hr hc gg hd ke=>by
   obtain⟨_,y,ch,h1⟩:=B.chain g.later hd hc.gs.ok.num;obtain⟨_,y',Hv,iH⟩:=B.chain g.later ke gg.gs.ok.num;have:=ch.ER Hv;subst this;exact ih _ _ _ hr hc gg h1 iH
  obtain⟨t,b,rfl,ht⟩:=hd.tag (rQ g.later hs.gs.ok.num);obtain⟨t',b',he,rI⟩:=ke.tag (rQ g.later cT.gs.ok.num);obtain⟨rfl,hb⟩:=qaP he;have hb:=kN hb;subst hb;rcases ht with⟨rfl,h1,h2⟩|⟨rfl,h1⟩|⟨rfl,h1,u,hu,nu⟩|⟨rfl,h1⟩|⟨rfl,h1⟩|⟨rfl,h1,h2⟩
  .rcases rI with⟨_,iH,mO⟩|⟨h,_⟩|⟨h,_⟩|⟨h,_⟩|⟨h,_⟩|⟨h,_⟩;rotate_left 1
   all_goals try cases h
   obtain⟨a1,a2⟩:=rQ g.later hs.gs.ok.num h1;obtain⟨G8,BZ⟩:=rQ g.later cT.gs.ok.num iH;have:=B.D_ _ _ _ (by rw[a2];exact a1) (by rw[BZ];exact G8) h2 mO;exact .named g hs.gs cT.gs h1 iH (by rw[<-a2,<-BZ,this])
  .rcases rI with⟨h,_⟩|⟨_,iH⟩|⟨h,_⟩|⟨h,_⟩|⟨h,_⟩|⟨h,_⟩;rotate_left 1
   .exact .flat g hs.gs cT.gs h1 iH (.inl rfl)
   all_goals cases h
  .rcases rI with⟨h,_⟩|⟨h,_⟩|⟨_,iH,u',pJ,za2⟩|⟨h,_⟩|⟨h,_⟩|⟨h,_⟩;rotate_left 2
   .have:=hu.wB pJ (i:=0) rfl rfl;subst this;exact .ptr g hs.gs cT.gs h1 iH (sub (hr.elem g hs h1) (v1.elem (.inl h1)) (v2.elem (.inl iH)) nu za2).nn
   all_goals cases h
  .rcases rI with⟨h,_⟩|⟨h,_⟩|⟨h,_⟩|⟨_,iH⟩|⟨h,_⟩|⟨h,_⟩;rotate_left 3
   .exact .flat g hs.gs cT.gs h1 iH (.inr rfl)
   all_goals cases h
  .rcases rI with⟨h,_⟩|⟨h,_⟩|⟨h,_⟩|⟨h,_⟩|⟨_,iH⟩|⟨h,_⟩;rotate_left 4
   .obtain⟨q,va,cH,gZ,e1,b1,l1,m1,s1,f1,_,d1⟩:=hd.inv h1;obtain⟨q',GP,zf7,zgJ,e2,b2,l2,m2,s2,f2,_,d2⟩:=ke.inv iH;cases e1;cases e2;have:=b1.wB b2 (i:=0) rfl rfl;subst this;have:=s1.ER s2;subst this;obtain⟨d,vv,hf⟩:=v1.gs.form;obtain⟨d',vv',gh⟩:=v2.gs.form;refine .struct g hs cT h1 iH (by omega) fun i hi=> ?_;have hi':i<(W.plain s').of.fields.length:=by omega
    have g1:=f1 i _ _ _ (qaa (by omega)) (qaa (by omega)) (qaa hi);have g2:=f2 i _ _ _ (qaa (by omega)) (qaa (by omega)) (qaa hi');rw[fS hi,fS hi'];refine⟨Value.bool.inj (g1.wB g2 (i:=5) rfl rfl),(qA v1.gs.aC (nq g.gw.name hf (qaf hi)) v2.gs.aC (nq g.gw.name gh (qaf hi'))).2 ⟨qcc (g1.wB g2 (i:=2) rfl rfl),.inr (zd6 B v1.gs.aC v2.gs.aC (g1.wB g2 (i:=1) rfl rfl))⟩,?_⟩;have e3:=g1.wB g2 (i:=3) rfl rfl;have x1:=d1 i _ (qaa (by omega));have x2:=d2 i _ (qaa (by omega));rw[<-e3]at x2;exact sub (hr.field g hs h1 hi) (v1.field hi) (v2.field hi') x1 x2
   all_goals cases h
  rcases rI with⟨h,_⟩|⟨h,_⟩|⟨h,_⟩|⟨h,_⟩|⟨h,_⟩|⟨_,iH,mO⟩;rotate_left 5
  .exact .self g hs.gs cT.gs (B.ctx.A_ _ _ _ h2 mO)
  all_goals cases h
end
end
section
variable {s:Sp}{t:TypeId}{b n k c:Nat}{M:Mem}{a:Option Addr}
section
variable {W:Wd}{E:Ev}{w0:World}
def RI(W:Wd)(s s':Sp)(r:Value):Prop:=(r= .bool true/\jQ W s s')\/(r= .bool false/\¬qS W s s')
theorem Den.own(B:eZ W E)(h:Den W E s (.iface t (vp b)))(hs:s.of.kind=1->W.has s.of.num/\(W.at s.of.num).bU=false):E.mem.own b:=by
 generalize hv:Value.iface t (vp b)=v at h;cases h with
 |basic _ hb=>rw[kN (qaP hv).2];exact hb.own
 |named hk hb=>
  obtain⟨h1,h2⟩:=hs hk;have e:((s.of.num.toNat:Nat):Int)=s.of.num:=by have:=h1.1;omega
  obtain⟨ob,u,vm,bF,h3,_⟩:=B.ctx.nm _ _ h1.2 (by rw[e];exact h2) hb;rw[kN (qaP hv).2];exact h3.own
 |ptr _ hb=>rw[kN (qaP hv).2];exact hb.own
 |lX _ hb=>rw[kN (qaP hv).2];exact hb.own
 |lZ _ hb=>rw[kN (qaP hv).2];exact hb.own
 |cM _ hb=>rw[kN (qaP hv).2];exact(B.ctx.ifs _ _ hb).1.own
theorem Den.Mq(h:Den W E s (.iface t (vp b)))(hk:s.of.kind=0):∃(k i:Int) (nm:ByteArray),Bk E.mem b [.int .i64 k,.int .i64 i,.string nm]:=by
 generalize hv:Value.iface t (vp b)=v at h;cases h with
 |basic _ hb=>rw[kN (qaP hv).2];exact⟨_,_,_,hb⟩
 |named ad=>rw[hk]at ad;cases ad
 |ptr ad=>rw[hk]at ad;cases ad
 |lX ad=>rw[hk]at ad;cases ad
 |lZ ad=>rw[hk]at ad;cases ad
 |cM ad=>rw[hk]at ad;cases ad
theorem Den.SQ(h:Den W E s (.iface t (vp b)))(hk:s.of.kind=3):∃v,Bk E.mem b [v]/\Den W E s.elem v:=by
 generalize hv:Value.iface t (vp b)=v at h;cases h with
 |lX _ hb hd=>rw[kN (qaP hv).2];exact⟨_,hb,hd⟩
 |named ad=>rw[hk]at ad;cases ad
 |ptr ad=>rw[hk]at ad;cases ad
 |basic ad=>rw[hk]at ad;cases ad
 |lZ ad=>rw[hk]at ad;cases ad
 |cM ad=>rw[hk]at ad;cases ad
theorem RA.XK(g:GD W)(h:RA W (n+1) s)(hv:VS W s)(hk:(W.plain s).of.kind=3):RA W n (W.plain s).elem:=by
 have aT:=(hv.plain g).gs.ok.el (.inr hk);exact h.step g (by rw[hk];decide) ((hv.plain g).gs.elem aT) (fun d v hf=>⟨false,hf.elems _ (Sp.uF aT)⟩) (Ty.pe (Sp.uF aT))
theorem Gx{va:Value}(hM:M.Le (Wm w0))(hb:Bk M b [va,.slice none 0 0]):az prog 195 [vp b,.int .i64 ((k:Nat):Int)] w0 fun r w'=>r= .string ⟨#[]⟩/\Fr [] w0 w':=by
 have h:=SH.start hM;refine aL mixed func195 VE ?_;refine aP h (hb.at 1 rfl) ?_;refine aI (fun h1=> ?_) (fun h1=> ?_)
 .omega
 exact⟨rfl,h.fr⟩
theorem RG{vt:Value}(hM:M.Le (Wm w0))(hb:Bk M b [.slice a n c,vt]):az prog 194 [vp b] w0 fun r w'=>r= .int .i64 (n:Int)/\Fr [] w0 w':=by
 have h:=SH.start hM;refine aL mixed func194 c194 ?_;refine aP h (hb.at 0 rfl) ?_;exact⟨rfl,h.fr⟩
theorem R0{u:World}{M0:Mem}{D:List Nat}{L:List aB}{w:World}{a:Nat}{neg:Bool}{next:Value->Prop}(r:Bool)(h:SH u M0 D M L w)(h1:M.own a)(h2:M.own b)(hr:decide (a=b)=r)(k:next (.bool (ic neg r))):
 ∃v,(∀x,Fr [] w x->Bw x (some ⟨a,0,none⟩) (some ⟨b,0,none⟩) fun r=>Value.bool (ic neg r)=v/\x=x)/\next v:=by
 refine⟨_,fun x hx=>⟨.inr ⟨(h.lu hx).le.own _ h1,(h.lu hx).le.own _ h2⟩,fun he=>⟨?_,rfl⟩,fun aT=>⟨?_,rfl⟩⟩,k⟩
 .have:=qaL Addr.block he;simp only at this;rw[<-hr,qaH this]
 rw[<-hr,qaK fun h=>aT (by rw[h])]
theorem zdL{j b':Nat}{a':Option Addr}{c':Nat}{l l':List Nat}(hM:E.mem.Le (Wm w0))(h1:zN W E j b a c l)(h2:zN W E k b' a' c' l'):az prog 198 [vp b,vp b'] w0 fun r w'=>((r= .bool true/\b=b')\/r= .bool false)/\Fr [] w0 w':=by
 have h:=SH.start hM;obtain⟨o1,c1,t1⟩:=h1.c1;obtain⟨o2,c2,t2⟩:=h2.c1;refine aL mixed func198 c198 ?_;refine b_ [] h ?_;clear h;intro w h;refine cd h c1 ?_;refine cd h c2 ?_;by_cases ho:o1=o2
 .refine R0 true h t1.own t2.own (qaH ho) ?_;subst ho;exact⟨.inl ⟨rfl,kN (qaP (t1.wB t2 (i:=3) rfl rfl)).2⟩,h.fr⟩
 refine R0 false h t1.own t2.own (qaK ho) ?_;exact⟨.inr rfl,h.fr⟩
theorem zcj(g:GD W)(B:eZ W E){cb:Nat}(kB:Bk E.mem cb [.bool false,.bool false]):∀(n:Nat) (s s':Sp) (vx vy:Value) (w0:World),RA W n s->VS W s->VS W s'->Den W E s vx->Den W E s' vy->E.mem.Le (Wm w0)->
 az prog 147 [vp cb,vx,vy,.pointer none] w0 fun r w'=>RI W s s' r/\Fr [] w0 w':=by
 intro n
 induction n using Nat.strongRecOn with
 |ind n ih=>
 intro s s' vx vy w0 hr hs cT Fh AA hM;obtain⟨tx,bx,rfl,_⟩:=Fh.iface;obtain⟨ty,My,rfl,_⟩:=AA.iface;have h:=SH.start hM;refine aL mixed func147 Hn ?_;refine s_call h (B.ctx.Eb g.later h.le Fh hs.gs.ok.num) ?_;clear h;intro r1 w jC h;refine s_call h (B.ctx.Eb g.later h.le AA cT.gs.ok.num) ?_;clear h;intro r2 w gG h;have v1:=hs.plain g;have v2:=cT.plain g;obtain⟨t1,b1,rfl,Dp⟩:=jC.tag (rQ g.later hs.gs.ok.num);obtain⟨t2,b2,rfl,t6⟩:=gG.tag (rQ g.later cT.gs.ok.num);have AR:=jC.own B (pR g.later hs.gs.ok.num);have AS:=gG.own B (pR g.later cT.gs.ok.num);rcases Dp with⟨rfl,k1,e1⟩|⟨rfl,k1⟩|⟨rfl,k1,u1,p1,HE⟩|⟨rfl,k1⟩|⟨rfl,k1⟩|⟨rfl,k1,i1⟩
 .rcases t6 with⟨rfl,k2,e2⟩|⟨rfl,k2⟩|⟨rfl,k2,_⟩|⟨rfl,k2⟩|⟨rfl,k2⟩|⟨rfl,k2,_⟩
  .have n1:=pR g.later hs.gs.ok.num k1;have n2:=pR g.later cT.gs.ok.num k2;have q1:(((W.plain s).of.num.toNat:Nat):Int)=(W.plain s).of.num:=by have:=n1.1.1;omega
   have q2:(((W.plain s').of.num.toNat:Nat):Int)=(W.plain s').of.num:=by have:=n2.1.1;omega
   have fin:b1=b2->jQ W s s':=fun he=>by
    subst he;have:=B.D_ _ _ _ (by rw[q1];exact n1.2) (by rw[q2];exact n2.2) e1 e2;exact .named g hs.gs cT.gs k1 k2 (by rw[<-q1,<-q2,this])
   obtain⟨_,_,_,m1⟩:=(B.ctx.nm _ _ n1.1.2 (by rw[q1];exact n1.2) e1).m;obtain⟨_,_,_,m2⟩:=(B.ctx.nm _ _ n2.1.2 (by rw[q2];exact n2.2) e2).m;refine aI ui.2.2.1 (aI (.inr ⟨h.le.own _ AR,h.le.own _ AS⟩) (aI (fun he=> ?_) (fun aT=> ?_)))
   .exact⟨.inl ⟨rfl,fin (qaL Addr.block he)⟩,h.fr⟩
   refine aP h (kB.at 1 rfl) ?_;refine s_call h (z8 B g.later h.le gG fun hk=>n2.1) ?_;clear h;rintro _ w (⟨b3,rfl,k3,e3⟩|⟨rfl,k3⟩) h;rotate_left 1
   .exact absurd (by rw[oX g.later cT.gs.ok.num];exact k2) k3
   rw[oX g.later cT.gs.ok.num]at e3;have:=B.BK _ _ _ e2 e3;subst this;refine s_call h (zdL h.le m1 m2) ?_;clear h;rintro _ w (⟨rfl,he⟩|rfl) h
   .exact⟨.inl ⟨rfl,fin he⟩,h.fr⟩
   refine⟨.inr ⟨rfl,fun fL=>aT ?_⟩,h.fr⟩;have e3:=fL.2.2;rw[e3]at e1;rw[B.BK _ _ _ e1 e2]
  all_goals
   refine aP h (kB.at 1 rfl) ?_;refine s_call h (z8 B g.later h.le gG fun hk=>absurd hk (by rw[k2];decide)) ?_;clear h;rintro _ w (⟨b3,rfl,k3,e3⟩|⟨rfl,k3⟩) h
   .exact absurd k3 (by rw[oX g.later cT.gs.ok.num,k2];decide)
   exact⟨.inr ⟨rfl,fun fL=>absurd fL.2.1 (by rw[k2];decide)⟩,h.fr⟩
 .have hn:¬qS W s s':=fun fL=>absurd fL.1 (by rw[k1];decide);rcases t6 with⟨rfl,k2,e2⟩|⟨rfl,k2⟩|⟨rfl,k2,_⟩|⟨rfl,k2⟩|⟨rfl,k2⟩|⟨rfl,k2,_⟩;rotate_left 1
  .have fin:jQ W s s':= .flat g hs.gs cT.gs k1 k2 (.inl rfl);obtain⟨ka,ia,na,ba⟩:=jC.Mq k1;obtain⟨kb,ib,nb,bb⟩:=gG.Mq k2;refine aI ui.2.2.2.1 (aI (.inr ⟨h.le.own _ AR,h.le.own _ AS⟩) (aI (fun he=> ?_) (fun aT=> ?_)))
   .exact⟨.inl ⟨rfl,fin⟩,h.fr⟩
   refine aP h (kB.at 1 rfl) ?_;refine b_ [] h ?_;clear h;intro w h;refine cd h (ba.at 0 rfl) ?_;refine cd h (bb.at 0 rfl) ?_;refine aI (fun h1=> ?_) (fun h1=> ?_)
   .exact⟨.inl ⟨rfl,fin⟩,h.fr⟩
   exact⟨.inr ⟨rfl,hn⟩,h.fr⟩
  all_goals
   refine aP h (kB.at 1 rfl) ?_;exact⟨.inr ⟨rfl,hn⟩,h.fr⟩
 .have hn:¬qS W s s':=fun fL=>absurd fL.1 (by rw[k1];decide);rcases t6 with⟨rfl,k2,e2⟩|⟨rfl,k2⟩|⟨rfl,k2,u2,p2,HF⟩|⟨rfl,k2⟩|⟨rfl,k2⟩|⟨rfl,k2,_⟩;rotate_left 2
  .refine aI ui.2.2.2.2.1 (aI (.inr ⟨h.le.own _ AR,h.le.own _ AS⟩) (aI (fun he=> ?_) (fun aT=> ?_)))
   .have he:=qaL Addr.block he;simp only at he;subst he;exact⟨.inl ⟨rfl,jC.same g B _ _ _ _ hr hs cT gG⟩,h.fr⟩
   refine aP h (kB.at 1 rfl) ?_;refine b_ [] h ?_;clear h;intro w h;refine cd h (p1.at 0 rfl) ?_;refine cd h (p2.at 0 rfl) ?_;refine aI ?_ trivial;cases n with
   |zero=>exact absurd k1 (by rcases hr with h1|⟨_,_,_,_,h1⟩;rw[h1];decide;exact absurd h1 (qav _))
   |succ n=>
   refine dg h (ih n (qam _) _ _ _ _ _ (hr.elem g hs k1) (v1.elem (.inl k1)) (v2.elem (.inl k2)) HE HF h.le) ?_;clear h;rintro _ w (⟨rfl,hi⟩|⟨rfl,_⟩) h
   .exact⟨.inl ⟨rfl,.ptr g hs.gs cT.gs k1 k2 hi.nn⟩,h.fr⟩
   exact⟨.inr ⟨rfl,hn⟩,h.fr⟩
  all_goals
   refine aP h (kB.at 1 rfl) ?_;exact⟨.inr ⟨rfl,hn⟩,h.fr⟩
 .have hn:¬qS W s s':=fun fL=>absurd fL.1 (by rw[k1];decide);rcases t6 with⟨rfl,k2,e2⟩|⟨rfl,k2⟩|⟨rfl,k2,_⟩|⟨rfl,k2⟩|⟨rfl,k2⟩|⟨rfl,k2,_⟩;rotate_left 3
  .have fin:jQ W s s':= .flat g hs.gs cT.gs k1 k2 (.inr rfl);obtain⟨u1,p1,HE⟩:=jC.SQ k1;obtain⟨u2,p2,HF⟩:=gG.SQ k2;refine aI ui.2.2.2.2.2.1 (aI (.inr ⟨h.le.own _ AR,h.le.own _ AS⟩) (aI (fun he=> ?_) (fun aT=> ?_)))
   .exact⟨.inl ⟨rfl,fin⟩,h.fr⟩
   refine aP h (kB.at 1 rfl) ?_;refine b_ [] h ?_;clear h;intro w h;refine cd h (p1.at 0 rfl) ?_;refine cd h (p2.at 0 rfl) ?_;refine aI ?_ trivial;cases n with
   |zero=>exact absurd k1 (by rcases hr with h1|⟨_,_,_,_,h1⟩;rw[h1];decide;exact absurd h1 (qav _))
   |succ n=>
   refine dg h (ih n (qam _) _ _ _ _ _ (hr.XK g hs k1) (v1.elem (.inr k1)) (v2.elem (.inr k2)) HE HF h.le) ?_;clear h;rintro _ w (⟨rfl,hi⟩|⟨rfl,_⟩) h
   .exact⟨.inl ⟨rfl,fin⟩,h.fr⟩
   exact⟨.inr ⟨rfl,hn⟩,h.fr⟩
  all_goals
   refine aP h (kB.at 1 rfl) ?_;exact⟨.inr ⟨rfl,hn⟩,h.fr⟩
 .have hn:¬qS W s s':=fun fL=>absurd fL.1 (by rw[k1];decide);rcases t6 with⟨rfl,k2,e2⟩|⟨rfl,k2⟩|⟨rfl,k2,_⟩|⟨rfl,k2⟩|⟨rfl,k2⟩|⟨rfl,k2,_⟩;rotate_left 4
  .refine aI ui.2.2.2.2.2.2.1 (aI (.inr ⟨h.le.own _ AR,h.le.own _ AS⟩) (aI (fun he=> ?_) (fun aT=> ?_)))
   .have he:=qaL Addr.block he;simp only at he;subst he;exact⟨.inl ⟨rfl,jC.same g B _ _ _ _ hr hs cT gG⟩,h.fr⟩
   cases n with
   |zero=>exact absurd k1 (by rcases hr with h1|⟨_,_,_,_,h1⟩;rw[h1];decide;exact absurd h1 (qav _))
   |succ n=>
   have ih:=ih n (qam _);obtain⟨q1,va1,qf,TD,x1,B1,l1,m1,s1,f1,_,D1⟩:=jC.inv k1;obtain⟨q2,va2,yk,TE,x2,B2,l2,m2,s2,f2,_,D2⟩:=gG.inv k2;cases x1;cases x2;obtain⟨a1,c1,rfl,ql,ET⟩:=s1;obtain⟨a2,c2,rfl,yA,HG⟩:=s2;rw[qat]at B1 B2;refine aP h (kB.at 1 rfl) ?_;refine s_call h (RG h.le B1) ?_;clear h;rintro _ w rfl h;refine s_call h (RG h.le B2) ?_;clear h;rintro _ w rfl h;refine aI (fun hl=> ?_) (fun hl=> ?_);rotate_left 1
   .exact⟨.inr ⟨rfl,hn⟩,h.fr⟩
   have eC:qf.length=yk.length:=by omega
   have XY:∀i,i<(W.plain s).of.fields.length->bL (W.fieldName ((W.plain s).of.fields.getD i default)):=fun i hi=>by
    obtain⟨d,vv,hf⟩:=v1.gs.form;rw[fS hi];exact nq g.gw.name hf (qaf hi)
   have XZ:∀i,i<(W.plain s').of.fields.length->bL (W.fieldName ((W.plain s').of.fields.getD i default)):=fun i hi=>by
    obtain⟨d,vv,hf⟩:=v2.gs.form;rw[fS hi];exact nq g.gw.name hf (qaf hi)
   have fD:qf.length<=2^40:=by
    have h1:=v1.gs.top;unfold Sp.top at h1;have:=(W.plain s).of.lB;omega
   refine aP h (B1.at 0 rfl) ?_;refine bN (X:=Nat) (fun k=>[(0,vp cb),(3,.pointer none),(18,vp b1),(19,vp b2),(189,.slice a1 qf.length c1),(190,.int .i64 (qf.length:Int)),(191,.int .i64 (k:Int))])
    (fun k w=>k<=qf.length/\(∀i,i<k->((W.plain s).of.fields.getD i default).2.1=((W.plain s').of.fields.getD i default).2.1/\aM (W.plain s).aC (W.fieldName ((W.plain s).of.fields.getD i default))=aM (W.plain s').aC (W.fieldName ((W.plain s').of.fields.getD i default))/\jQ W ((W.plain s).field i) ((W.plain s').field i))/\SH w0 E.mem [] E.mem [] w) (fun k=>qf.length-k) 0 ⟨rfl,rfl,rfl,rfl,rfl,rfl,rfl,tV⟩ ⟨qae _,fun i hi=>absurd hi (qav _),h⟩ ?_
   clear h;rintro k aK w N ⟨hk,AX,h⟩ hN;refine aI (fun aG=> ?_) (fun aY=> ?_);rotate_left 1
   .obtain rfl:k=qf.length:=by omega
    exact⟨.inl ⟨rfl,.struct g hs cT k1 k2 (by omega) fun i hi=>AX i (by omega)⟩,h.fr⟩
   have ad:k<qf.length:=by omega
   have dE:k<yk.length:=by omega
   have jD:k<(W.plain s).of.fields.length:=by omega
   have iu:k<(W.plain s').of.fields.length:=by omega
   have g1:=f1 k _ _ _ (qaa ad) (qaa (by omega)) (qaa jD);have g2:=f2 k _ _ _ (qaa dE) (qaa (by omega)) (qaa iu);have n1:=XY k jD;have n2:=XZ k iu;rw[<-fS jD]at g1;rw[<-fS iu]at g2;have d1:=D1 k _ (qaa (by omega));have d2:=D2 k _ (qaa (by omega));generalize E4:(W.plain s).of.fields.getD k default=F1 at*;generalize E5:(W.plain s').of.fields.getD k default=F2 at*;obtain⟨z1,o1,ph,rfl,t_,vl,Ih⟩:=ET k [vp qf[k]] (by simp[ad]);obtain⟨z2,o2,gD,rfl,xl,ct,qm⟩:=HG k [vp yk[k]] (by simp[dE]);cases Ih;cases qm;have r1:=vl 0 _ rfl;have r2:=ct 0 _ rfl;rw[qa6]at r1 r2;generalize qf[k]=y1 at*;generalize yk[k]=y2 at*;generalize Od:TD[k]'(by omega)=V1 at*;generalize hV2:TE[k]'(by omega)=V2 at*;refine aJ (k) ?_;refine aP h r1 ?_;refine aP h (B2.at 0 rfl) ?_;refine aJ (k) ?_;refine aP h r2 ?_;have eH:ln E.mem y1 (W.plain s).aC (W.fieldName F1):=⟨by obtain⟨x,hx⟩:=B.ctx.pk _ v1.gs.aC;exact⟨_,x,g1.at 1 rfl,hx⟩,g1.at 2 rfl,v1.gs.aC,n1⟩;obtain⟨px,pG⟩:=B.ctx.pk _ v2.gs.aC;have ra:=hr.field g hs k1 jD;have w1:=v1.field jD;have w2:=v2.field iu;obtain⟨tV1,bV1,rfl,_⟩:=d1.iface;obtain⟨tV2,bV2,rfl,_⟩:=d2.iface;have yc:=g1.at 5 rfl;have yd:=g2.at 5 rfl;obtain⟨e1,mS⟩:∃e,e=F1.2.1:=⟨_,rfl⟩;obtain⟨e2,gH⟩:∃e,e=F2.2.1:=⟨_,rfl⟩;rw[<-mS]at yc;rw[<-gH]at yd;cases e1 with
   |true=>
    cases e2 with
    |true=>
     refine b_ [] h ?_;clear h;intro w h;refine cd h yc ?_;refine cd h yd ?_;refine cd h (kB.at 0 rfl) ?_;refine aI ?_ trivial;refine dg h (Gx h.le B1) ?_;clear h;rintro _ w rfl h;refine aI ?_ trivial;refine dg h (Gx h.le B2) ?_;clear h;rintro _ w rfl h;refine aI (fun _=> ?_) (fun aT=>absurd rfl aT);refine cd h (g2.at 1 rfl) ?_;refine cd h (g2.at 2 rfl) ?_;refine aI ?_ trivial;refine dg h (Gk B.ctx.jt h.le eH pG v2.gs.aC n2) ?_;clear h;rintro _ w (⟨rfl,hid⟩|⟨rfl,hid⟩) h;rotate_left 1
     .refine aI ?_ trivial;exact⟨.inr ⟨rfl,hn⟩,h.fr⟩
     refine cd h (g1.at 3 rfl) ?_;refine cd h (g2.at 3 rfl) ?_;refine aI ?_ trivial;refine dg h (ih _ _ _ _ _ ra w1 w2 d1 d2 h.le) ?_;clear h;rintro _ w (⟨rfl,jW⟩|⟨rfl,_⟩) h;rotate_left 1
     .exact⟨.inr ⟨rfl,hn⟩,h.fr⟩
     refine aA (((k+1:Nat):Int)) ?_;refine hN (k+1) _ _ ⟨rfl,rfl,rfl,rfl,rfl,rfl,rfl,tV⟩ ⟨ad,fun i hi=> ?_,h⟩ (by omega);by_cases kh:i=k
     .rw[kh];exact⟨by rw[E4,E5,<-mS,<-gH],by rw[E4,E5];exact hid,jW⟩
     exact AX i (by omega)
    |false=>
     refine b_ [] h ?_;clear h;intro w h;refine cd h yc ?_;refine cd h yd ?_;refine aI ?_ trivial;refine aI ?_ trivial;refine aI ?_ trivial;refine aI ?_ trivial;exact⟨.inr ⟨rfl,hn⟩,h.fr⟩
   |false=>
    cases e2 with
    |true=>
     refine b_ [] h ?_;clear h;intro w h;refine cd h yc ?_;refine cd h yd ?_;refine aI ?_ trivial;refine aI ?_ trivial;refine aI ?_ trivial;refine aI ?_ trivial;exact⟨.inr ⟨rfl,hn⟩,h.fr⟩
    |false=>
     refine b_ [] h ?_;clear h;intro w h;refine cd h yc ?_;refine cd h yd ?_;refine cd h (kB.at 0 rfl) ?_;refine aI ?_ trivial;refine dg h (Gx h.le B1) ?_;clear h;rintro _ w rfl h;refine aI ?_ trivial;refine dg h (Gx h.le B2) ?_;clear h;rintro _ w rfl h;refine aI (fun _=> ?_) (fun aT=>absurd rfl aT);refine cd h (g2.at 1 rfl) ?_;refine cd h (g2.at 2 rfl) ?_;refine aI ?_ trivial;refine dg h (Gk B.ctx.jt h.le eH pG v2.gs.aC n2) ?_;clear h;rintro _ w (⟨rfl,hid⟩|⟨rfl,hid⟩) h;rotate_left 1
     .refine aI ?_ trivial;exact⟨.inr ⟨rfl,hn⟩,h.fr⟩
     refine cd h (g1.at 3 rfl) ?_;refine cd h (g2.at 3 rfl) ?_;refine aI ?_ trivial;refine dg h (ih _ _ _ _ _ ra w1 w2 d1 d2 h.le) ?_;clear h;rintro _ w (⟨rfl,jW⟩|⟨rfl,_⟩) h;rotate_left 1
     .exact⟨.inr ⟨rfl,hn⟩,h.fr⟩
     refine aA (((k+1:Nat):Int)) ?_;refine hN (k+1) _ _ ⟨rfl,rfl,rfl,rfl,rfl,rfl,rfl,tV⟩ ⟨ad,fun i hi=> ?_,h⟩ (by omega);by_cases kh:i=k
     .rw[kh];exact⟨by rw[E4,E5,<-mS,<-gH],by rw[E4,E5];exact hid,jW⟩
     exact AX i (by omega)
  all_goals
   refine aP h (kB.at 1 rfl) ?_;exact⟨.inr ⟨rfl,hn⟩,h.fr⟩
 have hn:¬qS W s s':=fun fL=>absurd fL.1 (by rw[k1];decide);rcases t6 with⟨rfl,k2,e2⟩|⟨rfl,k2⟩|⟨rfl,k2,_⟩|⟨rfl,k2⟩|⟨rfl,k2⟩|⟨rfl,k2,i2⟩;rotate_left 5
 .refine aI ui.2.2.2.2.2.2.2.1 (aI (.inr ⟨h.le.own _ AR,h.le.own _ AS⟩) (aI (fun he=> ?_) (fun aT=> ?_)))
  .have he:=qaL Addr.block he;simp only at he;subst he;exact⟨.inl ⟨rfl,jC.same g B _ _ _ _ hr hs cT gG⟩,h.fr⟩
  have q1:=(B.ctx.ifs _ _ i1).1;have q2:=(B.ctx.ifs _ _ i2).1;obtain⟨tb1,n1,Sa,Hr,ts1⟩:=B.ts _ _ i1;obtain⟨l6,n2,Sb,Ck,ts2⟩:=B.ts _ _ i2;have nk1:(W.plain s).of.kind≠1:=by rw[k1];decide
  have nk2:(W.plain s').of.kind≠1:=by rw[k2];decide
  have id1:=fun id=>GG g.gw g.later g.rd v1.gs nk1 Sa (id:=id);have id2:=fun id=>GG g.gw g.later g.rd v2.gs nk2 Sb (id:=id);have RQ:=we g.gw n1 _ v1.gs;have ok2:=we g.gw n2 _ v2.gs;have ol1:=Br (zG W n1 (W.plain s)) fun x hx=>(RQ x hx).1;have X6:=Sa.fm;have X7:=Sb.fm;generalize dj W n1 (W.plain s)=l1 at*;generalize dj W n2 (W.plain s')=l2 at*;obtain⟨vm1,TD,vN,EI,sl1,te1,MW⟩:=ts1;obtain⟨vm2,TE,F0,EJ,sl2,te2,MX⟩:=ts2;obtain⟨a1,c1,rfl,ql,ET⟩:=sl1;obtain⟨a2,c2,rfl,yA,HG⟩:=sl2;have ln1:=MW.len;have ln2:=MX.len;rw[qat]at EI EJ;refine aP h (kB.at 1 rfl) ?_;refine s_call h (GH h.le q1.c0 Hr) ?_;clear h;rintro _ w rfl h;refine s_call h (GH h.le q2.c0 Ck) ?_;clear h;rintro _ w rfl h;refine b_ [] h ?_;clear h;intro w h;refine cd h (EI.at 3 rfl) ?_;refine cd h (EJ.at 3 rfl) ?_;refine b_ [] h ?_;clear h;intro w h;refine cd h (EI.at 2 rfl) ?_;refine cd h (EJ.at 2 rfl) ?_;refine aI ?_ trivial;refine dg h (XN h.le te1 te2) ?_;clear h;rintro _ w rfl h;refine aP h (EI.at 1 rfl) ?_;refine aP h (EJ.at 1 rfl) ?_;refine aI (fun hl=> ?_) (fun hl=> ?_);rotate_left 1
  .exact⟨.inr ⟨rfl,hn⟩,h.fr⟩
  have eC:vN.length=F0.length:=by omega
  refine au (cs:=[vp b1,vp b2,.pointer none]) h ?_;clear h;intro qb w h;refine bN (X:=Unit) (fun _=>[(0,vp cb),(3,.pointer none),(49,.slice a1 vN.length c1),(50,.slice a2 F0.length c2),(51,vp qb)]) (fun _ w=>SH w0 E.mem [] E.mem [.ah qb 376 [vp b1,vp b2,.pointer none]] w) (fun _=>0) () ⟨rfl,rfl,rfl,rfl,rfl,tV⟩ h ?_;clear h;rintro _ aK w N h hN;refine bN (X:=Nat) (fun k=>[(0,vp cb),(50,.slice a2 F0.length c2),(51,vp qb),(466,.slice a1 vN.length c1),(467,.int .i64 (vN.length:Int)),(468,.int .i64 (k:Int))])
   (fun k w=>k<=vN.length/\(∀i,i<k->(l1[i]?).map bD.id=(l2[i]?).map bD.id)/\SH w0 E.mem [] E.mem [.ah qb 376 [vp b1,vp b2,.pointer none]] w) (fun k=>vN.length-k) 0 ⟨rfl,rfl,rfl,rfl,rfl,rfl,tV⟩ ⟨qae _,fun i hi=>absurd hi (qav _),h⟩ ?_
  clear h;rintro k aK w N ⟨hk,AX,h⟩ hN;refine aI (fun aG=> ?_) (fun aY=> ?_);rotate_left 1
  .obtain rfl:k=vN.length:=by omega
   have eD:l1.map bD.id=l2.map bD.id:=by
    apply qbe;intro i;rw[qaE,qaE];by_cases hi:i<vN.length
    .exact AX i hi
    rw[qa3 (by omega),qa3 (by omega)]
   exact⟨.inl ⟨rfl,.cM g hs cT k1 k2 X6 X7 fun id=>by rw[<-id1,<-id2,eD]⟩,h.fr⟩
  have dC:k<vN.length:=by omega
  have dE:k<F0.length:=by omega
  have uZ:k<l1.length:=by omega
  have ki:k<l2.length:=by omega
  obtain⟨y1,oM,qf⟩:=MW.get (i:=k) (qaa uZ);obtain⟨y2,P3,yk⟩:=MX.get (i:=k) (qaa ki);obtain⟨z1,o1,ph,rfl,t_,vl,Ih⟩:=ET k [vp y1] (by simp[oM]);obtain⟨z2,o2,gD,rfl,xl,ct,qm⟩:=HG k [vp y2] (by simp[P3]);cases Ih;cases qm;have r1:=vl 0 _ rfl;have r2:=ct 0 _ rfl;rw[qa6]at r1 r2;have Q1:=(RQ _ (qaf uZ)).1;have gv:=(ok2 _ (qaf ki)).1;have eH:=qf.uA.DF B.ctx.pk Q1.1 Q1.2;have ob2:=yk.uA.DF B.ctx.pk gv.1 gv.2;obtain⟨sg1,_,_,_,XT,sb1,_⟩:=qf.all;obtain⟨sg2,_,_,_,XU,sb2,_⟩:=yk.all;have Xn:E.mem.cell y1 3=some (.iface 235 (vp sg1)):=XT.at 3 rfl;have Xo:E.mem.cell y2 3=some (.iface 235 (vp sg2)):=XU.at 3 rfl;refine aJ (k) ?_;refine aP h r1 ?_;refine aJ (k) ?_;refine aP h r2 ?_;refine b_ [] h ?_;clear h;intro w h;refine aI ?_ trivial;refine dg h (xC B.ctx.jt h.le eH) ?_;clear h;rintro _ w rfl h;refine aI ?_ trivial;refine dg h (xC B.ctx.jt h.le ob2) ?_;clear h;rintro _ w rfl h;refine aI (fun he=> ?_) (fun aT=> ?_);rotate_left 1
  .refine aI ?_ trivial;exact⟨.inr ⟨rfl,hn⟩,h.fr⟩
  refine cd h Xn ?_;refine cd h Xo ?_;refine aI ?_ trivial;refine dg h (zci h.le kB sb1 sb2) ?_;clear h;rintro _ w rfl h;refine aA (((k+1:Nat):Int)) ?_;refine hN (k+1) _ _ ⟨rfl,rfl,rfl,rfl,rfl,rfl,tV⟩ ⟨dC,fun i hi=> ?_,h⟩ (by omega);by_cases kh:i=k
  .rw[kh,qaa uZ,qaa ki];exact qaL some he
  exact AX i (by omega)
 all_goals
  refine aP h (kB.at 1 rfl) ?_;exact⟨.inr ⟨rfl,hn⟩,h.fr⟩
theorem P_(g:GD W)(B:eZ W E){s':Sp}{vx vy:Value}(hr:RA W n s)(hs:VS W s)(cT:VS W s')(Fh:Den W E s vx)(AA:Den W E s' vy)(hM:E.mem.Le (Wm w0)):
 az prog 113 [vx,vy] w0 fun r w'=>RI W s s' r/\Fr [] w0 w':=by
 have h:=SH.start hM;refine aL mixed func113 U7 ?_;refine au (cs:=[.bool false,.bool false]) h ?_;clear h;intro cb w h;obtain⟨M1,hle,kB,h⟩:=h.dA cb;have B1:eZ W (E.at_ M1):=eZ.le (E:=E) hle B;have l1:E.Le (E.at_ M1):=Ev.tA (E:=E) hle;refine s_call h (zcj g B1 kB n s s' vx vy _ hr hs cT (Fh.le l1) (AA.le l1) h.le) ?_;clear h;intro r w hr h;exact⟨hr,h.fr⟩
end
end
section
open Go.MapKept
variable {M:Mem}{e:Env}{w:World}{x:Operand}{k b j:Nat}{ty:TypeId}{x0 x1 x2:Value}{mo:Option (Nat×Array MapEntry)}{l:List Nat}
section
variable {W:Wd}{E:Ev}{w0:World}
theorem qc{xs:List Int}{a:Option Addr}{c:Nat}{i:Int}(hM:M.Le (Wm w0))(hx:bQ M 1 dO a xs)(hb:xs.length<=2^40):
 az prog 69 [.slice a xs.length c,.int .i64 i] w0 fun r w'=>∃M',Sl M' 1 dO r (xs++[i])/\Gr M w0 M' w':=by
 have h:=SH.start hM;refine aL mixed func69 WD ?_;obtain⟨q,hs,hq⟩:=Src.gm (c:=c) hx h.le;have hql:=hq.len;refine zeA h f_ hs (lz hq) ?_ (by omega);clear h hs;intro v w h;refine au (cs:=[.int .i64 i]) h ?_;clear h;intro b w h;refine gJ h f_ h.df (de (cO (vs:=[Value.int .i64 i]) rfl)) ?_;clear h;intro v' w h;obtain⟨M1,hle,cu,h⟩:=h.d6 v';exact⟨M1,Sl.fV cu (hq.snoc rfl),h.gr⟩
theorem zft:prog.underlying 158=some (.array 3 120)/\(∃j,prog.info? 120=some j/\j.size=1)/\∃e,prog.underlying 120=some (.pointer e):=by
 have h:(prog.info? 120).map (·.size)=some 1:=by kernel_rfl
 cases hj:prog.info? 120 with
 |none=>rw[hj]at h;cases h
 |some j=>rw[hj]at h;exact⟨by kernel_rfl,⟨j,rfl,qaF h⟩,Qw (by kernel_rfl)⟩
theorem Qb{i:Operand}{a:List Value}{v:Value}{K:Value->World->Prop}(hx:ev e x= .agg a.toArray)(hi:ev e i= .int .i64 (k:Int))(hv:a[k]? =some v)(hk:k<3)(hK:K v w):bB prog (.gen (.index 158 x i) ty) e w K:=by
 obtain⟨zao,⟨j,hj,hjs⟩,te,zan⟩:=zft;refine .inl ⟨v,w,?_,hK⟩;have h2:((k:Nat):Int)<3:=by omega
 have hp:(part 120 a.toArray k).run prog w= .ok v w:=by simp[part,isAgg,qas zan,hv]
 simp[execOp,Instr.index,hx,hi,qas zao,asIntOf,hv,hk,h2,nP hj,hjs,hp]
theorem R1{u:World}{M0:Mem}{D:List Nat}{L:List aB}{P:Program}{S:List Nat}{eW kt et:TypeId}{K:Value->Prop}{es:Array MapEntry}{kx vx:Operand}{key val:Value}{ty:TypeId}{Q:Value->List Nat->World->Prop}{L':List aB}(h:SH u M0 D M L w)(kl:KL P w kt K)(hx:ev e x= .map (some b))(ou:ev e kx=key)(Du:ev e vx=val)
 (hm:P.underlying eW=some (.map kt et)) (fh:∀p∈bt es,K p.1) (hk:K key) (hn:((bt es).map (·.1)).Nodup) (hS:b∈S)
 (k:∀bP w',mM (bt es) key val (bt bP)->SH u M0 D M (.map b bP::L') w'->Q undef S w')
 (hp:Pk L (.map b es) L':=by repeat(first|exact Pk.here|apply Pk.there)):bB P (.gen (.mapUpdate eW x kx vx) ty) e w fun v w'=>∃S',(Fr S w w'/\∀b∈S',b∈S\/w.heap.size<=b)/\Q v S' w':=by
 obtain⟨bJ,hb,dP⟩:=h.zo hp;obtain⟨bP,pf,hr,hu,CL⟩:=kl.update (val:=val) hm hb fh hk hn dP;have h0:=h.pk hp;have aG:b<w.heap.size:=(qaM.1 hb).1;have hM:M.Le (Wm {w with heap:=w.heap.setIfInBounds b (.map bP pf)}):=h.le.fr (Fr.set w b _) fun b' aW=>by
  simp only[qac]at aW;subst aW;exact⟨fun o=>h.off _ hp.mem b' o rfl,fun ho=>((h.le.own _ ho).KU hb).elim⟩
 have hk:=k bP _ hu (h0.Lm .here (Fr.set w b _) ⟨pf,by simp[aG],CL⟩ hM);exact Or.inr ⟨_,by simp[execOp,hx,ou,Du,hr],S,⟨(Fr.set w b _).jd (by simpa using hS),fun _ hb=> .inl hb⟩,hk⟩
@[reducible]def ilM:Option (Nat×Array MapEntry)->Value
 |none=> .map none
 |some p=> .map (some p.1)
@[reducible]def moE:Option (Nat×Array MapEntry)->List aB
 |none=>[]
 |some p=>[.map p.1 p.2]
@[reducible]def dl(sb:Nat)(x0 x1 x2:Value)(mo:Option (Nat×Array MapEntry)):List aB:= .ah sb 161 [x0,x1,x2,ilM mo]::moE mo
structure zM(M:Mem)(es:Array MapEntry)(r:List Nat):Prop where
 key:∀q∈bt es,∃b∈r,q.1=vp b/\Sl M 1 gz q.2 [[vp b]]
 has:∀b∈r,∃q∈bt es,q.1=vp b
 nd:((bt es).map (·.1)).Nodup
inductive kQ(M:Mem):Value->Value->Value->Option (Nat×Array MapEntry)->List Nat->Prop where
 |n0:kQ M (.pointer none) (.pointer none) (.pointer none) none []
 |n1 (a:Nat):kQ M (vp a) (.pointer none) (.pointer none) none [a]
 |n2 (a b:Nat):kQ M (vp a) (vp b) (.pointer none) none [a,b]
 |n3 (a b c:Nat):kQ M (vp a) (vp b) (vp c) none [a,b,c]
 |nX (a b c:Nat) (p:Nat×Array MapEntry) (r:List Nat) (hk:zM M p.2 r):kQ M (vp a) (vp b) (vp c) (some p) (a::b::c::r)
theorem kQ.le{N:Mem}(hl:M.Le N)(h:kQ M x0 x1 x2 mo l):kQ N x0 x1 x2 mo l:=by
 cases h with
 |n0=>exact .n0
 |n1=>exact .n1 _
 |n2=>exact .n2 _ _
 |n3=>exact .n3 _ _ _
 |nX _ _ _ p r hk=>exact .nX _ _ _ p r ⟨fun q hq=>by obtain⟨b,h1,h2,h3⟩:=hk.key q hq;exact⟨b,h1,h2,h3.mono hl fun _ _ _ h=>h⟩,hk.has,hk.nd⟩
theorem kQ.buf(h:kQ M x0 x1 x2 mo l):∀x∈[x0,x1,x2],x= .pointer none\/∃a∈l,x=vp a:=by
 cases h<;>simp
theorem kQ.cover(h:kQ M x0 x1 x2 mo l):∀a∈l,vp a∈[x0,x1,x2]\/∃p,mo=some p/\∃q∈bt p.2,q.1=vp a:=by
 cases h with
 |n0=>simp
 |n1=>simp
 |n2=>simp
 |n3=>simp
 |nX a b c p r hk=>
  intro x hx;simp only[qan]at hx;rcases hx with rfl|rfl|rfl|hx
  .simp
  .simp
  .simp
  exact .inr ⟨p,rfl,hk.has x hx⟩
def gN(W:Wd)(E:Ev)(j b:Nat):Prop:=j<W.length/\(W.at (j:Nat)).bU=false/\E.ty j b
theorem gN.den(h:gN W E j b):Den W E (mE j) (.iface 120 (vp b)):=by
 have:=Den.named (W:=W) (E:=E) (s:=mE j) (b:=b) rfl h.2.2;have e:dT W (mE (j:Nat)).of.num.toNat=120:=by
  show dT W ((j:Nat):Int).toNat=120;unfold dT;rw[show(((j:Nat):Int).toNat:Nat)=j from rfl,h.2.1];rfl
 rw[e]at this;exact this
theorem gN.plain(h:gN W E j b):W.plain (mE j)=mE j:=eu (.inr h.2.1)
theorem gN.vs(h:gN W E j b):VS W (mE j):= .named ⟨.inl rfl,⟨-1,true,.named rfl ⟨.inr rfl,.inr rfl,.inr ⟨rfl,rfl⟩,.inl rfl⟩ (Wd.wL h.1) (.inl (by show(-1:Int)<(j:Nat);omega))⟩,by show 0+(Ty.mk 1 _ [] [] [] []).aj<=_;rw[Ty.iW];exact qbQ rfl⟩ rfl
theorem gN.inj(B:eZ W E)(h:gN W E j b)(h':gN W E k b):j=k:=B.D_ _ _ _ h.2.1 h'.2.1 h.2.2 h'.2.2
theorem gN.own(B:eZ W E)(h:gN W E j b):E.mem.own b:=by
 obtain⟨ob,u,vm,bF,h3,_⟩:=B.ctx.nm _ _ h.1 h.2.1 h.2.2;exact h3.own
theorem P8(g:GD W)(B:eZ W E){a:Nat}(ha:gN W E j a)(hb:gN W E k b)(hM:E.mem.Le (Wm w0)):
 az prog 113 [.iface 120 (vp a),.iface 120 (vp b)] w0 fun r w'=>((r= .bool true/\a=b)\/(r= .bool false/\a≠b))/\Fr [] w0 w':=by
 refine(P_ g B (n:=0) (.inl (by rw[ha.plain];rfl)) ha.vs hb.vs ha.den hb.den hM).mono ?_;rintro r w' ⟨⟨rfl,hs⟩|⟨rfl,hs⟩,hf⟩
 .refine⟨.inl ⟨rfl,?_⟩,hf⟩;have:=hs.nm (by rw[ha.plain];rfl);rw[ha.plain,hb.plain]at this;have this:((j:Nat):Int)=(k:Nat):=this;have:j=k:=by omega
  subst this;exact B.BK _ _ _ ha.2.2 hb.2.2
 refine⟨.inr ⟨rfl,fun he=>hs ?_⟩,hf⟩;subst he;have:=ha.inj B hb;subst this;exact⟨by rw[ha.plain];rfl,by rw[ha.plain];rfl,rfl⟩
theorem BJ:prog.underlying 159=some (.map 120 260):=by kernel_rfl
theorem Kh:∃i,prog.info? 260=some i/\i.zero=some (.slice none 0 0):=Bc (by kernel_rfl)
theorem Be(w:World):KL prog w 120 (zO w):=by
 have h:((prog.underlying 120).bind fun d=>match d with| .pointer e=>(prog.info? e).map fun j=>(e,Nat.beq j.size 0)|_=>none)=some (218,false):=by kernel_rfl
 cases hu:prog.underlying 120 with
 |none=>rw[hu]at h;cases h
 |some d=>
  rw[hu]at h;cases d with
  |pointer e=>
   simp only[Option.bind_some]at h;cases hj:prog.info? e with
   |none=>rw[hj]at h;cases h
   |some j=>
    rw[hj]at h;simp only[qbP,qao,qby]at h;exact QJ hu hj h.2
  |_=>cases h
theorem Sq(g:GD W)(B:eZ W E){sb:Nat}(hb:gN W E j b)(hl:∀a∈l,∃k,gN W E k a)(oa:E.mem.Le M)(rx:kQ M x0 x1 x2 mo l)
 (h:SH w0 M (cp (dl sb x0 x1 x2 mo)) M (dl sb x0 x1 x2 mo) w0):
 az prog 64 [vp sb,vp b] w0 fun r w'=>∃M' A',(((r=vp b/\b∈l)\/(r= .pointer none/\b∉l))/\M'=M/\A'=dl sb x0 x1 x2 mo)/\SH w0 M (cp (dl sb x0 x1 x2 mo)) M' A' w':=by
 generalize hD:cp (dl sb x0 x1 x2 mo)=D at h⊢;refine aL mixed func64 Wy ?_;refine i_ h [x0,x1,x2] ?_;refine bN (X:=Nat) (fun k=>[(0,vp sb),(1,vp b),(12,.agg #[x0,x1,x2]),(13,.int .i64 (k:Int))])
  (fun k w=>k<=3/\(∀i,i<k->[x0,x1,x2][i]?≠some (vp b))/\SH w0 M D M (dl sb x0 x1 x2 mo) w) (fun k=>3-k) 0 ⟨rfl,rfl,rfl,rfl,tV⟩ ⟨qae _,fun i hi=>absurd hi (qav _),h⟩ ?_
 clear h;rintro k aK w N ⟨hk,bz,h⟩ hN;refine aI (fun aG=> ?_) (fun aY=> ?_)
 .have gi:k<3:=by omega
  obtain⟨v,hv⟩:∃v,[x0,x1,x2][k]? =some v:=⟨_,qaa (by simpa using gi)⟩;refine Qb (a:=[x0,x1,x2]) (k:=k) rfl rfl hv gi ?_;rcases rx.buf v (qax hv)with rfl|⟨a,ha,rfl⟩
  .refine aA (((k+1:Nat):Int)) ?_;refine hN (k+1) _ _ ⟨rfl,rfl,rfl,rfl,tV⟩ ⟨gi,fun i hi=> ?_,h⟩ (by omega);by_cases kh:i=k
   .rw[kh,hv];exact fun h=>by cases h
   exact bz i (by omega)
  obtain⟨q,hq⟩:=hl a ha;refine s_call h (P8 g B hb hq (oa.trans h.le)) ?_;clear h;rintro _ w (⟨rfl,he⟩|⟨rfl,he⟩) h
  .subst he;exact⟨M,_,⟨.inl ⟨rfl,ha⟩,rfl,rfl⟩,h⟩
  refine aA (((k+1:Nat):Int)) ?_;refine hN (k+1) _ _ ⟨rfl,rfl,rfl,rfl,tV⟩ ⟨gi,fun i hi=> ?_,h⟩ (by omega);by_cases kh:i=k
  .rw[kh,hv];exact fun h=>he (kN (qaF h)).symm
  exact bz i (by omega)
 obtain rfl:k=3:=by omega
 have nE:vp b∉[x0,x1,x2]:=fun hm=>by
  obtain⟨i,hi,hx⟩:=qak hm;exact bz i (by simpa using hi) (by rw[qaa hi,hx])
 obtain⟨i260,AH,A9⟩:=Kh;have dP:iE w b:=h.le.own _ (oa.own _ (hb.own B));cases mo with
 |none=>
  refine ak h ?_;refine zeD (Be w) rfl rfl BJ AH A9 ⟨b,rfl,dP⟩ ?_;refine bN (X:=Unit) (fun _=>[(1,vp b),(32,.slice none 0 0),(33,.int .i64 0),(34,.int .i64 0)]) (fun _ w=>SH w0 M D M (dl sb x0 x1 x2 none) w) (fun _=>0) () ⟨rfl,rfl,rfl,rfl,tV⟩ h ?_;clear h;rintro _ aK w N h hN;refine aI (fun aG=> ?_) (fun aY=> ?_)
  .omega
  refine⟨M,_,⟨.inr ⟨rfl,fun hm=> ?_⟩,rfl,rfl⟩,h⟩;rcases rx.cover b hm with h1|⟨p,h1,_⟩
  .exact nE h1
  cases h1
 |some p=>
  obtain⟨mb,es⟩:=p;have rz:∃r,zM M es r/\∀x∈r,x∈l:=by
   cases rx with
   |nX a b c p r hk=>exact⟨r,hk,fun x hx=>by simp[hx]⟩
  obtain⟨r,rz,mz⟩:=rz;have fh:∀q∈bt es,zO w q.1:=fun q hq=>by
   obtain⟨x,h1,h2,_⟩:=rz.key q hq;obtain⟨k,hk⟩:=hl x (mz x h1);exact⟨x,h2,h.le.own _ (oa.own _ (hk.own B))⟩
  refine ak h ?_;refine Gj h (Be w) rfl rfl BJ AH A9 fh ⟨b,rfl,dP⟩ (fun v hv=> ?_) (fun bz=> ?_)
  .obtain⟨x,h1,h2,h3⟩:=rz.key _ hv;have:=kN h2;subst this;obtain⟨a,c,rfl,hc,cE⟩:=h3;obtain⟨b2,o2,gD,rfl,cR,ct,qm⟩:=cE 0 [vp b] rfl;cases qm;have r2:=ct 0 _ rfl;refine bN (X:=Unit) (fun _=>[(1,vp b),(32,.slice (some ⟨b2,o2,none⟩) 1 c),(33,.int .i64 1),(34,.int .i64 0)]) (fun _ w=>SH w0 M D M (dl sb x0 x1 x2 (some (mb,es))) w) (fun _=>0) () ⟨rfl,rfl,rfl,rfl,tV⟩ h ?_;clear h;rintro _ aK w N h hN;refine aI (fun aG=> ?_) (fun aY=> ?_);rotate_left 1
   .omega
   refine aJ (0) ?_;refine aP h (by simpa using r2) ?_;refine s_call h (P8 g B hb hb (oa.trans h.le)) ?_;clear h;rintro _ w (⟨rfl,he⟩|⟨rfl,he⟩) h
   .exact⟨M,_,⟨.inl ⟨rfl,mz _ h1⟩,rfl,rfl⟩,h⟩
   exact absurd rfl he
  refine bN (X:=Unit) (fun _=>[(1,vp b),(32,.slice none 0 0),(33,.int .i64 0),(34,.int .i64 0)]) (fun _ w=>SH w0 M D M (dl sb x0 x1 x2 (some (mb,es))) w) (fun _=>0) () ⟨rfl,rfl,rfl,rfl,tV⟩ h ?_;clear h;rintro _ aK w N h hN;refine aI (fun aG=> ?_) (fun aY=> ?_)
  .omega
  refine⟨M,_,⟨.inr ⟨rfl,fun hm=> ?_⟩,rfl,rfl⟩,h⟩;rcases rx.cover b hm with h1|⟨p,h1,q,h2,h3⟩
  .exact nE h1
  cases h1;exact bz q h2 h3
end
end
section
open Go.MapKept
variable {M:Mem}{b:Nat}
section
variable {W:Wd}{E:Ev}{w0:World}
theorem Me:h_ prog 260 260 120 1 8=true:=by kernel_rfl
theorem zM.iS{M':Mem}{es bP:Array MapEntry}{r:List Nat}{v:Value}(hk:zM M es r)(hl:M.Le M')(hu:mM (bt es) (vp b) v (bt bP))(hv:Sl M' 1 gz v [[vp b]]):zM M' bP (r++[b]) where
 key:=fun q hq=>by
  obtain⟨k,x⟩:=q;rcases(hu.mem k x).1 hq with⟨rfl,rfl⟩|⟨_,h⟩
  .exact⟨b,by simp,rfl,hv⟩
  obtain⟨y,h1,h2,h3⟩:=hk.key _ h;exact⟨y,by simp[h1],h2,h3.mono hl fun _ _ _ h=>h⟩
 has:=fun y hy=>by
  by_cases he:y=b
  .exact⟨(vp b,v),(hu.mem _ _).2 (.inl ⟨rfl,rfl⟩),by rw[he]⟩
  have hyr:y∈r:=by simpa[he]using hy
  obtain⟨⟨k,x⟩,h1,h2⟩:=hk.has y hyr;exact⟨(k,x),(hu.mem _ _).2 (.inr ⟨fun h=>he (kN (h2.symm.trans h)),h1⟩),h2⟩
 nd:=hu.nd hk.nd
theorem Sn(B:eZ W E){sb j:Nat}{x0 x1 x2:Value}{mo:Option (Nat×Array MapEntry)}{l:List Nat}(hb:gN W E j b)(hl:∀a∈l,∃k,gN W E k a)(fu:b∉l)(oa:E.mem.Le M)(rx:kQ M x0 x1 x2 mo l)
 (h:SH w0 M (cp (dl sb x0 x1 x2 mo)) M (dl sb x0 x1 x2 mo) w0):
 az prog 65 [vp sb,vp b] w0 fun r w'=>∃M' A',(∃TR TS TT dH,r= .tuple #[]/\kQ M' TR TS TT dH (l++[b])/\A'=dl sb TR TS TT dH)/\SH w0 M (cp (dl sb x0 x1 x2 mo)) M' A' w':=by
 generalize hD:cp (dl sb x0 x1 x2 mo)=D at h⊢;have eT:M.own b:=oa.own _ (hb.own B);have AQ:∀a∈l,M.own a:=fun a ha=>by obtain⟨k,hk⟩:=hl a ha;exact oa.own _ (hk.own B)
 refine aL mixed func65 Wz ?_;refine i_ h [x0,x1,x2] ?_;refine bN (X:=Nat) (fun k=>[(0,vp sb),(1,vp b),(10,.agg #[x0,x1,x2]),(11,.int .i64 (k:Int))])
  (fun k w=>k<=3/\(∀i,i<k->[x0,x1,x2][i]?≠some (.pointer none))/\SH w0 M D M (dl sb x0 x1 x2 mo) w) (fun k=>3-k) 0 ⟨rfl,rfl,rfl,rfl,tV⟩ ⟨qae _,fun i hi=>absurd hi (qav _),h⟩ ?_
 clear h;rintro k aK w N ⟨hk,bz,h⟩ hN;refine aI (fun aG=> ?_) (fun aY=> ?_)
 .have gi:k<3:=by omega
  obtain⟨v,hv⟩:∃v,[x0,x1,x2][k]? =some v:=⟨_,qaa (by simpa using gi)⟩;refine Qb (a:=[x0,x1,x2]) (k:=k) rfl rfl hv gi ?_;rcases rx.buf v (qax hv)with rfl|⟨a,ha,rfl⟩;rotate_left 1
  .refine aA (((k+1:Nat):Int)) ?_;refine hN (k+1) _ _ ⟨rfl,rfl,rfl,rfl,tV⟩ ⟨gi,fun i hi=> ?_,h⟩ (by omega);by_cases kh:i=k
   .rw[kh,hv];exact fun h=>by cases h
   exact bz i (by omega)
  refine aJ k ?_ gi;have gq:k=0\/k=1\/k=2:=by omega
  cases rx with
  |n0=>
   rcases gq with rfl|rfl|rfl
   .refine eQ h ?_ (hs:=(.here:fQ [.pointer none,.pointer none,.pointer none,.map none] 0 (vp b) [vp b,.pointer none,.pointer none,.map none]));clear h;intro w h;exact⟨M,_,⟨_,_,_,none,rfl,.n1 b,rfl⟩,h⟩
   .exact absurd rfl (bz 0 (by decide))
   exact absurd rfl (bz 0 (by decide))
  |n1 a=>
   rcases gq with rfl|rfl|rfl
   .cases hv
   .refine eQ h ?_ (hs:=(.there .here:fQ [vp a,.pointer none,.pointer none,.map none] 1 (vp b) [vp a,vp b,.pointer none,.map none]));clear h;intro w h;exact⟨M,_,⟨_,_,_,none,rfl,.n2 a b,rfl⟩,h⟩
   exact absurd rfl (bz 1 (by decide))
  |n2 a c=>
   rcases gq with rfl|rfl|rfl
   .cases hv
   .cases hv
   refine eQ h ?_ (hs:=(.there (.there .here):fQ [vp a,vp c,.pointer none,.map none] 2 (vp b) [vp a,vp c,vp b,.map none]));clear h;intro w h;exact⟨M,_,⟨_,_,_,none,rfl,.n3 a c b,rfl⟩,h⟩
  |n3 a c d=>rcases gq with rfl|rfl|rfl<;>cases hv
  |nX a c d p r hk=>rcases gq with rfl|rfl|rfl<;>cases hv
 obtain rfl:k=3:=by omega
 cases rx with
 |n0=>exact absurd rfl (bz 0 (by decide))
 |n1 a=>exact absurd rfl (bz 1 (by decide))
 |n2 a c=>exact absurd rfl (bz 2 (by decide))
 |n3 a c d=>
  refine ak h ?_;refine qG h ?_;clear h;intro mb w h;refine eQ h ?_;clear h;intro w h;have rz:zM M #[] []:=⟨by simp[bt],by simp,by simp[bt]⟩;have fh:∀{w:World} {M1:Mem} {L:List aB},SH w0 M D M1 L w->∀p∈bt #[],zO w p.1:=fun _=>by simp[bt]
  have oy:∀q∈bt #[],q.1=vp b->False:=by simp[bt]
  obtain⟨i260,AH,A9⟩:=Kh;have dP:iE w b:=h.le.own _ eT;have aT:sb≠mb:=by have:=h.pd;simp[jv]at this;exact(by intro hh;exact this hh.symm)
  refine ak h ?_;refine Gj h (Be w) rfl rfl BJ AH A9 (fh h) ⟨b,rfl,dP⟩ (fun v hv=>(oy _ hv rfl).elim) (fun _=> ?_);refine b_ [mb] h ?_;clear h;intro w h;refine bI h ?_ (hS:=by simp[aT]);refine aI ?_ trivial;refine sU h ?_;clear h;intro qb w h;refine aI ?_ trivial;refine lV h Me h.df (de (cO (vs:=[vp b]) rfl)) ?_ (by simp);clear h;intro v w h;refine aI ?_ trivial;obtain⟨M1,bG,cu,h⟩:=h.d6 v;refine R1 (key:=vp b) (val:=v) (S:=cZ v++[qb,mb]) h (Be w) rfl rfl rfl BJ (fh h) ⟨b,rfl,h.le.own _ (bG.own _ eT)⟩ rz.nd (by simp) ?_;clear h;intro bP w eF h;exact⟨M1,_,⟨_,_,_,some (mb,bP),rfl,.nX a c d (mb,bP) _ (rz.iS bG eF cu),rfl⟩,h.aF⟩
 |nX a c d p r rz=>
  obtain⟨mb,es⟩:=p;refine ak h ?_;have oy:∀q∈bt es,q.1=vp b->False:=fun q hq he=>by
   obtain⟨y,h1,h2,_⟩:=rz.key q hq;have:=kN (h2.symm.trans he);subst this;exact fu (by simp[h1])
  have fh:∀{w:World} {M1:Mem} {L:List aB},SH w0 M D M1 L w->∀p∈bt es,zO w p.1:=fun h q hq=>by
   obtain⟨y,h1,h2,_⟩:=rz.key q hq;exact⟨y,h2,h.le.own _ (h.dG.own _ (AQ y (by simp[h1])))⟩
  obtain⟨i260,AH,A9⟩:=Kh;have dP:iE w b:=h.le.own _ eT;have aT:sb≠mb:=by have:=h.pd;simp[jv]at this;exact(by intro hh;exact this hh)
  refine ak h ?_;refine Gj h (Be w) rfl rfl BJ AH A9 (fh h) ⟨b,rfl,dP⟩ (fun v hv=>(oy _ hv rfl).elim) (fun _=> ?_);refine b_ [mb] h ?_;clear h;intro w h;refine bI h ?_ (hS:=by simp[aT]);refine aI ?_ trivial;refine sU h ?_;clear h;intro qb w h;refine aI ?_ trivial;refine lV h Me h.df (de (cO (vs:=[vp b]) rfl)) ?_ (by simp);clear h;intro v w h;refine aI ?_ trivial;obtain⟨M1,bG,cu,h⟩:=h.d6 v;refine R1 (key:=vp b) (val:=v) (S:=cZ v++[qb,mb]) h (Be w) rfl rfl rfl BJ (fh h) ⟨b,rfl,h.le.own _ (bG.own _ eT)⟩ rz.nd (by simp) ?_;clear h;intro bP w eF h;exact⟨M1,_,⟨_,_,_,some (mb,bP),rfl,.nX a c d (mb,bP) _ (rz.iS bG eF cu),rfl⟩,h.aF⟩
end
end
section
open Go.MapKept
variable {s s':Sp}{v:Value}
section
variable {W:Wd}{E:Ev}{w0:World}
theorem LE:prog.underlying 264=some (.map 65 3):=by kernel_rfl
theorem in3:∃i,prog.info? 3=some i/\i.zero=some (.int .i64 0):=Bc (by kernel_rfl)
theorem QI(w:World):KL prog w 65 (Em prog w):=by
 have h:((prog.underlying 65).bind fun d=>match d with| .interface _=>some true|_=>none)=some true:=by kernel_rfl
 cases hu:prog.underlying 65 with
 |none=>rw[hu]at h;cases h
 |some d=>
  rw[hu]at h;cases d with
  |interface ms=>exact zcK hu
  |_=>cases h
structure nj(W:Wd)(E:Ev)(s:Sp)(v:Value):Prop where
 den:Den W E s v
 gs:GS W s
 kind:s.of.kind=1
theorem nj.key(B:eZ W E)(h:nj W E s v):∃t b,v= .iface t (vp b)/\(t=120\/t=125)/\E.ty s.of.num.toNat b/\E.mem.own b/\t=dT W s.of.num.toNat:=by
 have hk:=h.kind;have hh:=h.gs.ok.num hk;have e:((s.of.num.toNat:Nat):Int)=s.of.num:=by have:=hh.1;omega
 have hd:=h.den;cases hd with
 | @named _ b _ hv=>
  refine⟨_,b,rfl,?_,hv,?_,rfl⟩
  .unfold dT;split<;>simp
  by_cases ha:(W.at s.of.num).bU=true
  .obtain⟨ob,x,y,n,h1,_⟩:=B.ctx.al _ b hh.2 (by rw[e];exact ha) hv;exact h1.own
  obtain⟨ob,u,vm,bF,h1,_⟩:=B.ctx.nm _ b hh.2 (by rw[e];simpa using ha) hv;exact h1.own
 |basic ad=>rw[hk]at ad;cases ad
 |ptr ad=>rw[hk]at ad;cases ad
 |lX ad=>rw[hk]at ad;cases ad
 |lZ ad=>rw[hk]at ad;cases ad
 |cM ad=>rw[hk]at ad;cases ad
theorem nj.FU(B:eZ W E)(h:nj W E s v){w:World}(hM:E.mem.Le (Wm w)):Em prog w v:=by
 obtain⟨t,b,rfl,ht,_,ho,_⟩:=h.key B;refine⟨t,b,rfl,hM.own _ ho,?_⟩;rcases ht with rfl|rfl
 .exact ui.2.2.1
 exact ui.2.2.2.2.2.2.2.2
theorem nj.num(B:eZ W E){v':Value}(h:nj W E s v)(h':nj W E s' v')(hn:s.of.num=s'.of.num):v=v':=by
 obtain⟨t,b,rfl,_,hb,_,ht⟩:=h.key B;obtain⟨t',b',rfl,_,aW,_,rI⟩:=h'.key B;rw[hn]at hb ht;rw[ht,rI,B.BK _ _ _ hb aW]
theorem nj.same(g:GD W)(B:eZ W E)(h:nj W E s v)(h':nj W E s' v):jQ W s s':=by
 obtain⟨_,y,ch,h1⟩:=B.chain g.later h.den h.gs.ok.num;obtain⟨_,y',Hv,iH⟩:=B.chain g.later h'.den h'.gs.ok.num;have:=ch.ER Hv;subst this;obtain⟨n,hn⟩:=RA.named g h.gs h.kind;exact Den.same g B n s s' y hn (.named h.gs h.kind) (.named h'.gs h'.kind) h1 iH
structure xW(es:Array MapEntry)(vs:List Value):Prop where
 key:∀q∈bt es,∃i:Nat,vs[i]? =some q.1/\q.2= .int .i64 (i:Int)
 has:∀(i:Nat) (v:Value),vs[i]? =some v->∃q∈bt es,q.1=v
 nd:((bt es).map (·.1)).Nodup
theorem zcW(g:GD W)(B:eZ W E){mb:Nat}{es:Array MapEntry}{ss:List Sp}{vs:List Value}{M:Mem}(oa:E.mem.Le M)(hp:xW es vs)(hlen:ss.length=vs.length)(hss:∀(i:Nat) (s:Sp) (v:Value),ss[i]? =some s->vs[i]? =some v->nj W E s v)(hs:nj W E s v)(h:SH w0 M (cp [.map mb es]) M [.map mb es] w0):
 az prog 117 [.map (some mb),v] w0 fun r w'=>∃M' A',(((∃(i:Nat) (s':Sp),r= .tuple #[.int .i64 (i:Int),.bool true]/\ss[i]? =some s'/\uw W s' s)\/(∃z,r= .tuple #[.int .i64 z,.bool false]/\v∉vs/\∀s'∈ss,¬qS W s' s))/\M'=M/\A'=[.map mb es])/\SH w0 M (cp [.map mb es]) M' A' w':=by
 generalize hD:cp [.map mb es]=D at h⊢;have iz:∀{w:World},M.Le (Wm w)->Em prog w v:=fun hM=>hs.FU B (oa.trans hM);have za:∀(i:Nat) (x:Value),vs[i]? =some x->∃s',ss[i]? =some s'/\nj W E s' x:=fun i x hx=>by
  have hi:=(qab.1 hx).1;have hi':i<ss.length:=by omega
  exact⟨ss[i],qaa hi',hss i _ _ (qaa hi') hx⟩
 obtain⟨i3,hi3,hz3⟩:=in3;obtain⟨tv,bv,FQ,_⟩:=hs.key B;refine aL mixed func117 U_ ?_;refine Gj h (QI w0) rfl rfl LE hi3 hz3 (fun q hq=>by
  obtain⟨i,h1,_⟩:=hp.key q hq;obtain⟨s',_,h3⟩:=za i _ h1;exact h3.FU B (oa.trans h.le)) (iz h.le) (fun x hx=> ?_) (fun bz=> ?_)
 .obtain⟨i,h1,h2⟩:=hp.key _ hx;simp only at h1 h2;subst h2;obtain⟨s',h3,h4⟩:=za i _ h1;exact⟨M,_,⟨.inl ⟨i,s',rfl,h3,(h4.same g B hs).nn⟩,rfl,rfl⟩,h⟩
 have FE:v∉vs:=fun hm=>by
  obtain⟨i,hi,hx⟩:=qak hm;obtain⟨q,h1,h2⟩:=hp.has i v (by rw[qaa hi,hx]);exact bz q h1 h2
 refine DV h rfl LE ?_;clear h;intro r bJ w dP h;refine bN (X:=Array Nat×Nat) (fun y=>[(1,v),(19,vp r)])
  (fun y w=>bJ<=y.2/\(∀x∈es.toList,y.1.contains x.born=true->∀(i:Nat) s',vs[i]? =some x.key->ss[i]? =some s'->¬qS W s' s)/\SH w0 M D M [.raw r (.mapIter (some mb) bJ y.1 y.2),.raw mb (.map es bJ)] w) (fun y=>(leftOf es y.1).size) (#[],bJ) ⟨rfl,rfl,tV⟩ ⟨qad _,fun x _ hx=>by simp at hx,h⟩ ?_
 clear h;rintro⟨seen,c0⟩ aK w N ⟨hc,lF,h⟩ hN;simp only at hc lF h;refine DU h rfl dP hc (fun cz=> ?_) (fun en w1 dp oz dF h=> ?_)
 .have h2:=h.Ee dP;refine⟨M,_,⟨.inr ⟨0,rfl,FE,fun s' cT=> ?_⟩,rfl,rfl⟩,h2⟩;obtain⟨i,hi,rfl⟩:=qak cT;have hi':i<vs.length:=by omega
  obtain⟨q,h3,h4⟩:=hp.has i _ (qaa hi');obtain⟨x,hx,rfl⟩:=qaj.1 h3;exact lF x hx (cz x hx) i _ (by rw[qaa hi'];exact qaL some h4.symm) (qaa hi)
 refine DT h rfl dP dp ?_;obtain⟨i,h1,h2⟩:=hp.key (en.key,en.val) (qaj.2 ⟨en,dp,rfl⟩);simp only at h1 h2;obtain⟨s',h3,h4⟩:=za i _ h1;obtain⟨n,hn⟩:=RA.named g h4.gs h4.kind;obtain⟨tk,bk,sG,_⟩:=h4.key B;rw[h2];refine s_call h (P_ g B hn (.named h4.gs h4.kind) (.named hs.gs hs.kind) h4.den hs.den (oa.trans h.le)) ?_;clear h;rintro _ w (⟨rfl,jW⟩|⟨rfl,jW⟩) h
 .have h2:=h.Ee dP;exact⟨M,_,⟨.inl ⟨i,s',rfl,h3,jW.nn⟩,rfl,rfl⟩,h2⟩
 refine hN (seen.push en.born,bJ) _ _ ⟨rfl,rfl,tV⟩ ⟨qad _,fun x hx Ay j s2 uZ ki=> ?_,h⟩ dF;simp only at Ay;rw[contains_push]at Ay;by_cases xk:x.born=en.born
 .have:=born_inj dP.2 hx dp xk;subst this;obtain⟨s3,h5,h6⟩:=za j _ uZ;rw[ki]at h5;cases h5;intro fL;obtain⟨p1,p2,p3⟩:=fL;have h7:=h6.same g B h4;exact jW ⟨h7.kind▸p1,p2,(h7.nm p1).symm.trans p3⟩
 exact lF x hx (by simpa[xk]using Ay) j s2 uZ ki
end
end
section
open Go.MapKept
variable {W:Wd}{E:Ev}{M N:Mem}{e:En}{v:Value}{x cs:List Value}{i k:Nat}{l out:List En}
theorem RU:∀(vs cs:List Value) (o i:Nat),o+vs.length<=cs.length->(gU cs o vs)[i]? =if o<=i/\i<o+vs.length then vs[i-o]? else cs[i]?
 |[],cs,o,i,_=>by rw[gU,if_neg (by simp)]
 |v::r,cs,o,i,h=>by
  simp only[qaO]at h;rw[gU,RU r _ (o+1) i (by rw[qbh];omega),qaX];by_cases h1:o=i
  .subst h1;have h2:o<cs.length:=by omega
   rw[if_neg (by omega),if_pos rfl,if_pos h2,if_pos (by simp)];simp
  rw[if_neg h1];by_cases h2:o+1<=i/\i<o+1+r.length
  .rw[if_pos h2,if_pos (by simp only[qaO];omega)];have:i-o=(i-(o+1))+1:=by omega
   rw[this,qbH]
  rw[if_neg h2,if_neg (by simp only[qaO];omega)]
def wj(W:Wd)(E:Ev)(M:Mem)(e:En)(v:Value)(x:List Value):Prop:=∃iv,x=[v,iv,.bool e.ind,.bool e.mult]/\Den W E e.s v/\Sl M 1 dO iv e.index
def gL(W:Wd)(E:Ev)(M:Mem)(e:En)(x:List Value):Prop:=∃v,wj W E M e v x
theorem wj.le(hl:M.Le N)(h:wj W E M e v x):wj W E N e v x:=by
 obtain⟨iv,h1,h2,h3⟩:=h;exact⟨iv,h1,h2,h3.mono hl fun _ _ _ h=>h⟩
theorem gL.le(hl:M.Le N)(h:gL W E M e x):gL W E N e x:=by obtain⟨v,h⟩:=h;exact⟨v,h.le hl⟩
theorem gL.one(h:gL W E M e x):∀v∈x,v.oneCell'=true:=by
 obtain⟨v,iv,rfl,hd,a,c,rfl,_⟩:=h;obtain⟨t,b,rfl,_⟩:=hd.iface;simp[Value.oneCell']
def rW(cs:List Value)(i:Nat)(x:List Value):Prop:=x.length=4/\∀j v,x[j]? =some v->cs[i*4+j]? =some v
theorem rW.other{cs':List Value}(h:rW cs i x)(he:∀j,j<4->cs'[i*4+j]? =cs[i*4+j]?):rW cs' i x:=
 ⟨h.1,fun j v hj=>by have:=(qab.1 hj).1;rw[he j (by have:=h.1;omega)];exact h.2 j v hj⟩
theorem rW.row(h:rW cs i x):(cs.drop (i*4)).take x.length=x:=by
 apply qbe;intro j;rw[qbG];by_cases hj:j<x.length
 .rw[if_pos hj,List.getElem?_drop,qaa hj];exact h.2 j _ (qaa hj)
 rw[if_neg hj,qa3 (by omega)]
theorem S3{α:Type}(f:α->Nat):∀{l:List α} {i:Nat} (hi:i<l.length) (y:α),((l.set i y).map f).sum+f l[i]=(l.map f).sum+f y
 |x::r,0,_,y=>by simp;omega
 |x::r,i+1,hi,y=>by
  have:=S3 f (l:=r) (i:=i) (by simpa using hi) y;simp only[List.set_cons_succ,qaB,qaT,List.getElem_cons_succ];omega
theorem S4{α:Type}(f:α->Nat){l:List α}(hk:k<l.length):((l.take (k+1)).map f).sum=((l.take k).map f).sum+f l[k]:=by
 rw[<-dN hk,qaq,qaN];simp
structure ur(W:Wd)(l:List En)(k:Nat)(out:List En):Prop where
 sub:∀e'∈out,∃e∈l,e'.s=e.s/\e'.index=e.index/\e'.ind=e.ind
 nn:∀id n,min 2 (eY (NN W id n) out)=min 2 (eY (NN W id n) (l.take k))
 nd:out.Pairwise fun a b=>¬qS W a.s b.s
 num:out.Pairwise fun a b=>a.s.of.num≠b.s.of.num
theorem ur.cons(h:ur W l l.length out):xQ W l out:=⟨h.sub,fun id n=>by rw[h.nn,qay],h.nd,.inr h.num⟩
theorem ur.new(h:ur W l k out)(hk:k<l.length)(h1:∀e∈out,¬qS W e.s l[k].s)(h2:∀e∈out,e.s.of.num≠l[k].s.of.num):ur W l (k+1) (out++[l[k]]) where
 sub:=fun e he=>by
  rcases qah.1 he with he|he
  .exact h.sub e he
  rw[qac.1 he];exact⟨_,qaf hk,rfl,rfl,rfl⟩
 nn:=fun id n=>by
  have:=h.nn id n;unfold eY at this⊢;rw[S4 _ hk,qaq,qaN];simp only[qaB,qa0,qaT,qbY];omega
 nd:=qbs.2 ⟨h.nd,by simp,fun a ha b hb=>by rw[qac.1 hb];exact h1 a ha⟩
 num:=qbs.2 ⟨h.num,by simp,fun a ha b hb=>by rw[qac.1 hb];exact h2 a ha⟩
def En.two(e:En):En:={e with mult:=true}
theorem R2{α:Type}{R:α->α->Prop}{l:List α}(h:l.Pairwise R)(hi:i<l.length){y:α}(h1:∀x,R x l[i]->R x y)(h2:∀x,R l[i] x->R y x):(l.set i y).Pairwise R:=by
 induction l generalizing i with
 |nil=>exact absurd hi (qav _)
 |cons x r ih=>
  rw[qau]at h;cases i with
  |zero=>rw[List.set_cons_zero,qau];exact⟨fun z hz=>h2 z (h.1 z hz),h.2⟩
  |succ i=>
   rw[List.set_cons_succ,qau];have hi':i<r.length:=by simpa using hi
   refine⟨fun z hz=> ?_,ih h.2 hi' h1 h2⟩;rcases qb7 hz with hz|rfl
   .exact h.1 z hz
   exact h1 x (h.1 _ (qaf hi'))
theorem ur.iB(h:ur W l k out)(hk:k<l.length)(hi:i<out.length)(hs:uw W out[i].s l[k].s):ur W l (k+1) (out.set i out[i].two) where
 sub:=fun e he=>by
  rcases qb7 he with he|rfl
  .exact h.sub e he
  exact h.sub out[i] (qaf hi)
 nn:=fun id n=>by
  have h0:=h.nn id n;have h1:=S3 (fun e:En=>e.w*NN W id n e.s) hi out[i].two;have h2:=hs id n;unfold eY at h0⊢;rw[S4 _ hk];have h3:out[i].two.w*NN W id n out[i].two.s=2*NN W id n l[k].s:=by rw[<-h2];rfl
  have h4:=vL (f:=fun e:En=>e.w*NN W id n e.s) (qaf hi);rw[h3,h2]at h1;rw[h2]at h4;have w1:out[i].w=1\/out[i].w=2:=by unfold En.w;split<;>simp
  have w2:l[k].w=1\/l[k].w=2:=by unfold En.w;split<;>simp
  rcases w1 with w1|w1<;>rcases w2 with w2|w2<;>rw[w1]at h1 h4<;>rw[w2]<;>omega
 nd:=R2 h.nd hi (fun _ h=>h) (fun _ h=>h)
 num:=R2 h.num hi (fun _ h=>h) (fun _ h=>h)
section
variable {u:World}{M0:Mem}{D:List Nat}{M:Mem}{L:List aB}{w:World}
theorem SH.zdJ{T:TypeId}{css:List (List Value)}(h:SH u M0 D M (.own v k T css::L) w)(aT:css≠[]):
 ∃g cap t cs,v= .slice (some ⟨g,0,none⟩) css.length cap/\css.length<=cap/\css.length*k<=cs.length/\(∀(i:Nat) (x:Value),css.flatten[i]? =some x->cs[i]? =some x)/\SH u M0 D M (.ah g t cs::L) w:=by
 have ho:eG w k T v css:=h.ok _ qal;rcases ho.open_ with⟨_,he⟩|⟨g,cap,rfl,hc,⟨c,t,hg⟩,hr⟩
 .exact absurd he aT
 have hb:a_ w g t c.toList:=by unfold a_;rw[hg]
 have rp:∀(i:Nat) (x:Value),css.flatten[i]? =some x->c.toList[i]? =some x:=fun i x hi=>by
  have h1:=hr i x hi;have hl:i<c.toList.length\/c.toList.length<=i:=qa1 _ _;rw[Cg hb]at h1;simpa using h1
 refine⟨g,cap,t,c.toList,rfl,hc,?_,rp,h.swap (e':= .ah g t c.toList) hb (by simp[aB.bX,cZ,Value.ownBlock]) (fun b o h=>by simp[aB.jf]at h;subst h;simp[aB.jf,cZ,Value.ownBlock]) fun _ h=>h.elim⟩;have c_:=Al (k:=k) ho.len;rcases qa1 c.toList.length (css.length*k)with h1|h1
 .exfalso;have h2:c.toList.length<css.flatten.length:=by omega
  have:=rp _ _ (qaa h2);rw[qa3 (qad _)]at this;cases this
 exact h1
end
end
section
open Go.MapKept
variable {W:Wd}{l:List En}{v:Value}{M:Mem}{x:List Value}
theorem xQ.small(h:l.length<=1):xQ W l l:=by
 refine⟨fun e he=>⟨e,he,rfl,rfl,rfl⟩,fun _ _=>rfl,?_,.inl h⟩
 match l,h with
 |[],_=>exact .nil
 |[x],_=>simp
theorem xW.iS{es bP:Array MapEntry}{vs:List Value}(h:xW es vs)(hn:v∉vs)(hu:mM (bt es) v (.int .i64 (vs.length:Int)) (bt bP)):xW bP (vs++[v]) where
 key:=fun q hq=>by
  obtain⟨k,x⟩:=q;rcases(hu.mem k x).1 hq with⟨rfl,rfl⟩|⟨_,h1⟩
  .exact⟨vs.length,by simp,rfl⟩
  obtain⟨i,h2,h3⟩:=h.key _ h1;exact⟨i,by rw[qbi (qab.1 h2).1];exact h2,h3⟩
 has:=fun i x hx=>by
  by_cases hi:i<vs.length
  .rw[qbi hi]at hx;obtain⟨⟨k,y⟩,h1,h2⟩:=h.has i x hx;simp only at h2;subst h2;exact⟨(k,y),(hu.mem _ _).2 (.inr ⟨fun h=>hn (h▸qax hx),h1⟩),rfl⟩
  rw[qbA (by omega)]at hx;have iR:v=x:=by
   exact(qac.1 (qax hx)).symm
  exact⟨_,(hu.mem _ _).2 (.inl ⟨rfl,rfl⟩),iR⟩
 nd:=hu.nd h.nd
theorem xW.nil:xW #[] []:=⟨by simp[bt],by simp,by simp[bt]⟩
theorem wj.two{E:Ev}{e:En}(h:wj W E M e v x):wj W E M e.two v (x.set 3 (.bool true)):=by
 obtain⟨iv,rfl,h2,h3⟩:=h;exact⟨iv,rfl,h2,h3⟩
theorem rW.zeO{cs:List Value}{i:Nat}(h:rW cs i x)(u:Value):rW (cs.set (0+i*4+3) u) i (x.set 3 u):=by
 refine⟨by rw[qbh];exact h.1,fun j v hj=> ?_⟩;rw[qaX]at hj⊢;by_cases h3:3=j
 .subst h3;rw[if_pos rfl,if_pos (by rw[h.1];decide)]at hj;have h4:x[3]? =some (x[3]'(by rw[h.1];decide)):=qaa _;have:=(qab.1 (h.2 3 _ h4)).1;rw[if_pos (by omega),if_pos (by omega)];exact hj
 rw[if_neg h3]at hj;rw[if_neg (by omega)];exact h.2 j v hj
section
variable {W:Wd}{E:Ev}{w0:World}
theorem Co(g:GD W)(B:eZ W E){css:List (List Value)}(oa:E.mem.Le M)(hl:bC (gL W E M) l css)(hk:∀e∈l,GS W e.s/\e.s.of.kind=1)(hlen:l.length<=2^40)(h:SH w0 M (cp [.own v 4 156 css]) M [.own v 4 156 css] w0):
 az prog 73 [v] w0 fun r w'=>∃M' A',(∃l',Sl M' 4 (gL W E M') r l'/\xQ W l l'/\A'=[])/\SH w0 M (cp [.own v 4 156 css]) M' A' w':=by
 generalize hD:cp [.own v 4 156 css]=D at h⊢;have eC:=hl.len;obtain⟨a,cap,rfl,wQ⟩:=h.oW;refine aL mixed func73 WG ?_;refine aI (fun h1=> ?_) (fun h1=> ?_)
 .obtain⟨M1,hle,cu,h⟩:=h.d6 (.slice a css.length cap);exact⟨M1,[],⟨l,Sl.fV cu (hl.mono fun _ _ _ h=>h.le hle),.small (by omega),rfl⟩,h⟩
 obtain⟨gb,wz,t,Hy,hv,zgc,zgg,rp,h2⟩:=h.zdJ (fun h0=>by rw[h0]at h1;exact absurd h1 (by decide));clear h;cases hv;have h:=h2;clear h2;refine qG h ?_;clear h;intro mb w h;have PF:∀(i:Nat) (e:En),l[i]? =some e->∃x,gL W E M e x/\rW Hy i x:=fun i e he=>by
  obtain⟨x,hx,hr⟩:=hl.get he;obtain⟨v,iv,rfl,_⟩:=id hr;have hx4:∀y∈css,y.length=4:=fun y hy=>by
   obtain⟨j,hj,rfl⟩:=qak hy;obtain⟨y,oM,⟨_,_,rfl,_⟩⟩:=hl.get (i:=j) (x:=l[j]'(by omega)) (qaa (by omega));rw[qaa hj]at oM;rw[qaF oM];rfl
  exact⟨_,hr,rfl,fun j u hj=>rp _ _ (yn hx4 hx j u hj)⟩
 refine bN (X:=Nat×List En×List Value×List Value×Array MapEntry) (fun y=>[(0,.slice (some ⟨gb,0,none⟩) css.length cap),(3,.int .i64 (y.2.1.length:Int)),(4,.map (some mb)),(14,.slice (some ⟨gb,0,none⟩) css.length cap),(15,.int .i64 (css.length:Int)),(16,.int .i64 (y.1:Int))])
  (fun y w=>y.1<=l.length/\ur W l y.1 y.2.1/\y.2.1.length<=y.1/\y.2.2.1.length=y.2.1.length/\(∀(i:Nat) (e:En) (v:Value),y.2.1[i]? =some e->y.2.2.1[i]? =some v->∃x,wj W E M e v x/\rW y.2.2.2.1 i x)/\(∀(i:Nat) (e:En),y.1<=i->l[i]? =some e->∃x,gL W E M e x/\rW y.2.2.2.1 i x)/\
   y.2.2.2.1.length=Hy.length/\xW y.2.2.2.2 y.2.2.1/\(∀e∈y.2.1,GS W e.s/\e.s.of.kind=1)/\SH w0 M D M [.map mb y.2.2.2.2,.ah gb t y.2.2.2.1] w) (fun y=>l.length-y.1) (0,[],[],Hy,#[]) ⟨rfl,rfl,rfl,rfl,rfl,rfl,tV⟩
  ⟨qae _,⟨by simp,fun _ _=>rfl,.nil,.nil⟩,qad _,rfl,by simp,fun i e _ he=>PF i e he,rfl,.nil,by simp,h⟩ ?_
 clear h PF;rintro⟨k,out,vs,cs,es⟩ aK w N ⟨nA,aE,cQ,t7,rC,Dn,nt,tT,cD,h⟩ hN;simp only at nA aE cQ t7 rC Dn nt tT cD h;refine aI (fun aG=> ?_) (fun aY=> ?_);rotate_left 1
 .obtain rfl:k=l.length:=by omega
  refine⟨out.length,cap,⟨rfl,rfl,by omega,qad _⟩,?_⟩;obtain⟨M1,hle,fD,h⟩:=h.dA gb;refine⟨M1,[],⟨out,⟨_,cap,rfl,by omega,fun i e he=> ?_⟩,aE.cons,rfl⟩,h.aF⟩;have hi:=(qab.1 he).1;obtain⟨x,hx,kW⟩:=rC i e _ he (qaa (by omega));exact⟨gb,0,x,rfl,kW.1,fun j u hj=>by rw[qbm];exact fD.at _ (kW.2 j u hj),⟨_,hx.le hle⟩⟩
 have ad:k<l.length:=by omega
 obtain⟨mi,ek⟩:=hk l[k] (qaf ad);obtain⟨x,⟨vk,iv,rfl,yE,y7⟩,kW⟩:=Dn k l[k] (qad _) (qaa ad);have gq:k<css.length:=by omega
 refine aJ k ?_ gq;have Do:=kW.row;refine i_ h [vk,iv,.bool l[k].ind,.bool l[k].mult] ?_ (hd:=by rw[qbm];exact Do);have kn:=gL.one (W:=W) (E:=E) (M:=M) (e:=l[k]) ⟨vk,iv,rfl,yE,y7⟩;refine au h ?_;clear h;intro b6 w h;refine br h kn ?_;clear h;intro w h;refine ak h ?_;refine du [.map mb es] [.ah b6 156 [vk,iv,.bool l[k].ind,.bool l[k].mult],.ah gb t cs] h.aF (zcW g B oa tT (ss:=out.map En.s) (by simp[t7]) (fun i s u hs hu=>by
  rw[qaE]at hs;cases he:out[i]? with
  |none=>rw[he]at hs;cases hs
  |some e=>
   rw[he]at hs;cases hs;obtain⟨y,⟨_,_,hd,_⟩,_⟩:=rC i e u he hu;exact⟨hd,(cD e (qax he)).1,(cD e (qax he)).2⟩) ⟨yE,mi,ek⟩) ?_
 clear h;rintro r M' A' w ⟨hr,rfl,rfl⟩ _ _ h;rcases hr with⟨i,s',rfl,cT,jW⟩|⟨z,rfl,FE,bz⟩
 .rw[qaE]at cT;cases he:out[i]? with
  |none=>rw[he]at cT;cases cT
  |some e=>
  rw[he]at cT;cases cT;have hi:=(qab.1 he).1;have kZ:out[i]=e:=(qab.1 he).2;refine aJ i ?_ (by omega);obtain⟨y,hy,py⟩:=rC i e _ he (qaa (by omega));have mV:0+i*4+3<cs.length:=by omega
  refine eQ h ?_ (hs:=fQ.of mV);clear h;intro w h;refine aA (((k+1:Nat):Int)) ?_;refine hN (k+1,out.set i out[i].two,vs,cs.set (0+i*4+3) (.bool true),es) _ _ (by refine⟨rfl,?_,rfl,rfl,rfl,rfl,tV⟩;simp) ⟨ad,aE.iB ad hi (by rw[kZ];exact jW),by simp only[qbh];omega,by simp only[qbh];exact t7,fun j e2 u hj hu=> ?_,fun j e2 hj gH=> ?_,by simp only[qbh];exact nt,tT,fun e2 gH=> ?_,h.aF⟩ (by simp only;omega)
  .rw[qaX]at hj;by_cases dc:i=j
   .subst dc;rw[if_pos rfl,if_pos hi]at hj;cases hj;obtain⟨y,hy,py⟩:=rC i e u he hu;rw[kZ];exact⟨_,hy.two,py.zeO _⟩
   rw[if_neg dc]at hj;obtain⟨y,hy,py⟩:=rC j e2 u hj hu;exact⟨y,hy,py.other fun q hq=>by rw[qaX,if_neg (by omega)]⟩
  .obtain⟨y,hy,py⟩:=Dn j e2 (by simp only at hj;omega) gH;exact⟨y,hy,py.other fun q hq=>by rw[qaX,if_neg (by simp only at hj;omega)]⟩
  rcases qb7 gH with h2|rfl
  .exact cD e2 h2
  exact cD out[i] (qaf hi)
 refine ak h ?_;refine Sm (key:=vk) (val:= .int .i64 (out.length:Int)) h (QI w) rfl rfl rfl LE (fun q hq=> ?_) (nj.FU B ⟨yE,mi,ek⟩ (oa.trans h.le)) tT.nd ?_
 .obtain⟨i,h2,_⟩:=tT.key q hq;have hi:=(qab.1 h2).1;obtain⟨y,⟨_,_,hd,_⟩,_⟩:=rC i out[i] _ (qaa (by omega)) h2;exact nj.FU B ⟨hd,(cD out[i] (qaf _)).1,(cD out[i] (qaf _)).2⟩ (oa.trans h.le)
 clear h;intro bP w eF h;refine bj h ?_;refine aJ out.length ?_ (by omega);have C6:0+out.length*4+4<=cs.length:=by omega
 refine zeF h kn ?_ (hn:=C6);clear h;intro w h;refine aA ((out.length+1:Nat):Int) ?_ (hy:=by show((out.length:Nat):Int)+1=_;omega);refine aA (((k+1:Nat):Int)) ?_;have Jj:=fun(i:Nat)=>RU [vk,iv,.bool l[k].ind,.bool l[k].mult] cs (0+out.length*4) i C6;refine hN (k+1,out++[l[k]],vs++[vk],gU cs (0+out.length*4) [vk,iv,.bool l[k].ind,.bool l[k].mult],bP) _ _ (by refine⟨rfl,?_,rfl,rfl,rfl,rfl,tV⟩;simp) ⟨ad,aE.new ad (fun e he=>bz _ (qaj.2 ⟨e,he,rfl⟩)) (fun e he hn=> ?_),by simp only[qar,qaO,qbb];omega,by simp only[qar,qaO,qbb];omega,fun j e2 u hj hu=> ?_,fun j e2 hj gH=> ?_,?_,tT.iS FE (by rw[t7];exact eF),fun e2 gH=> ?_,h.aF⟩ (by simp only;omega)
 .obtain⟨j,hj,rfl⟩:=qak he;have ki:j<vs.length:=by omega
  obtain⟨y,⟨_,_,hd,_⟩,_⟩:=rC j out[j] vs[j] (qaa hj) (qaa ki);have:=nj.num B ⟨hd,(cD out[j] (qaf _)).1,(cD out[j] (qaf _)).2⟩ ⟨yE,mi,ek⟩ hn;exact FE (this▸qaf ki)
 .by_cases Fw:j<out.length
  .rw[qbi Fw]at hj;rw[qbi (by omega)]at hu;obtain⟨y,hy,py⟩:=rC j e2 u hj hu;exact⟨y,hy,py.other fun q hq=>by simp only;rw[Jj,if_neg (by omega)]⟩
  have CZ:j=out.length:=by have:=(qab.1 hj).1;simp at this;omega
  subst CZ;rw[qbA (qad _)]at hj;rw[qbA (by omega)]at hu;simp only[Nat.sub_self,qbz,qao]at hj;rw[t7,Nat.sub_self,qbz]at hu;cases hj;cases hu;refine⟨_,⟨iv,rfl,yE,y7⟩,rfl,fun q u hq=> ?_⟩;have AV:=(qab.1 hq).1;simp only[qaO,qbb]at AV;simp only;rw[Jj,if_pos (by simp only[qaO,qbb];omega),show out.length*4+q-(0+out.length*4)=q by omega];exact hq
 .obtain⟨y,hy,py⟩:=Dn j e2 (by simp only at hj;omega) gH;exact⟨y,hy,py.other fun q hq=>by simp only;rw[Jj,if_neg (by simp only[qaO,qbb]at hj⊢;omega)]⟩
 .have:∀(vs cs:List Value) (o:Nat),(gU cs o vs).length=cs.length:=by
   intro vs
   induction vs with
   |nil=>intro cs o;rfl
   |cons v r ih=>intro cs o;rw[gU,ih,qbh]
  simp only[this];exact nt
 rcases qah.1 gH with h2|h2
 .exact cD e2 h2
 rw[qac.1 h2];exact⟨mi,ek⟩
end
end
end Go.Proofs.YtlfcbbcdiecelaaGreatDoor
