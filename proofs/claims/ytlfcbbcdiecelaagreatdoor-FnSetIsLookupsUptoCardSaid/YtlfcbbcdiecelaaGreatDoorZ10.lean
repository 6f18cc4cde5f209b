import Derived.Test.YtlfcbbcdiecelaaGreatDoorZ06
import Derived.Test.YtlfcbbcdiecelaaGreatDoorZ07
import Derived.Test.YtlfcbbcdiecelaaGreatDoorZ08
import Derived.Test.YtlfcbbcdiecelaaGreatDoorZ05
namespace Go.Proofs.YtlfcbbcdiecelaaGreatDoor
open Go Go.Proofs.Tryz
set_option maxRecDepth 100000
set_option maxHeartbeats 4000000
set_option linter.all false
section
variable {M:Mem}{cs:List Value}{k t tx T b:Nat}{x:Value}{ys:List (List Value)}
structure cU where
 id:ByteArray
 cJ:List Int
def je(M:Mem)(x:cU)(cs:List Value):Prop:=∃a c,cs=[.string x.id,.slice a x.cJ.length c]/\x.cJ.length<=c/\bQ M 1 dO a x.cJ
theorem je.le{N:Mem}(hl:M.Le N){x:cU}(h:je M x cs):je N x cs:=by
 obtain⟨a,c,rfl,h1,h2⟩:=h;exact⟨a,c,rfl,h1,h2.mono hl fun _ _ _ h=>h⟩
theorem je.one{x:cU}(h:je M x cs):∀v∈cs,v.oneCell'=true:=by
 obtain⟨a,c,rfl,_⟩:=h;exact cO rfl
def ga(a b:ByteArray):Bool:=Op.bytesLess a.toList b.toList
def kv(x:cU)(s:List cU×Bool)(y:cU):List cU×Bool:=
 if y.id=x.id then(s.1++[⟨y.id,y.cJ++x.cJ⟩],true)
 else if(ga y.id x.id=false)/\s.2=false then(s.1++[x]++[y],true)
 else(s.1++[y],s.2)
def m9(x:cU)(l:List cU):List cU×Bool:=l.foldl (kv x) ([],false)
def ju(l:List cU)(x:cU):List cU:=if(m9 x l).2 then(m9 x l).1 else(m9 x l).1++[x]
theorem zfP(x:cU)(l:List cU)(y:cU):m9 x (l++[y])=kv x (m9 x l) y:=by simp[m9,qbF]
theorem TL(x:cU):∀(l:List cU) (s:List cU×Bool),(l.foldl (kv x) s).1.length<=s.1.length+2*l.length
 |[],s=>by simp
 |y::l,s=>by
  have h:=TL x l (kv x s y);have h2:(kv x s y).1.length<=s.1.length+2:=by
   unfold kv;split
   .simp
   split<;>simp
  simp only[qbo,qaO];omega
theorem TN(x:cU)(l:List cU):(m9 x l).1.length<=2*l.length:=by
 have:=TL x l ([],false);simpa[m9]using this
theorem Src.gm{w:World}{α:Type}{Q:α->List Value->Prop}{a:Option Addr}{c:Nat}{xs:List α}(h:bQ M k Q a xs)(hl:M.Le (Wm w)):∃css,Src w k (.slice a xs.length c) css/\bC Q xs css:=by
 obtain⟨b,o,f,d8,hf⟩:=h.place;have key:∀(n:Nat) (ys:List α) (m:Nat),ys=xs.drop m->n=ys.length->∃css,bC Q ys css/\(∀cs∈css,cs.length=k)/\(∀i v,css.flatten[i]? =some v->M.cell b (o+m*k+i)=some v):=by
  intro n
  induction n with
  |zero=>intro ys m hy hn;exact⟨[],by rw[qaD hn.symm];trivial,by simp,by simp⟩
  |succ n ih=>
   intro ys m hy hn
   match ys,hn with
   |y::ys,hn=>
    have hm:xs[m]? =some y:=by
     have:=qaL (·[0]?) hy;simpa using this.symm
    have hd:ys=xs.drop (m+1):=by
     have:=qaL List.tail hy;simpa[List.tail_drop]using this
    obtain⟨css,h1,h2,h3⟩:=ih ys (m+1) hd (by simpa using hn);obtain⟨g1,g2,g3⟩:=hf m y hm;refine⟨f m::css,⟨g3,h1⟩,by intro cs hc;rcases qan.1 hc with rfl|hc;exact g1;exact h2 cs hc,fun i v hi=> ?_⟩;simp only[List.flatten_cons]at hi;rcases qa1 i (f m).length with aG|aY
    .rw[qbi aG]at hi;exact g2 i v hi
    rw[qbA aY]at hi;have:=h3 _ v hi;rw[g1]at aY this
    rwa [show o+(m+1)*k+(i-k)=o+m*k+i by rw[qbr];omega]at this
 obtain⟨css,h1,h2,h3⟩:=key _ xs 0 (by simp) rfl;refine⟨css,⟨h2,a,c,by rw[h1.len],?_⟩,h1⟩;rcases d8 with rfl|ha
 .left;exact qaD (by rw[<-h1.len];rfl)
 right;exact⟨b,o,ha,fun i v hi=>hl.cell _ _ _ (by have:=h3 i v hi;rwa [Nat.zero_mul,qa6]at this)⟩
theorem lz{l:List Int}{css:List (List Value)}(h:bC dO l css):∀cs∈css,∀u∈cs,u.oneCell'=true:=by
 induction l generalizing css with
 |nil=>cases css with
  |nil=>intro cs hc;simp at hc
  |cons _ _=>exact h.elim
 |cons x l ih=>cases css with
  |nil=>exact h.elim
  |cons c css=>
   intro cs hc;rcases qan.1 hc with rfl|hc
   .intro u hu;cases h.1;simp at hu;subst hu;rfl
   exact ih h.2 cs hc
section
variable {u:World}{M0:Mem}{D:List Nat}{M:Mem}{L:List aB}{w:World}{P:Program}{S:List Nat}
theorem zeA{ty:Nat}{G:Value->World->Prop}(h:SH u M0 D M L w)(cQ:h_ P t tx T k b=true)
 (hx:Src w k x ys) (h1:∀cs∈ys,∀u∈cs,u.oneCell'=true) (kk:∀v w',SH u M0 D M (.own v k T ys::L) w'->G v w') (hb:ys.length*(b+1)<=140737488355328:=by simp;omega):ll P t tx ty (.slice none 0 0) x w G:=
 gJ (css:=[]) (L':=L) (h.gV k T) cQ hx h1 (fun v w' h=>kk v w' h) .here (by simpa using hb)
theorem lV{ty:Nat}{G:Value->List Nat->World->Prop}(h:SH u M0 D M L w)(cQ:h_ P t tx T k b=true)
 (hx:Src w k x ys) (h1:∀cs∈ys,∀u∈cs,u.oneCell'=true) (kk:∀v w',SH u M0 D M (.own v k T ys::L) w'->G v (cZ v++S) w') (hb:ys.length*(b+1)<=140737488355328:=by simp;omega):
 ll P t tx ty (.slice none 0 0) x w fun v w'=>∃S',(Fr S w w'/\∀b∈S',b∈S\/w.heap.size<=b)/\G v S' w':=by
 have h0:=h.gV k T;have ho:eG w k T (.slice none 0 0) []:=eG.nil w k T;refine ll.K8 cQ ho hx h1 (by simpa using hb) fun v w' fG hf hg=>⟨cZ v++S,⟨hf.jd (by simp[cZ,Value.ownBlock]),fun b hb=> ?_⟩,kk v w' ?_⟩
 .rcases qah.1 hb with h1|h1
  .right;rcases hg b h1 with h2|h2
   .simp[cZ,Value.ownBlock]at h2
   exact h2
  exact .inl h1
 have nF:∀b'∈cZ v,w.heap.size<=b':=fun b' aW=>by
  rcases hg b' aW with h2|h2
  .simp[cZ,Value.ownBlock]at h2
  exact h2
 exact h.add (e:= .own v k T ys) (hf.jd (by simp[cZ,Value.ownBlock])) fG nF
end
theorem f_:h_ prog 31 31 3 1 8=true:=by kernel_rfl
theorem z7:h_ prog 249 249 252 2 40=true:=by kernel_rfl
theorem GR{w0:World}{l:List cU}{v:Value}{x:cU}(hM:M.Le (Wm w0))(hl:Sl M 2 (je M) v l)(hx:je M x cs)(hb:l.length<=2^40)(wO:x.cJ.length<=2^40)(fu:∀y∈l,y.cJ.length<=2^40):
 az prog 193 [v,.agg cs.toArray] w0 fun r w'=>∃M',Sl M' 2 (je M') r (ju l x)/\Gr M w0 M' w':=by
 obtain⟨a,c,rfl,hc,he⟩:=hl;have FR:=hx;obtain⟨ax,cx,rfl,Ay,hex⟩:=hx;have h:=SH.start hM;refine aL mixed func193 c193 ?_;refine au h ?_;clear h;intro b3 w h;refine bN (X:=Nat×Value×List (List Value)×Bool×Mem) (fun y=>[(3,.pointer (some ⟨b3,0,none⟩)),(5,y.2.1),(6,.bool y.2.2.2.1),(9,.slice a l.length c),(10,.int .i64 (l.length:Int)),(11,.int .i64 (y.1:Int))])
  (fun y w=>y.1<=l.length/\bC (je y.2.2.2.2) (m9 x (l.take y.1)).1 y.2.2.1/\y.2.2.2.1=(m9 x (l.take y.1)).2/\M.Le y.2.2.2.2/\SH w0 M [] y.2.2.2.2 [.ah b3 252 [.string x.id,.slice ax x.cJ.length cx],.own y.2.1 2 252 y.2.2.1] w) (fun y=>l.length-y.1) (0,.slice none 0 0,[],false,M) ⟨rfl,rfl,rfl,rfl,rfl,rfl,tV⟩ ⟨qae _,tV,rfl,.refl _,(h.gV 2 252).aF⟩ ?_
 clear h;rintro⟨k,v,css,done,M5⟩ aK w N ⟨hk,bS,lF,aV,h⟩ hN;simp only at hk bS lF aV h;refine aI (fun aG=> ?_) (fun aY=> ?_)
 .have ad:k<l.length:=by omega
  have hlen:=bS.len;have vE:=TN x (l.take k);rw[qaG,qaY hk]at vE;obtain⟨b,o,ci,rfl,hl,aO,aE⟩:=he.at ad;have aZ:=aE.one;have hby:=fu l[k] (by simp);have fL:=zfP x (l.take k) l[k];rw[dN ad]at fL;obtain⟨y,hyd⟩:∃y,y=l[k]:=⟨_,rfl⟩;obtain⟨st,aU⟩:∃s,s=m9 x (l.take k):=⟨_,rfl⟩;rw[<-hyd]at aE hby fL;rw[<-aU]at fL bS lF hlen vE;obtain⟨ay,cy,rfl,py,tJ⟩:=aE;have aO:=aO.le aV;have Fk:=tJ.mono aV (fun _ _ _ h=>h);have za7:=hex.mono aV (fun _ _ _ h=>h);refine aJ (k) ?_;refine cG h aO ?_;refine au h ?_;clear h;intro b8 w h;refine br h aZ ?_;clear h;intro w h;refine ak h ?_;refine ak h ?_;refine aI (fun q1=> ?_) (fun q1=> ?_)
  .have e1:m9 x (l.take (k+1))=(st.1++[⟨y.id,y.cJ++x.cJ⟩],true):=by
    rw[fL,kv,if_pos q1]
   have hS:=h.F9 (b:=b3) (b':=b8) (v:=v);refine b_ [b8] h ?_;clear h;intro w h;refine bI h ?_ (hS:=by simp only[qac];exact fun e=>hS (by rw[e];simp));refine aI ?_ trivial;refine td h ?_;refine aI ?_ trivial;obtain⟨q3,dt,cS⟩:=Src.gm (c:=cy) Fk h.le;have iP:=cS.len;refine lV h f_ dt (lz cS) ?_ (by omega);clear h dt;intro v4 w h;refine aI ?_ trivial;obtain⟨q4,tZ,AV⟩:=Src.gm (c:=cx) za7 h.le;have zbS:=AV.len;refine eI h f_ tZ (lz AV) ?_ .here (by omega) (by intro b hb;simp[hb]);clear h tZ;intro v6 w h;refine aI ?_ trivial;refine sV h ?_ (hv:=h.lU (v:=v6)) (hS:=by simp);clear h;intro w h;obtain⟨a6,c6,rfl,Fc⟩:=h.oW (v:=v6);obtain⟨M6,ck,vr,h⟩:=h.d6 (.slice a6 (q3++q4).length c6);have hq:=cS.append AV;obtain⟨_,zaL,za3⟩:=(Sl.fV vr hq).pi;have eC:(q3++q4).length=(y.cJ++x.cJ).length:=by simp[iP,zbS]
   rw[eC]at h;have PC:je M6 ⟨y.id,y.cJ++x.cJ⟩ [.string y.id,.slice a6 (y.cJ++x.cJ).length c6]:=⟨a6,c6,rfl,by rw[<-eC];exact zaL,za3⟩;rw[eC];refine bj h ?_;refine au h ?_;clear h;intro er w h;refine gJ h z7 h.df (de PC.one) ?_;clear h;intro v' w h;refine aA (((k+1:Nat):Int)) ?_;exact hN (k+1,v',css++[[.string y.id,.slice a6 (y.cJ++x.cJ).length c6]],true,M6) _ _ ⟨rfl,rfl,rfl,rfl,rfl,rfl,tV⟩ ⟨ad,by simp only;rw[e1];exact(bS.mono fun _ _ _ hx=>hx.le ck).snoc PC,by simp only;rw[e1],aV.trans ck,h.aF⟩ (by simp only;omega)
  refine ak h ?_;refine ak h ?_;refine aI (fun q2=> ?_) (fun q2=> ?_)
  .cases kC:done with
   |true=>
    rw[kC]at lF;have e1:m9 x (l.take (k+1))=(st.1++[y],st.2):=by
     rw[fL,kv,if_neg q1,if_neg];rintro⟨_,h1⟩;rw[<-lF]at h1;cases h1
    refine bj h ?_;refine au h ?_;clear h;intro er w h;refine gJ h z7 h.df (de aZ) ?_;clear h;intro v' w h;refine aA (((k+1:Nat):Int)) ?_;exact hN (k+1,v',css++[[.string y.id,.slice ay y.cJ.length cy]],true,M5) _ _ ⟨rfl,rfl,rfl,rfl,rfl,rfl,tV⟩ ⟨ad,by simp only;rw[e1];exact bS.snoc ⟨ay,cy,rfl,py,Fk⟩,by simp only;rw[e1,lF],aV,h.aF⟩ (by simp only;omega)
   |false=>
    rw[kC]at lF;have e1:m9 x (l.take (k+1))=(st.1++[x]++[y],true):=by
     rw[fL,kv,if_neg q1,if_pos];exact⟨q2.1,lF.symm⟩
    refine bj h ?_;refine au h ?_;clear h;intro b9 w h;refine gJ h z7 h.df (de FR.one) ?_;clear h;intro v2 w h;refine bj h ?_;refine au h ?_;clear h;intro er w h;refine gJ h z7 h.df (de aZ) ?_;clear h;intro v' w h;refine aA (((k+1:Nat):Int)) ?_;exact hN (k+1,v',css++[[.string x.id,.slice ax x.cJ.length cx]]++[[.string y.id,.slice ay y.cJ.length cy]],true,M5) _ _ ⟨rfl,rfl,rfl,rfl,rfl,rfl,tV⟩ ⟨ad,by simp only;rw[e1];exact(bS.snoc (FR.le aV)).snoc ⟨ay,cy,rfl,py,Fk⟩,by simp only;rw[e1],aV,h.aF⟩ (by simp only;omega)
  have e1:m9 x (l.take (k+1))=(st.1++[y],st.2):=by
   rw[fL,kv,if_neg q1,if_neg];rintro⟨h1,_⟩;rcases q2 with h2|h2
   .rw[ga,h2]at h1;cases h1
   exact q1 h2
  refine bj h ?_;refine au h ?_;clear h;intro er w h;refine gJ h z7 h.df (de aZ) ?_;clear h;intro v' w h;refine aA (((k+1:Nat):Int)) ?_;exact hN (k+1,v',css++[[.string y.id,.slice ay y.cJ.length cy]],done,M5) _ _ ⟨rfl,rfl,rfl,rfl,rfl,rfl,tV⟩ ⟨ad,by simp only;rw[e1];exact bS.snoc ⟨ay,cy,rfl,py,Fk⟩,by simp only;rw[e1,lF],aV,h.aF⟩ (by simp only;omega)
 obtain rfl:k=l.length:=by omega
 rw[qay]at bS lF;have vE:=TN x l;have hlen:=bS.len;clear hN;cases kC:done with
 |true=>
  rw[kC]at lF;have e1:ju l x=(m9 x l).1:=by rw[ju,if_pos lF.symm]
  rw[e1];obtain⟨M7,cF,vn,h'⟩:=h.d6 v;exact⟨M7,Sl.fV vn (bS.mono fun _ _ _ hx=>hx.le cF),h'.gr⟩
 |false=>
  rw[kC]at lF;have e1:ju l x=(m9 x l).1++[x]:=by rw[ju,if_neg];rw[<-lF];simp
  rw[e1];refine bj h ?_;refine au h ?_;clear h;intro er w h;refine gJ h z7 h.df (de FR.one) ?_;clear h;intro v' w h;obtain⟨M7,cF,vn,h'⟩:=h.d6 v';exact⟨M7,Sl.fV vn ((bS.snoc (FR.le aV)).mono fun _ _ _ hx=>hx.le cF),h'.gr⟩
end
section
open Go.MapKept
variable {es:Array MapEntry}{e:aB}{seen:List Int}{n:Nat}{W:Wd}{s:Sp}
structure GY(D:List Nat)(M:Mem)(w:World)(M':Mem)(w':World):Prop where
 fr:Fr D w w'
 le:M.Le M'
 qD:M'.Le (Wm w')
 new:∀b o v,M'.cell b o=some v->M.cell b o=some v\/w.heap.size<=b\/b∈D
 kI:∀b,M'.own b->M.own b\/w.heap.size<=b\/b∈D
theorem wo.KQ{w:World}{M:Mem}{b:Nat}(h:wo w b es)(hM:M.Le (Wm w))(o:Nat):M.cell b o=none:=by
 cases hc:M.cell b o with
 |none=>rfl
 |some v=>
  have h1:=hM.cell b o v hc;obtain⟨bJ,h2,_⟩:=h;simp[Wm,World.cell?,h2]at h1
section
variable {u:World}{M0:Mem}{D:List Nat}{M:Mem}{L:List aB}{w:World}{P:Program}{S:List Nat}
theorem SH.HU(h:SH u M0 D M L w):GY D M0 u M w:=⟨h.fr,h.dG,h.le,h.new,h.kI⟩
theorem SH.ze8(hM:M.Le (Wm w))(he:e.holds w)(ho:∀b o,e.jf b o->M.cell b o=none)(hg:∀b,e.yq b->¬M.own b):SH w M e.bX M [e] w:=
 ⟨Fr.refl w|>.nil,.refl M,hM,fun _ _ _ h=> .inl h,fun _ h=> .inl h,by simpa using ho,by simpa using hg,by intro x hx b hb;simp at hx;subst hx;exact .inl hb,by simp,by simpa using he⟩
theorem SH.HV{e':aB}{L':List aB}{w':World}{M':Mem}(h:SH u M0 D M L w)(hp:Pk L e L')(hg:GY e.bX M w M' w')(he:e'.holds w')(CT:∀b∈e'.bX,b∈e.bX\/w.heap.size<=b)(hm:∀b o,e'.jf b o->M'.cell b o=none)(IZ:∀b,e'.yq b->¬M'.own b):SH u M0 D M' (e'::L') w':=by
 have h0:=h.pk hp;have qy:=qau.1 h0.pd;refine⟨h0.fr.trans' hg.fr fun b hb=>h0.iG e qal b hb,h0.dG.trans hg.le,hg.qD,fun b o v hc=> ?_,fun b hb=> ?_,?_,?_,?_,?_,?_⟩
 .rcases hg.new b o v hc with h1|h1|h1
  .exact h0.new b o v h1
  .right;left;have:=h0.size;omega
  right;exact(h0.iG e qal b h1).symm
 .rcases hg.kI b hb with h1|h1|h1
  .exact h0.kI b h1
  .right;left;have:=h0.size;omega
  right;exact(h0.iG e qal b h1).symm
 .intro x hx b o eD;rcases qan.1 hx with rfl|hx
  .exact hm b o eD
  cases hc:M'.cell b o with
  |none=>rfl
  |some v=>
   rcases hg.new b o v hc with h1|h1|h1
   .rw[h0.off x (qag _ hx) b o eD]at h1;cases h1
   .have:=h0.lt (qag _ hx) (aB.wA eD);omega
   exact absurd (aB.wA eD) (qy.1 x hx b h1)
 .intro x hx b hb eD;rcases qan.1 hx with rfl|hx
  .exact IZ b hb eD
  rcases hg.kI b eD with h1|h1|h1
  .exact h0.mF x (qag _ hx) b hb h1
  .have:=h0.lt (qag _ hx) (aB.wG hb);omega
  exact absurd (aB.wG hb) (qy.1 x hx b h1)
 .intro x hx b hb;rcases qan.1 hx with rfl|hx
  .rcases CT b hb with h1|h1
   .exact h0.iG e qal b h1
   right;have:=h0.size;omega
  exact h0.iG x (qag _ hx) b hb
 .rw[qau];refine⟨fun x hx b hb aW=> ?_,qy.2⟩;rcases CT b hb with h1|h1
  .exact qy.1 x hx b h1 aW
  have:=h0.lt (qag _ hx) aW;omega
 intro x hx;rcases qan.1 hx with rfl|hx
 .exact he
 exact aB.fr hg.fr (h0.ok x (qag _ hx)) fun b hb aW=>qy.1 x hx b aW hb
end
structure Seen(seen:List Int)(es:Array MapEntry):Prop where
 key:∀p∈bt es,IsKey (.int .i64) p.1
 nd:((bt es).map (·.1)).Nodup
 mem:∀k v,(.int .i64 k,v)∈bt es↔k∈seen/\v= .bool true
theorem Seen.nil:Seen [] #[]:=⟨by simp[bt],by simp[bt],by simp[bt]⟩
theorem Seen.cons{bP:Array MapEntry}{n:Int}(h:Seen seen es)(hu:mM (bt es) (.int .i64 n) (.bool true) (bt bP)):Seen (n::seen) bP:=by
 refine⟨fun p hp=> ?_,hu.nd h.nd,fun k v=> ?_⟩
 .obtain⟨k,v⟩:=p;rcases(hu.mem k v).1 hp with⟨rfl,_⟩|⟨_,h1⟩
  .rfl
  exact h.key _ h1
 rw[hu.mem];constructor
 .rintro(⟨h1,rfl⟩|⟨_,h1⟩)
  .simp at h1;subst h1;simp
  have:=(h.mem k v).1 h1;exact⟨qag _ this.1,this.2⟩
 rintro⟨h1,rfl⟩;by_cases dx:k=n
 .subst dx;exact .inl ⟨rfl,rfl⟩
 refine .inr ⟨by simpa using dx,(h.mem k _).2 ⟨?_,rfl⟩⟩;rcases qan.1 h1 with h1|h1
 .exact absurd h1 dx
 exact h1
def j5(u:Sp)(k:Nat):List cU:=(List.range k).foldl (fun out i=>ju out ⟨aM u.aC (u.of.methods.getD i default).1,[(u.at_+i:Nat)]⟩) []
def fp(W:Wd):Nat->Sp->List Int->List cU×List Int
 |0,_,seen=>([],seen)
 |n+1,s,seen=>
  if s.of.kind=1/\s.of.num∈seen then([],seen)else
  (List.range (W.under s).of.aD.length).foldl (fun r i=>((fp W n ((W.under s).bE i) r.2).1.foldl ju r.1,(fp W n ((W.under s).bE i) r.2).2))
   (j5 (W.under s) (W.under s).of.methods.length,if s.of.kind=1 then s.of.num::seen else seen)
def da(W:Wd)(n:Nat)(u:Sp)(seen:List Int)(k:Nat):List cU×List Int:=
 (List.range k).foldl (fun r i=>((fp W n (u.bE i) r.2).1.foldl ju r.1,(fp W n (u.bE i) r.2).2)) (j5 u u.of.methods.length,seen)
theorem BD(h:s.of.kind=1/\s.of.num∈seen):fp W (n+1) s seen=([],seen):=by rw[fp,if_pos h]
theorem xL(h:¬(s.of.kind=1/\s.of.num∈seen)):fp W (n+1) s seen=da W n (W.under s) (if s.of.kind=1 then s.of.num::seen else seen) (W.under s).of.aD.length:=by rw[fp,if_neg h,da]
theorem Lq(u:Sp)(k:Nat):j5 u (k+1)=ju (j5 u k) ⟨aM u.aC (u.of.methods.getD k default).1,[(u.at_+k:Nat)]⟩:=by simp[j5,qbB,qbF]
theorem vY(W:Wd)(n:Nat)(u:Sp)(seen:List Int)(k:Nat):da W n u seen (k+1)=((fp W n (u.bE k) (da W n u seen k).2).1.foldl ju (da W n u seen k).1,(fp W n (u.bE k) (da W n u seen k).2).2):=by simp[da,qbB,qbF]
def gX(l:List cU):Nat:=(l.map fun x=>1+x.cJ.length).sum
end
section
variable {a b:ByteArray}{l:List cU}
theorem He:∀a:List UInt8,Op.bytesLess a a=false
 |[]=>rfl
 |a::x=>by simp[Op.bytesLess,He x]
theorem Hf:∀a b c:List UInt8,Op.bytesLess a b=true->Op.bytesLess b c=true->Op.bytesLess a c=true
 |_,[],_,h,_=>by cases ‹List UInt8›<;>simp[Op.bytesLess]at h
 |_,_::_,[],_,h=>by simp[Op.bytesLess]at h
 |[],_::_,_::_,_,_=>rfl
 |a::x,b::y,c::z,h,h'=>by
  simp only[Op.bytesLess,Bool.or_eq_true,qbp,qbn,beq_iff_eq]at h h'⊢;rcases h with h|⟨rfl,h⟩
  .rcases h' with h'|⟨rfl,h'⟩
   .exact .inl (UInt8.lt_trans h h')
   exact .inl h
  rcases h' with h'|⟨rfl,h'⟩
  .exact .inl h'
  exact .inr ⟨rfl,Hf x y z h h'⟩
theorem Mu:∀a b:List UInt8,Op.bytesLess a b=false->Op.bytesLess b a=false->a=b
 |[],[],_,_=>rfl
 |[],_::_,h,_=>by simp[Op.bytesLess]at h
 |_::_,[],_,h=>by simp[Op.bytesLess]at h
 |a::x,b::y,h,h'=>by
  simp only[Op.bytesLess,Bool.or_eq_false_iff,decide_eq_false_iff_not,Bool.and_eq_false_iff,beq_eq_false_iff_ne,ne_eq]at h h';have d8:a=b:=by
   rcases UInt8.lt_or_lt_of_ne (a:=a) (b:=b)|>fun f=>(Classical.em (a=b)).imp id f with h1|h1
   .exact h1
   rcases h1 with h1|h1
   .exact absurd h1 h.1
   exact absurd h1 h'.1
  subst d8;rw[Mu x y (h.2.resolve_left (by simp)) (h'.2.resolve_left (by simp))]
theorem Ch(a:ByteArray):ga a a=false:=He _
theorem Hi{c:ByteArray}(h:ga a b=true)(h':ga b c=true):ga a c=true:=Hf _ _ _ h h'
theorem Hh(h:ga a b=false)(h':ga b a=false):a=b:=by
 have:=Mu _ _ h h';rw[ByteArray.toList_eq,ByteArray.toList_eq]at this;exact ByteArray.ext (Array.toList_inj.1 this)
theorem US(h:ga a b=true):ga b a=false:=by
 cases hb:ga b a with
 |false=>rfl
 |true=>have:=Hi h hb;rw[Ch]at this;cases this
def hG(l:List cU):Prop:=l.Pairwise fun a b=>ga a.id b.id=true
def ins(x:cU):List cU->List cU
 |[]=>[x]
 |y::r=>if y.id=x.id then⟨y.id,y.cJ++x.cJ⟩::r else if ga y.id x.id=false then x::y::r else y::ins x r
theorem HP{x:cU}:∀(r out:List cU),(∀y∈r,y.id≠x.id)->r.foldl (kv x) (out,true)=(out++r,true)
 |[],out,_=>by simp
 |y::r,out,h=>by
  have h1:kv x (out,true) y=(out++[y],true):=by
   rw[kv,if_neg (h y (by simp)),if_neg (by simp)]
  rw[qbo,h1,HP r _ fun z hz=>h z (by simp[hz])];simp
theorem Nx{x:cU}:∀(l out:List cU),hG l->(if(l.foldl (kv x) (out,false)).2 then(l.foldl (kv x) (out,false)).1 else(l.foldl (kv x) (out,false)).1++[x])=out++ins x l
 |[],out,_=>by simp[ins]
 |y::r,out,h=>by
  unfold hG at h;rw[qau]at h;by_cases h1:y.id=x.id
  .have h2:kv x (out,false) y=(out++[⟨y.id,y.cJ++x.cJ⟩],true):=by rw[kv,if_pos h1]
   rw[qbo,h2,HP r _ fun z hz he=>by
    have:=h.1 z hz;rw[he,<-h1,Ch]at this;cases this]
   simp[ins,h1]
  by_cases h3:ga y.id x.id=false
  .have h2:kv x (out,false) y=(out++[x]++[y],true):=by rw[kv,if_neg h1,if_pos ⟨h3,rfl⟩]
   rw[qbo,h2,HP r _ fun z hz he=>by
    have:=h.1 z hz;rw[he,h3]at this;cases this]
   simp[ins,h1,h3]
  have h2:kv x (out,false) y=(out++[y],false):=by rw[kv,if_neg h1,if_neg (by simp[h3])]
  rw[qbo,h2,Nx r _ h.2];simp[ins,h1,h3]
theorem BO(x:cU)(h:hG l):ju l x=ins x l:=by
 have:=Nx (x:=x) l [] h;rw[qbk]at this;exact this
theorem Qp{x:cU}:∀{l:List cU} {i:ByteArray},i∈(ins x l).map (·.id)↔i=x.id\/i∈l.map (·.id)
 |[],i=>by simp[ins]
 |y::r,i=>by
  unfold ins;split
  .rename_i h;simp[h]
  split
  .simp
  simp only[qaB,qan,Qp (l:=r)];constructor
  .rintro(h|h|h)
   .exact .inr (.inl h)
   .exact .inl h
   exact .inr (.inr h)
  rintro(h|h|h)
  .exact .inr (.inl h)
  .exact .inl h
  exact .inr (.inr h)
theorem Qq{x:cU}:∀{l:List cU},hG l->hG (ins x l)
 |[],_=>by simp[ins,hG]
 |y::r,h=>by
  have h0:=h;unfold hG at h;rw[qau]at h;unfold ins;split
  .exact qau.2 ⟨h.1,h.2⟩
  rename_i h1;split
  .rename_i h3;have ze:ga x.id y.id=true:=by
    cases hb:ga x.id y.id with
    |true=>rfl
    |false=>exact absurd (Hh h3 hb) h1
   refine qau.2 ⟨fun z hz=> ?_,h0⟩;rcases qan.1 hz with rfl|hz
   .exact ze
   exact Hi ze (h.1 z hz)
  rename_i h3;refine qau.2 ⟨fun z hz=> ?_,Qq h.2⟩;have:z.id∈(ins x r).map (·.id):=qaj.2 ⟨z,hz,rfl⟩;rcases Qp.1 this with h4|h4
  .rw[h4];simpa using h3
  obtain⟨z',zg,he⟩:=qaj.1 h4;rw[<-he];exact h.1 z' zg
theorem Qo{x:cU}:∀(l:List cU),gX (ins x l)<=gX l+(1+x.cJ.length)
 |[]=>by simp[ins,gX]
 |y::r=>by
  have:=Qo (x:=x) r;unfold gX at this⊢;unfold ins;split
  .simp only[qaB,qaT,qar];omega
  split
  .simp only[qaB,qaT];omega
  simp only[qaB,qaT];omega
theorem Ej(x:cU)(h:hG l):hG (ju l x):=by rw[BO x h];exact Qq h
theorem TM(x:cU)(h:hG l):gX (ju l x)<=gX l+(1+x.cJ.length):=by rw[BO x h];exact Qo l
theorem HO:∀(l:List cU) {out:List cU},hG out->hG (l.foldl ju out)
 |[],_,h=>h
 |x::l,_,h=>HO l (Ej x h)
theorem Cz:∀(l:List cU) {out:List cU},hG out->gX (l.foldl ju out)<=gX out+gX l
 |[],out,_=>by simp[gX]
 |x::l,out,h=>by
  have h1:=Cz l (Ej x h);have h2:=TM x h;have h3:gX (x::l)=(1+x.cJ.length)+gX l:=by simp[gX]
  simp only[qbo];omega
theorem Sw(l:List cU)(j:Nat):gX (l.take j)<=gX l:=by
 unfold gX;rw[qbt];exact nR _ _
theorem xK(l:List cU):l.length<=gX l:=Bm l _ fun _ _=>by omega
theorem zA{x:cU}(h:x∈l):x.cJ.length<=gX l:=by
 have:=DC (f:=fun x:cU=>1+x.cJ.length) h;unfold gX;omega
theorem MM{α:Type}{p q:α->Bool}(kF:∀x,q x=true->p x=true):∀(l:List α),(∃x∈l,p x=true/\q x=false)->l.countP q+1<=l.countP p
 |[],h=>by obtain⟨x,hx,_⟩:=h;simp at hx
 |y::l,h=>by
  have mono:l.countP q<=l.countP p:=qb6 fun x _ hx=>kF x hx;rw[List.countP_cons,List.countP_cons];obtain⟨x,hx,hp,hq⟩:=h;rcases qan.1 hx with rfl|hx
  .rw[hp,hq];simp;omega
  have:=MM kF l ⟨x,hx,hp,hq⟩;have hy:=kF y;cases hqy:q y<;>cases oD:p y
  .simp;omega
  .simp;omega
  .rw[hqy,oD]at hy;simp at hy
  simp;omega
def gn(W:Wd)(seen:List Int):Nat:=(List.range W.length).countP fun i=>decide (((i:Nat):Int)∉seen)
theorem GO{W:Wd}{seen:List Int}{n:Int}(hn:W.has n)(h:n∉seen):gn W (n::seen)+1<=gn W seen:=by
 refine MM (fun x hx=> ?_) _ ⟨n.toNat,by simpa using hn.2,?_,?_⟩
 .simp only[qan,not_or,qbp]at hx⊢;exact hx.2
 .simp only[<-Wd.ji hn];simpa using h
 simp only[<-Wd.ji hn];simp
theorem LJ(W:Wd)(seen:List Int):gn W seen<=W.length:=by
 have:=List.countP_le_length (p:=fun i:Nat=>decide ((i:Int)∉seen)) (l:=List.range W.length);simpa[gn]using this
theorem zB(u:Sp):∀k,hG (j5 u k)/\gX (j5 u k)<=2*k
 |0=>by simp[j5,hG,gX]
 |k+1=>by
  obtain⟨h1,h2⟩:=zB u k;rw[Lq];refine⟨Ej _ h1,?_⟩;have:=TM ⟨aM u.aC (u.of.methods.getD k default).1,[((u.at_+k:Nat):Int)]⟩ h1;simp only[qaw]at this;omega
theorem Gq{W:Wd}(hk:o6 W){B:Nat}(hB:∀d∈W,2*d.of.aj<=B):∀(n:Nat) (s:Sp) (seen:List Int),Ok W s.of->
 hG (fp W n s seen).1/\gX (fp W n s seen).1+B*gn W (fp W n s seen).2<=(if s.of.kind=1 then 0 else 2*s.of.aj)+B*gn W seen
 |0,s,seen,_=>by simp[fp,hG,gX]
 |n+1,s,seen,ho=>by
  by_cases h:s.of.kind=1/\s.of.num∈seen
  .rw[BD h];simp[hG,gX]
  rw[xL h];have vd:Ok W (W.under s).of:=Wd.LG hk _ _ ho;obtain⟨seen1,fH⟩:∃x,x=(if s.of.kind=1 then s.of.num::seen else seen):=⟨_,rfl⟩;rw[<-fH];have key:∀k,k<=(W.under s).of.aD.length->hG (da W n (W.under s) seen1 k).1/\
   gX (da W n (W.under s) seen1 k).1+B*gn W (da W n (W.under s) seen1 k).2<=2*(W.under s).of.methods.length+(((W.under s).of.aD.take k).map fun e=>2*e.aj).sum+B*gn W seen1:=by
   intro k
   induction k with
   |zero=>
    intro _;obtain⟨h1,h2⟩:=zB (W.under s) (W.under s).of.methods.length;simp only[da,List.range_zero,List.foldl_nil,qbO,qa0,qbY];exact⟨h1,by omega⟩
   |succ k ih=>
    intro ad;obtain⟨h1,h2⟩:=ih (by omega);have nA:k<(W.under s).of.aD.length:=by omega
    obtain⟨h3,h4⟩:=Gq hk hB n ((W.under s).bE k) (da W n (W.under s) seen1 k).2 (Sp.yi vd nA);rw[vY];refine⟨HO _ h1,?_⟩;have h5:=Cz (fp W n ((W.under s).bE k) (da W n (W.under s) seen1 k).2).1 h1;have h6:=qJ ((W.under s).of.aD.map fun e=>2*e.aj) k (by simpa using nA);simp only[qaU,<-qbt]at h6;have h7:(if((W.under s).bE k).of.kind=1 then 0 else 2*((W.under s).bE k).of.aj)<=2*(W.under s).of.aD[k].aj:=by
     rw[Sp.pj nA];split<;>omega
    simp only at h5⊢;omega
  obtain⟨h1,h2⟩:=key _ (qad _);refine⟨h1,?_⟩;rw[qay]at h2;have wN:=Ty.iW (W.under s).of;have h8:((W.under s).of.aD.map fun e=>2*e.aj).sum=2*((W.under s).of.aD.map Ty.aj).sum:=by
   induction(W.under s).of.aD with
   |nil=>rfl
   |cons x l ih=>simp only[qaB,qaT,ih];omega
  by_cases dC:s.of.kind=1
  .have hn:=ho.num dC;have oz:s.of.num∉seen:=fun hx=>h ⟨dC,hx⟩;rw[if_pos dC]at fH⊢;subst fH;have h9:=GO hn oz;have h10:2*(W.under s).of.aj<=B:=by
    have hu:W.under s=Wd.ja W W.length (W.spot s.of.num):=by
     show Wd.ja W (W.length+1) s=_;rw[rU,if_neg (by simp[dC])]
    obtain⟨j,hj,AJ⟩:=GL hk W.length _ hn;rw[hu,AJ];exact hB _ (W.mem _ hj)
   have h11:B*gn W (s.of.num::seen)+B<=B*gn W seen:=by rw[<-Nat.mul_succ];exact Nat.mul_le_mul_left _ h9
   omega
  rw[if_neg dC]at fH⊢;subst fH;have hu:W.under s=s:=by
   show Wd.ja W (W.length+1) s=_;rw[rU,if_pos dC]
  rw[hu]at h2 h8 wN⊢;omega
end
section
open Go.MapKept
variable {W:Wd}{s u:Sp}{d:Int}{t:Ty}{v:Bool}{i X n b u0 u2 e x:Nat}
structure GS(W:Wd)(s:Sp):Prop where
 aC:cN s.aC
 form:∃d v,cP W d s.of v
 top:s.top<=2^30
structure GW(W:Wd):Prop where
 spot:∀i,W.has i->GS W (W.spot i)
 name:∀d∈W,bL d.name/\d.name≠8
 aj:W.aj<=2^19
theorem GS.ok(h:GS W s):Ok W s.of:=by obtain⟨d,v,hf⟩:=h.form;exact hf.ok
theorem GW.jZ(h:GW W):o6 W:=fun d hd=>by
 obtain⟨j,hj,sE⟩:=qak hd;have:=(h.spot (j:Nat) (Wd.wL hj)).ok
 rwa [show(W.spot (j:Nat)).of=d.of by show(W.at (j:Nat)).of=_;rw[Wd.pc hj,sE]]at this
theorem GS.ja(hW:GW W):∀(n:Nat) (s:Sp),GS W s->GS W (Wd.ja W n s)
 |0,s,h=>h
 |n+1,s,h=>by
  rw[rU];split
  .exact h
  rename_i h1;simp only[ne_eq,qbC]at h1;exact GS.ja hW n _ (hW.spot _ (h.ok.num h1))
theorem GS.qF(hW:GW W):∀(n:Nat) (s:Sp),GS W s->GS W (Wd.qF W n s)
 |0,s,h=>h
 |n+1,s,h=>by
  rw[vV];split
  .exact h
  rename_i h1;simp only[not_or,ne_eq,qbC]at h1;exact GS.qF hW n _ (hW.spot _ (h.ok.num h1.1))
theorem GS.under(hW:GW W)(h:GS W s):GS W (W.under s):=GS.ja hW _ _ h
theorem GS.plain(hW:GW W)(h:GS W s):GS W (W.plain s):=GS.qF hW _ _ h
theorem m0{p:Prop}:(false=true\/p)->p:=fun h=>h.resolve_left (by simp)
theorem cP.aD(h:cP W d t v):∀e∈t.aD,cP W d e true:=by
 cases h with
 |basic hk hh=>rw[(m0 hh.2.2.1).2];simp
 |named hk hh=>rw[(m0 hh.2.2.1).2];simp
 |to hk hh=>rw[(m0 hh.2.2.1).2];simp
 |struct hk hh=>rw[(m0 hh.2.2.1).2];simp
 |iface hk hh hm ad he=>exact he
theorem cP.methods(h:cP W d t v):∀m∈t.methods,bL m.1/\m.1≠8/\m.2=false:=by
 cases h with
 |basic hk hh=>rw[(m0 hh.2.2.1).1];simp
 |named hk hh=>rw[(m0 hh.2.2.1).1];simp
 |to hk hh=>rw[(m0 hh.2.2.1).1];simp
 |struct hk hh=>rw[(m0 hh.2.2.1).1];simp
 |iface hk hh hm ad he=>exact hm
theorem cP.elems(h:cP W d t v):∀e∈t.elem,cP W d e false:=by
 cases h with
 |basic hk hh=>rw[m0 hh.1];simp
 |named hk hh=>rw[m0 hh.1];simp
 |to hk hh he hf=>rw[he];simpa using hf
 |struct hk hh=>rw[m0 hh.1];simp
 |iface hk hh hm ad he=>rw[m0 hh.1];simp
theorem GS.bE(h:GS W s)(hi:i<s.of.aD.length):GS W (s.bE i):=by
 obtain⟨d,v,hf⟩:=h.form;exact⟨h.aC,⟨d,true,by rw[Sp.pj hi];exact hf.aD _ (by simp)⟩,qaQ (Sp.Nd hi) h.top⟩
theorem GS.field(h:GS W s)(hi:i<s.of.fields.length):GS W (s.field i):=by
 obtain⟨d,v,hf⟩:=h.form;exact⟨h.aC,⟨d,v,by rw[Sp.tE hi];exact(hf.fields (by simp:s.of.fields[i]∈_)).2.1⟩,qaQ (Sp.Nl hi) h.top⟩
theorem GS.elem(h:GS W s)(aT:s.of.elem≠[]):GS W s.elem:=by
 obtain⟨d,v,hf⟩:=h.form;exact⟨h.aC,⟨d,false,hf.elems _ (Sp.uF aT)⟩,qaQ (Sp.Nb aT) h.top⟩
theorem SD{W:Wd}:∀(n:Nat) (s:Sp) (seen:List Int),∃l,(fp W n s seen).2=l++seen
 |0,s,seen=>⟨[],rfl⟩
 |n+1,s,seen=>by
  by_cases h:s.of.kind=1/\s.of.num∈seen
  .rw[BD h];exact⟨[],rfl⟩
  rw[xL h];have key:∀seen1 k,∃l,(da W n (W.under s) seen1 k).2=l++seen1:=by
   intro seen1 k
   induction k with
   |zero=>exact⟨[],rfl⟩
   |succ k ih=>
    obtain⟨l,hl⟩:=ih;rw[vY];obtain⟨l',gR⟩:=SD n ((W.under s).bE k) (da W n (W.under s) seen1 k).2;exact⟨l'++l,by rw[gR,hl,qap]⟩
  obtain⟨l,hl⟩:=key (if s.of.kind=1 then s.of.num::seen else seen) (W.under s).of.aD.length;rw[hl];split
  .exact⟨l++[s.of.num],by simp⟩
  exact⟨l,rfl⟩
theorem D0{W:Wd}(n:Nat)(u:Sp)(seen:List Int):∀k,∃l,(da W n u seen k).2=l++seen
 |0=>⟨[],rfl⟩
 |k+1=>by
  obtain⟨l,hl⟩:=D0 n u seen k;rw[vY];obtain⟨l',gR⟩:=SD n (u.bE k) (da W n u seen k).2;exact⟨l'++l,by rw[gR,hl,qap]⟩
theorem GN(W:Wd)(l seen:List Int):gn W (l++seen)<=gn W seen:=
 qb6 fun x _ hx=>by simp only[qah,not_or,qbp]at hx⊢;exact hx.2
def uk(W:Wd)(s:Sp)(seen:List Int):Nat:=gn W seen*(W.aj+2)+(if s.of.kind=1 then 0 else s.of.aj)
theorem Wd.sQ{d:Dc}(h:d∈W):d.of.aj<=W.aj:=by
 have:=DC (f:=Dc.aj) h;unfold Wd.aj Dc.aj at*;omega
theorem Wd.FY(W:Wd):2*W.length<=W.aj:=by
 have h:∀(W:Wd),2*W.length<=(W.map Dc.aj).sum:=by
  intro W
  induction W with
  |nil=>simp
  |cons d W ih=>
   have:=d.of.EK;have h1:d.aj=1+d.methods.length+d.of.aj:=rfl;simp only[qaO,qaB,qaT];omega
 exact h W
theorem Sz(hk:o6 W){B:Nat}(hB:∀d∈W,2*d.of.aj<=B)(n:Nat)(vd:Ok W u.of)(seen:List Int):∀k,k<=u.of.aD.length->hG (da W n u seen k).1/\
 gX (da W n u seen k).1+B*gn W (da W n u seen k).2<=2*u.of.methods.length+((u.of.aD.take k).map fun e=>2*e.aj).sum+B*gn W seen:=by
 intro k
 induction k with
 |zero=>
  intro _;obtain⟨h1,h2⟩:=zB u u.of.methods.length;simp only[da,List.range_zero,List.foldl_nil,qbO,qa0,qbY];exact⟨h1,by omega⟩
 |succ k ih=>
  intro ad;obtain⟨h1,h2⟩:=ih (by omega);have nA:k<u.of.aD.length:=by omega
  obtain⟨h3,h4⟩:=Gq hk hB n (u.bE k) (da W n u seen k).2 (Sp.yi vd nA);rw[vY];refine⟨HO _ h1,?_⟩;have h5:=Cz (fp W n (u.bE k) (da W n u seen k).2).1 h1;have h6:=qJ (u.of.aD.map fun e=>2*e.aj) k (by simpa using nA);simp only[qaU,<-qbt]at h6;have h7:(if(u.bE k).of.kind=1 then 0 else 2*(u.bE k).of.aj)<=2*u.of.aD[k].aj:=by
   rw[Sp.pj nA];split<;>omega
  simp only at h5⊢;omega
theorem Mt(hW:GW W)(seen:List Int):(2*W.aj)*gn W seen<=2^38:=by
 have h1:=W.FY;have h2:=LJ W seen;have h3:=hW.aj
 calc(2*W.aj)*gn W seen<=2^20*2^18:=Nat.mul_le_mul (by omega) (by omega)
  _=2^38:=by decide
theorem Sx(hW:GW W)(n:Nat)(hu:GS W u)(seen:List Int)(k:Nat)(hk:k<=u.of.aD.length):hG (da W n u seen k).1/\gX (da W n u seen k).1<=2^38+2^31:=by
 obtain⟨h1,h2⟩:=Sz hW.jZ (B:=2*W.aj) (fun d hd=>by have:=Wd.sQ hd;omega) n hu.ok seen k hk;refine⟨h1,?_⟩;have h3:=Mt hW seen;have h4:=hu.top;unfold Sp.top at h4;have h5:=Ty.iW u.of;have h8:((u.of.aD.take k).map fun e=>2*e.aj).sum<=2*(u.of.aD.map Ty.aj).sum:=by
  have e1:((u.of.aD.take k).map fun e=>2*e.aj).sum<=(u.of.aD.map fun e=>2*e.aj).sum:=by
   rw[qbt];exact nR _ _
  have e2:(u.of.aD.map fun e=>2*e.aj).sum=2*(u.of.aD.map Ty.aj).sum:=by
   induction u.of.aD with
   |nil=>rfl
   |cons x l ih=>simp only[qaB,qaT,ih];omega
  omega
 omega
theorem D3(hW:GW W)(n:Nat)(hs:GS W s)(seen:List Int):hG (fp W n s seen).1/\gX (fp W n s seen).1<=2^38+2^31:=by
 obtain⟨h1,h2⟩:=Gq hW.jZ (B:=2*W.aj) (fun d hd=>by have:=Wd.sQ hd;omega) n s seen hs.ok;refine⟨h1,?_⟩;have h3:=Mt hW seen;have h4:=hs.top;unfold Sp.top at h4;split at h2<;>omega
theorem Tj:prog.underlying 312=some (.map 3 4):=by kernel_rfl
theorem Ti:prog.underlying 3=some (.int .i64):=by kernel_rfl
theorem Bc{P:Program}{t:TypeId}{z:Value}(h:(P.info? t).bind (·.zero)=some z):∃i,P.info? t=some i/\i.zero=some z:=by
 cases hi:P.info? t with
 |none=>simp[hi]at h
 |some i=>exact⟨i,rfl,by simpa[hi]using h⟩
theorem in4:∃i,prog.info? 4=some i/\i.zero=some (.bool false):=Bc (by kernel_rfl)
def T_(W:Wd)(n:Nat)(s:Sp)(seen:List Int)(M:Mem)(w0:World)(bm:Nat)(r:Value)(w':World):Prop:=
 ∃M' bP,Sl M' 2 (je M') r (fp W n s seen).1/\Seen (fp W n s seen).2 bP/\wo w' bm bP/\GY [bm] M w0 M' w'
theorem Nz{u:World}{M0:Mem}{D:List Nat}{M:Mem}{L:List aB}{w:World}{L':List aB}(h:SH u M0 D M L w)(b:Nat){t:TypeId}{cs:List Value}(hp:Pk L (.ah b t cs) L':=by repeat(first|exact Pk.here|apply Pk.there)):∃M',M.Le M'/\Bk M' b cs/\SH u M0 D M' L' w:=h.dA b hp
theorem Rc{k:Prop}[Decidable k]{u1:Nat}(h:u0*(X+2)+(if k then 0 else b)<n+1)(_:k)(h1:u1+1<=u0)(h2:u2<=u1)(h3:x<=e)(h4:e<=X):u2*(X+2)+x<n:=by
 have h5:(u2+1)*(X+2)<=u0*(X+2):=qaJ _ (by omega);rw[qbr]at h5;omega
theorem Rb{k:Prop}[Decidable k](h:u0*(X+2)+(if k then 0 else b)<n+1)(hk:¬k)(h2:u2<=u0)(h3:x<=e)(h4:e<b):u2*(X+2)+x<n:=by
 have h5:u2*(X+2)<=u0*(X+2):=qaJ _ h2;rw[if_neg hk]at h;omega
theorem zeU(hW:GW W):∀(n:Nat) (s:Sp) (seen:List Int) {M:Mem} (w0:World) (cs:List Value) (a:Option Addr) (c bm:Nat) (es:Array MapEntry),M.Le (Wm w0)->eK M W a c->aS M s cs->GS W s->uk W s seen<n->
 wo w0 bm es->Seen seen es->(∀o,M.cell bm o=none)->az prog 145 [bK W a c,.agg cs.toArray,.map (some bm)] w0 fun r w'=>T_ W n s seen M w0 bm r w':=by
 intro n
 induction n with
 |zero=>intro s seen M w0 cs a c bm es _ _ _ _ h;omega
 |succ n ih=>
 intro s seen M w0 cs a c bm es hM cA eo hs sI IW xg xe;have yw:=hW.aj;obtain⟨x1,d1,x2,d2,x3,d3,x4,d4,rfl,bA,_⟩:=eo.lit;have h:SH w0 M [bm] M [.map bm es] w0:=SH.ze8 (e:= .map bm es) hM IW (fun b o hb=>by simp[aB.jf]at hb;subst hb;exact xe o) (fun _ hg=>hg.elim);obtain⟨i4,AI,ua⟩:=in4;refine aL mixed func145 Vo ?_;refine au h ?_;clear h;intro b4 w h;have Au:b4≠bm:=by have:=h.pd;simp[jv]at this;exact this
 refine ak h ?_;refine aI (fun k1=> ?_) (fun k1=> ?_)
 .refine ak h ?_;refine vX h rfl rfl Tj Ti AI ua xg.key rfl (fun v hv=> ?_) (fun bz=> ?_)
  .obtain⟨jH,rfl⟩:=(xg.mem _ _).1 hv;have e:=BD (W:=W) (n:=n) (seen:=seen) ⟨k1,jH⟩;exact⟨M,es,by rw[e];exact Sl.nil _ _ _,by rw[e];exact xg,h.ok (.map bm es) (by simp),h.HU⟩
  have oz:s.of.num∉seen:=fun jH=>bz _ ((xg.mem _ _).2 ⟨jH,rfl⟩) rfl;refine ak h ?_;refine jN h rfl rfl rfl Tj Ti xg.key rfl xg.nd ?_;clear h;intro Cx w eF h;have FJ:=xg.cons eF;have y6:=xL (W:=W) (n:=n) (s:=s) (seen:=seen) (fun hx=>oz hx.2);rw[if_pos k1]at y6;have oK:=GO (W:=W) (hs.ok.num k1) oz;have xj:(W.under s).of.aj<=W.aj:=by
   have e:W.under s=Wd.ja W W.length (W.spot s.of.num):=by
    show Wd.ja W (W.length+1) s=_;rw[rU,if_neg (by simp[k1])]
   obtain⟨j,hj,AJ⟩:=GL hW.jZ W.length _ (hs.ok.num k1);rw[e,AJ];exact Wd.sQ (W.mem _ hj)
  have cW:=GS.under hW hs;obtain⟨u,hu⟩:∃u,u=W.under s:=⟨_,rfl⟩;rw[<-hu]at cW;have vD:=cW.top;unfold Sp.top at vD;have hum:=u.of.zp;have hue:=u.of.qX;obtain⟨dd,vv,kg⟩:=cW.form;refine bj h ?_;refine i9 h (pU h.le cA (aS.mk bA) hW.jZ hs.ok (by omega)) ?_;clear h;rw[<-hu];intro y1 e1 y2 e2 y3 e3 y4 e4 w jK h;refine br h (aS.one (aS.mk jK)) ?_;clear h;intro w h;obtain⟨iZ,jk⟩:bQ M 2 kR y3 u.of.methods/\True:=by
   obtain⟨_,_,_,_,_,_,_,_,he,_,_,hm,_⟩:=jK.lit;simp only[qbS,qa5,qcg,qca,qco]at he;obtain⟨_,_,⟨rfl,rfl⟩,_⟩:=he;exact⟨hm,tV⟩
  refine ak h ?_;refine bN (X:=Nat×Value×Mem) (fun x=>[(0,bK W a c),(2,.map (some bm)),(4,.pointer (some ⟨b4,0,none⟩)),(7,x.2.1),(31,.slice y3 u.of.methods.length e3),(32,.int .i64 (u.of.methods.length:Int)),(33,.int .i64 (x.1:Int))])
   (fun x w=>x.1<=u.of.methods.length/\Sl x.2.2 2 (je x.2.2) x.2.1 (j5 u x.1)/\M.Le x.2.2/\SH w0 M [bm] x.2.2 [.ah b4 89 (dZ u y1 e1 y2 e2 y3 e3 y4 e4),.map bm Cx] w) (fun x=>u.of.methods.length-x.1) (0,.slice none 0 0,M) ⟨rfl,rfl,rfl,rfl,rfl,rfl,rfl,tV⟩ ⟨qae _,Sl.nil _ _ _,.refl _,h.aF⟩ ?_
  clear h;rintro⟨k,v,M5⟩ aK w N ⟨hk,cu,aV,h⟩ hN;simp only at hk cu aV h;refine aI (fun aG=> ?_) (fun aY=> ?_)
  .have ad:k<u.of.methods.length:=by omega
   obtain⟨b,o,ci,rfl,hl,aO,aE⟩:=iZ.at ad;have aZ:=aE.one;obtain rfl:=aE;have cD:=(kg.methods u.of.methods[k] (by simp)).1;have hmf:=zB u k;have ov:=xK (j5 u k);have cI:=Lq u k;rw[<-wE (d:=default) ad]at cI;have zbZ:=cu;refine aJ (k) ?_;refine cG h (aO.le aV) ?_ hl;refine au h ?_;clear h;intro b9 w h;refine br h aZ ?_;clear h;intro w h;refine b_ [] h ?_;clear h;intro w h;refine bI h ?_;refine bI h ?_;refine bI h ?_;refine aA ((u.at_+k:Nat):Int) ?_;refine aI ?_ (aI ?_ trivial);refine dg h (qB cW.aC cD) ?_;clear h;rintro _ w rfl h;refine aI ?_ trivial;refine dX h ?_;clear h;intro er w h;rotate_left;refine dX h ?_;clear h;intro er w h;refine aI ?_ trivial;refine dg h (qB cW.aC cD) ?_;clear h;rintro _ w rfl h
   all_goals
    refine aI ?_ trivial;obtain⟨M6,ck,CJ,h⟩:=Nz h er;have J_:je M6 ⟨aM u.aC u.of.methods[k].1,[((u.at_+k:Nat):Int)]⟩ [.string (aM u.aC u.of.methods[k].1),.slice (some ⟨er,0,none⟩) 1 1]:=
     ⟨_,_,rfl,qad _,fun i x hi=>by
      cases i with
      |zero=>simp at hi;subst hi;exact⟨er,0,_,rfl,rfl,CJ.rw,rfl⟩
      |succ i=>simp at hi⟩
    refine fN h (GR h.le (cu.mono ck fun _ _ _ hx=>hx.le ck) J_ (by omega) (by simp) (fun y hy=>by have:=zA hy;omega)) ?_;clear h;rintro r M7 w hr cF h;rw[<-cI]at hr;refine aA (((k+1:Nat):Int)) ?_;exact hN (k+1,r,M7) _ _ ⟨rfl,rfl,rfl,rfl,rfl,rfl,rfl,tV⟩ ⟨ad,hr,aV.trans (ck.trans cF),h.aF⟩ (by simp only;omega)
  obtain rfl:k=u.of.methods.length:=by omega
  clear hN aY hk;have Au:b4≠bm:=by have q:=h.pd;simp[jv]at q;omega
  refine ak h ?_;refine bN (X:=Nat×Value×Mem×Array MapEntry) (fun x=>[(0,bK W a c),(2,.map (some bm)),(4,.pointer (some ⟨b4,0,none⟩)),(7,x.2.1),(55,.int .i64 (u.of.aD.length:Int)),(56,.int .i64 (x.1:Int))])
   (fun x w=>x.1<=u.of.aD.length/\Sl x.2.2.1 2 (je x.2.2.1) x.2.1 (da W n u (s.of.num::seen) x.1).1/\Seen (da W n u (s.of.num::seen) x.1).2 x.2.2.2/\M.Le x.2.2.1/\SH w0 M [bm] x.2.2.1 [.ah b4 89 (dZ u y1 e1 y2 e2 y3 e3 y4 e4),.map bm x.2.2.2] w) (fun x=>u.of.aD.length-x.1) (0,v,M5,Cx) ⟨rfl,rfl,rfl,rfl,rfl,rfl,tV⟩ ⟨qae _,cu,FJ,aV,h⟩ ?_
  clear h cu;have zcb:=jK;clear aV;rintro⟨k,v,M5,qe⟩ aK w N ⟨hk,cu,vz,aV,h⟩ hN;simp only at hk cu vz aV h;refine aI (fun aG=> ?_) (fun aY=> ?_)
  .have ad:k<u.of.aD.length:=by omega
   have aY:=cW.bE ad;have Fa:(u.bE k).of.aj<u.of.aj:=by rw[Sp.pj ad];exact Ty.nY (by simp)
   obtain⟨lx,IU⟩:=D0 (W:=W) n u (s.of.num::seen) k;have C_:uk W (u.bE k) (da W n u (s.of.num::seen) k).2<n:=by
    have g1:=GN W lx (s.of.num::seen);rw[<-IU]at g1;have g2:(if(u.bE k).of.kind=1 then 0 else(u.bE k).of.aj)<=(u.bE k).of.aj:=by split<;>omega
    unfold uk at sI⊢;exact Rc sI k1 oK g1 g2 (qaQ (Nat.le_of_lt Fa) (by rw[hu];exact xj))
   have cI:=vY W n u (s.of.num::seen) k;have dQ:=D3 hW n aY (da W n u (s.of.num::seen) k).2;have AC:=Sx hW n cW (s.of.num::seen) k (by omega);obtain⟨zw,I_⟩:∃x,x=(da W n u (s.of.num::seen) k).1:=⟨_,rfl⟩;obtain⟨sn,fL⟩:∃x,x=(da W n u (s.of.num::seen) k).2:=⟨_,rfl⟩;obtain⟨rr,xf⟩:∃x,x=fp W n (u.bE k) sn:=⟨_,rfl⟩;rw[<-fL]at cI dQ vz C_;rw[<-I_]at cI AC cu;rw[<-xf]at cI dQ;refine bj h ?_;refine i9 h (yi h.le (aS.mk (jK.le aV)) ad (by have:=cW.top;omega)) ?_;clear h;intro z1 f1 z2 f2 z3 f3 z4 f4 w Ds h;refine az.mono (ih (u.bE k) sn w _ a c bm qe h.le (cA.fr aV) (aS.mk Ds) aY C_ (h.ok (.map bm qe) (by simp)) vz (fun o=>h.off (.map bm qe) (by simp) bm o rfl)) ?_;rintro r w' ⟨M6,sq,y9,AZ,w_,ny⟩;replace h:=h.HV (e:= .map bm qe) (e':= .map bm sq) (.there .here) ny w_ (fun b hb=> .inl hb) (fun b o hb=>by simp[aB.jf]at hb;subst hb;exact w_.KQ ny.qD o) (fun _ hg=>hg.elim);have ck:=ny.le;rw[<-xf]at y9 AZ;obtain⟨ar,cr,rfl,hcr,Ir⟩:=y9;have zbV:=xK rr.1;have vr:=cu.mono ck fun _ _ _ hx=>hx.le ck;refine fB (X:=Nat×Value×Mem) (Y:=Value×Mem) 4 (fun x=>[(0,bK W a c),(2,.map (some bm)),(4,.pointer (some ⟨b4,0,none⟩)),(7,x.2.1),(55,.int .i64 (u.of.aD.length:Int)),(56,.int .i64 (k:Int)),(64,.slice ar rr.1.length cr),(65,.int .i64 (rr.1.length:Int)),(66,.int .i64 (x.1:Int))])
    (fun x w=>x.1<=rr.1.length/\Sl x.2.2 2 (je x.2.2) x.2.1 ((rr.1.take x.1).foldl ju zw)/\M6.Le x.2.2/\SH w0 M [bm] x.2.2 [.ah b4 89 (dZ u y1 e1 y2 e2 y3 e3 y4 e4),.map bm sq] w) (fun x=>rr.1.length-x.1)
    (fun x=>[(0,bK W a c),(2,.map (some bm)),(4,.pointer (some ⟨b4,0,none⟩)),(7,x.1),(55,.int .i64 (u.of.aD.length:Int)),(56,.int .i64 (k:Int))])
    (fun x w=>Sl x.2 2 (je x.2) x.1 (rr.1.foldl ju zw)/\M6.Le x.2/\SH w0 M [bm] x.2 [.ah b4 89 (dZ u y1 e1 y2 e2 y3 e3 y4 e4),.map bm sq] w)
    (0,v,M6) ⟨rfl,rfl,rfl,rfl,rfl,rfl,rfl,rfl,rfl,tV⟩ ⟨qae _,vr,.refl _,h.aF⟩ ?_ ?_
   .clear h cu vr;rintro⟨j,v,M7⟩ aK w N2 Z hx d7 hZ;obtain⟨hj,cu,cF,h⟩:=hx;simp only at hj cu cF h;refine aI (fun jU=> ?_) (fun tN=> ?_)
    .have eM:j<rr.1.length:=by omega
     obtain⟨b,o,ci,rfl,hl,aO,aE⟩:=Ir.at eM;have aZ:=aE.one;have yB:=aE.le cF;obtain⟨aq,cq,rfl,_,_⟩:=aE;have dS:=dN eM;have hfw:=Cz (rr.1.take j) AC.1;have Dq:=Sw rr.1 j;have zbt:=xK ((rr.1.take j).foldl ju zw);have hmx:=zA (l:=rr.1) (x:=rr.1[j]) (by simp);refine aJ (j) ?_;refine cG h (aO.le cF) ?_ hl;refine au h ?_;clear h;intro lw w h;refine br h aZ ?_;clear h;intro w h;refine bj h ?_;refine fk h (GR h.le cu yB (by omega) (by omega) (fun y hy=>by have:=zA hy;omega)) ?_;clear h;rintro r M8 w hr mW h;refine aA (((j+1:Nat):Int)) ?_;exact d7 (j+1,r,M8) _ _ ⟨rfl,rfl,rfl,rfl,rfl,rfl,rfl,rfl,rfl,tV⟩ ⟨eM,by simp only;rw[<-dS,qbF];exact hr,cF.trans mW,h.aF⟩ (by simp only;omega)
    obtain rfl:j=rr.1.length:=by omega
    rw[qay]at cu;exact hZ (v,M7) _ _ ⟨rfl,rfl,rfl,rfl,rfl,rfl,tV⟩ ⟨cu,cF,h.aF⟩
   clear h cu vr;rintro⟨v,M7⟩ aK w ⟨cu,cF,h⟩;simp only at cu cF h;refine aA (((k+1:Nat):Int)) ?_;exact hN (k+1,v,M7,sq) _ _ ⟨rfl,rfl,rfl,rfl,rfl,rfl,tV⟩ ⟨ad,by simp only;rw[cI];exact cu,by simp only;rw[cI];exact AZ,aV.trans (ck.trans cF),h.aF⟩ (by simp only;omega)
  obtain rfl:k=u.of.aD.length:=by omega
  refine⟨M5,qe,?_,?_,h.ok (.map bm qe) (by simp),h.HU⟩
  .rw[y6,<-hu];exact cu
  rw[y6,<-hu];exact vz
 obtain⟨Cx,OJ⟩:∃x,x=es:=⟨_,rfl⟩;rw[<-OJ]at h;have FJ:=xg;rw[<-OJ]at FJ;have y6:=xL (W:=W) (n:=n) (s:=s) (seen:=seen) (fun hx=>k1 hx.1);rw[if_neg k1]at y6;have ko:W.under s=s:=by
  show Wd.ja W (W.length+1) s=_;rw[rU,if_pos k1]
 have cW:=GS.under hW hs;obtain⟨u,hu⟩:∃u,u=W.under s:=⟨_,rfl⟩;rw[<-hu]at cW;have vD:=cW.top;unfold Sp.top at vD;have hum:=u.of.zp;have hue:=u.of.qX;obtain⟨dd,vv,kg⟩:=cW.form;refine bj h ?_;refine i9 h (pU h.le cA (aS.mk bA) hW.jZ hs.ok (by omega)) ?_;clear h;rw[<-hu];intro y1 e1 y2 e2 y3 e3 y4 e4 w jK h;refine br h (aS.one (aS.mk jK)) ?_;clear h;intro w h;obtain⟨iZ,jk⟩:bQ M 2 kR y3 u.of.methods/\True:=by
  obtain⟨_,_,_,_,_,_,_,_,he,_,_,hm,_⟩:=jK.lit;simp only[qbS,qa5,qcg,qca,qco]at he;obtain⟨_,_,⟨rfl,rfl⟩,_⟩:=he;exact⟨hm,tV⟩
 refine ak h ?_;refine bN (X:=Nat×Value×Mem) (fun x=>[(0,bK W a c),(2,.map (some bm)),(4,.pointer (some ⟨b4,0,none⟩)),(7,x.2.1),(31,.slice y3 u.of.methods.length e3),(32,.int .i64 (u.of.methods.length:Int)),(33,.int .i64 (x.1:Int))])
  (fun x w=>x.1<=u.of.methods.length/\Sl x.2.2 2 (je x.2.2) x.2.1 (j5 u x.1)/\M.Le x.2.2/\SH w0 M [bm] x.2.2 [.ah b4 89 (dZ u y1 e1 y2 e2 y3 e3 y4 e4),.map bm Cx] w) (fun x=>u.of.methods.length-x.1) (0,.slice none 0 0,M) ⟨rfl,rfl,rfl,rfl,rfl,rfl,rfl,tV⟩ ⟨qae _,Sl.nil _ _ _,.refl _,h.aF⟩ ?_
 clear h;rintro⟨k,v,M5⟩ aK w N ⟨hk,cu,aV,h⟩ hN;simp only at hk cu aV h;refine aI (fun aG=> ?_) (fun aY=> ?_)
 .have ad:k<u.of.methods.length:=by omega
  obtain⟨b,o,ci,rfl,hl,aO,aE⟩:=iZ.at ad;have aZ:=aE.one;obtain rfl:=aE;have cD:=(kg.methods u.of.methods[k] (by simp)).1;have hmf:=zB u k;have ov:=xK (j5 u k);have cI:=Lq u k;rw[<-wE (d:=default) ad]at cI;have zbZ:=cu;refine aJ (k) ?_;refine cG h (aO.le aV) ?_ hl;refine au h ?_;clear h;intro b9 w h;refine br h aZ ?_;clear h;intro w h;refine b_ [] h ?_;clear h;intro w h;refine bI h ?_;refine bI h ?_;refine bI h ?_;refine aA ((u.at_+k:Nat):Int) ?_;refine aI ?_ (aI ?_ trivial);refine dg h (qB cW.aC cD) ?_;clear h;rintro _ w rfl h;refine aI ?_ trivial;refine dX h ?_;clear h;intro er w h;rotate_left;refine dX h ?_;clear h;intro er w h;refine aI ?_ trivial;refine dg h (qB cW.aC cD) ?_;clear h;rintro _ w rfl h
  all_goals
   refine aI ?_ trivial;obtain⟨M6,ck,CJ,h⟩:=Nz h er;have J_:je M6 ⟨aM u.aC u.of.methods[k].1,[((u.at_+k:Nat):Int)]⟩ [.string (aM u.aC u.of.methods[k].1),.slice (some ⟨er,0,none⟩) 1 1]:=
    ⟨_,_,rfl,qad _,fun i x hi=>by
     cases i with
     |zero=>simp at hi;subst hi;exact⟨er,0,_,rfl,rfl,CJ.rw,rfl⟩
     |succ i=>simp at hi⟩
   refine fN h (GR h.le (cu.mono ck fun _ _ _ hx=>hx.le ck) J_ (by omega) (by simp) (fun y hy=>by have:=zA hy;omega)) ?_;clear h;rintro r M7 w hr cF h;rw[<-cI]at hr;refine aA (((k+1:Nat):Int)) ?_;exact hN (k+1,r,M7) _ _ ⟨rfl,rfl,rfl,rfl,rfl,rfl,rfl,tV⟩ ⟨ad,hr,aV.trans (ck.trans cF),h.aF⟩ (by simp only;omega)
 obtain rfl:k=u.of.methods.length:=by omega
 clear hN aY hk;have Au:b4≠bm:=by have q:=h.pd;simp[jv]at q;omega
 refine ak h ?_;refine bN (X:=Nat×Value×Mem×Array MapEntry) (fun x=>[(0,bK W a c),(2,.map (some bm)),(4,.pointer (some ⟨b4,0,none⟩)),(7,x.2.1),(55,.int .i64 (u.of.aD.length:Int)),(56,.int .i64 (x.1:Int))])
  (fun x w=>x.1<=u.of.aD.length/\Sl x.2.2.1 2 (je x.2.2.1) x.2.1 (da W n u seen x.1).1/\Seen (da W n u seen x.1).2 x.2.2.2/\M.Le x.2.2.1/\SH w0 M [bm] x.2.2.1 [.ah b4 89 (dZ u y1 e1 y2 e2 y3 e3 y4 e4),.map bm x.2.2.2] w) (fun x=>u.of.aD.length-x.1) (0,v,M5,Cx) ⟨rfl,rfl,rfl,rfl,rfl,rfl,tV⟩ ⟨qae _,cu,FJ,aV,h⟩ ?_
 clear h cu;have zcb:=jK;clear aV;rintro⟨k,v,M5,qe⟩ aK w N ⟨hk,cu,vz,aV,h⟩ hN;simp only at hk cu vz aV h;refine aI (fun aG=> ?_) (fun aY=> ?_)
 .have ad:k<u.of.aD.length:=by omega
  have aY:=cW.bE ad;have Fa:(u.bE k).of.aj<u.of.aj:=by rw[Sp.pj ad];exact Ty.nY (by simp)
  obtain⟨lx,IU⟩:=D0 (W:=W) n u seen k;have C_:uk W (u.bE k) (da W n u seen k).2<n:=by
   have g1:=GN W lx seen;rw[<-IU]at g1;have g2:(if(u.bE k).of.kind=1 then 0 else(u.bE k).of.aj)<=(u.bE k).of.aj:=by split<;>omega
   unfold uk at sI⊢;exact Rb sI k1 g1 g2 (qb4 Fa (by rw[hu,ko];exact qad _))
  have cI:=vY W n u seen k;have dQ:=D3 hW n aY (da W n u seen k).2;have AC:=Sx hW n cW seen k (by omega);obtain⟨zw,I_⟩:∃x,x=(da W n u seen k).1:=⟨_,rfl⟩;obtain⟨sn,fL⟩:∃x,x=(da W n u seen k).2:=⟨_,rfl⟩;obtain⟨rr,xf⟩:∃x,x=fp W n (u.bE k) sn:=⟨_,rfl⟩;rw[<-fL]at cI dQ vz C_;rw[<-I_]at cI AC cu;rw[<-xf]at cI dQ;refine bj h ?_;refine i9 h (yi h.le (aS.mk (jK.le aV)) ad (by have:=cW.top;omega)) ?_;clear h;intro z1 f1 z2 f2 z3 f3 z4 f4 w Ds h;refine az.mono (ih (u.bE k) sn w _ a c bm qe h.le (cA.fr aV) (aS.mk Ds) aY C_ (h.ok (.map bm qe) (by simp)) vz (fun o=>h.off (.map bm qe) (by simp) bm o rfl)) ?_;rintro r w' ⟨M6,sq,y9,AZ,w_,ny⟩;replace h:=h.HV (e:= .map bm qe) (e':= .map bm sq) (.there .here) ny w_ (fun b hb=> .inl hb) (fun b o hb=>by simp[aB.jf]at hb;subst hb;exact w_.KQ ny.qD o) (fun _ hg=>hg.elim);have ck:=ny.le;rw[<-xf]at y9 AZ;obtain⟨ar,cr,rfl,hcr,Ir⟩:=y9;have zbV:=xK rr.1;have vr:=cu.mono ck fun _ _ _ hx=>hx.le ck;refine fB (X:=Nat×Value×Mem) (Y:=Value×Mem) 4 (fun x=>[(0,bK W a c),(2,.map (some bm)),(4,.pointer (some ⟨b4,0,none⟩)),(7,x.2.1),(55,.int .i64 (u.of.aD.length:Int)),(56,.int .i64 (k:Int)),(64,.slice ar rr.1.length cr),(65,.int .i64 (rr.1.length:Int)),(66,.int .i64 (x.1:Int))])
   (fun x w=>x.1<=rr.1.length/\Sl x.2.2 2 (je x.2.2) x.2.1 ((rr.1.take x.1).foldl ju zw)/\M6.Le x.2.2/\SH w0 M [bm] x.2.2 [.ah b4 89 (dZ u y1 e1 y2 e2 y3 e3 y4 e4),.map bm sq] w) (fun x=>rr.1.length-x.1)
   (fun x=>[(0,bK W a c),(2,.map (some bm)),(4,.pointer (some ⟨b4,0,none⟩)),(7,x.1),(55,.int .i64 (u.of.aD.length:Int)),(56,.int .i64 (k:Int))])
   (fun x w=>Sl x.2 2 (je x.2) x.1 (rr.1.foldl ju zw)/\M6.Le x.2/\SH w0 M [bm] x.2 [.ah b4 89 (dZ u y1 e1 y2 e2 y3 e3 y4 e4),.map bm sq] w)
   (0,v,M6) ⟨rfl,rfl,rfl,rfl,rfl,rfl,rfl,rfl,rfl,tV⟩ ⟨qae _,vr,.refl _,h.aF⟩ ?_ ?_
  .clear h cu vr;rintro⟨j,v,M7⟩ aK w N2 Z hx d7 hZ;obtain⟨hj,cu,cF,h⟩:=hx;simp only at hj cu cF h;refine aI (fun jU=> ?_) (fun tN=> ?_)
   .have eM:j<rr.1.length:=by omega
    obtain⟨b,o,ci,rfl,hl,aO,aE⟩:=Ir.at eM;have aZ:=aE.one;have yB:=aE.le cF;obtain⟨aq,cq,rfl,_,_⟩:=aE;have dS:=dN eM;have hfw:=Cz (rr.1.take j) AC.1;have Dq:=Sw rr.1 j;have zbt:=xK ((rr.1.take j).foldl ju zw);have hmx:=zA (l:=rr.1) (x:=rr.1[j]) (by simp);refine aJ (j) ?_;refine cG h (aO.le cF) ?_ hl;refine au h ?_;clear h;intro lw w h;refine br h aZ ?_;clear h;intro w h;refine bj h ?_;refine fk h (GR h.le cu yB (by omega) (by omega) (fun y hy=>by have:=zA hy;omega)) ?_;clear h;rintro r M8 w hr mW h;refine aA (((j+1:Nat):Int)) ?_;exact d7 (j+1,r,M8) _ _ ⟨rfl,rfl,rfl,rfl,rfl,rfl,rfl,rfl,rfl,tV⟩ ⟨eM,by simp only;rw[<-dS,qbF];exact hr,cF.trans mW,h.aF⟩ (by simp only;omega)
   obtain rfl:j=rr.1.length:=by omega
   rw[qay]at cu;exact hZ (v,M7) _ _ ⟨rfl,rfl,rfl,rfl,rfl,rfl,tV⟩ ⟨cu,cF,h.aF⟩
  clear h cu vr;rintro⟨v,M7⟩ aK w ⟨cu,cF,h⟩;simp only at cu cF h;refine aA (((k+1:Nat):Int)) ?_;exact hN (k+1,v,M7,sq) _ _ ⟨rfl,rfl,rfl,rfl,rfl,rfl,tV⟩ ⟨ad,by simp only;rw[cI];exact cu,by simp only;rw[cI];exact AZ,aV.trans (ck.trans cF),h.aF⟩ (by simp only;omega)
 obtain rfl:k=u.of.aD.length:=by omega
 refine⟨M5,qe,?_,?_,h.ok (.map bm qe) (by simp),h.HU⟩
 .rw[y6,<-hu];exact cu
 rw[y6,<-hu];exact vz
end
section
variable {W:Wd}{s:Sp}{M:Mem}{w0:World}{cs:List Value}{a:Option Addr}{c b:Nat}
def Wd.sigs(W:Wd)(s:Sp):List cU:=(fp W (W.length*(W.aj+2)+s.of.aj+1) s []).1
theorem SF(W:Wd)(s:Sp):uk W s []<W.length*(W.aj+2)+s.of.aj+1:=by
 have h1:=LJ W [];have h2:gn W []*(W.aj+2)<=W.length*(W.aj+2):=qaJ _ h1;unfold uk;split<;>omega
theorem zeV(hW:GW W)(hM:M.Le (Wm w0))(cA:eK M W a c)(eo:aS M s cs)(hs:GS W s):
 az prog 110 [bK W a c,.agg cs.toArray] w0 fun r w'=>∃M',Sl M' 2 (je M') r (W.sigs s)/\Gr M w0 M' w':=by
 obtain⟨x1,d1,x2,d2,x3,d3,x4,d4,rfl,bA,_⟩:=eo.lit;have h:=SH.start hM;refine aL mixed func110 U5 ?_;refine au h ?_;clear h;intro b3 w h;refine bj h ?_;refine qG h ?_;clear h;intro bm w h;refine az.mono (zeU hW _ s [] w _ a c bm #[] h.le cA (aS.mk bA) hs (SF W s) (h.ok (.map bm #[]) (by simp)) Seen.nil (fun o=>h.off (.map bm #[]) (by simp) bm o rfl)) ?_;rintro r w' ⟨M6,sq,y9,AZ,w_,ny⟩;replace h:=h.HV (e:= .map bm #[]) (e':= .map bm sq) .here ny w_ (fun b hb=> .inl hb) (fun b o hb=>by simp[aB.jf]at hb;subst hb;exact w_.KQ ny.qD o) (fun _ hg=>hg.elim);exact⟨M6,y9,h.gr⟩
structure ng where
 cJ:List Int
 last:Int
 bO:Bool
 ptr:Bool
 gC:Int
def nU(M:Mem)(x:ng)(cs:List Value):Prop:=∃a c,cs=[.slice a x.cJ.length c,.int .i64 x.last,.bool x.bO,.bool x.ptr,.int .i64 x.gC]/\x.cJ.length<=c/\bQ M 1 dO a x.cJ
theorem nU.le{N:Mem}(hl:M.Le N){x:ng}(h:nU M x cs):nU N x cs:=by
 obtain⟨a,c,rfl,h1,h2⟩:=h;exact⟨a,c,rfl,h1,h2.mono hl fun _ _ _ h=>h⟩
theorem nU.one{x:ng}(h:nU M x cs):∀v∈cs,v.oneCell'=true:=by
 obtain⟨a,c,rfl,_⟩:=h;exact cO rfl
theorem qY{α:Type}(f:Nat->Option α)(k:Nat):(List.range (k+1)).filterMap f=(List.range k).filterMap f++(f k).toList:=by
 rw[qbB,List.filterMap_append];cases h:f k<;>simp[h]
theorem tF{α:Type}(f:Nat->Option α)(k:Nat):((List.range k).filterMap f).length<=k:=by
 have:=List.length_filterMap_le f (List.range k);simpa using this
def nN(W:Wd)(n:Int)(id:ByteArray)(i:Nat):Option ng:=
 if aM (W.at n).aC ((W.at n).methods.getD i default).1=id then some ⟨[(W.start n.toNat+i:Nat)],-1,true,((W.at n).methods.getD i default).2,0⟩else none
def la(W:Wd)(u:Sp)(id:ByteArray)(i:Nat):Option ng:=
 if W.fieldName (u.of.fields.getD i default)≠8/\aM u.aC (W.fieldName (u.of.fields.getD i default))=id then some ⟨[(u.fieldAt i:Nat)],i,false,false,0⟩else none
def oU(l:List cU)(id:ByteArray)(i:Nat):Option ng:=
 if(l.getD i ⟨⟨#[]⟩,[]⟩).id=id then some ⟨(l.getD i ⟨⟨#[]⟩,[]⟩).cJ,-1,true,false,l.length⟩else none
def Wd.own(W:Wd)(s:Sp)(id:ByteArray):List ng:=
 (if s.of.kind=1 then(List.range (W.at s.of.num).methods.length).filterMap (nN W s.of.num id)else [])++
 ((List.range (W.under s).of.fields.length).filterMap (la W (W.under s) id)++
 (if(W.under s).of.kind=5 then(List.range (W.sigs (W.under s)).length).filterMap (oU (W.sigs (W.under s)) id)else []))
theorem Ha:h_ prog 142 142 95 5 48=true:=by kernel_rfl
theorem je.cJ{z:Int}(h:Bk M b [.int .i64 z]):bQ M 1 dO (some ⟨b,0,none⟩) [z]:=fun i x hi=>by
 cases i with
 |zero=>simp at hi;subst hi;exact⟨b,0,_,rfl,rfl,h.rw,rfl⟩
 |succ i=>simp at hi
theorem SH.lT{u:World}{M0:Mem}{D:List Nat}{L:List aB}{w:World}(h:SH u M0 D M L w){k:Nat}{v:Value}{t T:TypeId}{css:List (List Value)}{L1 L3:List aB}(hp:Pk L (.ah b t cs) L1:=by repeat(first|exact Pk.here|apply Pk.there))(hr:Pk L1 (.own v k T css) L3:=by repeat(first|exact Pk.here|apply Pk.there)):b∉cZ v:=by
 have h1:=qau.1 (hp.pd h.pd);exact fun hm=>h1.1 _ hr.mem b (by simp) hm
theorem zdT(hW:GW W)(fv:∀d∈W,∀m∈d.methods,bL m.1)(dW:∀d∈W,cN d.aC){id:ByteArray}(hM:M.Le (Wm w0))(cA:eK M W a c)(eo:aS M s cs)(hs:GS W s):
 az prog 57 [bK W a c,.agg cs.toArray,.string id] w0 fun r w'=>∃M',Sl M' 5 (nU M') r (W.own s id)/\Gr M w0 M' w':=by
 obtain⟨x1,d1,x2,d2,x3,d3,x4,d4,rfl,bA,_⟩:=eo.lit;have yw:=hW.aj;have h:=SH.start hM;refine aL mixed func57 Wu ?_;refine au h ?_;clear h;intro b4 w h;refine ak h ?_;refine aI (fun k1=> ?_) (fun k1=> ?_);have hn:=hs.ok.num k1;obtain⟨b,o,ci,rfl,hl,aO,aE⟩:=cA.el.at hn.2;rw[Wd.p7 hn]at aE;obtain⟨z1,f1,z2,f2,z3,f3,z4,f4,z5,f5,rfl,_,iZ,_⟩:=aE.lit;have fD:=sm hn.2;rw[Wd.p7 hn]at fD;have aU:=W.v_ s.of.num.toNat;refine ak h ?_;refine aJ _ ?_ hn.2 (Wd.ji hn);refine aP h (aO 9 _ rfl) ?_;obtain⟨num,km⟩:∃x,x=s.of.num:=⟨_,rfl⟩;refine bN (X:=Nat×Value×List (List Value)×Mem) (fun x=>[(0,bK W (some ⟨b,o,none⟩) c),(2,.string id),(4,.pointer (some ⟨b4,0,none⟩)),(7,x.2.1),(8,.int .i64 num),(31,.slice z5 (W.at num).methods.length f5),(32,.int .i64 ((W.at num).methods.length:Int)),(33,.int .i64 (x.1:Int))])
  (fun x w=>x.1<=(W.at num).methods.length/\bC (nU x.2.2.2) ((List.range x.1).filterMap (nN W num id)) x.2.2.1/\M.Le x.2.2.2/\SH w0 M [] x.2.2.2 [.ah b4 89 (dZ s x1 d1 x2 d2 x3 d3 x4 d4),.own x.2.1 5 95 x.2.2.1] w) (fun x=>(W.at num).methods.length-x.1) (0,.slice none 0 0,[],M) (by rw[km];exact⟨rfl,rfl,rfl,rfl,rfl,rfl,rfl,rfl,tV⟩) ⟨qae _,tV,.refl _,(h.gV 5 95).aF⟩ ?_
 clear h;rintro⟨k,v,css,M5⟩ aK w N ⟨hk,bS,aV,h⟩ hN;simp only at hk bS aV h;rw[<-km]at hn aO iZ fD aU;refine aI (fun aG=> ?_) (fun aY=> ?_)
 .have ad:k<(W.at num).methods.length:=by omega
  obtain⟨b2,o2,ci,rfl,cR,ct,fE⟩:=iZ.at ad;have aZ:=fE.one;obtain rfl:=fE;have cI:=qY (nN W num id) k;have hlen:=bS.len;have c_:=tF (nN W num id) k;have cD:=fv _ (W.mem _ hn) (W.at num).methods[k] (by simp);have ro:=wE (d:=default) ad;have lO:nN W num id k=if aM (W.at num).aC (W.at num).methods[k].1=id then some ⟨[(W.start num.toNat+k:Nat)],-1,true,(W.at num).methods[k].2,0⟩else none:=by rw[nN,<-ro]
  obtain⟨mm,eD⟩:∃x,x=(W.at num).methods[k]:=⟨_,rfl⟩;rw[<-eD]at aZ ct cD lO;refine aJ (k) ?_;refine cG h (ct.le aV) ?_ cR;refine au h ?_;clear h;intro er w h;refine br h aZ ?_;clear h;intro w h;refine b_ [] h ?_;clear h;intro w h;refine aJ _ ?_ hn.2 (Wd.ji hn);refine cd h (aO.le aV 1 _ rfl) ?_;refine bI h ?_;refine aI ?_ trivial;refine dg h (qB (dW _ (W.mem _ hn)) cD) ?_;clear h;rintro _ w rfl h;refine aI (fun q1=> ?_) (fun q1=> ?_)
  .rw[if_pos q1]at lO;rw[lO]at cI;have hS:=h.lT (b:=er) (v:=v);refine b_ (cZ v) h ?_;clear h;intro w h;refine bI h ?_ (hS:=hS);refine aI ?_ trivial;have FK:=Gu h.le (cA.fr aV) (Nat.le_of_lt hn.2) (by omega);rw[<-Wd.ji hn]at FK;refine dg h (FK) ?_;clear h;rintro _ w rfl h;refine aA (((W.start num.toNat+k:Nat):Int)) ?_;refine aI ?_ trivial;refine dX h ?_;clear h;intro fJ w h;refine aI ?_ trivial;obtain⟨M6,ck,CJ,h⟩:=h.dA fJ;have pz:nU M6 ⟨[(W.start num.toNat+k:Nat)],-1,true,mm.2,0⟩ [.slice (some ⟨fJ,0,none⟩) 1 1,.int .i64 (-1),.bool true,.bool mm.2,.int .i64 0]:=⟨_,_,rfl,qad _,je.cJ CJ⟩;refine dX h ?_;clear h;intro lw w h;refine aI ?_ trivial;refine eI h Ha h.df (de pz.one) ?_;clear h;intro v' w h;simp only[qa9]at cI;refine aA (((k+1:Nat):Int)) ?_;exact hN (k+1,v',_,M6) _ _ ⟨rfl,rfl,rfl,rfl,rfl,rfl,rfl,rfl,tV⟩ ⟨ad,by simp only;rw[cI];exact(bS.mono fun _ _ _ hx=>hx.le ck).snoc pz,aV.trans ck,h.aF⟩ (by simp only;omega)
  rw[if_neg q1]at lO;rw[lO]at cI;simp only[qce,qaC]at cI;refine aA (((k+1:Nat):Int)) ?_;exact hN (k+1,v,css,M5) _ _ ⟨rfl,rfl,rfl,rfl,rfl,rfl,rfl,rfl,tV⟩ ⟨ad,by simp only;rw[cI];exact bS,aV,h.aF⟩ (by simp only;omega)
 obtain rfl:k=(W.at num).methods.length:=by omega
 clear hN aY hk;obtain⟨L1,wI⟩:∃x,x=(List.range (W.at num).methods.length).filterMap (nN W num id):=⟨_,rfl⟩;have zas:L1.length<=2^20:=by rw[wI];have:=tF (nN W num id) (W.at num).methods.length;omega
 rw[<-wI]at bS;have sz:W.own s id=L1++((List.range (W.under s).of.fields.length).filterMap (la W (W.under s) id)++(if(W.under s).of.kind=5 then(List.range (W.sigs (W.under s)).length).filterMap (oU (W.sigs (W.under s)) id)else [])):=by
  rw[Wd.own,if_pos k1,wI,km]
 clear wI;have cW:=GS.under hW hs;obtain⟨u,hu⟩:∃u,u=W.under s:=⟨_,rfl⟩;rw[<-hu]at cW sz;have vD:=cW.top;unfold Sp.top at vD;have PO:=u.of.lB;obtain⟨dd,vv,kg⟩:=cW.form;refine bj h ?_;refine i9 h (pU h.le (cA.fr aV) (aS.mk (bA.le aV)) hW.jZ hs.ok (by omega)) ?_;clear h;rw[<-hu];intro y1 e1 y2 e2 y3 e3 y4 e4 w jK h;have oq:bQ M5 8 (kO M5) y2 u.of.fields:=by
  obtain⟨_,_,_,_,_,_,_,_,he,_,hf,_⟩:=jK.lit;simp only[qbS,qa5,qcg,qca,qco]at he;obtain⟨_,⟨rfl,rfl⟩,_⟩:=he;exact hf
 refine au h ?_;clear h;intro fJ w h;refine br h (aS.one (aS.mk jK)) ?_;clear h;intro w h;refine ak h ?_;refine bN (X:=Nat×Value×List (List Value)×Mem) (fun x=>[(0,bK W _ c),(2,.string id),(7,x.2.1),(11,.pointer (some ⟨fJ,0,none⟩)),(66,.slice y2 u.of.fields.length e2),(67,.int .i64 (u.of.fields.length:Int)),(68,.int .i64 (x.1:Int))])
  (fun x w=>x.1<=u.of.fields.length/\bC (nU x.2.2.2) (L1++(List.range x.1).filterMap (la W u id)) x.2.2.1/\M5.Le x.2.2.2/\SH w0 M [] x.2.2.2 [.ah fJ 89 (dZ u y1 e1 y2 e2 y3 e3 y4 e4),.own x.2.1 5 95 x.2.2.1] w) (fun x=>u.of.fields.length-x.1) (0,v,css,M5) ⟨rfl,rfl,rfl,rfl,rfl,rfl,rfl,tV⟩ ⟨qae _,by simpa using bS,.refl _,h.aF⟩ ?_
 rotate_left;obtain⟨L1,wI⟩:∃x:List ng,x=[]:=⟨_,rfl⟩;have sz:W.own s id=L1++((List.range (W.under s).of.fields.length).filterMap (la W (W.under s) id)++(if(W.under s).of.kind=5 then(List.range (W.sigs (W.under s)).length).filterMap (oU (W.sigs (W.under s)) id)else [])):=by
  rw[wI,Wd.own,if_neg k1]
 have bS:bC (nU M) L1 []:=by rw[wI];trivial
 have zas:L1.length<=2^20:=by rw[wI];simp
 have aV:M.Le M:= .refl _;replace h:=h.gV 5 95;have cW:=GS.under hW hs;obtain⟨u,hu⟩:∃u,u=W.under s:=⟨_,rfl⟩;rw[<-hu]at cW sz;have vD:=cW.top;unfold Sp.top at vD;have PO:=u.of.lB;obtain⟨dd,vv,kg⟩:=cW.form;refine bj h ?_;refine i9 h (pU h.le (cA.fr aV) (aS.mk (bA.le aV)) hW.jZ hs.ok (by omega)) ?_;clear h;rw[<-hu];intro y1 e1 y2 e2 y3 e3 y4 e4 w jK h;have oq:bQ M 8 (kO M) y2 u.of.fields:=by
  obtain⟨_,_,_,_,_,_,_,_,he,_,hf,_⟩:=jK.lit;simp only[qbS,qa5,qcg,qca,qco]at he;obtain⟨_,⟨rfl,rfl⟩,_⟩:=he;exact hf
 refine au h ?_;clear h;intro fJ w h;refine br h (aS.one (aS.mk jK)) ?_;clear h;intro w h;refine ak h ?_;refine bN (X:=Nat×Value×List (List Value)×Mem) (fun x=>[(0,bK W _ c),(2,.string id),(7,x.2.1),(11,.pointer (some ⟨fJ,0,none⟩)),(66,.slice y2 u.of.fields.length e2),(67,.int .i64 (u.of.fields.length:Int)),(68,.int .i64 (x.1:Int))])
  (fun x w=>x.1<=u.of.fields.length/\bC (nU x.2.2.2) (L1++(List.range x.1).filterMap (la W u id)) x.2.2.1/\M.Le x.2.2.2/\SH w0 M [] x.2.2.2 [.ah fJ 89 (dZ u y1 e1 y2 e2 y3 e3 y4 e4),.own x.2.1 5 95 x.2.2.1] w) (fun x=>u.of.fields.length-x.1) (0,(.slice none 0 0),[],M) ⟨rfl,rfl,rfl,rfl,rfl,rfl,rfl,tV⟩ ⟨qae _,by simpa using bS,.refl _,h.aF⟩ ?_
 all_goals
  clear h bS;rintro⟨k,v,css,M6⟩ aK w N ⟨hk,bS,ck,h⟩ hN;simp only at hk bS ck h;have hle:=aV.trans ck;refine aI (fun aG=> ?_) (fun aY=> ?_)
  .have ad:k<u.of.fields.length:=by omega
   obtain⟨b2,o2,ci,rfl,cR,ct,fE⟩:=oq.at ad;have aZ:=fE.one;have cI:=qY (la W u id) k;have hlen:=bS.len;have c_:=tF (la W u id) k;rw[qar]at hlen;have ro:=wE (d:=default) ad;have lO:la W u id k=if W.fieldName u.of.fields[k]≠8/\aM u.aC (W.fieldName u.of.fields[k])=id then some ⟨[(u.fieldAt k:Nat)],k,false,false,0⟩else none:=by rw[la,<-ro]
   obtain⟨f,jE⟩:∃x,x=u.of.fields[k]:=⟨_,rfl⟩;have Iw:f∈u.of.fields:=by rw[jE];simp
   rw[<-jE]at fE lO;have CS:=nq hW.name kg Iw;have yC:=fE.le ck;obtain⟨tc,rfl,iJ⟩:=fE;obtain⟨u1,g1,u2,g2,u3,g3,u4,g4,rfl,_⟩:=iJ.lit;refine aJ (k) ?_;refine cG h (ct.le ck) ?_;refine au h ?_;clear h;intro dv w h;refine br h aZ ?_;clear h;intro w h;refine bj h ?_;refine s_call h (Aj h.le (cA.fr hle) yC (cW.ok.fields _ Iw) (cW.ok.np _ Iw)) ?_;clear h;rintro _ w rfl h;refine aI (fun q8=> ?_) (fun q8=> ?_)
   .rw[if_neg (fun hx=>hx.1 q8)]at lO;rw[lO]at cI;simp only[qce,qaC]at cI;refine aA (((k+1:Nat):Int)) ?_;exact hN (k+1,v,css,M6) _ _ ⟨rfl,rfl,rfl,rfl,rfl,rfl,rfl,tV⟩ ⟨ad,by simp only;rw[cI];exact bS,ck,h.aF⟩ (by simp only;omega)
   refine ak h ?_;refine s_call h (qB cW.aC CS) ?_;clear h;rintro _ w rfl h;refine aI (fun q1=> ?_) (fun q1=> ?_)
   .rw[if_pos ⟨q8,q1⟩]at lO;rw[lO]at cI;simp only[qa9]at cI;refine bj h ?_;refine s_call h (Ak h.le (aS.mk (jK.le ck)) ad (by have:=cW.top;omega)) ?_;clear h;rintro _ w ⟨_,rfl,⟨gD,rfl,pH⟩⟩ h;obtain⟨p1,r1,p2,r2,p3,r3,p4,r4,rfl,gT,_⟩:=pH.lit;refine au h ?_;clear h;intro x8 w h;refine br h (aS.one (aS.mk gT)) ?_;clear h;intro w h;refine au h ?_;clear h;intro gO w h;obtain⟨M7,cF,zaK,h⟩:=h.dA gO;have pz:nU M7 ⟨[(u.fieldAt k:Nat)],k,false,false,0⟩ [.slice (some ⟨gO,0,none⟩) 1 1,.int .i64 k,.bool false,.bool false,.int .i64 0]:=⟨_,_,rfl,qad _,je.cJ zaK⟩;refine au h ?_;clear h;intro x9 w h;refine gJ h Ha h.df (de pz.one) ?_;clear h;intro v' w h;refine aA (((k+1:Nat):Int)) ?_;exact hN (k+1,v',_,M7) _ _ ⟨rfl,rfl,rfl,rfl,rfl,rfl,rfl,tV⟩ ⟨ad,by simp only;rw[cI,<-qap];exact(bS.mono fun _ _ _ hx=>hx.le cF).snoc pz,ck.trans cF,h.aF⟩ (by simp only;omega)
   rw[if_neg (fun hx=>q1 hx.2)]at lO;rw[lO]at cI;simp only[qce,qaC]at cI;refine aA (((k+1:Nat):Int)) ?_;exact hN (k+1,v,css,M6) _ _ ⟨rfl,rfl,rfl,rfl,rfl,rfl,rfl,tV⟩ ⟨ad,by simp only;rw[cI];exact bS,ck,h.aF⟩ (by simp only;omega)
  obtain rfl:k=u.of.fields.length:=by omega
  clear hN aY hk;obtain⟨L2,NZ⟩:∃x,x=(List.range u.of.fields.length).filterMap (la W u id):=⟨_,rfl⟩;have zf8:L2.length<=2^30:=by rw[NZ];have:=tF (la W u id) u.of.fields.length;omega
  rw[<-NZ]at bS sz;refine ak h ?_;refine aI (fun k5=> ?_) (fun k5=> ?_);rw[if_pos k5]at sz;have tM:=D3 hW (W.length*(W.aj+2)+u.of.aj+1) cW [];refine bj h ?_;refine fk h (zeV hW h.le (cA.fr hle) (aS.mk (jK.le ck)) cW) ?_;clear h;rintro _ M7 w cu cF h;obtain⟨Mo,MN,rfl,zgh,za6⟩:=cu;have zgv:(W.sigs u).length<=2^38+2^31:=qaQ (xK _) tM.2;refine bN (X:=Nat×Value×List (List Value)) (fun x=>[(2,.string id),(7,x.2.1),(17,.slice Mo (W.sigs u).length MN),(107,.slice Mo (W.sigs u).length MN),(108,.int .i64 ((W.sigs u).length:Int)),(109,.int .i64 (x.1:Int))])
   (fun x w=>x.1<=(W.sigs u).length/\bC (nU M7) (L1++L2++(List.range x.1).filterMap (oU (W.sigs u) id)) x.2.2/\SH w0 M [] M7 [.own x.2.1 5 95 x.2.2] w) (fun x=>(W.sigs u).length-x.1) (0,v,css) ⟨rfl,rfl,rfl,rfl,rfl,rfl,tV⟩ ⟨qae _,by simpa using bS.mono fun _ _ _ hx=>hx.le cF,h.aF⟩ ?_
  clear h bS;rintro⟨k,v,css⟩ aK w N ⟨hk,bS,h⟩ hN;simp only at hk bS h;refine aI (fun aG=> ?_) (fun aY=> ?_)
  .have ad:k<(W.sigs u).length:=by omega
   obtain⟨b2,o2,ci,rfl,cR,ct,fE⟩:=za6.at ad;have aZ:=fE.one;have cI:=qY (oU (W.sigs u) id) k;have hlen:=bS.len;have c_:=tF (oU (W.sigs u) id) k;rw[qar,qar]at hlen;have ro:=wE (d:=⟨⟨#[]⟩,[]⟩) ad;have lO:oU (W.sigs u) id k=if(W.sigs u)[k].id=id then some ⟨(W.sigs u)[k].cJ,-1,true,false,(W.sigs u).length⟩else none:=by rw[oU,<-ro]
   obtain⟨f,jE⟩:∃x,x=(W.sigs u)[k]:=⟨_,rfl⟩;rw[<-jE]at fE lO;obtain⟨aq,cq,rfl,hcq,hoq⟩:=fE;refine aJ (k) ?_;refine cG h ct ?_;refine au h ?_;clear h;intro x_ w h;refine br h aZ ?_;clear h;intro w h;refine ak h ?_;refine aI (fun q1=> ?_) (fun q1=> ?_)
   .rw[if_pos q1]at lO;rw[lO]at cI;simp only[qa9]at cI;have pz:nU M7 ⟨f.cJ,-1,true,false,((W.sigs u).length:Int)⟩ [.slice aq f.cJ.length cq,.int .i64 (-1),.bool true,.bool false,.int .i64 ((W.sigs u).length:Int)]:=⟨_,_,rfl,hcq,hoq⟩;refine ak h ?_;refine au h ?_;clear h;intro x9 w h;refine gJ h Ha h.df (de pz.one) ?_;clear h;intro v' w h;refine aA (((k+1:Nat):Int)) ?_;exact hN (k+1,v',_) _ _ ⟨rfl,rfl,rfl,rfl,rfl,rfl,tV⟩ ⟨ad,by simp only;rw[cI,<-qap];exact bS.snoc pz,h.aF⟩ (by simp only;omega)
   rw[if_neg q1]at lO;rw[lO]at cI;simp only[qce,qaC]at cI;refine aA (((k+1:Nat):Int)) ?_;exact hN (k+1,v,css) _ _ ⟨rfl,rfl,rfl,rfl,rfl,rfl,tV⟩ ⟨ad,by simp only;rw[cI];exact bS,h.aF⟩ (by simp only;omega)
  obtain rfl:k=(W.sigs u).length:=by omega
  rw[sz,<-qap];rotate_left;rw[if_neg k5,qaC]at sz;rw[sz]
  all_goals
   obtain⟨M8,mW,vo,h'⟩:=h.d6 v;exact⟨M8,Sl.fV vo (bS.mono fun _ _ _ hx=>hx.le mW),h'.gr⟩
end
section
variable {W:Wd}{M:Mem}{a:Option Addr}
def tC(W:Wd)(x:Way)(u:Sp)(i:Nat):Option Way:=
 if(u.of.fields.getD i default).2.1=true then some ⟨W.plain (u.field i).base,x.index++[(i:Int)],x.ind||decide ((u.field i).of.kind=2)⟩else none
def Wd.nk(W:Wd)(x:Way):List Way:=(List.range (W.under x.to).of.fields.length).filterMap (tC W x (W.under x.to))
theorem GS.base{s:Sp}(h:GS W s):GS W s.base:=by
 unfold Sp.base;split
 .rename_i hk;exact h.elem (h.ok.el (.inl hk))
 exact h
theorem bQ.gu{N:Mem}{xs:List Int}(h:bQ M 1 dO a xs)(hl:M.Le N):bQ N 1 dO a xs:=h.mono hl fun _ _ _ h=>h
theorem XB(hW:GW W){x:Way}{w0:World}{cs:List Value}{c:Nat}(hM:M.Le (Wm w0))(cA:eK M W a c)(eo:eJ M x cs)(hs:GS W x.to)(nL:x.index.length<=2^30):
 az prog 58 [bK W a c,.agg cs.toArray] w0 fun r w'=>∃M',Sl M' 10 (eJ M') r (W.nk x)/\Gr M w0 M' w':=by
 obtain⟨x1,d1,x2,d2,x3,d3,x4,d4,ai,ci,rfl,bA,jY,hxc⟩:=eo.lit;have yw:=hW.aj;have h:=SH.start hM;refine aL mixed func58 Wv ?_;refine au h ?_;clear h;intro b3 w h;have cW:=GS.under hW hs;obtain⟨u,hu⟩:∃u,u=W.under x.to:=⟨_,rfl⟩;rw[<-hu]at cW;have hdp:W.nk x=(List.range u.of.fields.length).filterMap (tC W x u):=by rw[Wd.nk,<-hu]
 rw[hdp];have vD:=cW.top;unfold Sp.top at vD;have PO:=u.of.lB;obtain⟨xi,zgD⟩:∃b,b=x.ind:=⟨_,rfl⟩;refine i_ h (dZ x.to x1 d1 x2 d2 x3 d3 x4 d4) ?_;refine i9 h (pU h.le cA (aS.mk bA) hW.jZ hs.ok (by omega)) ?_;clear h;rw[<-hu];intro y1 e1 y2 e2 y3 e3 y4 e4 w jK h;have oq:bQ M 8 (kO M) y2 u.of.fields:=by
  obtain⟨_,_,_,_,_,_,_,_,he,_,hf,_⟩:=jK.lit;simp only[qbS,qa5,qcg,qca,qco]at he;obtain⟨_,⟨rfl,rfl⟩,_⟩:=he;exact hf
 refine au h ?_;clear h;intro b6 w h;refine br h (aS.one (aS.mk jK)) ?_;clear h;intro w h;refine ak h ?_;refine bN (X:=Nat×Value×List (List Value)×Mem) (fun y=>[(0,bK W a c),(3,.pointer (some ⟨b3,0,none⟩)),(5,y.2.1),(6,.pointer (some ⟨b6,0,none⟩)),(18,.slice y2 u.of.fields.length e2),(19,.int .i64 (u.of.fields.length:Int)),(20,.int .i64 (y.1:Int))])
  (fun y w=>y.1<=u.of.fields.length/\bC (eJ y.2.2.2) ((List.range y.1).filterMap (tC W x u)) y.2.2.1/\M.Le y.2.2.2/\SH w0 M [] y.2.2.2 [.ah b6 89 (dZ u y1 e1 y2 e2 y3 e3 y4 e4),.ah b3 97 (m_ x x1 d1 x2 d2 x3 d3 x4 d4 ai ci),.own y.2.1 10 97 y.2.2.1] w) (fun y=>u.of.fields.length-y.1) (0,.slice none 0 0,[],M) ⟨rfl,rfl,rfl,rfl,rfl,rfl,rfl,tV⟩ ⟨qae _,tV,.refl _,(h.gV 10 97).aF⟩ ?_
 clear h;rintro⟨k,v,css,M6⟩ aK w N ⟨hk,bS,ck,h⟩ hN;simp only at hk bS ck h;refine aI (fun aG=> ?_) (fun aY=> ?_)
 .have ad:k<u.of.fields.length:=by omega
  obtain⟨b2,o2,EN,rfl,cR,ct,fE⟩:=oq.at ad;have aZ:=fE.one;have cI:=qY (tC W x u) k;have hlen:=bS.len;have c_:=tF (tC W x u) k;have ro:=wE (d:=default) ad;have Iy:=cW.field ad;have tM:=Iy.base;have kf:tC W x u k=if u.of.fields[k].2.1=true then some ⟨W.plain (u.field k).base,x.index++[(k:Int)],x.ind||decide ((u.field k).of.kind=2)⟩else none:=by rw[tC,<-ro]
  obtain⟨f,jE⟩:∃x,x=u.of.fields[k]:=⟨_,rfl⟩;rw[<-jE]at fE kf;obtain⟨tc,rfl,iJ⟩:=fE;obtain⟨u1,g1,u2,g2,u3,g3,u4,g4,rfl,_⟩:=iJ.lit;by_cases mh:f.2.1=true;rotate_left 1
  .rw[if_neg mh]at kf;rw[qaZ]at mh;rw[mh]at ct aZ;rw[kf]at cI;simp only[qce,qaC]at cI;refine aJ (k) ?_;refine cG h (ct.le ck) ?_;refine au h ?_;clear h;intro b8 w h;refine br h aZ ?_;clear h;intro w h;refine ak h ?_;refine aA (((k+1:Nat):Int)) ?_;exact hN (k+1,v,css,M6) _ _ ⟨rfl,rfl,rfl,rfl,rfl,rfl,rfl,tV⟩ ⟨ad,by simp only;rw[cI];exact bS,ck,h.aF⟩ (by simp only;omega)
  rw[if_pos mh]at kf;rw[mh]at ct aZ;refine aJ (k) ?_;refine cG h (ct.le ck) ?_;refine au h ?_;clear h;intro b8 w h;refine br h aZ ?_;clear h;intro w h;refine ak h ?_;refine bj h ?_;refine s_call h (Ak h.le (aS.mk (jK.le ck)) ad (by have:=cW.top;omega)) ?_;clear h;rintro _ w ⟨_,rfl,⟨gD,rfl,pH⟩⟩ h;obtain⟨p1,r1,p2,r2,p3,r3,p4,r4,rfl,Dt,_⟩:=pH.lit;refine au h ?_;clear h;intro b9 w h;refine br h (aS.one (aS.mk Dt)) ?_;clear h;intro w h;by_cases ry:x.ind=true
  .have Dv:(m_ x x1 d1 x2 d2 x3 d3 x4 d4 ai ci)[0+9]? =some (.bool true):=by rw[<-ry];rfl
   rw[ry]at kf;have dB:=h.lT (b:=b3) (v:=v);refine ak h ?_;refine aI (fun k2=> ?_) (fun k2=> ?_)
   .have ge:(u.field k).base=(u.field k).elem:=by rw[Sp.base,if_pos k2]
    rw[show(decide ((u.field k).of.kind=2))=true from qaH k2]at kf;refine bj h ?_;refine i9 h (tD h.le (aS.mk Dt) (Iy.ok.el (.inl k2))) ?_;clear h;rw[<-ge];intro p1 r1 p2 r2 p3 r3 p4 r4 w oJ h;refine br h (aS.one (aS.mk oJ)) ?_;clear h;intro w h;have dB:=h.lT (b:=b9) (v:=v);have oj:=h.lT (b:=b3) (v:=v);refine b_ (cZ v) h ?_;clear h;intro w h;refine lc h ?_ (hS:=dB);refine bI h ?_ (hS:=oj);refine bI h ?_ (hv:=Dv) (hS:=oj);refine aI ?_ (aI ?_ trivial)
    .refine rO h (sW h.le (cA.fr ck) (aS.mk oJ) hW.jZ tM.ok (by omega)) ?_;clear h;intro r1 s1 r2 s2 r3 s3 r4 s4 w i5 h;refine aI ?_ (aI ?_ trivial);obtain⟨q3,dt,cS⟩:=Src.gm (c:=ci) (jY.gu ck) h.le;have iP:=cS.len;refine lV h f_ dt (lz cS) ?_ (by omega);clear h dt;intro v4 w h;refine aI ?_ trivial;refine dX h ?_;clear h;intro fJ w h;rotate_left;refine dX h ?_;clear h;intro fJ w h;refine aI ?_ trivial;obtain⟨q3,dt,cS⟩:=Src.gm (c:=ci) (jY.gu ck) h.le;have iP:=cS.len;refine lV h f_ dt (lz cS) ?_ (by omega);clear h dt;intro v4 w h
     all_goals
      refine aI ?_ trivial;refine eI h f_ h.df (de (cO (vs:=[Value.int .i64 (k:Int)]) rfl)) ?_ (hS:=by intro b hb;simp[hb]);clear h;intro v5 w h;obtain⟨a5,c5,rfl,ik⟩:=h.oW (v:=v5);obtain⟨M7,cF,lQ,h⟩:=h.d6 (.slice a5 (q3++[[Value.int .i64 (k:Int)]]).length c5);have hq:bC dO (x.index++[(k:Int)]) (q3++[[Value.int .i64 (k:Int)]]):=cS.snoc rfl;obtain⟨_,kA,lG⟩:=(Sl.fV lQ hq).pi;have eC:(q3++[[Value.int .i64 (k:Int)]]).length=(x.index++[(k:Int)]).length:=by simp[iP]
      rw[eC];refine aI ?_ trivial;have i6:eJ M7 ⟨W.plain (u.field k).base,x.index++[(k:Int)],true||true⟩ (m_ ⟨W.plain (u.field k).base,x.index++[(k:Int)],true||true⟩ r1 s1 r2 s2 r3 s3 r4 s4 a5 c5):=eJ.mk (i5.le cF) lG (by rw[<-eC];exact kA);refine dX h ?_;clear h;intro lw w h;refine aI ?_ trivial;refine eI h tz h.df (de i6.one) ?_ (hS:=by intro b hb;simp[hb]);clear h;intro v' w h;rw[kf]at cI;simp only[qa9]at cI;refine aA (((k+1:Nat):Int)) ?_;exact hN (k+1,v',_,M7) _ _ ⟨rfl,rfl,rfl,rfl,rfl,rfl,rfl,tV⟩ ⟨ad,by simp only;rw[cI];exact(bS.mono fun _ _ _ hx=>hx.le cF).snoc i6,ck.trans cF,h.aF⟩ (by simp only;omega)
    refine dX h ?_;clear h;intro fJ w h;refine aI ?_ trivial;refine rO h (sW h.le (cA.fr ck) (aS.mk oJ) hW.jZ tM.ok (by omega)) ?_;clear h;intro r1 s1 r2 s2 r3 s3 r4 s4 w i5 h;refine aI ?_ trivial;obtain⟨q3,dt,cS⟩:=Src.gm (c:=ci) (jY.gu ck) h.le;have iP:=cS.len;refine lV h f_ dt (lz cS) ?_ (by omega);clear h dt;intro v4 w h;refine aI ?_ trivial;refine eI h f_ h.df (de (cO (vs:=[Value.int .i64 (k:Int)]) rfl)) ?_ (hS:=by intro b hb;simp[hb]);clear h;intro v5 w h;obtain⟨a5,c5,rfl,ik⟩:=h.oW (v:=v5);obtain⟨M7,cF,lQ,h⟩:=h.d6 (.slice a5 (q3++[[Value.int .i64 (k:Int)]]).length c5);have hq:bC dO (x.index++[(k:Int)]) (q3++[[Value.int .i64 (k:Int)]]):=cS.snoc rfl;obtain⟨_,kA,lG⟩:=(Sl.fV lQ hq).pi;have eC:(q3++[[Value.int .i64 (k:Int)]]).length=(x.index++[(k:Int)]).length:=by simp[iP]
    rw[eC];refine aI ?_ trivial;have i6:eJ M7 ⟨W.plain (u.field k).base,x.index++[(k:Int)],true||true⟩ (m_ ⟨W.plain (u.field k).base,x.index++[(k:Int)],true||true⟩ r1 s1 r2 s2 r3 s3 r4 s4 a5 c5):=eJ.mk (i5.le cF) lG (by rw[<-eC];exact kA);refine dX h ?_;clear h;intro lw w h;refine aI ?_ trivial;refine eI h tz h.df (de i6.one) ?_ (hS:=by intro b hb;simp[hb]);clear h;intro v' w h;rw[kf]at cI;simp only[qa9]at cI;refine aA (((k+1:Nat):Int)) ?_;exact hN (k+1,v',_,M7) _ _ ⟨rfl,rfl,rfl,rfl,rfl,rfl,rfl,tV⟩ ⟨ad,by simp only;rw[cI];exact(bS.mono fun _ _ _ hx=>hx.le cF).snoc i6,ck.trans cF,h.aF⟩ (by simp only;omega)
   have ge:(u.field k).base=u.field k:=by rw[Sp.base,if_neg k2]
   rw[show(decide ((u.field k).of.kind=2))=false from qaK k2]at kf;have oJ:=Dt;rw[<-ge]at oJ;have e:dZ (u.field k) p1 r1 p2 r2 p3 r3 p4 r4=dZ (u.field k).base p1 r1 p2 r2 p3 r3 p4 r4:=by rw[ge]
   rw[e]at h;clear e;have dB:=h.lT (b:=b9) (v:=v);have oj:=h.lT (b:=b3) (v:=v);refine b_ (cZ v) h ?_;clear h;intro w h;refine lc h ?_ (hS:=dB);refine bI h ?_ (hS:=oj);refine bI h ?_ (hv:=Dv) (hS:=oj);refine aI ?_ (aI ?_ trivial)
   .refine rO h (sW h.le (cA.fr ck) (aS.mk oJ) hW.jZ tM.ok (by omega)) ?_;clear h;intro r1 s1 r2 s2 r3 s3 r4 s4 w i5 h;refine aI ?_ (aI ?_ trivial);obtain⟨q3,dt,cS⟩:=Src.gm (c:=ci) (jY.gu ck) h.le;have iP:=cS.len;refine lV h f_ dt (lz cS) ?_ (by omega);clear h dt;intro v4 w h;refine aI ?_ trivial;refine dX h ?_;clear h;intro fJ w h;rotate_left;refine dX h ?_;clear h;intro fJ w h;refine aI ?_ trivial;obtain⟨q3,dt,cS⟩:=Src.gm (c:=ci) (jY.gu ck) h.le;have iP:=cS.len;refine lV h f_ dt (lz cS) ?_ (by omega);clear h dt;intro v4 w h
    all_goals
     refine aI ?_ trivial;refine eI h f_ h.df (de (cO (vs:=[Value.int .i64 (k:Int)]) rfl)) ?_ (hS:=by intro b hb;simp[hb]);clear h;intro v5 w h;obtain⟨a5,c5,rfl,ik⟩:=h.oW (v:=v5);obtain⟨M7,cF,lQ,h⟩:=h.d6 (.slice a5 (q3++[[Value.int .i64 (k:Int)]]).length c5);have hq:bC dO (x.index++[(k:Int)]) (q3++[[Value.int .i64 (k:Int)]]):=cS.snoc rfl;obtain⟨_,kA,lG⟩:=(Sl.fV lQ hq).pi;have eC:(q3++[[Value.int .i64 (k:Int)]]).length=(x.index++[(k:Int)]).length:=by simp[iP]
     rw[eC];refine aI ?_ trivial;have i6:eJ M7 ⟨W.plain (u.field k).base,x.index++[(k:Int)],true||false⟩ (m_ ⟨W.plain (u.field k).base,x.index++[(k:Int)],true||false⟩ r1 s1 r2 s2 r3 s3 r4 s4 a5 c5):=eJ.mk (i5.le cF) lG (by rw[<-eC];exact kA);refine dX h ?_;clear h;intro lw w h;refine aI ?_ trivial;refine eI h tz h.df (de i6.one) ?_ (hS:=by intro b hb;simp[hb]);clear h;intro v' w h;rw[kf]at cI;simp only[qa9]at cI;refine aA (((k+1:Nat):Int)) ?_;exact hN (k+1,v',_,M7) _ _ ⟨rfl,rfl,rfl,rfl,rfl,rfl,rfl,tV⟩ ⟨ad,by simp only;rw[cI];exact(bS.mono fun _ _ _ hx=>hx.le cF).snoc i6,ck.trans cF,h.aF⟩ (by simp only;omega)
   refine dX h ?_;clear h;intro fJ w h;refine aI ?_ trivial;refine rO h (sW h.le (cA.fr ck) (aS.mk oJ) hW.jZ tM.ok (by omega)) ?_;clear h;intro r1 s1 r2 s2 r3 s3 r4 s4 w i5 h;refine aI ?_ trivial;obtain⟨q3,dt,cS⟩:=Src.gm (c:=ci) (jY.gu ck) h.le;have iP:=cS.len;refine lV h f_ dt (lz cS) ?_ (by omega);clear h dt;intro v4 w h;refine aI ?_ trivial;refine eI h f_ h.df (de (cO (vs:=[Value.int .i64 (k:Int)]) rfl)) ?_ (hS:=by intro b hb;simp[hb]);clear h;intro v5 w h;obtain⟨a5,c5,rfl,ik⟩:=h.oW (v:=v5);obtain⟨M7,cF,lQ,h⟩:=h.d6 (.slice a5 (q3++[[Value.int .i64 (k:Int)]]).length c5);have hq:bC dO (x.index++[(k:Int)]) (q3++[[Value.int .i64 (k:Int)]]):=cS.snoc rfl;obtain⟨_,kA,lG⟩:=(Sl.fV lQ hq).pi;have eC:(q3++[[Value.int .i64 (k:Int)]]).length=(x.index++[(k:Int)]).length:=by simp[iP]
   rw[eC];refine aI ?_ trivial;have i6:eJ M7 ⟨W.plain (u.field k).base,x.index++[(k:Int)],true||false⟩ (m_ ⟨W.plain (u.field k).base,x.index++[(k:Int)],true||false⟩ r1 s1 r2 s2 r3 s3 r4 s4 a5 c5):=eJ.mk (i5.le cF) lG (by rw[<-eC];exact kA);refine dX h ?_;clear h;intro lw w h;refine aI ?_ trivial;refine eI h tz h.df (de i6.one) ?_ (hS:=by intro b hb;simp[hb]);clear h;intro v' w h;rw[kf]at cI;simp only[qa9]at cI;refine aA (((k+1:Nat):Int)) ?_;exact hN (k+1,v',_,M7) _ _ ⟨rfl,rfl,rfl,rfl,rfl,rfl,rfl,tV⟩ ⟨ad,by simp only;rw[cI];exact(bS.mono fun _ _ _ hx=>hx.le cF).snoc i6,ck.trans cF,h.aF⟩ (by simp only;omega)
  rw[qaZ]at ry;have Dv:(m_ x x1 d1 x2 d2 x3 d3 x4 d4 ai ci)[0+9]? =some (.bool false):=by rw[<-ry];rfl
  rw[ry]at kf;have dB:=h.lT (b:=b3) (v:=v);refine ak h ?_;refine aI (fun k2=> ?_) (fun k2=> ?_)
  .have ge:(u.field k).base=(u.field k).elem:=by rw[Sp.base,if_pos k2]
   rw[show(decide ((u.field k).of.kind=2))=true from qaH k2]at kf;refine bj h ?_;refine i9 h (tD h.le (aS.mk Dt) (Iy.ok.el (.inl k2))) ?_;clear h;rw[<-ge];intro p1 r1 p2 r2 p3 r3 p4 r4 w oJ h;refine br h (aS.one (aS.mk oJ)) ?_;clear h;intro w h;have dB:=h.lT (b:=b9) (v:=v);have oj:=h.lT (b:=b3) (v:=v);refine b_ (cZ v) h ?_;clear h;intro w h;refine lc h ?_ (hS:=dB);refine bI h ?_ (hS:=oj);refine bI h ?_ (hv:=Dv) (hS:=oj);refine aI ?_ (aI ?_ trivial)
   .refine rO h (sW h.le (cA.fr ck) (aS.mk oJ) hW.jZ tM.ok (by omega)) ?_;clear h;intro r1 s1 r2 s2 r3 s3 r4 s4 w i5 h;refine aI ?_ (aI ?_ trivial);obtain⟨q3,dt,cS⟩:=Src.gm (c:=ci) (jY.gu ck) h.le;have iP:=cS.len;refine lV h f_ dt (lz cS) ?_ (by omega);clear h dt;intro v4 w h;refine aI ?_ trivial;refine dX h ?_;clear h;intro fJ w h;rotate_left;refine dX h ?_;clear h;intro fJ w h;refine aI ?_ trivial;obtain⟨q3,dt,cS⟩:=Src.gm (c:=ci) (jY.gu ck) h.le;have iP:=cS.len;refine lV h f_ dt (lz cS) ?_ (by omega);clear h dt;intro v4 w h
    all_goals
     refine aI ?_ trivial;refine eI h f_ h.df (de (cO (vs:=[Value.int .i64 (k:Int)]) rfl)) ?_ (hS:=by intro b hb;simp[hb]);clear h;intro v5 w h;obtain⟨a5,c5,rfl,ik⟩:=h.oW (v:=v5);obtain⟨M7,cF,lQ,h⟩:=h.d6 (.slice a5 (q3++[[Value.int .i64 (k:Int)]]).length c5);have hq:bC dO (x.index++[(k:Int)]) (q3++[[Value.int .i64 (k:Int)]]):=cS.snoc rfl;obtain⟨_,kA,lG⟩:=(Sl.fV lQ hq).pi;have eC:(q3++[[Value.int .i64 (k:Int)]]).length=(x.index++[(k:Int)]).length:=by simp[iP]
     rw[eC];refine aI ?_ trivial;have i6:eJ M7 ⟨W.plain (u.field k).base,x.index++[(k:Int)],false||true⟩ (m_ ⟨W.plain (u.field k).base,x.index++[(k:Int)],false||true⟩ r1 s1 r2 s2 r3 s3 r4 s4 a5 c5):=eJ.mk (i5.le cF) lG (by rw[<-eC];exact kA);refine dX h ?_;clear h;intro lw w h;refine aI ?_ trivial;refine eI h tz h.df (de i6.one) ?_ (hS:=by intro b hb;simp[hb]);clear h;intro v' w h;rw[kf]at cI;simp only[qa9]at cI;refine aA (((k+1:Nat):Int)) ?_;exact hN (k+1,v',_,M7) _ _ ⟨rfl,rfl,rfl,rfl,rfl,rfl,rfl,tV⟩ ⟨ad,by simp only;rw[cI];exact(bS.mono fun _ _ _ hx=>hx.le cF).snoc i6,ck.trans cF,h.aF⟩ (by simp only;omega)
   refine dX h ?_;clear h;intro fJ w h;refine aI ?_ trivial;refine rO h (sW h.le (cA.fr ck) (aS.mk oJ) hW.jZ tM.ok (by omega)) ?_;clear h;intro r1 s1 r2 s2 r3 s3 r4 s4 w i5 h;refine aI ?_ trivial;obtain⟨q3,dt,cS⟩:=Src.gm (c:=ci) (jY.gu ck) h.le;have iP:=cS.len;refine lV h f_ dt (lz cS) ?_ (by omega);clear h dt;intro v4 w h;refine aI ?_ trivial;refine eI h f_ h.df (de (cO (vs:=[Value.int .i64 (k:Int)]) rfl)) ?_ (hS:=by intro b hb;simp[hb]);clear h;intro v5 w h;obtain⟨a5,c5,rfl,ik⟩:=h.oW (v:=v5);obtain⟨M7,cF,lQ,h⟩:=h.d6 (.slice a5 (q3++[[Value.int .i64 (k:Int)]]).length c5);have hq:bC dO (x.index++[(k:Int)]) (q3++[[Value.int .i64 (k:Int)]]):=cS.snoc rfl;obtain⟨_,kA,lG⟩:=(Sl.fV lQ hq).pi;have eC:(q3++[[Value.int .i64 (k:Int)]]).length=(x.index++[(k:Int)]).length:=by simp[iP]
   rw[eC];refine aI ?_ trivial;have i6:eJ M7 ⟨W.plain (u.field k).base,x.index++[(k:Int)],false||true⟩ (m_ ⟨W.plain (u.field k).base,x.index++[(k:Int)],false||true⟩ r1 s1 r2 s2 r3 s3 r4 s4 a5 c5):=eJ.mk (i5.le cF) lG (by rw[<-eC];exact kA);refine dX h ?_;clear h;intro lw w h;refine aI ?_ trivial;refine eI h tz h.df (de i6.one) ?_ (hS:=by intro b hb;simp[hb]);clear h;intro v' w h;rw[kf]at cI;simp only[qa9]at cI;refine aA (((k+1:Nat):Int)) ?_;exact hN (k+1,v',_,M7) _ _ ⟨rfl,rfl,rfl,rfl,rfl,rfl,rfl,tV⟩ ⟨ad,by simp only;rw[cI];exact(bS.mono fun _ _ _ hx=>hx.le cF).snoc i6,ck.trans cF,h.aF⟩ (by simp only;omega)
  have ge:(u.field k).base=u.field k:=by rw[Sp.base,if_neg k2]
  rw[show(decide ((u.field k).of.kind=2))=false from qaK k2]at kf;have oJ:=Dt;rw[<-ge]at oJ;have e:dZ (u.field k) p1 r1 p2 r2 p3 r3 p4 r4=dZ (u.field k).base p1 r1 p2 r2 p3 r3 p4 r4:=by rw[ge]
  rw[e]at h;clear e;have dB:=h.lT (b:=b9) (v:=v);have oj:=h.lT (b:=b3) (v:=v);refine b_ (cZ v) h ?_;clear h;intro w h;refine lc h ?_ (hS:=dB);refine bI h ?_ (hS:=oj);refine bI h ?_ (hv:=Dv) (hS:=oj);refine aI ?_ (aI ?_ trivial)
  .refine rO h (sW h.le (cA.fr ck) (aS.mk oJ) hW.jZ tM.ok (by omega)) ?_;clear h;intro r1 s1 r2 s2 r3 s3 r4 s4 w i5 h;refine aI ?_ (aI ?_ trivial);obtain⟨q3,dt,cS⟩:=Src.gm (c:=ci) (jY.gu ck) h.le;have iP:=cS.len;refine lV h f_ dt (lz cS) ?_ (by omega);clear h dt;intro v4 w h;refine aI ?_ trivial;refine dX h ?_;clear h;intro fJ w h;rotate_left;refine dX h ?_;clear h;intro fJ w h;refine aI ?_ trivial;obtain⟨q3,dt,cS⟩:=Src.gm (c:=ci) (jY.gu ck) h.le;have iP:=cS.len;refine lV h f_ dt (lz cS) ?_ (by omega);clear h dt;intro v4 w h
   all_goals
    refine aI ?_ trivial;refine eI h f_ h.df (de (cO (vs:=[Value.int .i64 (k:Int)]) rfl)) ?_ (hS:=by intro b hb;simp[hb]);clear h;intro v5 w h;obtain⟨a5,c5,rfl,ik⟩:=h.oW (v:=v5);obtain⟨M7,cF,lQ,h⟩:=h.d6 (.slice a5 (q3++[[Value.int .i64 (k:Int)]]).length c5);have hq:bC dO (x.index++[(k:Int)]) (q3++[[Value.int .i64 (k:Int)]]):=cS.snoc rfl;obtain⟨_,kA,lG⟩:=(Sl.fV lQ hq).pi;have eC:(q3++[[Value.int .i64 (k:Int)]]).length=(x.index++[(k:Int)]).length:=by simp[iP]
    rw[eC];refine aI ?_ trivial;have i6:eJ M7 ⟨W.plain (u.field k).base,x.index++[(k:Int)],false||false⟩ (m_ ⟨W.plain (u.field k).base,x.index++[(k:Int)],false||false⟩ r1 s1 r2 s2 r3 s3 r4 s4 a5 c5):=eJ.mk (i5.le cF) lG (by rw[<-eC];exact kA);refine dX h ?_;clear h;intro lw w h;refine aI ?_ trivial;refine eI h tz h.df (de i6.one) ?_ (hS:=by intro b hb;simp[hb]);clear h;intro v' w h;rw[kf]at cI;simp only[qa9]at cI;refine aA (((k+1:Nat):Int)) ?_;exact hN (k+1,v',_,M7) _ _ ⟨rfl,rfl,rfl,rfl,rfl,rfl,rfl,tV⟩ ⟨ad,by simp only;rw[cI];exact(bS.mono fun _ _ _ hx=>hx.le cF).snoc i6,ck.trans cF,h.aF⟩ (by simp only;omega)
  refine dX h ?_;clear h;intro fJ w h;refine aI ?_ trivial;refine rO h (sW h.le (cA.fr ck) (aS.mk oJ) hW.jZ tM.ok (by omega)) ?_;clear h;intro r1 s1 r2 s2 r3 s3 r4 s4 w i5 h;refine aI ?_ trivial;obtain⟨q3,dt,cS⟩:=Src.gm (c:=ci) (jY.gu ck) h.le;have iP:=cS.len;refine lV h f_ dt (lz cS) ?_ (by omega);clear h dt;intro v4 w h;refine aI ?_ trivial;refine eI h f_ h.df (de (cO (vs:=[Value.int .i64 (k:Int)]) rfl)) ?_ (hS:=by intro b hb;simp[hb]);clear h;intro v5 w h;obtain⟨a5,c5,rfl,ik⟩:=h.oW (v:=v5);obtain⟨M7,cF,lQ,h⟩:=h.d6 (.slice a5 (q3++[[Value.int .i64 (k:Int)]]).length c5);have hq:bC dO (x.index++[(k:Int)]) (q3++[[Value.int .i64 (k:Int)]]):=cS.snoc rfl;obtain⟨_,kA,lG⟩:=(Sl.fV lQ hq).pi;have eC:(q3++[[Value.int .i64 (k:Int)]]).length=(x.index++[(k:Int)]).length:=by simp[iP]
  rw[eC];refine aI ?_ trivial;have i6:eJ M7 ⟨W.plain (u.field k).base,x.index++[(k:Int)],false||false⟩ (m_ ⟨W.plain (u.field k).base,x.index++[(k:Int)],false||false⟩ r1 s1 r2 s2 r3 s3 r4 s4 a5 c5):=eJ.mk (i5.le cF) lG (by rw[<-eC];exact kA);refine dX h ?_;clear h;intro lw w h;refine aI ?_ trivial;refine eI h tz h.df (de i6.one) ?_ (hS:=by intro b hb;simp[hb]);clear h;intro v' w h;rw[kf]at cI;simp only[qa9]at cI;refine aA (((k+1:Nat):Int)) ?_;exact hN (k+1,v',_,M7) _ _ ⟨rfl,rfl,rfl,rfl,rfl,rfl,rfl,tV⟩ ⟨ad,by simp only;rw[cI];exact(bS.mono fun _ _ _ hx=>hx.le cF).snoc i6,ck.trans cF,h.aF⟩ (by simp only;omega)
 obtain rfl:k=u.of.fields.length:=by omega
 obtain⟨M8,mW,vo,h'⟩:=h.d6 v;exact⟨M8,Sl.fV vo (bS.mono fun _ _ _ hx=>hx.le mW),h'.gr⟩
end
section
variable {M:Mem}{cs:List Value}{W:Wd}{s:Sp}
abbrev s8:=ng×Way
def o5(M:Mem)(x:s8)(cs:List Value):Prop:=∃ec wc,cs=ec++wc/\nU M x.1 ec/\eJ M x.2 wc
@[reducible]def rJ(x:s8)(ao:Option Addr)(co:Nat)(a1:Option Addr)(c1:Nat)(a2:Option Addr)(c2:Nat)(a3:Option Addr)(c3:Nat)(a4:Option Addr)(c4:Nat)(ai:Option Addr)(ci:Nat):List Value:=
 [.slice ao x.1.cJ.length co,.int .i64 x.1.last,.bool x.1.bO,.bool x.1.ptr,.int .i64 x.1.gC,.int .i64 x.2.to.of.kind,.int .i64 x.2.to.of.num,.slice a1 x.2.to.of.elem.length c1,.slice a2 x.2.to.of.fields.length c2,.slice a3 x.2.to.of.methods.length c3,.slice a4 x.2.to.of.aD.length c4,.int .i64 x.2.to.at_,.int .i64 x.2.to.aC,.slice ai x.2.index.length ci,.bool x.2.ind]
theorem o5.lit{x:s8}(h:o5 M x cs):∃ao co a1 c1 a2 c2 a3 c3 a4 c4 ai ci,cs=rJ x ao co a1 c1 a2 c2 a3 c3 a4 c4 ai ci/\x.1.cJ.length<=co/\bQ M 1 dO ao x.1.cJ/\cC M x.2.to.of (bh x.2.to.of a1 c1 a2 c2 a3 c3 a4 c4)/\x.2.index.length<=ci/\bQ M 1 dO ai x.2.index:=by
 obtain⟨_,_,rfl,⟨ao,co,rfl,h1,h2⟩,h3⟩:=h;obtain⟨a1,c1,a2,c2,a3,c3,a4,c4,ai,ci,rfl,ht,he,hl⟩:=h3.lit;exact⟨ao,co,a1,c1,a2,c2,a3,c3,a4,c4,ai,ci,rfl,h1,h2,ht,hl,he⟩
theorem o5.le{N:Mem}(hl:M.Le N){x:s8}(h:o5 M x cs):o5 N x cs:=by
 obtain⟨ec,wc,rfl,h1,h2⟩:=h;exact⟨ec,wc,rfl,h1.le hl,h2.le hl⟩
theorem o5.one{x:s8}(h:o5 M x cs):∀v∈cs,v.oneCell'=true:=by
 obtain⟨ao,co,a1,c1,a2,c2,a3,c3,a4,c4,ai,ci,rfl,_⟩:=h.lit;exact cO rfl
def i7(W:Wd)(id:ByteArray)(l:List Way):List s8:=l.flatMap fun x=>(W.own x.to id).map fun e=>(e,x)
def kJ(W:Wd)(l:List Way):List Way:=l.flatMap W.nk
noncomputable def eO(W:Wd)(s:Sp)(ind:Bool):Nat->List Way
 |0=>[⟨W.plain s,[],ind⟩]
 |n+1=>zH (kJ W (eO W s ind n))
noncomputable def sD(W:Wd)(s:Sp)(ind:Bool)(id:ByteArray):Nat->Nat->List s8
 |0,_=>[]
 |n+1,k=>if i7 W id (eO W s ind k)=[]then sD W s ind id n (k+1)else i7 W id (eO W s ind k)
noncomputable def Wd.lJ(W:Wd)(s:Sp)(ind:Bool)(id:ByteArray):List s8:=sD W s ind id (W.length+2) 0
theorem UD:h_ prog 92 92 99 15 208=true:=by kernel_rfl
theorem HM{α β:Type}(f:α->List β)(l:List α)(k:Nat)(h:k<l.length):(l.take (k+1)).flatMap f=(l.take k).flatMap f++f l[k]:=by
 rw[<-dN h,List.flatMap_append];simp
theorem zdQ(hW:GW W)(hs:GS W s)(id:ByteArray):(W.own s id).length<=2^39:=by
 have yw:=hW.aj;have cW:=GS.under hW hs;have h1:=tF (la W (W.under s) id) (W.under s).of.fields.length;have h2:=tF (oU (W.sigs (W.under s)) id) (W.sigs (W.under s)).length;have h3:=tF (nN W s.of.num id) (W.at s.of.num).methods.length;have h4:=D3 hW (W.length*(W.aj+2)+(W.under s).of.aj+1) cW [];have h5:(W.sigs (W.under s)).length<=2^38+2^31:=qaQ (xK _) h4.2;have h6:=cW.top;unfold Sp.top at h6;have h7:=(W.under s).of.lB;have h8:s.of.kind=1->(W.at s.of.num).methods.length<=W.aj:=fun hk=>by
  have hn:=hs.ok.num hk;have:=sm hn.2;rw[Wd.p7 hn]at this;exact this.2
 unfold Wd.own;simp only[qar];split
 .rename_i hk;have:=h8 hk;split
  .omega
  simp only[qbb];omega
 split
 .simp only[qbb];omega
 simp only[qbb];omega
structure xT(W:Wd)(s:Sp)(ind:Bool):Prop where
 len:∀k,k<=W.length+2->(eO W s ind k).length<=2^20
 gs:∀k x,x∈eO W s ind k->GS W x.to/\x.index.length<=k
 out:∀k id,k<=W.length+2->(i7 W id (eO W s ind k)).length<=2^39
 next:∀k,k<=W.length+2->(kJ W (eO W s ind k)).length<=2^39
 Rr:∀k x,x∈kJ W (eO W s ind k)->GS W x.to
theorem XX{α β:Type}(f:α->List β)(l:List α)(k:Nat):((l.take k).flatMap f).length<=(l.flatMap f).length:=by
 have h:l.flatMap f=(l.take k).flatMap f++(l.drop k).flatMap f:=by rw[<-List.flatMap_append,qbR]
 rw[h,qar];omega
theorem Np{α β:Type}(f:α->List β)(l:List α)(k:Nat)(hk:k<l.length):((l.take k).flatMap f).length+(f l[k]).length<=(l.flatMap f).length:=by
 have h:=HM f l k hk;have h2:=XX f l (k+1);rw[h,qar]at h2;exact h2
theorem OY(hW:GW W)(fv:∀d∈W,∀m∈d.methods,bL m.1)(dW:∀d∈W,cN d.aC){ind:Bool}(hB:xT W s ind){id:ByteArray}{w0:World}{a:Option Addr}{c:Nat}(hM:M.Le (Wm w0))(cA:eK M W a c)(eo:aS M s cs)(hs:GS W s):
 az prog 25 [bK W a c,.agg cs.toArray,.bool ind,.string id] w0 fun r w'=>∃M',Sl M' 15 (o5 M') r (W.lJ s ind id)/\Gr M w0 M' w':=by
 obtain⟨x1,d1,x2,d2,x3,d3,x4,d4,rfl,bA,_⟩:=eo.lit;have yw:=hW.aj;have Oe:=W.FY;have h:=SH.start hM;refine aL mixed func25 yd ?_;refine au h ?_;clear h;intro b5 w h;refine bj h ?_;refine i9 h (sW h.le cA (aS.mk bA) hW.jZ hs.ok (by omega)) ?_;clear h;intro y1 e1 y2 e2 y3 e3 y4 e4 w i5 h;refine au h ?_;clear h;intro b9 w h;obtain⟨M1,bG,Oo,h⟩:=h.dA b9;have i6:eJ M1 ⟨W.plain s,[],ind⟩ (m_ ⟨W.plain s,[],ind⟩ y1 e1 y2 e2 y3 e3 y4 e4 none 0):=eJ.mk (i5.le bG) (bQ.nil _ _ _ _) (qad _);have qs:Sl M1 10 (eJ M1) (.slice (some ⟨b9,0,none⟩) 1 1) (eO W s ind 0):=Sl.one Oo rfl i6;clear Oo i6;refine aA (((W.length+2:Nat):Int)) ?_;refine bN (X:=Nat×Value×Mem) (fun x=>[(0,bK W a c),(3,.string id),(9,x.2.1),(24,.int .i64 ((W.length+2:Nat):Int)),(25,.int .i64 (x.1:Int))])
  (fun x w=>x.1<=W.length+2/\Sl x.2.2 10 (eJ x.2.2) x.2.1 (eO W s ind x.1)/\W.lJ s ind id=sD W s ind id (W.length+2-x.1) x.1/\M.Le x.2.2/\SH w0 M [] x.2.2 [] w) (fun x=>W.length+2-x.1) (0,_,M1) ⟨rfl,rfl,rfl,rfl,rfl,tV⟩ ⟨qae _,qs,rfl,bG,h.aF⟩ ?_
 clear h qs;rintro⟨k,lv,M2⟩ aK w N ⟨hk,cu,wX,aQ,h⟩ hN;simp only at hk cu wX aQ h;refine aI (fun aG=> ?_) (fun aY=> ?_);rotate_left 1
 .obtain rfl:k=W.length+2:=by omega
  rw[Nat.sub_self]at wX;rw[wX];exact⟨M2,Sl.nil _ _ _,h.gr⟩
 have ad:k<W.length+2:=by omega
 have hBl:=hB.len k hk;have hBo:=hB.out k id hk;have NX:=hB.next k hk;have NW:=hB.gs k;have NY:=hB.Rr k;obtain⟨eV,IQ⟩:∃l,l=eO W s ind k:=⟨_,rfl⟩;have zbE:eO W s ind (k+1)=zH (kJ W eV):=by rw[IQ];rfl
 rw[show W.length+2-k=(W.length+2-(k+1))+1 by omega,sD,<-IQ]at wX;rw[<-IQ]at cu hBl hBo NX NW NY;obtain⟨al,cl,rfl,nt,cE⟩:=cu;replace h:=(h.gV 15 99).gV 10 97;refine fB (X:=Nat×Value×List (List Value)×Value×List (List Value)×Mem) (Y:=Value×List (List Value)×Value×List (List Value)×Mem) 2 (fun x=>[(0,bK W a c),(3,.string id),(10,x.2.1),(11,x.2.2.2.1),(24,.int .i64 ((W.length+2:Nat):Int)),(25,.int .i64 (k:Int)),(27,.slice al eV.length cl),(28,.int .i64 (eV.length:Int)),(29,.int .i64 (x.1:Int))])
  (fun x w=>x.1<=eV.length/\bC (o5 x.2.2.2.2.2) (i7 W id (eV.take x.1)) x.2.2.1/\bC (eJ x.2.2.2.2.2) (kJ W (eV.take x.1)) x.2.2.2.2.1/\M2.Le x.2.2.2.2.2/\SH w0 M [] x.2.2.2.2.2 [.own x.2.2.2.1 10 97 x.2.2.2.2.1,.own x.2.1 15 99 x.2.2.1] w) (fun x=>eV.length-x.1)
  (fun x=>[(0,bK W a c),(3,.string id),(10,x.1),(11,x.2.2.1),(24,.int .i64 ((W.length+2:Nat):Int)),(25,.int .i64 (k:Int))])
  (fun x w=>bC (o5 x.2.2.2.2) (i7 W id eV) x.2.1/\bC (eJ x.2.2.2.2) (kJ W eV) x.2.2.2.1/\M2.Le x.2.2.2.2/\SH w0 M [] x.2.2.2.2 [.own x.2.2.1 10 97 x.2.2.2.1,.own x.1 15 99 x.2.1] w)
  (0,.slice none 0 0,[],.slice none 0 0,[],M2) ⟨rfl,rfl,rfl,rfl,rfl,rfl,rfl,rfl,rfl,tV⟩ ⟨qae _,tV,tV,.refl _,h⟩ ?_ ?_
 .clear h;rintro⟨j,v,css,v2,Af,M3⟩ aK w N1 Z hx qj hZ;obtain⟨hj,bS,dp,bT,h⟩:=hx;simp only at hj bS dp bT h;refine aI (fun jU=> ?_) (fun tN=> ?_);rotate_left 1
  .obtain rfl:j=eV.length:=by omega
   rw[qay]at bS dp;exact hZ (v,css,v2,Af,M3) _ _ ⟨rfl,rfl,rfl,rfl,rfl,rfl,tV⟩ ⟨bS,dp,bT,h⟩
  have eM:j<eV.length:=by omega
  have hlen:=bS.len;have zgr:=dp.len;have fH:=HM (fun x=>(W.own x.to id).map fun e=>(e,x)) eV j eM;have pH:=HM W.nk eV j eM;have wV:(i7 W id (eV.take j)).length+((W.own eV[j].to id).map fun e=>(e,eV[j])).length<=(i7 W id eV).length:=Np (fun x:Way=>(W.own x.to id).map fun e=>(e,x)) eV j eM;have Fq:(kJ W (eV.take j)).length+(W.nk eV[j]).length<=(kJ W eV).length:=Np W.nk eV j eM;obtain⟨b2,o2,EN,rfl,cR,ct,fE⟩:=cE.at eM;have aZ:=fE.one;obtain⟨Fu,jY⟩:=NW eV[j] (by simp);obtain⟨x,hxd⟩:∃x,x=eV[j]:=⟨_,rfl⟩;rw[<-hxd]at fE Fu jY fH pH wV Fq;have ri:=fE.le bT;obtain⟨z1,f1,z2,f2,z3,f3,z4,f4,ai,ci,rfl,zcd,_⟩:=ri.lit;refine aJ (j) ?_;refine cG h (ct.le bT) ?_ cR;refine au h ?_;clear h;intro dv w h;refine br h aZ ?_;clear h;intro w h;refine i_ h (dZ x.to z1 f1 z2 f2 z3 f3 z4 f4) ?_;refine fk h (zdT hW fv dW (id:=id) h.le (cA.fr (aQ.trans bT)) (aS.mk zcd) Fu) ?_;clear h;rintro _ M4 w zb0 fj h;obtain⟨a4,c4,rfl,Ib,Fi⟩:=zb0;have AQ:=zdQ hW Fu id;obtain⟨ow,Pv⟩:∃o,o=W.own x.to id:=⟨_,rfl⟩;rw[<-Pv]at Fi fH wV AQ Ib;rw[<-Pv];rw[qat]at wV;refine fB (X:=Nat×Value×List (List Value)) (Y:=Value×List (List Value)) 4 (fun y=>[(0,bK W a c),(3,.string id),(10,y.2.1),(11,v2),(13,.pointer (some ⟨dv,0,none⟩)),(24,.int .i64 ((W.length+2:Nat):Int)),(25,.int .i64 (k:Int)),(27,.slice (some ⟨b2,o2,none⟩) eV.length cl),(28,.int .i64 (eV.length:Int)),(29,.int .i64 (j:Int)),(37,.slice a4 ow.length c4),(38,.int .i64 (ow.length:Int)),(39,.int .i64 (y.1:Int))])
   (fun y w=>y.1<=ow.length/\bC (o5 M4) (i7 W id (eV.take j)++(ow.take y.1).map fun e=>(e,x)) y.2.2/\SH w0 M [] M4 [.ah dv 97 (m_ x z1 f1 z2 f2 z3 f3 z4 f4 ai ci),.own v2 10 97 Af,.own y.2.1 15 99 y.2.2] w) (fun y=>ow.length-y.1)
   (fun y=>[(0,bK W a c),(3,.string id),(10,y.1),(11,v2),(13,.pointer (some ⟨dv,0,none⟩)),(24,.int .i64 ((W.length+2:Nat):Int)),(25,.int .i64 (k:Int)),(27,.slice (some ⟨b2,o2,none⟩) eV.length cl),(28,.int .i64 (eV.length:Int)),(29,.int .i64 (j:Int))])
   (fun y w=>bC (o5 M4) (i7 W id (eV.take j)++ow.map fun e=>(e,x)) y.2/\SH w0 M [] M4 [.ah dv 97 (m_ x z1 f1 z2 f2 z3 f3 z4 f4 ai ci),.own v2 10 97 Af,.own y.1 15 99 y.2] w)
   (0,v,css) ⟨rfl,rfl,rfl,rfl,rfl,rfl,rfl,rfl,rfl,rfl,rfl,rfl,rfl,tV⟩ ⟨qae _,by simpa using bS.mono fun _ _ _ hx=>hx.le fj,h.aF⟩ ?_ ?_
  .clear h bS;rintro⟨i,v,css⟩ aK w N2 Z2 jX d7 E8;obtain⟨hi,bS,h⟩:=jX;simp only at hi bS h;refine aI (fun zbv=> ?_) (fun zbe=> ?_);rotate_left 1
   .obtain rfl:i=ow.length:=by omega
    rw[qay]at bS;exact E8 (v,css) _ _ ⟨rfl,rfl,rfl,rfl,rfl,rfl,rfl,rfl,rfl,rfl,tV⟩ ⟨bS,h⟩
   have hi':i<ow.length:=by omega
   have Pb:=bS.len;rw[qar,qat,qaG,qaY hi]at Pb;obtain⟨b3,o3,W5,rfl,mV,yZ,ri⟩:=Fi.at hi';have zaR:=ri.one;have dS:=dN hi';obtain⟨e,hed⟩:∃e,e=ow[i]:=⟨_,rfl⟩;rw[<-hed]at ri dS;have zaS:=ri;obtain⟨ae,ce,rfl,kW,kD⟩:=ri;have OR:o5 M4 (e,x) (rJ (e,x) ae ce z1 f1 z2 f2 z3 f3 z4 f4 ai ci):=⟨_,_,rfl,zaS,fE.le (bT.trans fj)⟩;refine aJ (i) ?_;refine cG h yZ ?_;refine au h ?_;clear h;intro x8 w h;refine br h zaR ?_;clear h;intro w h;refine bj h ?_;refine bj h ?_;refine au h ?_;clear h;intro gO w h;refine gJ h UD h.df (de OR.one) ?_;clear h;intro v' w h;refine aA (((i+1:Nat):Int)) ?_;exact d7 (i+1,v',_) _ _ ⟨rfl,rfl,rfl,rfl,rfl,rfl,rfl,rfl,rfl,rfl,rfl,rfl,rfl,tV⟩ ⟨hi',by simp only;rw[<-dS,qaq,<-qap];exact bS.snoc OR,h.aF⟩ (by simp only;omega)
  clear h bS;rintro⟨v,css⟩ aK w ⟨bS,h⟩;simp only at bS h;have Pb:=bS.len;refine bj h ?_;refine fk h (XB hW h.le (cA.fr (aQ.trans (bT.trans fj))) (fE.le (bT.trans fj)) Fu (by omega)) ?_;clear h;rintro _ M5 w zb1 aV h;obtain⟨a5,c5,rfl,ik,dw⟩:=zb1;obtain⟨q5,PI,JC⟩:=Src.gm (c:=c5) dw h.le;have zgu:=JC.len;refine gJ h tz PI (fun cs hc u hu=> ?_) ?_ (hb:=by omega)
  .obtain⟨n,hn,rfl⟩:=qak hc;have key:∀{l:List Way} {q:List (List Value)},bC (eJ M5) l q->∀cs∈q,∀u∈cs,u.oneCell'=true:=by
    intro l
    induction l with
    |nil=>intro q hq cs hc;cases q with
     |nil=>simp at hc
     |cons _ _=>exact hq.elim
    |cons y l ih=>intro q hq cs hc;cases q with
     |nil=>exact hq.elim
     |cons z q=>
      rcases qan.1 hc with rfl|hc
      .exact hq.1.one
      exact ih hq.2 cs hc
   exact key JC _ hc u hu
  clear h PI;intro v3 w h;refine aA (((j+1:Nat):Int)) ?_;refine qj (j+1,v,css,v3,Af++q5,M5) _ _ ⟨rfl,rfl,rfl,rfl,rfl,rfl,rfl,rfl,rfl,tV⟩ ⟨eM,?_,?_,bT.trans (fj.trans aV),h.aF⟩ (by simp only;omega)
  .show bC (o5 M5) (i7 W id (eV.take (j+1))) css;have e1:i7 W id (eV.take (j+1))=i7 W id (eV.take j)++ow.map fun e=>(e,x):=fH;rw[e1];exact bS.mono fun _ _ _ hx=>hx.le aV
  show bC (eJ M5) (kJ W (eV.take (j+1))) (Af++q5);have e1:kJ W (eV.take (j+1))=kJ W (eV.take j)++W.nk x:=pH;rw[e1];exact(dp.mono fun _ _ _ hx=>hx.le (fj.trans aV)).append JC
 clear h;rintro⟨v,css,v2,Af,M3⟩ aK w ⟨bS,dp,bT,h⟩;simp only at bS dp bT h;have hlen:=bS.len;obtain⟨av,cv,rfl,sv⟩:=h.oW (v:=v);refine aI (fun q1=> ?_) (fun q1=> ?_)
 .have aT:i7 W id eV≠[]:=fun h0=>by rw[h0]at hlen;simp at hlen;omega
  rw[if_neg aT]at wX;rw[wX];obtain⟨M8,mW,vo,h'⟩:=h.d6 (.slice av css.length cv);exact⟨M8,Sl.fV vo (bS.mono fun _ _ _ hx=>hx.le mW),h'.gr⟩
 have nG:i7 W id eV=[]:=qaD (by omega);rw[if_pos nG]at wX;obtain⟨M8,mW,vo,h⟩:=h.d6 v2;have hs9:=Sl.fV vo (dp.mono fun _ _ _ hx=>hx.le mW);refine fk h (zfr h.le hs9 NX (fun x hx=>by have:=(NY x hx).top;unfold Sp.top at this;omega)) ?_;clear h;rintro _ M9 w zbY cB h;refine aA (((k+1:Nat):Int)) ?_;exact hN (k+1,_,M9) _ _ ⟨rfl,rfl,rfl,rfl,rfl,tV⟩ ⟨by simp only;omega,by simp only;rw[zbE];exact zbY,wX,aQ.trans (bT.trans (mW.trans cB)),h.aF⟩ (by simp only;omega)
end
structure Tg where
 s:Sp
 ptr:Bool
 fields:Bool
 ok:Bool
def Wd.target(W:Wd)(t:Ty):Tg:=
 if(W.under (W.plain (W.operand t))).of.kind≠2 then⟨W.plain (W.operand t),false,false,true⟩else
 ⟨W.plain (W.under (W.plain (W.operand t))).elem,true,decide ((W.plain (W.operand t)).of.kind=1),
  decide ((W.under (W.plain (W.under (W.plain (W.operand t))).elem)).of.kind≠2)&&decide ((W.under (W.plain (W.under (W.plain (W.operand t))).elem)).of.kind≠5)⟩
def L6(M:Mem)(g:Tg)(r:Value):Prop:=
 ∃v,r9 M g.s v/\((g.ok=true/\g.fields=true/\r= .tuple #[v,.bool g.ptr,.bool true,.bool true])\/(g.ok=true/\g.fields=false/\r= .tuple #[v,.bool g.ptr,.bool false,.bool true])\/(g.ok=false/\r= .tuple #[v,.bool g.ptr,.bool g.fields,.bool false]))
theorem zfh{W:Wd}(hW:GW W){t:Ty}{M:Mem}{w0:World}{cs:List Value}{a:Option Addr}{c:Nat}(hM:M.Le (Wm w0))(cA:eK M W a c)(eo:cC M t cs)(hs:GS W (W.operand t)):
 az prog 24 [bK W a c,.agg cs.toArray] w0 fun r w'=>L6 M (W.target t) r/\Fr [] w0 w':=by
 obtain⟨x1,d1,x2,d2,x3,d3,x4,d4,rfl,_⟩:=eo.lit;have yw:=hW.aj;have rq:=GS.plain hW hs;have cW:=GS.under hW rq;have h:=SH.start hM;refine aL mixed func24 VR ?_;refine au h ?_;clear h;intro b3 w h;refine au h ?_;clear h;intro b4 w h;refine bj h ?_;refine i9 h (RS h.le cA eo (by omega)) ?_;clear h;intro y1 e1 y2 e2 y3 e3 y4 e4 w zcc h;refine i9 h (sW h.le cA (aS.mk zcc) hW.jZ hs.ok (by omega)) ?_;clear h;obtain⟨s0,dR⟩:∃s,s=W.plain (W.operand t):=⟨_,rfl⟩;rw[<-dR]at rq cW⊢;intro y1 e1 y2 e2 y3 e3 y4 e4 w vB h;refine br h (aS.one (aS.mk vB)) ?_;clear h;intro w h;refine bj h ?_;refine i9 h (pU h.le cA (aS.mk vB) hW.jZ rq.ok (by omega)) ?_;clear h;obtain⟨u,hu⟩:∃s,s=W.under s0:=⟨_,rfl⟩;rw[<-hu]at cW⊢;intro u1 g1 u2 g2 u3 g3 u4 g4 w jK h;refine au h ?_;clear h;intro b8 w h;refine br h (aS.one (aS.mk jK)) ?_;clear h;intro w h;refine ak h ?_;refine aI (fun k2=> ?_) (fun k2=> ?_);rotate_left 1
 .have gS:W.target t=⟨s0,false,false,true⟩:=by rw[Wd.target,<-dR,<-hu,if_pos k2]
  refine bj h ?_;refine br h (aS.one (aS.mk vB)) ?_;clear h;intro w h;refine bj h ?_;exact⟨⟨_,⟨_,rfl,by rw[gS];exact aS.mk vB⟩,.inr (.inl ⟨by rw[gS],by rw[gS],by rw[gS];rfl⟩)⟩,h.fr⟩
 have aY:=cW.elem (cW.ok.el (.inl k2));have hgp:=GS.plain hW aY;have FP:W.target t=⟨W.plain u.elem,true,decide (s0.of.kind=1),decide ((W.under (W.plain u.elem)).of.kind≠2)&&decide ((W.under (W.plain u.elem)).of.kind≠5)⟩:=by rw[Wd.target,<-dR,<-hu,if_neg (by simp[k2])]
 have dS:(W.target t).s=W.plain u.elem:=by rw[FP]
 obtain⟨tg,gS⟩:∃g,g=W.target t:=⟨_,rfl⟩;rw[<-gS]at FP dS⊢;rw[FP];clear FP gS dS tg;obtain⟨tg,gS⟩:∃g,g=(⟨W.plain u.elem,true,decide (s0.of.kind=1),decide ((W.under (W.plain u.elem)).of.kind≠2)&&decide ((W.under (W.plain u.elem)).of.kind≠5)⟩:Tg):=⟨_,rfl⟩;rw[<-gS];have fin:∀v f o,r9 M (W.plain u.elem) v->f=tg.fields->o=tg.ok->L6 M tg (.tuple #[v,.bool true,.bool f,.bool o]):=by
  intro v f o hv hf ho;refine⟨v,by rw[gS];exact hv,?_⟩;have hp:tg.ptr=true:=by rw[gS]
  rw[hp];cases o with
  |false=>exact .inr (.inr ⟨ho.symm,by rw[hf]⟩)
  |true=>cases f with
   |true=>exact .inl ⟨ho.symm,hf.symm,rfl⟩
   |false=>exact .inr (.inl ⟨ho.symm,hf.symm,rfl⟩)
 refine ak h ?_;refine aI (fun k1=> ?_) (fun k1=> ?_);rotate_left
 all_goals
  refine bj h ?_;refine i9 h (tD h.le (aS.mk jK) (cW.ok.el (.inl k2))) ?_;clear h;intro p1 r1 p2 r2 p3 r3 p4 r4 w Ds h;refine i9 h (sW h.le cA (aS.mk Ds) hW.jZ aY.ok (by omega)) ?_;clear h;intro q1 j1 q2 j2 q3 j3 q4 j4 w i5 h;refine br h (aS.one (aS.mk i5)) ?_;clear h;intro w h;refine bj h ?_;refine i9 h (pU h.le cA (aS.mk i5) hW.jZ hgp.ok (by omega)) ?_;clear h;intro z1 f1 z2 f2 z3 f3 z4 f4 w zgC h;refine bj h ?_;refine aI (fun m2=> ?_) (fun m2=> ?_)
  .refine br h (aS.one (aS.mk i5)) ?_;clear h;intro w h;refine bj h ?_;exact⟨fin _ _ _ ⟨_,rfl,aS.mk i5⟩ (by rw[gS];simp[k1]) (by rw[gS];simp[m2]),h.fr⟩
  refine aI (fun m5=> ?_) (fun m5=> ?_)
  .refine br h (aS.one (aS.mk i5)) ?_;clear h;intro w h;refine bj h ?_;exact⟨fin _ _ _ ⟨_,rfl,aS.mk i5⟩ (by rw[gS];simp[k1]) (by rw[gS];simp[m5]),h.fr⟩
  refine br h (aS.one (aS.mk i5)) ?_;clear h;intro w h;refine bj h ?_;exact⟨fin _ _ _ ⟨_,rfl,aS.mk i5⟩ (by rw[gS];simp[k1]) (by rw[gS];simp[m2,m5]),h.fr⟩
section
variable {W:Wd}{t:Ty}{x y:Way}{s:Sp}{ind:Bool}
theorem ej.gw(h:ej W t)(hb:W.aj<=2^19):GW W where
 spot:=fun i hi=>by
  have aG:i.toNat<W.length:=hi.2;have jG:((i.toNat:Nat):Int)=i:=by have:=hi.1;omega
  have hf:=h.form i.toNat aG;rw[jG]at hf;have h1:=W.v_ i.toNat;have h2:=sm aG;have cK:W.at i=W[i.toNat]:=by have h3:=W.wx i.toNat aG;rw[jG]at h3;exact h3
  refine⟨h.aC _ (W.mem i hi),⟨_,_,hf⟩,?_⟩;show W.start i.toNat+(W.at i).methods.length+(W.at i).of.aj<=2^30;rw[cK];omega
 name:=h.name
 aj:=hb
theorem ej.gs(h:ej W t)(hb:W.aj<=2^19)(ht:t.aj<=2^29):GS W (W.operand t) where
 aC:= .inl rfl
 form:=⟨_,_,h.EX⟩
 top:=by
  have h1:=W.v_ W.length;show W.start W.length+t.aj<=2^30;omega
theorem cP.ET{d:Int}{v:Bool}(h:cP W d t v)(hk:t.kind=2):t.elem≠[]:=h.ok.el (.inl hk)
theorem ej.target(h:ej W t)(hb:W.aj<=2^19)(ht:t.aj<=2^29):GS W (W.target t).s:=by
 have hW:=h.gw hb;have hs:=h.gs hb ht;have hp:=GS.plain hW hs;have hu:=GS.under hW hp;unfold Wd.target;split
 .exact hp
 rename_i hk;simp only[ne_eq,qbC]at hk;exact GS.plain hW (hu.elem (hu.ok.el (.inl hk)))
theorem ej.KE(h:ej W t):∀d∈W,∀m∈d.methods,bL m.1:=fun d hd m hm=>by
 obtain⟨j,hj,rfl⟩:=qak hd;have h1:=(h.decl j hj).name m;rw[W.wx j hj]at h1;exact(h1 hm).1
theorem MS(hW:GW W)(hx:GS W x.to)(hy:y∈W.nk x):GS W y.to/\y.index.length=x.index.length+1:=by
 obtain⟨i,hi,hd⟩:=qbg.1 hy;have hi:=qaz.1 hi;unfold tC at hd;split at hd
 .cases hd;refine⟨GS.plain hW (GS.base ((GS.under hW hx).field hi)),?_⟩;simp
 cases hd
theorem Tf:∀(l out:List Way) (x:Way),x∈l7 out l->x∈out\/x∈l
 |[],out,x,h=> .inl h
 |y::r,out,x,h=>by
  unfold l7 at h;rcases Tf r _ x h with h1|h1
  .split at h1
   .rcases qah.1 h1 with h2|h2
    .exact .inl h2
    exact .inr (by simp at h2;simp[h2])
   exact .inl h1
  exact .inr (qag _ h1)
theorem LD{l:List Way}(h:x∈zH l):x∈l:=by
 rcases Tf l [] x h with h1|h1
 .cases h1
 exact h1
theorem zm{W:Wd}(hW:GW W){s:Sp}(hs:GS W s){ind:Bool}:∀(k:Nat) (x:Way),x∈eO W s ind k->GS W x.to/\x.index.length=k
 |0,x,h=>by
  simp only[eO,qac]at h;subst h;exact⟨GS.plain hW hs,rfl⟩
 |k+1,x,h=>by
  obtain⟨y,hy,hx⟩:=qaS.1 (LD h);obtain⟨h1,h2⟩:=zm hW hs k y hy;obtain⟨h3,h4⟩:=MS hW h1 hx;exact⟨h3,by omega⟩
theorem zdy(hW:GW W)(hs:GS W s)(k:Nat)(x:Way)(h:x∈kJ W (eO W s ind k)):GS W x.to:=by
 obtain⟨y,hy,hx⟩:=qaS.1 h;exact(MS hW (zm hW hs k y hy).1 hx).1
theorem IC{W:Wd}{s:Sp}{ind:Bool}{id:ByteArray}:∀(n k:Nat) (x:s8),x∈sD W s ind id n k->∃j,j<k+n/\x∈i7 W id (eO W s ind j)
 |0,k,x,h=>by simp[sD]at h
 |n+1,k,x,h=>by
  unfold sD at h;split at h
  .obtain⟨j,h1,h2⟩:=IC n (k+1) x h;exact⟨j,by omega,h2⟩
  exact⟨k,by omega,h⟩
theorem ID(hW:GW W)(hs:GS W s)(id:ByteArray):∀x∈W.lJ s ind id,x.2.index.length<=2^30:=fun x hx=>by
 have hb:=hW.aj;have hl:=W.len;obtain⟨j,hj,hx⟩:=IC _ _ x hx;obtain⟨y,hy,hx⟩:=qaS.1 hx;obtain⟨e,_,rfl⟩:=qaj.1 hx;have h2:=(zm hW hs j y hy).2;show y.index.length<=2^30;omega
theorem R5(f:Way->Nat):∀(n:Nat) (l:List Way),(∀x∈l,f x<n)->(∀i,l.countP (fun x=>f x==i)<=2)->l.length<=2*n
 |0,l,h,_=>by
  cases l with
  |nil=>simp
  |cons x l=>have:=h x (by simp);omega
 |n+1,l,h,hc=>by
  have h1:=hc n;have h2:=R5 f n (l.filter fun x=> !(f x==n)) (fun x hx=>by
   have h3:=List.mem_filter.1 hx;have h4:=h x h3.1;have h5:f x≠n:=by simpa using h3.2
   omega) (fun i=>qaQ (List.Sublist.countP_le List.filter_sublist) (hc i))
  have h3:l.length=l.countP (fun x=>f x==n)+(l.filter fun x=> !(f x==n)).length:=by
   rw[<-List.countP_eq_length_filter];refine(List.length_eq_countP_add_countP (fun x=>f x==n)).trans ?_
   congr 1
   exact List.countP_congr (fun x _=>by simp)
  omega
theorem Th(f:Way->Nat)(all:List Way)(hs:∀x∈all,∀y∈all,f x=f y->j9 x.to y.to):∀(l out:List Way),(∀x∈l,x∈all)->(∀x∈out,x∈all)->(∀i,out.countP (fun x=>f x==i)<=2)->∀i,(l7 out l).countP (fun x=>f x==i)<=2
 |[],out,_,_,h=>h
 |x::r,out,hl,ho,h=>by
  unfold l7;refine Th f all hs r _ (fun y hy=>hl y (qag _ hy)) ?_ ?_
  .split
   .intro y hy;rcases qah.1 hy with h1|h1
    .exact ho y h1
    rw[qac.1 h1];exact hl x (by simp)
   exact ho
  split
  .rename_i hc;intro i;rw[List.countP_append];by_cases hi:f x=i
   .subst hi;have h1:out.countP (fun y=>f y==f x)<=nZ x out:=by
     unfold nZ;rw[<-List.countP_eq_length_filter];refine qb6 fun y hy h2=> ?_;have h3:f y=f x:=by simpa using h2
     simpa using hs x (hl x (by simp)) y (ho y hy) h3.symm
    have h2:[x].countP (fun y=>f y==f x)<=1:=List.countP_le_length;omega
   have h2:[x].countP (fun y=>f y==i)=0:=by simp[hi]
   have:=h i;omega
  exact h
theorem zfq(f:Way->Nat)(n:Nat)(l:List Way)(hf:∀x∈l,f x<n)(hs:∀x∈l,∀y∈l,f x=f y->j9 x.to y.to):(zH l).length<=2*n:=
 R5 f n _ (fun x hx=>hf x (LD hx)) (Th f l hs l [] (fun _ h=>h) (fun _ h=>by cases h) fun i=>by simp)
theorem Alike.refl:∀(n:Nat) (t:Ty),t.aj<n->Alike t t
 |0,t,h=>absurd h (qav _)
 |n+1,t,h=>by
  refine .mk t t rfl rfl rfl rfl rfl rfl (fun i x y hx hy=> ?_) (fun i x y hx hy=> ?_) (fun i x y hx hy=> ?_) (fun i x y hx hy=> ?_)
  .rw[hx]at hy;cases hy;exact⟨rfl,rfl⟩
  .rw[hx]at hy;cases hy;exact Alike.refl n _ (by have:=Ty.sj (qax hx);omega)
  .rw[hx]at hy;cases hy;exact Alike.refl n _ (by have:=Ty.pe (qax hx);omega)
  rw[hx]at hy;cases hy;exact Alike.refl n _ (by have:=Ty.nY (qax hx);omega)
theorem j9.refl(s:Sp):j9 s s:=by
 unfold j9;split
 .exact⟨rfl,rfl⟩
 exact⟨rfl,Alike.refl _ _ (qam _)⟩
theorem zea{b b':Sp}(hk:b.of.kind=1)(ad:b'.of.kind=1)(hn:b.of.num=b'.of.num):j9 (W.plain b) (W.plain b'):=by
 unfold Wd.plain;rw[vV,vV,<-hn];by_cases ha:(W.at b.of.num).bU=false
 .rw[if_pos (.inr ha),if_pos (.inr ha)];unfold j9;rw[if_pos (.inl hk)];exact⟨by rw[hk,ad],hn⟩
 rw[if_neg (by simp[hk,ha]),if_neg (by simp[ad,ha])];exact j9.refl _
theorem MR(hW:GW W)(hx:GS W x.to)(hy:y∈W.nk x):∃b:Sp,b.of.kind=1/\W.has b.of.num/\y.to=W.plain b:=by
 obtain⟨i,hi,hd⟩:=qbg.1 hy;have hi:=qaz.1 hi;unfold tC at hd;split at hd
 .rename_i he;cases hd;have hu:=GS.under hW hx;have hf:=hu.field hi;have gk:(W.under x.to).of.fields[i]∈(W.under x.to).of.fields:=by simp
  have aY:(W.under x.to).of.fields.getD i default=(W.under x.to).of.fields[i]:=by simp[hi]
  have fg:((W.under x.to).field i).of=(W.under x.to).of.fields[i].2.2:=by
   unfold Sp.field;simp[hi]
  rw[aY]at he;have jk:=hu.ok.np _ gk he;have hb:((W.under x.to).field i).base.of.kind=1:=by
   unfold Sp.base;rw[fg];rcases jk with h1|⟨h1,h2⟩
   .rw[if_neg (by omega),fg];exact h1
   rw[if_pos h1];have aT:(W.under x.to).of.fields[i].2.2.elem≠[]:=(hu.ok.fields _ gk).el (.inl h1);unfold Sp.elem;rw[fg];cases hq:(W.under x.to).of.fields[i].2.2.elem with
   |nil=>exact absurd hq aT
   |cons e l=>exact h2 e (by rw[hq];simp)
  exact⟨_,hb,(GS.base hf).ok.num hb,rfl⟩
 cases hd
open Classical in
theorem QQ(hW:GW W)(hs:GS W s):∀k,(eO W s ind k).length<=2*W.length+1
 |0=>by simp[eO]
 |k+1=>by
  let B:Way->Sp->Prop:=fun x b=>b.of.kind=1/\W.has b.of.num/\x.to=W.plain b
  have hB:∀x∈kJ W (eO W s ind k),∃b,B x b:=fun x hx=>by
   obtain⟨y,hy,hx⟩:=qaS.1 hx;exact MR hW (zm hW hs k y hy).1 hx
  let f:Way->Nat:=fun x=>if h:∃b,B x b then(Classical.choose h).of.num.toNat else 0
  have hf:∀x∈kJ W (eO W s ind k),∃b,B x b/\f x=b.of.num.toNat:=fun x hx=>by
   have h:=hB x hx;exact⟨Classical.choose h,qb5 h,by show(if h:∃b,B x b then(Classical.choose h).of.num.toNat else 0)=_;rw[dif_pos h]⟩
  have:=zfq f W.length (kJ W (eO W s ind k)) (fun x hx=>by
   obtain⟨b,hb,he⟩:=hf x hx;rw[he];exact hb.2.1.2) (fun x hx y hy ze=>by
   obtain⟨b,hb,he⟩:=hf x hx;obtain⟨b',aW,dD⟩:=hf y hy;rw[hb.2.2,aW.2.2];refine zea hb.1 aW.1 ?_;have h1:=hb.2.1.1;have h2:=aW.2.1.1;omega)
  show(zH (kJ W (eO W s ind k))).length<=_;omega
theorem QR(hW:GW W)(hs:GS W s)(k:Nat):(eO W s ind k).length<=2^20:=by
 have h1:=QQ hW hs (ind:=ind) k;have h2:=W.FY;have h3:=hW.aj;omega
end
section
variable {W:Wd}{s:Sp}{v:Value}{b:Nat}
structure Ev where
 mem:Mem
 pk:Int->Nat
 ty:Nat->Nat->Prop
 ob:Nat->TypeId->Nat->Prop
 cM:Sp->Nat->Prop
structure Ev.Le(E F:Ev):Prop where
 mem:E.mem.Le F.mem
 pk:E.pk=F.pk
 ty:∀n b,E.ty n b->F.ty n b
 ob:∀n t b,E.ob n t b->F.ob n t b
 cM:∀s b,E.cM s b->F.cM s b
theorem Ev.Le.refl(E:Ev):E.Le E:=⟨.refl _,rfl,fun _ _ h=>h,fun _ _ _ h=>h,fun _ _ h=>h⟩
theorem Ev.Le.trans{E F G:Ev}(h:E.Le F)(h':F.Le G):E.Le G:=⟨h.mem.trans h'.mem,h.pk.trans h'.pk,fun n b x=>h'.ty n b (h.ty n b x),fun n t b x=>h'.ob n t b (h.ob n t b x),fun s b x=>h'.cM s b (h.cM s b x)⟩
def dT(W:Wd)(n:Nat):TypeId:=if(W.at (n:Int)).bU=true then 125 else 120
inductive Den(W:Wd)(E:Ev):Sp->Value->Prop where
 |basic {s:Sp} {b:Nat} {k i:Int} {nm:ByteArray} (hk:s.of.kind=0) (hb:Bk E.mem b [.int .i64 k,.int .i64 i,.string nm]):Den W E s (.iface 229 (vp b))
 |named {s:Sp} {b:Nat} (hk:s.of.kind=1) (hv:E.ty s.of.num.toNat b):Den W E s (.iface (dT W s.of.num.toNat) (vp b))
 |ptr {s:Sp} {b:Nat} {v:Value} (hk:s.of.kind=2) (hb:Bk E.mem b [v]) (hd:Den W E s.elem v):Den W E s (.iface 221 (vp b))
 |lX {s:Sp} {b:Nat} {v:Value} (hk:s.of.kind=3) (hb:Bk E.mem b [v]) (hd:Den W E s.elem v):Den W E s (.iface 223 (vp b))
 |lZ {s:Sp} {b:Nat} {va:Value} {cH:List Nat} {gZ:List Value} (hk:s.of.kind=4) (hb:Bk E.mem b [va,.slice none 0 0]) (hl:cH.length=s.of.fields.length) (gR:gZ.length=s.of.fields.length)
  (cu:Sl E.mem 1 gz va (cH.map fun b=>[vp b]))
  (hv:∀(i b:Nat) (v:Value) (f:Int×Bool×Ty),cH[i]? =some b->gZ[i]? =some v->s.of.fields[i]? =some f->Bk E.mem b [.int .i64 0,vp (E.pk s.aC),.string (bZ (W.fieldName f)),v,.int .u8 6,.bool f.2.1])
  (ho:∀(i b:Nat),cH[i]? =some b->E.ob (s.fieldAt i) 172 b) (hd:∀(i:Nat) (v:Value),gZ[i]? =some v->Den W E (s.field i) v):Den W E s (.iface 168 (vp b))
 |cM {s:Sp} {b:Nat} (hk:s.of.kind=5) (hi:E.cM s b):Den W E s (.iface 134 (vp b))
theorem Den.le{E F:Ev}(hl:E.Le F)(h:Den W E s v):Den W F s v:=by
 induction h with
 |basic hk hb=>exact .basic hk (hb.le hl.mem)
 |named hk hv=>exact .named hk (hl.ty _ _ hv)
 |ptr hk hb _ ih=>exact .ptr hk (hb.le hl.mem) ih
 |lX hk hb _ ih=>exact .lX hk (hb.le hl.mem) ih
 |lZ hk hb h1 h2 cu hv ho _ ih=>exact .lZ hk (hb.le hl.mem) h1 h2 (cu.mono hl.mem fun _ _ _ h=>h) (fun i b v f a1 a2 a3=>by rw[<-hl.pk];exact(hv i b v f a1 a2 a3).le hl.mem) (fun i b a=>hl.ob _ _ _ (ho i b a)) ih
 |cM hk hi=>exact .cM hk (hl.cM _ _ hi)
theorem Den.iface{E:Ev}(h:Den W E s v):∃t b,v= .iface t (vp b)/\((t=120/\s.of.kind=1)\/(t=125/\s.of.kind=1)\/(t=229/\s.of.kind=0)\/(t=221/\s.of.kind=2)\/(t=223/\s.of.kind=3)\/(t=168/\s.of.kind=4)\/(t=134/\s.of.kind=5)):=by
 cases h with
 |basic hk hb=>exact⟨_,_,rfl,by simp[hk]⟩
 |named hk hv=>
  refine⟨_,_,rfl,?_⟩;unfold dT;split<;>simp[hk]
 |ptr hk hb _=>exact⟨_,_,rfl,by simp[hk]⟩
 |lX hk hb _=>exact⟨_,_,rfl,by simp[hk]⟩
 |lZ hk=>exact⟨_,_,rfl,by simp[hk]⟩
 |cM hk hi=>exact⟨_,_,rfl,by simp[hk]⟩
structure bD where
 num:Nat
 aC:Int
 name:Int
def bD.id(m:bD):ByteArray:=aM m.aC m.name
def BP(E:Ev)(m:bD)(b sg:Nat):Prop:=Bk E.mem b [.int .i64 0,vp (E.pk m.aC),.string (bZ m.name),.iface 235 (vp sg),.bool false,.bool false]
structure s7(E:Ev)(m:bD)(ptr:Bool)(b:Nat):Prop where
 ob:E.ob m.num 128 b
 all:∃sg rb rt k,BP E m b sg/\Bk E.mem sg [vp rb,.pointer none,.pointer none,.pointer none,.bool false]/\Bk E.mem rb [.int .i64 0,vp (E.pk m.aC),.string ⟨#[]⟩,rt,.int .u8 k,.bool false]/\
  ((ptr=true/\∃pb x,rt= .iface 221 (vp pb)/\Bk E.mem pb [.iface 120 x])\/(ptr=false/\∃t x,rt= .iface t x/\(t=120\/t=134)))
theorem BP.le{E F:Ev}(hl:E.Le F){m:bD}{sg:Nat}(h:BP E m b sg):BP F m b sg:=by unfold BP at*;rw[<-hl.pk];exact h.le hl.mem
theorem s7.le{E F:Ev}(hl:E.Le F){m:bD}{p:Bool}(h:s7 E m p b):s7 F m p b:=by
 obtain⟨ho,sg,rb,rt,k,h1,h2,h3,h4⟩:=h;refine⟨hl.ob _ _ _ ho,sg,rb,rt,k,h1.le hl,h2.le hl.mem,by rw[<-hl.pk];exact h3.le hl.mem,?_⟩;rcases h4 with⟨hp,pb,x,hr,hb⟩|h4
 .exact .inl ⟨hp,pb,x,hr,hb.le hl.mem⟩
 exact .inr h4
def m8(s:Sp):List bD:=(List.range s.of.methods.length).map fun j=>⟨s.at_+j,s.aC,(s.of.methods.getD j default).1⟩
def mlt(x y:bD):Bool:=
 if exported x.name≠exported y.name then exported x.name
 else if bZ x.name≠bZ y.name then Op.bytesLess (bZ x.name).toList (bZ y.name).toList
 else if exported x.name=false then Op.bytesLess (dY x.aC).toList (dY y.aC).toList else false
def Ew(l:List bD):Prop:=l.Pairwise fun x y=>mlt y x=false
structure xS(W:Wd)(E:Ev)(s:Sp)(b:Nat):Prop where
 own:E.mem.own b
 c0:E.mem.cell b 0=some (.pointer none)
 c3:E.mem.cell b 3=some (.pointer none)
 c4:E.mem.cell b 4=some (.bool false)
 c5:E.mem.cell b 5=some (.bool true)
 all:∃vm ve,∃(ms:List bD) (bF:List Nat) (ew:List Value),E.mem.cell b 1=some vm/\E.mem.cell b 2=some ve/\Sl E.mem 1 gz vm (bF.map fun b=>[vp b])/\Sl E.mem 1 gz ve (ew.map fun v=>[v])/\
  ms.Perm (m8 s)/\bC (fun m b=>s7 E m false b) ms bF/\bC (fun i v=>Den W E (s.bE i) v) (List.range s.of.aD.length) ew
theorem xS.le{E F:Ev}(hl:E.Le F)(h:xS W E s b):xS W F s b:=by
 obtain⟨h0,h1,h2,h3,h4,vm,ve,ms,bF,ew,a1,a2,a3,a4,a5,a6,a7⟩:=h;exact⟨hl.mem.own _ h0,hl.mem.cell _ _ _ h1,hl.mem.cell _ _ _ h2,hl.mem.cell _ _ _ h3,hl.mem.cell _ _ _ h4,vm,ve,ms,bF,ew,hl.mem.cell _ _ _ a1,hl.mem.cell _ _ _ a2,a3.mono hl.mem fun _ _ _ h=>h,a4.mono hl.mem fun _ _ _ h=>h,a5,
  a6.mono fun _ _ _ h=>h.le hl,a7.mono fun _ _ _ h=>h.le hl⟩
def iV(M:Mem)(v:Value):Prop:=∃q,Sl M 1 gz v [[vp q]]/\Bk M q [.bool false,.nilIface]
theorem iV.le{M N:Mem}(hl:M.Le N)(h:iV M v):iV N v:=by
 obtain⟨q,h1,h2⟩:=h;exact⟨q,h1.mono hl fun _ _ _ h=>h,h2.le hl⟩
def uy(E:Ev)(ms:List bD)(tb:Nat):Prop:=∃vm vt,∃bF:List Nat,Bk E.mem tb [.bool false,vm,vt,.bool false]/\Sl E.mem 1 gz vm (bF.map fun b=>[vp b])/\iV E.mem vt/\bC (fun m b=>s7 E m false b) ms bF
theorem uy.le{E F:Ev}(hl:E.Le F){ms:List bD}{tb:Nat}(h:uy E ms tb):uy F ms tb:=by
 obtain⟨vm,vt,bF,h1,h2,h3,h4⟩:=h;exact⟨vm,vt,bF,h1.le hl.mem,h2.mono hl.mem fun _ _ _ h=>h,h3.le hl.mem,h4.mono fun _ _ _ h=>h.le hl⟩
def iF(acc:List bD):List bD->List bD
 |[]=>acc
 |x::r=>if∃y∈acc,y.id=x.id then iF acc r else iF (acc++[x]) r
def xN(l:List bD):List bD:=l.mergeSort fun x y=> !mlt y x
def dj(W:Wd):Nat->Sp->List bD
 |0,_=>[]
 |n+1,s=>xN (iF [] (m8 s++(List.range s.of.aD.length).flatMap fun i=>dj W n (W.under (s.bE i))))
def vW(W:Wd)(d:Int)(t:Ty):Nat:=((W.length:Int)-d).toNat*(W.aj+1)+t.aj
def g_(W:Wd)(n:Nat)(s:Sp):Prop:=∃d,cP W d s.of true/\vW W d s.of<n
def r_(W:Wd)(E:Ev)(s:Sp)(b:Nat):Prop:=∃tb n,g_ W n s/\E.mem.cell b 6=some (vp tb)/\uy E (dj W n s) tb
theorem r_.le{E F:Ev}(hl:E.Le F)(h:r_ W E s b):r_ W F s b:=by
 obtain⟨tb,n,h1,h2,h3⟩:=h;exact⟨tb,n,h1,hl.mem.cell _ _ _ h2,h3.le hl⟩
end
section
variable {w0:World}{t:TypeId}{x:Value}{p:Option Addr}{s:ByteArray}
theorem Rk:az prog 91 [.iface t x] w0 (mL 256 [.iface t x] w0):=by
 have h:=SH.start (Mem.nil_le (Wm w0));refine aL mixed func91 WY ?_;refine au h ?_;clear h;intro b w h;exact h.ue
theorem zdw:az prog 92 [.iface t x] w0 (mL 284 [.iface t x] w0):=by
 have h:=SH.start (Mem.nil_le (Wm w0));refine aL mixed func92 WZ ?_;refine au h ?_;clear h;intro b w h;exact h.ue
theorem Ga{k:Int}:az prog 125 [.int .u8 k,.int .i64 0,.pointer p,.string s,.iface t x] w0 (mL 178 [.int .i64 0,.pointer p,.string s,.iface t x,.int .u8 k,.bool false] w0):=by
 have h:=SH.start (Mem.nil_le (Wm w0));refine aL mixed func125 Vc ?_;refine au h ?_;clear h;intro b w h;exact h.ue
theorem Rh{e:Bool}:az prog 94 [.int .i64 0,.pointer p,.string s,.iface t x,.bool e] w0 (mL 178 [.int .i64 0,.pointer p,.string s,.iface t x,.int .u8 6,.bool e] w0):=by
 have h:=SH.start (Mem.nil_le (Wm w0));refine aL mixed func94 W0 ?_;refine sX h Ga ?_;clear h;intro b w h;refine eQ h ?_;clear h;intro w h;exact h.ue
theorem Rj:az prog 98 [.int .i64 0,.pointer p,.string s,.iface t x] w0 (mL 178 [.int .i64 0,.pointer p,.string s,.iface t x,.int .u8 4,.bool false] w0):=by
 have h:=SH.start (Mem.nil_le (Wm w0));refine aL mixed func98 W3 ?_;refine sX h Ga ?_;clear h;intro b w h;exact h.ue
theorem KM{sg:Nat}:az prog 99 [.int .i64 0,.pointer p,.string s,vp sg] w0 (mL 240 [.int .i64 0,.pointer p,.string s,.iface 235 (vp sg),.bool false,.bool false] w0):=by
 have h:=SH.start (Mem.nil_le (Wm w0));refine aL mixed func99 W4 ?_;refine au h ?_;clear h;intro b w h;exact h.ue
theorem KN:az prog 100 [.pointer p,.slice none 0 0,.slice none 0 0,.pointer none,.pointer none,.bool false] w0 (mL 291 [.pointer p,.pointer none,.pointer none,.pointer none,.bool false] w0):=by
 have h:=SH.start (Mem.nil_le (Wm w0));refine aL mixed func100 UX ?_;refine au h ?_;clear h;intro b w h;exact h.ue
theorem Ri:az prog 129 [.pointer none] w0 (mL 247 [.pointer none,.slice none 0 0,.slice none 0 0,.pointer none,.bool false,.bool false,.pointer none] w0):=by
 have h:=SH.start (Mem.nil_le (Wm w0));refine aL mixed func129 Vg ?_;refine au h ?_;clear h;intro b w h;exact h.ue
theorem Ll{M:Mem}{a b:Nat}{x y:ByteArray}{x2 y2:Value}(hM:M.Le (Wm w0))(ha:Bk M a [.string x,x2])(hb:Bk M b [.string y,y2]):az prog 102 [vp a,vp b] w0 fun r w'=>r= .bool (decide (x=y))/\Fr [] w0 w':=by
 have h:=SH.start hM;refine aL mixed func102 UZ ?_;refine b_ [] h ?_;clear h;intro w h;refine cd h (ha.at 0 rfl) ?_;refine cd h (hb.at 0 rfl) ?_;refine aI (fun h1=> ?_) (fun h1=> ?_)
 .exact⟨qaL Value.bool (by simp[h1]),h.fr⟩
 exact⟨qaL Value.bool (by simp[h1]),h.fr⟩
end
section
variable {w0:World}{M:Mem}{ob n:Nat}{p:Option Addr}{s:ByteArray}{t:TypeId}{x y:Value}
theorem az.pl{P:Program}{f:FuncId}{args:List Value}{w:World}{R:Value->Prop}(h:az P f args w fun r w'=>R r/\w'=w):az P f args w fun r w'=>R r/\Fr [] w w':=
 h.mono fun r w' ⟨h1,h2⟩=>⟨h1,h2▸Fr.refl w⟩
@[reducible]def zu(ob:Nat):List Value:=[.pointer none,vp ob,.bool true,.int .i32 0,.int .u32 0,.int .u32 0,.nilIface,.nilIface,.bool false,.slice none 0 0]
theorem zdu(h:SH w0 M [ob] M [.ah ob 220 [.int .i64 0,.pointer p,.string s,.nilIface]] w0):
 az prog 88 [.pointer none,vp ob,.nilIface,.slice none 0 0] w0 fun r w'=>∃M' A',(∃nb,r=vp nb/\M'=M/\A'=[.ah nb 218 [.pointer none,vp ob,.bool false,.int .i32 0,.int .u32 0,.int .u32 0,.nilIface,.nilIface,.bool false,.slice none 0 0],.ah ob 220 [.int .i64 0,.pointer p,.string s,.iface 120 (vp nb)]])/\SH w0 M [ob] M' A' w':=by
 refine aL mixed func88 WV ?_;refine au (cs:=[.pointer none,vp ob,.bool false,.int .i32 0,.int .u32 0,.int .u32 0,.nilIface,.nilIface,.bool false,.slice none 0 0]) h ?_;clear h;intro nb w h;refine ak h ?_;refine aI trivial ?_;refine eQ h ?_;clear h;intro w h;exact⟨M,_,⟨nb,rfl,rfl,rfl⟩,h⟩
theorem zdv(h:SH w0 M [ob] M [.ah ob 220 [.int .i64 0,.pointer p,.string s,.nilIface]] w0):
 az prog 43 [vp ob,.nilIface,.slice none 0 0] w0 fun r w'=>∃M' A',(∃nb,r=vp nb/\M'=M/\A'=[.ah nb 218 (zu ob),.ah ob 220 [.int .i64 0,.pointer p,.string s,.iface 120 (vp nb)]])/\SH w0 M [ob] M' A' w':=by
 refine aL mixed func43 Wj ?_;refine s_call h (az.pl UG) ?_;clear h;rintro _ w rfl h;refine du [.ah ob 220 [.int .i64 0,.pointer p,.string s,.nilIface]] [] h zdu ?_;clear h;rintro _ M' A' w' ⟨nb,rfl,rfl,rfl⟩ _ _ h;simp only[qa_,qbk,qaC]at h;refine aI trivial ?_;refine eQ h ?_;clear h;intro w h;exact⟨_,_,⟨nb,rfl,rfl,rfl⟩,h⟩
theorem zdr(h:SH w0 M [ob] M [.ah ob 220 [.int .i64 0,.pointer p,.string s,.nilIface]] w0):
 az prog 89 [.pointer none,vp ob,.iface t x] w0 fun r w'=>∃M' A',(∃ab,r=vp ab/\M'=M/\A'=[.ah ab 281 [vp ob,vp ab,.iface t x,.nilIface],.ah ob 220 [.int .i64 0,.pointer p,.string s,.iface 125 (vp ab)]])/\SH w0 M [ob] M' A' w':=by
 refine aL mixed func89 WW ?_;refine au h ?_;clear h;intro ab w h;refine eQ h ?_;clear h;intro w h;refine eQ h ?_;clear h;intro w h;refine eQ h ?_;clear h;intro w h;refine ak h ?_;refine aI trivial ?_;refine eQ h ?_;clear h;intro w h;exact⟨M,_,⟨ab,rfl,rfl,rfl⟩,h⟩
inductive mI(M:Mem):Nat->Value->Value->Prop where
 |stop {t:TypeId} {x:Value} (ht:Plain t\/t=120):mI M 0 (.iface t x) (.iface t x)
 |step {n ab:Nat} {x y:Value} (hc:M.cell ab 2=some x) (h:mI M n x y):mI M (n+1) (.iface 125 (vp ab)) y
theorem mI.le{N:Mem}(hl:M.Le N)(h:mI M n x y):mI N n x y:=by
 induction h with
 |stop ht=>exact .stop ht
 |step hc _ ih=>exact .step (hl.cell _ _ _ hc) ih
@[reducible]def vpo:Option Nat->Value
 |none=> .pointer none
 |some b=>vp b
theorem W7{ab:Nat}{o:Value}(sr:mI M n (.iface t x) y)(h:SH w0 M [ab] M [.ah ab 281 [o,vp ab,.iface t x,.nilIface]] w0):
 az prog 124 [vp ab] w0 fun r w'=>∃M' A',(r=y/\M'=M/\A'=[.ah ab 281 [o,vp ab,.iface t x,y]])/\SH w0 M [ab] M' A' w':=by
 refine aL mixed func124 MB ?_;refine ak h ?_;refine aI trivial ?_;refine fB (X:=Nat×Value×Option Nat×Value) (Y:=Unit) 0 (fun s=>[(0,vp ab),(3,s.2.1),(4,vpo s.2.2.1)])
  (fun s w=>(∀b,s.2.2.1=some b->mI M s.1 s.2.2.2 y/\(b=ab/\s.2.2.2= .iface t x\/M.cell b 2=some s.2.2.2))/\(s.2.2.1=none->s.2.1=y)/\SH w0 M [ab] M [.ah ab 281 [o,vp ab,.iface t x,.nilIface]] w) (fun s=>if s.2.2.1=none then 0 else s.1+1)
  (fun _=>[(0,vp ab),(3,y)]) (fun _ w=>SH w0 M [ab] M [.ah ab 281 [o,vp ab,.iface t x,.nilIface]] w) (n,.nilIface,some ab,.iface t x) ⟨rfl,rfl,rfl,tV⟩ ⟨fun b hb=>⟨sr,.inl ⟨(qaF hb).symm,rfl⟩⟩,fun h=>(by cases h),h⟩ ?_ ?_
 .clear h;rintro⟨k,tv,b,x2⟩ aK w N Z ⟨hc,hy,h⟩ hN hZ;simp only at hc hy h;cases b with
  |none=>
   obtain rfl:=hy rfl;exact hZ () _ _ ⟨rfl,rfl,tV⟩ h
  |some b=>
  obtain⟨hc,hb⟩:=hc b rfl;have hld:w.cell? ⟨b,2,none⟩=some x2:=by
   rcases hb with⟨rfl,rfl⟩|hb
   .exact(h.fK .here).ld 2 rfl
   exact h.le.cell _ _ _ hb
  refine⟨_,hld,?_⟩;cases hc with
  |stop ht=>
   unfold Plain at ht;rcases ht with(rfl|rfl|rfl|rfl|rfl)|rfl<;>exact hN (0,_,none,.nilIface) _ _ ⟨rfl,rfl,rfl,tV⟩ ⟨fun b hb=>(by cases hb),fun _=>rfl,h⟩ (Nat.succ_pos _)
  | @step k Uk x3 _ yA hr=>
   exact hN (k,_,some Uk,x3) _ _ ⟨rfl,rfl,rfl,tV⟩ ⟨fun b hb=>⟨hr,.inr (by cases hb;exact yA)⟩,fun hx=>(by cases hx),h⟩ (qam _)
 clear h;rintro _ aK w h;have hy:y.oneCell'=true:=by
  have key:∀{n:Nat} {x y:Value},mI M n x y->y.oneCell'=true:=by
   intro n x y sr
   induction sr with
   |stop _=>rfl
   |step _ _ ih=>exact ih
  exact key sr
 refine eQ h ?_ (hv:=hy);clear h;intro w h;exact⟨M,_,⟨rfl,rfl,rfl⟩,h⟩
end
section
open Go.MapKept
variable {P:Program}{st t:TypeId}{b pb:Nat}{M:Mem}{w0:World}{p n:Int}{x:Value}
theorem X1{w:World}{fields:Array Field}{fd:Field}{j:TypeInfo}(hs:P.underlying st=some (.struct fields))(hf:fields[0]? =some fd)(ho:fd.offset=0)(hi:P.info? fd.type=some j)(dF:j.size≠0):
 (follow [⟨st,0,true⟩] t (.val (vp b))).run P w= .ok (fd.type,.var ⟨b,0,none⟩) w:=by
 have h0:(⟨b,0,none⟩:Addr).add 0=⟨b,0,none⟩:=by simp[xZ]
 simp[follow,qas hs,hf,Place.get,asAddr,fieldPlace,ho,nP hi,dF,h0,Result.andThen]
def fA(M:Mem):Prop:=∀w,M.Le (Wm w)->∀n,bL n->az prog 123 [.string (bZ n)] w fun r w'=>r= .bool (exported n)/\Fr [] w w'
theorem fA.le{N:Mem}(hl:M.Le N)(h:fA M):fA N:=fun w hw n hn=>h w (hl.trans hw) n hn
theorem Kc(hT:fA M)(hM:M.Le (Wm w0))(hb:Bk M pb [.string (dY p),x])(hp:cN p)(hn:bL n):
 az prog 80 [vp pb,.string (bZ n)] w0 fun r w'=>r= .string (aM p n)/\Fr [] w0 w':=by
 have h:=SH.start hM;refine aL mixed func80 WM ?_;refine s_call h (hT _ h.le n hn) ?_;clear h;rintro _ w rfl h;have dF:=Re n;cases he:exported n with
 |true=>exact⟨qaL Value.string (by simp[aM,he]),h.fr⟩
 |false=>
  have rD:(dY p).size=1:=by rcases hp with rfl|rfl<;>rfl
  have aT:dY p≠⟨#[]⟩:=by intro h0;rw[h0]at rD;cases rD
  have wT:(dY p++⟨#[46]⟩).size=2:=by rw[ByteArray.size_append,rD];rfl
  have hid:aM p n=dY p++⟨#[46]⟩++bZ n:=by simp[aM,he]
  have d1:ByteArray.size ⟨#[46]⟩=1:=rfl;refine aP h (hb.at 0 rfl) ?_;refine aI (fun h0=>absurd h0 aT) (fun _=> ?_);refine aP h (hb.at 0 rfl) ?_;refine aI (by omega) ?_;refine aI (by omega) ?_;exact⟨qaL Value.string hid.symm,h.fr⟩
theorem RK{ob:Nat}(hT:fA M)(hM:M.Le (Wm w0))(h1:M.cell ob 1=some (vp pb))(h2:M.cell ob 2=some (.string (bZ n)))(hb:Bk M pb [.string (dY p),x])(hp:cN p)(hn:bL n):
 az prog 70 [vp ob] w0 fun r w'=>r= .string (aM p n)/\Fr [] w0 w':=by
 have h:=SH.start hM;refine aL mixed func70 WE ?_;refine b_ [] h ?_;clear h;intro w h;refine cd h h1 ?_;refine cd h h2 ?_;refine aI ?_ trivial;refine dg h (Kc hT h.le hb hp hn) ?_;clear h;rintro _ w rfl h;exact⟨rfl,h.fr⟩
def RM(P:Program)(st:TypeId):Bool:=
 match P.underlying st with
 |some (.struct fields)=>(match fields[0]? with
  |some fd=>Nat.beq fd.offset 0&&(match P.info? fd.type with|some j=> !(Nat.beq j.size 0)|none=>false)&&(match P.underlying fd.type with|some (.struct _)=>true|_=>false)
  |none=>false)
 |_=>false
theorem fZ.obj{m:String}{f:FuncId}(h:((P.info? t).bind fun i=>i.methods.find? (·.name==m)).map (fun r=>(r.path.toList.map fun s=>(s.struct,s.index,s.deref),r.func))=some ([(st,0,true)],some (f,true)))
 (hr:RM P st=true):fZ P t (vp b) m f (vp b):=by
 unfold RM at hr;split at hr;rotate_left 1
 .cases hr
 rename_i fields hs;split at hr;rotate_left 1
 .cases hr
 rename_i fd hf;simp only[qbn]at hr;obtain⟨⟨ho,rF⟩,k8⟩:=hr;split at rF;rotate_left 1
 .cases rF
 rename_i j hi;split at k8;rotate_left 1
 .cases k8
 rename_i dsc hu;have ho:=qaI ho;have dF:j.size≠0:=by intro h0;simp[h0]at rF
 unfold fZ;intro w;cases hi':P.info? t with
 |none=>rw[hi']at h;cases h
 |some i=>
  rw[hi']at h;simp only[Option.bind_some]at h;cases hr:i.methods.find? (·.name==m)with
  |none=>rw[hr]at h;cases h
  |some r=>
   rw[hr]at h;simp only[qbP,qao,qby]at h;have fg:=X1 (P:=P) (w:=w) (t:=t) (b:=b) hs hf ho hi dF;have hp:r.path.toList=[⟨st,0,true⟩]:=by
    match hq:r.path.toList,h.1 with
    |[],h1=>cases h1
    |[s],h1=>obtain⟨a1,a2,a3⟩:=s;simp at h1;obtain⟨rfl,rfl,rfl⟩:=h1;rfl
    |_::_::_,h1=>simp at h1
   show(method ((P.types.size+99)+1) t (vp b) m).run P w=_;unfold method;simp[Bz hi',hr,hp,h.2,fg,receiverAt,qas hu]
theorem zc4(b:Nat):fZ prog 172 (vp b) "Id" 70 (vp b):=fZ.obj (st:=178) (by kernel_rfl) (by kernel_rfl)
theorem F3(b:Nat):fZ prog 128 (vp b) "Id" 70 (vp b):=fZ.obj (st:=240) (by kernel_rfl) (by kernel_rfl)
theorem KC(b:Value):fZ prog 120 b "Underlying" 108 b/\fZ prog 125 b "Underlying" 279 b/\fZ prog 221 b "Underlying" 286 b/\fZ prog 223 b "Underlying" 288 b/\fZ prog 168 b "Underlying" 282 b/\fZ prog 134 b "Underlying" 281 b/\fZ prog 229 b "Underlying" 290 b:=
 ⟨fZ.plain (by kernel_rfl) (by kernel_rfl),fZ.plain (by kernel_rfl) (by kernel_rfl),fZ.plain (by kernel_rfl) (by kernel_rfl),fZ.plain (by kernel_rfl) (by kernel_rfl),fZ.plain (by kernel_rfl) (by kernel_rfl),fZ.plain (by kernel_rfl) (by kernel_rfl),fZ.plain (by kernel_rfl) (by kernel_rfl)⟩
def QT(l:List (ByteArray×Nat))(name:ByteArray)(z:Int):Prop:=
 (∃i p,z=((i:Nat):Int)/\l[i]? =some p/\p.1=name/\name≠⟨#[95]⟩)\/(z= -1/\(name=⟨#[95]⟩\/∀p∈l,p.1≠name))
theorem QZ{nb cap:Nat}{a:Option Addr}{l:List (ByteArray×Nat)}{name:ByteArray}(hM:M.Le (Wm w0))(h9:M.cell nb 9=some (.slice a l.length cap))(cE:bQ M 1 gz a (l.map fun p=>[vp p.2]))
 (cD:∀p∈l,M.cell p.2 2=some (.string p.1)) (hlen:l.length<=2^40):az prog 104 [vp nb,.string name,.bool false] w0 fun r w'=>(∃z,r= .int .i64 z/\QT l name z)/\Fr [] w0 w':=by
 have h:=SH.start hM;refine aL mixed func104 U0 ?_;refine aI (fun h0=> ?_) (fun aT=> ?_)
 .exact⟨⟨_,rfl,.inr ⟨rfl,.inl h0⟩⟩,h.fr⟩
 refine aP h h9 ?_;refine bN (X:=Nat) (fun k=>[(0,vp nb),(1,.string name),(36,.slice a l.length cap),(37,.int .i64 (l.length:Int)),(38,.int .i64 (k:Int))])
  (fun k w=>k<=l.length/\(∀p∈l.take k,p.1≠name)/\SH w0 M [] M [] w) (fun k=>l.length-k) 0 ⟨rfl,rfl,rfl,rfl,rfl,tV⟩ ⟨qae _,by simp,h⟩ ?_
 clear h;rintro k aK w N ⟨hk,bz,h⟩ hN;refine aI (fun aG=> ?_) (fun aY=> ?_);rotate_left 1
 .obtain rfl:k=l.length:=by omega
  rw[qay]at bz;exact⟨⟨_,rfl,.inr ⟨rfl,.inr bz⟩⟩,h.fr⟩
 have ad:k<l.length:=by omega
 obtain⟨b2,o2,gD,rfl,cR,ct,qm⟩:=cE k [vp l[k].2] (by simp[ad]);cases qm;have hn:=cD l[k] (by simp);refine aJ (k) ?_;refine aP h (by simpa using ct 0 _ rfl) ?_;refine aP h hn ?_;refine aI (fun he=> ?_) (fun I3=> ?_)
 .exact⟨⟨_,rfl,.inl ⟨k,l[k],rfl,by simp[ad],he,aT⟩⟩,h.fr⟩
 refine aA (((k+1:Nat):Int)) ?_;refine hN (k+1) _ _ ⟨rfl,rfl,rfl,rfl,rfl,tV⟩ ⟨ad,fun p hp=> ?_,h⟩ (by omega);rw[<-dN ad]at hp;rcases qah.1 hp with hp|hp
 .exact bz p hp
 simp only[qac]at hp;subst hp;exact I3
end
section
variable {b st nb pb bb c:Nat}{t:Ty}{cs:List Value}{L':List aB}{w0:World}{M N:Mem}{pk:Int->Nat}{p n:Int}{ptr:Bool}{W:Wd}{a:Option Addr}
section
variable {u:World}{M0:Mem}{D:List Nat}{M:Mem}{L:List aB}{w:World}{P:Program}{S:List Nat}
theorem zeB{f:FuncId}{args:List Value}{R:Value->Prop}{G:Value->World->Prop}{t:TypeId}{cs':List Value}(h:SH u M0 D M L w)(c:az P f args w fun r w'=>R r/\Fr [b] w w'/\a_ w' b t cs')
 (k:∀r w',R r->SH u M0 D M L' w'->G r w') (hu:Up L (.ah b t cs) (.ah b t cs') L':=by repeat(first|exact Up.here|apply Up.there)):az P f args w G:=
 c.mono fun r w' ⟨hr,hf,hb⟩=>k r w' hr (h.rS hu hf hb)
theorem SH.DH{v:Value}{k:Nat}{T:TypeId}{css:List (List Value)}(h:SH u M0 D M L w)(hp:Pk L (.own v k T css) L':=by repeat(first|exact Pk.here|apply Pk.there)):∃a cap,v= .slice a css.length cap/\css.length<=cap/\bQ (Wm w) k gz a css:=by
 have ho:eG w k T v css:=h.ok _ hp.mem;rcases ho.open_ with⟨rfl,rfl⟩|⟨g,cap,rfl,hc,hg,hr⟩
 .exact⟨none,0,rfl,qad _,bQ.nil _ _ _ _⟩
 refine⟨_,cap,rfl,hc,fun i x hi=>⟨g,0,x,rfl,ho.len x (qax hi),fun j v hj=> ?_,rfl⟩⟩;have:=hr (i*k+j) v (yn ho.len hi j v hj);show w.cell? _=_
 rwa [show 0+i*k+j=0+(i*k+j) by omega]
end
theorem zfF{w:World}(h:a_ w b 218 cs)(h3:cs[3]? =some (.int .i32 0))(h5:cs[5]? =some (.int .u32 (st:Int)))(aU:st=0\/st=7):
 az prog 103 [vp b] w fun r w'=>r=vp b/\Fr [b] w w'/\a_ w' b 218 (cs.set 5 (.int .u32 7)):=by
 rcases aU with rfl|rfl
 .exact uC func103 (c:=_) rfl (by kernel_rfl) ((zfE h h3 h5).mono fun e w' ⟨h1,h2,h3⟩=>⟨_,h1,rfl,h2,h3⟩)
 refine aL mixed func103 Mz ?_;refine az.mono (zD (s:=7) (m:=3) (x:=true) (h.ld 5 h5) (by decide)) ?_;rintro _ w' ⟨rfl,rfl⟩;have hl:=(qab.1 h5);refine⟨rfl,(Fr.refl _).nil,h.congr ?_⟩;obtain⟨nB,cR⟩:=hl;rw[show(Value.int .u32 7)=cs[5]from cR.symm,List.set_getElem_self]
theorem Hb:h_ prog 180 180 128 1 8=true:=by kernel_rfl
theorem Un{ob fb:Nat}{x al fr un vs vm fsg:Value}{l:List (ByteArray×Nat)}{name:ByteArray}(aU:st=0\/st=7)(eT:M.cell ob 1=some (vp pb))(iO:∃s x,Bk M pb [.string s,x])(jD:M.cell fb 1=some (vp pb))(iu:M.cell fb 2=some (.string name))
 (cD:∀p∈l,M.cell p.2 2=some (.string p.1)) (bz:∀p∈l,p.1≠name) (hn_:name≠⟨#[95]⟩) (hlen:l.length<=2^40)
 (h:SH w0 M (cp [.ah nb 218 [.pointer none,vp ob,al,.int .i32 0,.int .u32 0,.int .u32 (st:Int),fr,un,vs,vm],.own vm 1 128 (l.map fun p=>[vp p.2])]) M [.ah nb 218 [.pointer none,vp ob,al,.int .i32 0,.int .u32 0,.int .u32 (st:Int),fr,un,vs,vm],.own vm 1 128 (l.map fun p=>[vp p.2])] w0):
 az prog 49 [vp nb,vp fb] w0 fun r w'=>∃M' A',(∃BN,r= .tuple #[]/\M'=M/\A'=[.ah nb 218 [.pointer none,vp ob,al,.int .i32 0,.int .u32 0,.int .u32 7,fr,un,vs,BN],.own BN 1 128 ((l++[(name,fb)]).map fun p=>[vp p.2])])/\SH w0 M (cp [.ah nb 218 [.pointer none,vp ob,al,.int .i32 0,.int .u32 0,.int .u32 (st:Int),fr,un,vs,vm],.own vm 1 128 (l.map fun p=>[vp p.2])]) M' A' w':=by
 obtain⟨ps,px,iO⟩:=iO;generalize hD:cp [.ah nb 218 [.pointer none,vp ob,al,.int .i32 0,.int .u32 0,.int .u32 (st:Int),fr,un,vs,vm],.own vm 1 128 (l.map fun p=>[vp p.2])]=D at h⊢;refine aL mixed func49 c49 ?_;refine b_ [] h ?_;clear h;intro w h;refine bI h ?_;refine cd h eT ?_;refine cd h jD ?_;refine aI ?_ trivial;refine dg h (Ll h.le iO iO) ?_;clear h;rintro _ w rfl h;rw[show decide (ps=ps)=true from qaH rfl];refine aI ?_ trivial;refine dg h (az.pl Hd) ?_;clear h;rintro _ w rfl h;refine zeB h (zfF (st:=st) (h.fK .here) rfl rfl aU) ?_;clear h;rintro _ w rfl h;refine aP h iu ?_;obtain⟨a,cap,rfl,wQ,cE⟩:=h.DH;rw[qat]at wQ;have J7:(l.map fun p:ByteArray×Nat=>[vp p.2]).length=l.length:=qat _;rw[J7]at h;refine s_call h (QZ (l:=l) (name:=name) (Mem.Le.refl (Wm w)) ((h.fK .here).ld 9 rfl) cE (fun p hp=>h.le.cell _ _ _ (cD p hp)) hlen) ?_;clear h;rintro _ w ⟨z,rfl,hz⟩ h;have t_:z= -1:=by
  rcases hz with⟨i,p,_,hp,kE,_⟩|⟨hz,_⟩
  .exact absurd kE (bz p (qax hp))
  exact hz
 subst t_;refine aI (fun _=> ?_) (fun hx=>absurd hx (by omega));refine ak h ?_;refine au (cs:=[vp fb]) h ?_;clear h;intro z_ w h;refine gJ h Hb h.df (de (cO (vs:=[vp fb]) rfl)) ?_;clear h;intro v' w h;have kn:=h.lU (v:=v');refine eQ h ?_ (hv:=kn);clear h;intro w h;exact⟨M,_,⟨v',rfl,rfl,by rw[qaq]⟩,h.aF⟩
structure wu(M:Mem)(pk:Int->Nat)(pb:Nat):Prop where
 c:∀p,cN p->M.cell pb p.toNat=some (vp (pk p))
 b:∀p,cN p->∃x,Bk M (pk p) [.string (dY p),x]
theorem wu.le(hl:M.Le N)(h:wu M pk pb):wu N pk pb:=⟨fun p hp=>hl.cell _ _ _ (h.c p hp),fun p hp=>by obtain⟨x,hx⟩:=h.b p hp;exact⟨x,hx.le hl⟩⟩
theorem zc7(hM:M.Le (Wm w0))(e_:w0.cell? ⟨bb,0,none⟩=some (.slice (some ⟨pb,0,none⟩) 2 2))(dW:wu M pk pb)(hp:cN p)(hn:bL n):
 az prog 47 [vp bb,.int .i64 p,.agg [.int .i64 n,.bool ptr].toArray,.nilIface] w0 fun r w'=>∃M' A',(∃fb sb,r=vp fb/\Bk M' fb [.int .i64 0,vp (pk p),.string (bZ n),.iface 235 (vp sb),.bool false,.bool false]/\w0.heap.size<=fb/\A'=[.ah sb 291 [.pointer none,.pointer none,.pointer none,.pointer none,.bool false]])/\SH w0 M [] M' A' w':=by
 have h:=SH.start hM;refine aL mixed func47 ME ?_;refine au (cs:=[.int .i64 n,.bool ptr]) h ?_;clear h;intro b6 w h;refine aI trivial ?_;refine b_ [] h ?_;clear h;intro w h;refine qai _ (aI ⟨tB e_ h.fr (by simp),qbI⟩ ?_);refine aJ p.toNat ?_ (by rcases hp with rfl|rfl<;>decide) (by rcases hp with rfl|rfl<;>rfl);refine cd h (by simpa using dW.c p hp) ?_;refine bI h ?_;refine aI ?_ trivial;refine dg h (sN hn) ?_;clear h;rintro _ w rfl h;refine aI ?_ trivial;refine xG h KN ?_;clear h;intro sb w h;refine aI ?_ trivial;refine xG h KM ?_;clear h;intro fb w h;have uR:w0.heap.size<=fb:=by have:=h.iG _ qal fb (by simp[aB.bX]);simpa using this
 obtain⟨M1,bG,dQ,h⟩:=h.dA fb;exact⟨M1,_,⟨fb,sb,rfl,dQ,uR,rfl⟩,h.aF⟩
def fY(M:Mem)(pk:Int->Nat)(p n:Int)(ptr:Bool)(b:Nat):Prop:=∃sg rb rt k,Bk M b [.int .i64 0,vp (pk p),.string (bZ n),.iface 235 (vp sg),.bool false,.bool false]/\Bk M sg [vp rb,.pointer none,.pointer none,.pointer none,.bool false]/\Bk M rb [.int .i64 0,vp (pk p),.string ⟨#[]⟩,rt,.int .u8 k,.bool false]/\
 ((ptr=true/\∃pb x,rt= .iface 221 (vp pb)/\Bk M pb [.iface 120 x])\/(ptr=false/\∃t x,rt= .iface t x/\(t=120\/t=134)))
theorem fY.le(hl:M.Le N)(h:fY M pk p n ptr b):fY N pk p n ptr b:=by
 obtain⟨sg,rb,rt,k,h1,h2,h3,h4⟩:=h;refine⟨sg,rb,rt,k,h1.le hl,h2.le hl,h3.le hl,?_⟩;rcases h4 with⟨hp,pb,x,hr,hb⟩|h4
 .exact .inl ⟨hp,pb,x,hr,hb.le hl⟩
 exact .inr h4
theorem zc6(hM:M.Le (Wm w0))(e_:w0.cell? ⟨bb,0,none⟩=some (.slice (some ⟨pb,0,none⟩) 2 2))(dW:wu M pk pb)(hp:cN p)(hn:bL n):
 az prog 47 [vp bb,.int .i64 p,.agg [.int .i64 n,.bool ptr].toArray,.iface 120 (vp nb)] w0 fun r w'=>∃M' A',(∃fb,r=vp fb/\fY M' pk p n ptr fb/\w0.heap.size<=fb/\A'=[])/\SH w0 M [] M' A' w':=by
 have h:=SH.start hM;refine aL mixed func47 ME ?_;refine au (cs:=[.int .i64 n,.bool ptr]) h ?_;clear h;intro b6 w h;cases ptr with
 |true=>
  refine ak h ?_;refine sX h Rk ?_;clear h;intro qb w h;refine qai _ (aI (tB e_ h.fr (by simp)) ?_);refine aJ p.toNat ?_ (by rcases hp with rfl|rfl<;>decide) (by rcases hp with rfl|rfl<;>rfl);refine aP h (by simpa using dW.c p hp) ?_;refine sX h Rj ?_;clear h;intro rb w h;refine b_ [] h ?_;clear h;intro w h;refine qai _ (aI ⟨tB e_ h.fr (by simp),qbI⟩ ?_);refine aJ p.toNat ?_ (by rcases hp with rfl|rfl<;>decide) (by rcases hp with rfl|rfl<;>rfl);refine cd h (by simpa using dW.c p hp) ?_;refine bI h ?_;refine aI ?_ trivial;refine dg h (sN hn) ?_;clear h;rintro _ w rfl h;refine aI ?_ trivial;refine xG h KN ?_;clear h;intro sb w h;refine aI ?_ trivial;refine xG h KM ?_;clear h;intro fb w h;have uR:w0.heap.size<=fb:=by have:=h.iG _ qal fb (by simp[aB.bX]);simpa using this
  obtain⟨M1,bG,dQ,h⟩:=h.dA fb;obtain⟨M2,aQ,sK,h⟩:=h.dA sb;obtain⟨M3,bT,yX,h⟩:=h.dA rb;obtain⟨M4,fj,hqb,h⟩:=h.dA qb;exact⟨M4,[],⟨fb,rfl,⟨sb,rb,_,_,dQ.le (aQ.trans (bT.trans fj)),sK.le (bT.trans fj),yX.le fj,.inl ⟨rfl,qb,_,rfl,hqb⟩⟩,uR,rfl⟩,h.aF⟩
 |false=>
  refine ak h ?_;refine qai _ (aI (tB e_ h.fr (by simp)) ?_);refine aJ p.toNat ?_ (by rcases hp with rfl|rfl<;>decide) (by rcases hp with rfl|rfl<;>rfl);refine aP h (by simpa using dW.c p hp) ?_;refine sX h Rj ?_;clear h;intro rb w h;refine b_ [] h ?_;clear h;intro w h;refine qai _ (aI ⟨tB e_ h.fr (by simp),qbI⟩ ?_);refine aJ p.toNat ?_ (by rcases hp with rfl|rfl<;>decide) (by rcases hp with rfl|rfl<;>rfl);refine cd h (by simpa using dW.c p hp) ?_;refine bI h ?_;refine aI ?_ trivial;refine dg h (sN hn) ?_;clear h;rintro _ w rfl h;refine aI ?_ trivial;refine xG h KN ?_;clear h;intro sb w h;refine aI ?_ trivial;refine xG h KM ?_;clear h;intro fb w h;have uR:w0.heap.size<=fb:=by have:=h.iG _ qal fb (by simp[aB.bX]);simpa using this
  obtain⟨M1,bG,dQ,h⟩:=h.dA fb;obtain⟨M2,aQ,sK,h⟩:=h.dA sb;obtain⟨M3,bT,yX,h⟩:=h.dA rb;exact⟨M3,[],⟨fb,rfl,⟨sb,rb,_,_,dQ.le (aQ.trans bT),sK.le bT,yX,.inr ⟨rfl,_,_,rfl,.inl rfl⟩⟩,uR,rfl⟩,h.aF⟩
theorem Tm(hM:M.Le (Wm w0))(cA:eK M W a c)(ht:cC M t cs)(hk:t.kind=1)(hn:W.has t.num)(cD:bL (W.at t.num).name):
 az prog 93 [bK W a c,.agg cs.toArray] w0 fun r w'=>r= .string (bZ (W.at t.num).name)/\Fr [] w0 w':=by
 obtain⟨a1,c1,a2,c2,a3,c3,a4,c4,rfl,_⟩:=ht.lit;have h:=SH.start hM;refine aL mixed func93 MG ?_;refine au (cs:=(bh t a1 c1 a2 c2 a3 c3 a4 c4)) h ?_;clear h;intro b3 w h;refine ak h ?_;refine aI (fun hx=>absurd (hk.symm.trans hx) (by decide)) (fun _=> ?_);refine ak h ?_;obtain⟨b2,o2,gD,rfl,cR,ct,gG⟩:=cA.el.at hn.2;rw[Wd.p7 hn]at gG;obtain⟨x1,d1,x2,d2,x3,d3,x4,d4,x5,d5,rfl,_⟩:=gG.lit;refine aJ t.num.toNat ?_ hn.2 (Wd.ji hn);refine aP h (ct 0 _ rfl) ?_;refine s_call h (sN cD) ?_;clear h;rintro _ w rfl h;exact⟨rfl,h.fr⟩
theorem zfz(hM:M.Le (Wm w0))(cA:eK M W a c)(ht:cC M t cs)(f:Int)(hk:t.kind=1\/(t.kind=2/\∃e,t.elem=[e]/\e.kind=1))(cQ:Ok W t)(cD:∀d∈W,bL d.name):
 az prog 93 [bK W a c,.agg cs.toArray] w0 fun r w'=>r= .string (bZ (W.fieldName (f,true,t)))/\Fr [] w0 w':=by
 rcases hk with hk|⟨hk,e,he,sw⟩
 .have:W.fieldName (f,true,t)=(W.at t.num).name:=by unfold Wd.fieldName;rw[if_neg (by simp),if_neg (by rw[hk];decide)]
  rw[this];exact Tm hM cA ht hk (cQ.num hk) (cD _ (W.mem _ (cQ.num hk)))
 have uQ:Ok W e:=cQ.elem e (by rw[he];simp);have:W.fieldName (f,true,t)=(W.at e.num).name:=by unfold Wd.fieldName;rw[if_neg (by simp),if_pos hk,he];rfl
 rw[this];obtain⟨a1,c1,a2,c2,a3,c3,a4,c4,rfl,cE,_⟩:=ht.lit;have h:=SH.start hM;refine aL mixed func93 MG ?_;refine au (cs:=(bh t a1 c1 a2 c2 a3 c3 a4 c4)) h ?_;clear h;intro b3 w h;refine ak h ?_;refine aI (fun _=> ?_) (fun hx=>absurd hk hx);refine ak h ?_;have h0:0<t.elem.length:=by rw[he];simp
 obtain⟨b2,o2,gD,rfl,cR,ct,gG⟩:=cE.at h0;have wU:t.elem[0]=e:=by simp[he]
 rw[wU]at gG;refine aJ 0 ?_ h0;refine cG h ct ?_ cR;refine s_call h (Tm h.le cA gG sw (uQ.num sw) (cD _ (W.mem _ (uQ.num sw)))) ?_;clear h;rintro _ w rfl h;exact⟨rfl,h.fr⟩
end
section
open Go.MapKept
variable {P:Program}{w w0:World}{eW kt et:TypeId}{d:TypeDesc}{key z x:Value}{i:TypeInfo}{ok:Bool}{l:List (ByteArray×Value)}{M:Mem}{pb:Nat}{p n:Int}
theorem zes(hm:P.underlying eW=some (.map kt et))(hd:P.underlying kt=some d)(hi:P.info? et=some i)(hz:i.zero=some z)(hk:IsKey d key):
 (Instr.lookup eW (.map none) key ok).run P w= .ok (if ok then .tuple #[z,.bool false]else z) w:=by
 have zh:=xI (P:=P) (w:=w) hi hz;have hf:Instr.findNow d key [] 0=some none:=rfl;simp[Instr.lookup,qas hm,run_checkKey hd hk,run_findKey hd hf,zh]
theorem BB{x kx:Operand}{ty:TypeId}{e:Env}{K:Value->World->Prop}(hx:ev e x= .map none)(ou:ev e kx=key)
 (hm:P.underlying eW=some (.map kt et)) (hd:P.underlying kt=some d) (hi:P.info? et=some i) (hz:i.zero=some z) (hk:IsKey d key) (k:K (if ok then .tuple #[z,.bool false]else z) w):bB P (.gen (.lookup eW x kx ok) ty) e w K:=
 .inl ⟨_,w,by simp[execOp,hx,ou,zes (ok:=ok) hm hd hi hz hk],k⟩
structure KV(es:Array MapEntry)(l:List (ByteArray×Value)):Prop where
 key:∀p∈bt es,IsKey .string p.1
 nd:((bt es).map (·.1)).Nodup
 mem:∀id v,(Value.string id,v)∈bt es↔(id,v)∈l
theorem KV.nil:KV #[] []:=⟨by simp[bt],by simp[bt],by simp[bt]⟩
theorem IsKey.str{k:Value}(h:IsKey .string k):∃s,k= .string s:=by
 cases k<;>first|exact⟨_,rfl⟩|exact h.elim
theorem KV.add{es bP:Array MapEntry}{id:ByteArray}{v:Value}(h:KV es l)(bz:∀p∈l,p.1≠id)(hu:mM (bt es) (.string id) v (bt bP)):KV bP ((id,v)::l):=by
 refine⟨fun p hp=> ?_,hu.nd h.nd,fun i x=> ?_⟩
 .obtain⟨k,x⟩:=p;rcases(hu.mem k x).1 hp with⟨rfl,_⟩|⟨_,hm⟩
  .trivial
  exact h.key _ hm
 rw[hu.mem,qan,h.mem];constructor
 .rintro(⟨h1,h2⟩|⟨_,h2⟩)
  .left;simp at h1;rw[h1,h2]
  exact .inr h2
 rintro(h1|h1)
 .simp only[qby]at h1;left;exact⟨by rw[h1.1],h1.2⟩
 right;exact⟨fun hx=>bz _ h1 (by simpa using hx),h1⟩
def oS(sb:Nat):Option (Nat×Array MapEntry)->List aB
 |none=>[.ah sb 287 [.map none]]
 |some (mb,es)=>[.ah sb 287 [.map (some mb)],.map mb es]
def Et:Option (Nat×Array MapEntry)->List (ByteArray×Value)->Prop
 |none,l=>l=[]
 |some (_,es),l=>KV es l
theorem GI:prog.underlying 287=some (.map 9 70):=by kernel_rfl
theorem GJ:prog.underlying 9=some .string:=by kernel_rfl
theorem zcq:∃i,prog.info? 70=some i/\i.zero=some .nilIface:=Bc (by kernel_rfl)
theorem Qr{D:List Nat}{sb ob:Nat}{t:TypeId}{mo:Option (Nat×Array MapEntry)}(hm:fZ prog t (vp ob) "Id" 70 (vp ob))(hT:fA M)(h1:M.cell ob 1=some (vp pb))(h2:M.cell ob 2=some (.string (bZ n)))(hb:Bk M pb [.string (dY p),x])(hp:cN p)(hn:bL n)
 (hv:∀q∈l,∃t' b',q.2= .iface t' (vp b')) (hr:Et mo l) (h:SH w0 M D M (oS sb mo) w0):
 az prog 126 [vp sb,.iface t (vp ob)] w0 fun r w'=>∃M' A',(M'=M/\((∃q∈l,q.1=aM p n/\r=q.2/\A'=oS sb mo)\/((∀q∈l,q.1≠aM p n)/\r= .nilIface/\∃dH,Et dH ((aM p n,.iface t (vp ob))::l)/\A'=oS sb dH)))/\SH w0 M D M' A' w':=by
 obtain⟨i70,OT,P6⟩:=zcq;refine aL mixed func126 Vd ?_;refine⟨70,vp ob,hm,?_⟩;refine s_call h (RK hT h.le h1 h2 hb hp hn) ?_;clear h;rintro _ w rfl h;cases mo with
 |none=>
  obtain rfl:l=[]:=hr;unfold oS at h;refine ak h ?_;refine BB (key:= .string (aM p n)) rfl rfl GI GJ OT P6 trivial ?_;refine aI trivial ?_;refine ak h ?_;refine qG h ?_;clear h;intro mb w h;refine eQ h ?_;clear h;intro w h;refine ak h ?_;refine jN (key:= .string (aM p n)) (val:= .iface t (vp ob)) h rfl rfl rfl GI GJ KV.nil.key trivial KV.nil.nd ?_;clear h;intro bP w' hu h;exact⟨M,_,⟨rfl,.inr ⟨by simp,rfl,some (mb,bP),KV.nil.add (by simp) hu,rfl⟩⟩,by unfold oS;exact h.aF⟩
 |some me=>
  obtain⟨mb,es⟩:=me;have AK:KV es l:=hr;unfold oS at h;refine ak h ?_;refine vX (key:= .string (aM p n)) h rfl rfl GI GJ OT P6 AK.key trivial (fun v iz=> ?_) (fun bz=> ?_)
  .have ov:=(AK.mem _ _).1 iz;obtain⟨t',b',hq⟩:=hv _ ov;simp only at hq;subst hq;exact⟨M,_,⟨rfl,.inl ⟨_,ov,rfl,rfl,rfl⟩⟩,h⟩
  refine aI trivial ?_;refine ak h ?_;refine ak h ?_;have Po:∀q∈l,q.1≠aM p n:=fun q hq he=>bz (.string q.1,q.2) ((AK.mem _ _).2 hq) (by rw[he]);refine jN (key:= .string (aM p n)) (val:= .iface t (vp ob)) h rfl rfl rfl GI GJ AK.key trivial AK.nd ?_;clear h;intro bP w' hu h;exact⟨M,_,⟨rfl,.inr ⟨Po,rfl,some (mb,bP),AK.add Po hu,rfl⟩⟩,by unfold oS;exact h.aF⟩
theorem FT{m:Int}(hp:cN p)(hn:bL n)(hm:bL m)(h:aM p n=aM p m):n=m:=by
 have key:∀q:Fin 2,∀i j:Fin 16,aM ((q.val:Nat):Int) ((i.val:Nat):Int)=aM ((q.val:Nat):Int) ((j.val:Nat):Int)->i=j:=by decide
 have h1:=hn.1;have h2:=hn.2;have h3:=hm.1;have h4:=hm.2;have e1:n=((n.toNat:Nat):Int):=by omega
 have e2:m=((m.toNat:Nat):Int):=by omega
 have ea:∃q:Fin 2,p=((q.val:Nat):Int):=by
  rcases hp with rfl|rfl
  .exact⟨0,rfl⟩
  exact⟨1,rfl⟩
 obtain⟨q,rfl⟩:=ea;have:=key q ⟨n.toNat,by omega⟩ ⟨m.toNat,by omega⟩ (by rw[<-e1,<-e2];exact h);have:=qaL Fin.val this;simp only at this;omega
theorem Rd(hn:bL n):bZ n=⟨#[95]⟩↔n=8:=by
 have key:∀i:Fin 16,bZ ((i.val:Nat):Int)=⟨#[95]⟩↔i.val=8:=by decide
 have h1:=hn.1;have h2:=hn.2;have e1:n=((n.toNat:Nat):Int):=by omega
 have:=key ⟨n.toNat,by omega⟩;simp only at this;rw[<-e1]at this;rw[this];omega
theorem zcZ(e:Env)(w:World):(execOp (ev e) ⟨none,.makeSlice 169 (C (.int .i64 0)) (C (.int .i64 0)),169, "",#[],none⟩).run prog w= .ok (.value (.slice (some ⟨w.heap.size,0,none⟩) 0 0)) (w.alloc (.cells #[] 172)):=by kernel_rfl
theorem zdx{va:Value}{fs:List (Nat×Int)}(hT:fA M)(hM:M.Le (Wm w0))(hb:Bk M pb [.string (dY p),x])(hp:cN p)
 (tK:∀q∈fs,M.cell q.1 1=some (vp pb)/\M.cell q.1 2=some (.string (bZ q.2))/\bL q.2) (cu:Sl M 1 gz va (fs.map fun q=>[vp q.1]))
 (hd:∀j q,fs[j]? =some q->q.2≠8->q.2∉(fs.take j).map (·.2)) (hlen:fs.length<=2^40):
 az prog 95 [va,.slice none 0 0] w0 fun r w'=>∃M' A',(∃zE GP,r=vp zE/\Sl M' 1 gz GP (fs.map fun q=>[vp q.1])/\A'=[.ah zE 171 [GP,.slice none 0 0]])/\SH w0 M [] M' A' w':=by
 obtain⟨a,c,rfl,hc,cE⟩:=cu;rw[qat]at hc;have h:=SH.start hM;refine aL mixed func95 W1 ?_;refine au (cs:=[.map none]) h ?_;clear h;intro sb w h;refine fB (X:=Nat×Option (Nat×Array MapEntry)×List (ByteArray×Value)) (Y:=Unit) 0 (fun y=>[(0,.slice a (fs.map fun q=>[vp q.1]).length c),(1,.slice none 0 0),(5,vp sb),(9,.slice a (fs.map fun q=>[vp q.1]).length c),(10,.int .i64 ((fs.map fun q=>[vp q.1]).length:Int)),(11,.int .i64 (y.1:Int))])
  (fun y w=>y.1<=fs.length/\Et y.2.1 y.2.2/\(∀q∈y.2.2,(∃n∈(fs.take y.1).map (·.2),q.1=aM p n)/\∃t' b',q.2= .iface t' (vp b'))/\SH w0 M [] M (oS sb y.2.1) w) (fun y=>fs.length-y.1)
  (fun _=>[(0,.slice a (fs.map fun q=>[vp q.1]).length c),(1,.slice none 0 0)]) (fun _ w=>SH w0 M [] M [] w) (0,none,[]) ⟨rfl,rfl,rfl,rfl,rfl,rfl,tV⟩ ⟨qae _,rfl,by simp,h⟩ ?_ ?_
 .clear h;rintro⟨k,mo,l⟩ aK w N Z ⟨hk,hr,hl,h⟩ hN hZ;simp only at hk hr hl h;refine aI (fun aG=> ?_) (fun aY=> ?_);rotate_left 1
  .exact hZ () _ _ ⟨rfl,rfl,tV⟩ (h.sub (by simp) .nil)
  rw[qat]at aG;have ad:k<fs.length:=by omega
  obtain⟨b2,o2,gD,rfl,cR,ct,qm⟩:=cE k [vp fs[k].1] (by simp[ad]);cases qm;obtain⟨f1,f2,f3⟩:=tK fs[k] (by simp);have yE:=hd k fs[k] (by simp[ad]);have iy:∀n,n∈(fs.take k).map (·.2)->n∈(fs.take (k+1)).map (·.2):=fun n hn=>by rw[<-dN ad,qaq];exact qaA _ hn
  refine aJ k ?_ (by rw[qat];exact ad);refine aP h (by simpa using ct 0 _ rfl) ?_;refine aP h f2 ?_;refine aI (fun he=> ?_) (fun aT=> ?_)
  .refine aA (((k+1:Nat):Int)) ?_;exact hN (k+1,mo,l) _ _ ⟨rfl,rfl,rfl,rfl,rfl,rfl,tV⟩ ⟨ad,hr,fun q hq=>⟨by obtain⟨n,h1,h2⟩:=(hl q hq).1;exact⟨n,iy n h1,h2⟩,(hl q hq).2⟩,h⟩ (by simp only;omega)
  have yS:fs[k].2≠8:=fun hx=>aT ((Rd f3).2 hx);have cD:∀n∈(fs.take k).map (·.2),bL n:=fun n hn=>by
   obtain⟨q,hq,rfl⟩:=qaj.1 hn;exact(tK q (List.mem_of_mem_take hq)).2.2
  refine du (oS sb mo) [] (by rw[qaC];exact h) (fun h=>Qr (zc4 _) hT f1 f2 hb hp f3 (fun q hq=>(hl q hq).2) hr h) ?_;clear h;rintro r M' A' w' ⟨rfl,zaN⟩ _ _ h;rw[qaC]at h;rcases zaN with⟨q,hq,tW,_⟩|⟨_,rfl,dH,JG,rfl⟩
  .obtain⟨n,hn,I3⟩:=(hl q hq).1;have:=FT hp f3 (cD n hn) (tW.symm.trans I3);exact absurd (this▸hn) (yE yS)
  refine aI trivial ?_;refine aA (((k+1:Nat):Int)) ?_;refine hN (k+1,dH,_) _ _ ⟨rfl,rfl,rfl,rfl,rfl,rfl,tV⟩ ⟨ad,JG,fun q hq=> ?_,h⟩ (by simp only;omega);rcases qan.1 hq with rfl|hq
  .exact⟨⟨_,by rw[<-dN ad,qaq];simp,rfl⟩,_,_,rfl⟩
  exact⟨by obtain⟨n,h1,h2⟩:=(hl q hq).1;exact⟨n,iy n h1,h2⟩,(hl q hq).2⟩
 clear h;rintro _ aK w h;refine aI (fun hx=>by simp at hx;omega) (fun _=> ?_);refine au (cs:=[.slice a (fs.map fun q=>[vp q.1]).length c,.slice none 0 0]) h ?_;clear h;intro zE w h;refine aL mixed func127 Ve ?_;refine ak h ?_;cases a with
 |none=>
  have h0:fs=[]:=by
   cases fs with
   |nil=>rfl
   |cons q fs=>obtain⟨b,o,_,h1,_⟩:=cE 0 [vp q.1] rfl;cases h1
  subst h0;refine .inl ⟨_,_,zcZ _ _,?_⟩;have h:=h.lu (Fr.alloc w (.cells #[] 172));refine eQ (v:= .slice (some ⟨w.heap.size,0,none⟩) 0 0) h ?_;clear h;intro w h;exact⟨M,_,⟨zE,_,rfl,⟨_,0,rfl,qad _,bQ.nil _ _ _ _⟩,rfl⟩,h⟩
 |some q=>
  exact⟨M,_,⟨zE,_,rfl,⟨_,c,rfl,by rw[qat];exact hc,cE⟩,rfl⟩,h⟩
end
section
variable {W:Wd}{s:Sp}
def dV(W:Wd):Prop:=∀i,W.has i->(W.at i).of.kind=1->i<(W.at i).of.num/\W.has (W.at i).of.num
theorem ej.later{t:Ty}(h:ej W t):dV W:=fun i hi hk=>by
 obtain⟨h0,hl⟩:=hi;have hf:=h.form i.toNat hl;rw[show((i.toNat:Nat):Int)=i by omega]at hf;cases hf with
 |named _ _ hn hd=>
  rcases hd with hd|⟨hd,_⟩
  .exact⟨hd,hn⟩
  cases hd
 |basic ad=>rw[hk]at ad;cases ad
 |to ad=>rw[hk]at ad;rcases ad with h|h<;>cases h
 |struct ad=>rw[hk]at ad;cases ad
 |iface ad=>rw[hk]at ad;cases ad
theorem uo(W:Wd)(i:Int):(W.spot i).of=(W.at i).of:=rfl
theorem R7{W:Wd}(hL:dV W):∀(m:Nat) (s:Sp),(s.of.kind=1->W.has s.of.num/\W.length-s.of.num.toNat<m)->∀n,m<=n->Wd.qF W n s=Wd.qF W m s
 |0,s,hs,n,_=>by
  have h0:s.of.kind≠1:=fun h=>by have:=(hs h).2;omega
  cases n with
  |zero=>rfl
  |succ n=>rw[vV,if_pos (Or.inl h0)];rfl
 |m+1,s,hs,n,hn=>by
  obtain⟨n,rfl⟩:∃k,n=k+1:=⟨n-1,by omega⟩;rw[vV,vV];split
  .rfl
  rename_i h;simp only[ne_eq,not_or,qbC]at h;obtain⟨hh,hm⟩:=hs h.1;refine R7 hL m _ (fun h2=> ?_) n (by omega);rw[uo]at h2⊢;obtain⟨h3,h4⟩:=hL _ hh h2;have:=hh.1;have:=hh.2;have:=h4.2;exact⟨h4,by omega⟩
theorem Tr{W:Wd}(hL:dV W):∀(m:Nat) (s:Sp),(s.of.kind=1->W.has s.of.num/\W.length-s.of.num.toNat<m)->∀n,m<=n->Wd.ja W n s=Wd.ja W m s
 |0,s,hs,n,_=>by
  have h0:s.of.kind≠1:=fun h=>by have:=(hs h).2;omega
  cases n with
  |zero=>rfl
  |succ n=>rw[rU,if_pos h0];rfl
 |m+1,s,hs,n,hn=>by
  obtain⟨n,rfl⟩:∃k,n=k+1:=⟨n-1,by omega⟩;rw[rU,rU];split
  .rfl
  rename_i h;simp only[ne_eq,qbC]at h;obtain⟨hh,hm⟩:=hs h;refine Tr hL m _ (fun h2=> ?_) n (by omega);rw[uo]at h2⊢;obtain⟨h3,h4⟩:=hL _ hh h2;have:=hh.1;have:=hh.2;have:=h4.2;exact⟨h4,by omega⟩
theorem eu(h:s.of.kind≠1\/(W.at s.of.num).bU=false):W.plain s=s:=by
 unfold Wd.plain;rw[vV,if_pos h]
theorem fO(h:s.of.kind≠1):W.under s=s:=by
 unfold Wd.under;rw[rU,if_pos h]
theorem pQ(hL:dV W)(hk:s.of.kind=1)(hh:W.has s.of.num)(ha:(W.at s.of.num).bU=true):W.plain s=W.plain (W.spot s.of.num):=by
 have hl:=hh.2;show Wd.qF W (W.length+1) s=Wd.qF W (W.length+1) _;rw[vV,if_neg (by simp[hk,ha])];refine(R7 hL W.length _ (fun h2=> ?_) (W.length+1) (qcf _)).symm;rw[uo]at h2⊢;obtain⟨h3,h4⟩:=hL _ hh h2;have:=hh.1;have:=h4.2;exact⟨h4,by omega⟩
theorem kM(hL:dV W)(hk:s.of.kind=1)(hh:W.has s.of.num):W.under s=W.under (W.spot s.of.num):=by
 have hl:=hh.2;show Wd.ja W (W.length+1) s=Wd.ja W (W.length+1) _;rw[rU,if_neg (by simp[hk])];refine(Tr hL W.length _ (fun h2=> ?_) (W.length+1) (qcf _)).symm;rw[uo]at h2⊢;obtain⟨h3,h4⟩:=hL _ hh h2;have:=hh.1;have:=h4.2;exact⟨h4,by omega⟩
theorem zl(hL:dV W){P:Int->Prop}(h:∀i,W.has i->((W.at i).of.kind=1->P (W.at i).of.num)->P i):∀i,W.has i->P i:=by
 have key:∀(m:Nat) (i:Int),W.has i->W.length-i.toNat<m->P i:=by
  intro m
  induction m with
  |zero=>intro i _ h;omega
  |succ m ih=>
   intro i hi hm;refine h i hi fun hk=> ?_;obtain⟨h3,h4⟩:=hL i hi hk;have:=hi.1;have:=h4.2;have:=hi.2;exact ih _ h4 (by omega)
 exact fun i hi=>key _ i hi (qam _)
theorem Ec(hL:dV W)(hs:s.of.kind=1->W.has s.of.num):(W.under s).of.kind≠1:=by
 by_cases hk:s.of.kind=1
 .have key:=zl hL (P:=fun i=>(W.under (W.spot i)).of.kind≠1) fun i hi ih=>by
   by_cases hk:(W.at i).of.kind=1
   .rw[kM hL (s:=W.spot i) hk (hL i hi hk).2];exact ih hk
   rw[fO (s:=W.spot i) hk];exact hk
  rw[kM hL hk (hs hk)];exact key _ (hs hk)
 rw[fO hk];exact hk
theorem ku(hL:dV W)(hs:s.of.kind=1->W.has s.of.num):W.under (W.plain s)=W.under s:=by
 by_cases hk:s.of.kind=1
 .by_cases ha:(W.at s.of.num).bU=true
  .have key:=zl hL (P:=fun i=>W.under (W.plain (W.spot i))=W.under (W.spot i)) fun i hi ih=>by
    by_cases hk:(W.at i).of.kind=1
    .by_cases ha:(W.at (W.at i).of.num).bU=true
     .rw[pQ hL (s:=W.spot i) hk (hL i hi hk).2 ha,kM hL (s:=W.spot i) hk (hL i hi hk).2];exact ih hk
     rw[eu (s:=W.spot i) (Or.inr (by simpa[uo]using ha))]
    rw[eu (s:=W.spot i) (Or.inl hk)]
   rw[pQ hL hk (hs hk) ha,kM hL hk (hs hk)];exact key _ (hs hk)
  rw[eu (Or.inr (by simpa using ha))]
 rw[eu (Or.inl hk)]
theorem zd_(hL:dV W){i:Int}(hi:W.has i)(hk:(W.plain (W.spot i)).of.kind=1):i<(W.plain (W.spot i)).of.num:=by
 refine zl hL (P:=fun i=>(W.plain (W.spot i)).of.kind=1->i<(W.plain (W.spot i)).of.num) (fun i hi ih hk=> ?_) i hi hk;by_cases h1:(W.at i).of.kind=1
 .have h2:=hL i hi h1;by_cases ha:(W.at (W.at i).of.num).bU=true
  .rw[pQ hL (s:=W.spot i) h1 h2.2 ha]at hk⊢;exact Int.lt_trans h2.1 (ih h1 hk)
  rw[eu (s:=W.spot i) (Or.inr (by simpa[uo]using ha))];exact h2.1
 rw[eu (s:=W.spot i) (Or.inl h1)]at hk;exact absurd hk h1
theorem Wd.sZ(W:Wd){a b:Nat}(h:a<=b):W.start a<=W.start b:=by
 unfold Wd.start;have h1:W.take a=(W.take b).take a:=by rw[List.take_take,qaY h]
 rw[h1,qbt];exact nR _ _
theorem ud{n m:Int}(hn:bL n)(hm:bL m)(h:bZ n=bZ m):n=m:=by
 have key:∀i j:Fin 16,bZ ((i.val:Nat):Int)=bZ ((j.val:Nat):Int)->i=j:=by decide
 have h1:=hn.1;have h2:=hn.2;have h3:=hm.1;have h4:=hm.2;have e1:n=((n.toNat:Nat):Int):=by omega
 have e2:m=((m.toNat:Nat):Int):=by omega
 have:=qaL Fin.val (key ⟨n.toNat,by omega⟩ ⟨m.toNat,by omega⟩ (by rw[<-e1,<-e2];exact h));simp only at this;omega
theorem pR(hL:dV W)(hs:s.of.kind=1->W.has s.of.num)(hk:(W.plain s).of.kind=1):W.has (W.plain s).of.num/\(W.at (W.plain s).of.num).bU=false:=by
 have key:=zl hL (P:=fun i=>(W.plain (W.spot i)).of.kind=1->W.has (W.plain (W.spot i)).of.num/\(W.at (W.plain (W.spot i)).of.num).bU=false) fun i hi ih=>by
  intro hk;by_cases h1:(W.at i).of.kind=1
  .by_cases ha:(W.at (W.at i).of.num).bU=true
   .rw[pQ hL (s:=W.spot i) h1 (hL i hi h1).2 ha]at hk⊢;exact ih h1 hk
   rw[eu (s:=W.spot i) (Or.inr (by simpa[uo]using ha))];exact⟨(hL i hi h1).2,by simpa[uo]using ha⟩
  rw[eu (s:=W.spot i) (Or.inl h1)]at hk;exact absurd hk h1
 by_cases h1:s.of.kind=1
 .by_cases ha:(W.at s.of.num).bU=true
  .rw[pQ hL h1 (hs h1) ha]at hk⊢;exact key _ (hs h1) hk
  rw[eu (Or.inr (by simpa using ha))];exact⟨hs h1,by simpa using ha⟩
 rw[eu (Or.inl h1)]at hk;exact absurd hk h1
end
section
variable {n:Nat}{x y:bD}{l l':List bD}{W:Wd}{s:Sp}
def zr(p n:Int):Nat:=((List.range 2).flatMap fun q=>(List.range 16).map fun k=>if mlt ⟨0,(q:Nat),(k:Nat)⟩ ⟨0,p,n⟩then 1 else 0).sum
theorem Q0(x y:bD)(i j:Nat):mlt x y=mlt ⟨i,x.aC,x.name⟩ ⟨j,y.aC,y.name⟩:=rfl
theorem zc_:((List.range 2).all fun p=>(List.range 16).all fun n=>(List.range 2).all fun q=>(List.range 16).all fun k=>mlt ⟨0,(p:Nat),(n:Nat)⟩ ⟨0,(q:Nat),(k:Nat)⟩==decide (zr (p:Nat) (n:Nat)<zr (q:Nat) (k:Nat)))=true:=by kernel_rfl
theorem zc8:((List.range 2).all fun p=>(List.range 16).all fun n=>(List.range 2).all fun q=>(List.range 16).all fun k=>decide (aM (p:Nat) (n:Nat)=aM (q:Nat) (k:Nat))==decide (zr (p:Nat) (n:Nat)=zr (q:Nat) (k:Nat)))=true:=by kernel_rfl
def p5(m:bD):Prop:=cN m.aC/\bL m.name
def bD.rk(m:bD):Nat:=zr m.aC m.name
theorem xH{p:Int}(h:cN p):∃q:Nat,q<2/\p=(q:Int):=by
 rcases h with rfl|rfl
 .exact⟨0,by decide,rfl⟩
 exact⟨1,by decide,rfl⟩
theorem xz{n:Int}(h:bL n):∃q:Nat,q<16/\n=(q:Int):=by
 have:=h.1;have:=h.2;exact⟨n.toNat,by omega,by omega⟩
theorem F6(hx:p5 x)(hy:p5 y):mlt x y=decide (x.rk<y.rk):=by
 obtain⟨p,hp,Dk⟩:=xH hx.1;obtain⟨n,hn,aT⟩:=xz hx.2;obtain⟨q,hq,tW⟩:=xH hy.1;obtain⟨k,hk,sG⟩:=xz hy.2;have h:=zc_;rw[qaW]at h;have h1:=h p (qaz.2 hp);rw[qaW]at h1;have h2:=h1 n (qaz.2 hn);rw[qaW]at h2;have h3:=h2 q (qaz.2 hq);rw[qaW]at h3;have h4:=h3 k (qaz.2 hk);rw[beq_iff_eq]at h4;rw[Q0 x y 0 0];unfold bD.rk;rw[Dk,aT,tW,sG];exact h4
theorem P7(hx:p5 x)(hy:p5 y):x.id=y.id↔x.rk=y.rk:=by
 obtain⟨p,hp,Dk⟩:=xH hx.1;obtain⟨n,hn,aT⟩:=xz hx.2;obtain⟨q,hq,tW⟩:=xH hy.1;obtain⟨k,hk,sG⟩:=xz hy.2;have h:=zc8;rw[qaW]at h;have h1:=h p (qaz.2 hp);rw[qaW]at h1;have h2:=h1 n (qaz.2 hn);rw[qaW]at h2;have h3:=h2 q (qaz.2 hq);rw[qaW]at h3;have h4:=h3 k (qaz.2 hk);rw[beq_iff_eq,decide_eq_decide]at h4;unfold bD.rk bD.id;rw[Dk,aT,tW,sG];exact h4
def iU(l:List bD):Prop:=(l.map bD.id).Nodup
theorem iU.perm(h:iU l)(hp:l.Perm l'):iU l':=(hp.map bD.id).nodup_iff.1 h
theorem iU.inj(h:iU l)(hx:x∈l)(hy:y∈l)(he:x.id=y.id):x=y:=by
 obtain⟨i,hi,rfl⟩:=qak hx;obtain⟨j,hj,rfl⟩:=qak hy;have h1:(l.map bD.id)[i]'(by simpa using hi)=(l.map bD.id)[j]'(by simpa using hj):=by simpa using he
 have:=(qbw h).1 h1;subst this;rfl
theorem HA(acc:List bD)(l l':List bD):iF acc (l++l')=iF (iF acc l) l':=by
 induction l generalizing acc with
 |nil=>rfl
 |cons x r ih=>
  simp only[qa_,iF];split<;>exact ih _
theorem Cs:∀{acc:List bD},iU acc->iU (iF acc l):=by
 induction l with
 |nil=>intro acc h;exact h
 |cons x r ih=>
  intro acc h;simp only[iF];split
  .exact ih h
  rename_i hn;refine ih ?_;unfold iU;rw[qaq];refine qbL.2 ⟨h,by simp,fun a ha b hb d8=> ?_⟩;simp only[qaB,qa0,qac]at hb;obtain⟨y,hy,rfl⟩:=qaj.1 ha;exact hn ⟨y,hy,d8.trans hb⟩
theorem Xz:∀{a b:List bD},a.Perm b->(iF a l).Perm (iF b l):=by
 induction l with
 |nil=>intro a b h;exact h
 |cons x r ih=>
  intro a b h;simp only[iF];by_cases hx:∃y∈a,y.id=x.id
  .have iR:∃y∈b,y.id=x.id:=by obtain⟨y,hy,he⟩:=hx;exact⟨y,h.mem_iff.1 hy,he⟩
   rw[if_pos hx,if_pos iR];exact ih h
  have iR:¬∃y∈b,y.id=x.id:=fun⟨y,hy,he⟩=>hx ⟨y,h.mem_iff.2 hy,he⟩;rw[if_neg hx,if_neg iR];exact ih (h.append_right _)
theorem MP:∀{acc:List bD},iU (acc++l)->iF acc l=acc++l:=by
 induction l with
 |nil=>intro acc _;simp[iF]
 |cons x r ih=>
  intro acc h;simp only[iF];rw[if_neg,ih (by rw[qap];exact h),qap];rfl;rintro⟨y,hy,he⟩;unfold iU at h;rw[qaq]at h;exact(qbL.1 h).2.2 _ (qaj.2 ⟨y,hy,rfl⟩) x.id (by simp) he
theorem HB:∀{acc:List bD} {x:bD},x∈iF acc l->x∈acc\/x∈l:=by
 induction l with
 |nil=>intro acc x h;exact .inl h
 |cons y r ih=>
  intro acc x h;simp only[iF]at h;split at h
  .rcases ih h with h|h
   .exact .inl h
   exact .inr (qag _ h)
  rcases ih h with h|h
  .rcases qah.1 h with h|h
   .exact .inl h
   simp only[qac]at h;subst h;exact .inr qal
  exact .inr (qag _ h)
theorem MO:∀{acc:List bD} {x:bD},x∈acc\/x∈l->∃y∈iF acc l,y.id=x.id:=by
 induction l with
 |nil=>
  intro acc x h;rcases h with h|h
  .exact⟨x,h,rfl⟩
  simp at h
 |cons z r ih=>
  intro acc x h;simp only[iF];split
  .rename_i hz;obtain⟨y,hy,he⟩:=hz;rcases h with h|h
   .exact ih (.inl h)
   rcases qan.1 h with rfl|h
   .obtain⟨y',h1,h2⟩:=ih (x:=y) (.inl hy);exact⟨y',h1,h2.trans he⟩
   exact ih (.inr h)
  rcases h with h|h
  .exact ih (.inl (qaA _ h))
  rcases qan.1 h with rfl|h
  .exact ih (.inl (by simp))
  exact ih (.inr h)
theorem BG(l:List bD):(xN l).Perm l:=List.mergeSort_perm _ _
theorem ze5(h:∀x∈l,p5 x):(xN l).Pairwise fun x y=>x.rk<=y.rk:=by
 have e:xN l=l.mergeSort fun x y=>decide (x.rk<=y.rk):=by
  unfold xN;have:=List.map_mergeSort (f:=id) (r:=fun x y=> !mlt y x) (s:=fun x y:bD=>decide (x.rk<=y.rk)) (l:=l) fun a ha b hb=>by
   rw[F6 (h b hb) (h a ha)];simp only[id,Bool.not_eq_eq_eq_not,decide_eq_decide];by_cases hx:b.rk<a.rk
   .simp[hx,Nat.not_le.2 hx]
   simp[hx,Nat.not_lt.1 hx]
  simpa using this
 rw[e];exact(List.pairwise_mergeSort (le:=fun x y:bD=>decide (x.rk<=y.rk)) (fun a b c h1 h2=>by simp at*;omega) (fun a b=>by simp;omega) l).imp fun h=>by simpa using h
theorem zei:∀{a b:List bD},a.Perm b->iU a->(∀x∈a,p5 x)->(a.Pairwise fun x y=>x.rk<=y.rk)->(b.Pairwise fun x y=>x.rk<=y.rk)->a=b:=by
 intro a b hp ho hm ha hb;refine hp.eq_of_pairwise (le:=fun x y:bD=>x.rk<=y.rk) (fun x y hx hy h1 h2=> ?_) ha hb;have rL:=hp.mem_iff.2 hy;exact ho.inj hx rL ((P7 (hm x hx) (hm y rL)).2 (Nat.le_antisymm h1 h2))
theorem ze4(hp:l'.Perm l)(ho:iU l)(hm:∀x∈l,p5 x)(hs:Ew l'):l'=xN l:=by
 have oA:l'.Perm (xN l):=hp.trans (BG l).symm;refine zei oA (ho.perm hp.symm) (fun x hx=>hm x (hp.mem_iff.1 hx)) ?_ (ze5 hm);refine List.Pairwise.imp_of_mem (fun{x y} hx hy h=> ?_) hs;rw[F6 (hm y (hp.mem_iff.1 hy)) (hm x (hp.mem_iff.1 hx))]at h;simpa using h
def Forms(W:Wd):Prop:=∀i:Nat,i<W.length->cP W (i:Nat) (W.at (i:Nat)).of true
theorem zJ(hL:dV W){i:Int}(hi:W.has i):∃j:Int,W.under (W.spot i)=W.spot j/\i<=j/\W.has j:=by
 refine zl hL (P:=fun i=>∃j:Int,W.under (W.spot i)=W.spot j/\i<=j/\W.has j) (fun i hi ih=> ?_) i hi;by_cases hk:(W.at i).of.kind=1
 .obtain⟨j,h1,h2,h3⟩:=ih hk;have:=(hL i hi hk).1;exact⟨j,by rw[kM hL (s:=W.spot i) hk (hL i hi hk).2];exact h1,by omega,h3⟩
 exact⟨i,fO (s:=W.spot i) hk,Int.le_refl _,hi⟩
theorem g_.step(hL:dV W)(gp:Forms W)(h:g_ W (n+1) s){i:Nat}(hi:i<s.of.aD.length):g_ W n (W.under (s.bE i)):=by
 obtain⟨d,hf,hr⟩:=h;have he:(s.bE i).of=s.of.aD[i]:=Sp.pj hi;have oq:=hf.aD s.of.aD[i] (by simp);have hb:=Ty.nY (t:=s.of) (u:=s.of.aD[i]) (by simp);by_cases hk:(s.bE i).of.kind=1
 .rw[he]at hk;obtain⟨hh,hd⟩:W.has s.of.aD[i].num/\d<s.of.aD[i].num:=by
   cases oq with
   |named _ _ hn hd=>
    rcases hd with hd|⟨hd,_⟩
    .exact⟨hn,hd⟩
    cases hd
   |basic ad=>rw[hk]at ad;cases ad
   |to ad=>rw[hk]at ad;rcases ad with h|h<;>cases h
   |struct ad=>rw[hk]at ad;cases ad
   |iface ad=>rw[hk]at ad;cases ad
  rw[kM hL (s:=s.bE i) (by rw[he];exact hk) (by rw[he];exact hh),he];obtain⟨j,h1,h2,h3⟩:=zJ hL hh;rw[h1];have hj:=h3.1;have ki:=h3.2;have e:((j.toNat:Nat):Int)=j:=by omega
  have uT:=gp j.toNat ki;rw[e]at uT;refine⟨j,uT,?_⟩;have hbj:(W.at j).of.aj<=W.aj:=by
   have:=(sm ki).1;rw[<-Wd.pc ki,e]at this;exact this
  unfold vW at hr⊢;have hc:((W.length:Int)-j).toNat+1<=((W.length:Int)-d).toNat:=by omega
  have hm:(((W.length:Int)-j).toNat+1)*(W.aj+1)<=((W.length:Int)-d).toNat*(W.aj+1):=qaJ _ hc;rw[qbr]at hm;show((W.length:Int)-j).toNat*(W.aj+1)+(W.at j).of.aj<n;omega
 rw[fO hk];refine⟨d,by rw[he];exact oq,?_⟩;unfold vW at hr⊢;rw[he];omega
theorem LA{W:Wd}(hL:dV W)(gp:Forms W):∀(n:Nat) (s:Sp),g_ W n s->∀m,n<=m->dj W m s=dj W n s
 |0,s,h,_,_=>by obtain⟨d,_,hr⟩:=h;omega
 |n+1,s,h,m,hm=>by
  obtain⟨m,rfl⟩:∃k,m=k+1:=⟨m-1,by omega⟩;rw[dj,dj];simp only[List.flatMap_def]
  congr 4
  refine List.map_congr_left fun i hi=> ?_;exact LA hL gp n _ (h.step hL gp (qaz.1 hi)) m (by omega)
theorem K5(h:GS W s):∀x∈m8 s,p5 x/\x.name≠8:=fun x hx=>by
 obtain⟨j,hj,rfl⟩:=qaj.1 hx;have eM:=qaz.1 hj;obtain⟨d,v,hf⟩:=h.form;have hm:=hf.methods s.of.methods[j] (by simp);have e:(s.of.methods.getD j default)=s.of.methods[j]:=by simp[eM]
 simp only[e];exact⟨⟨h.aC,hm.1⟩,hm.2.1⟩
theorem RZ(h:GS W s)(hv:Valid W s):iU (m8 s):=by
 unfold iU m8;rw[qbE];refine qb8.2 fun i j hi hj dc=> ?_;simp only[qat,qb0]at hi hj;simp only[qaU,List.getElem_range,Function.comp];intro he;obtain⟨d,v,hf⟩:=h.form;have e1:(s.of.methods.getD i default)=s.of.methods[i]:=by simp[hi]
 have e2:(s.of.methods.getD j default)=s.of.methods[j]:=by simp[hj]
 rw[e1,e2]at he;have hn:=FT h.aC (hf.methods s.of.methods[i] (by simp)).1 (hf.methods s.of.methods[j] (by simp)).1 he;cases hv;rename_i hm _ _ _ _ _ _;refine hm j s.of.methods[j] (qaa hj) ?_;rw[<-hn];refine qaj.2 ⟨s.of.methods[i],?_,rfl⟩;rw[qbT];exact⟨i,by rw[qbG,if_pos dc];exact qaa hi⟩
theorem zG(W:Wd)(n:Nat)(s:Sp):iU (dj W n s):=by
 cases n with
 |zero=>unfold iU;simp[dj]
 |succ n=>
  rw[dj];exact(Cs (acc:=[]) (by unfold iU;simp)).perm (BG _).symm
theorem we{W:Wd}(hW:GW W):∀(n:Nat) (s:Sp),GS W s->∀x∈dj W n s,p5 x/\x.name≠8
 |0,s,_,x,hx=>by simp[dj]at hx
 |n+1,s,h,x,hx=>by
  rw[dj]at hx;have jX:=(BG _).mem_iff.1 hx;rcases HB jX with h1|h1
  .simp at h1
  rcases qah.1 h1 with h1|h1
  .exact K5 h x h1
  obtain⟨i,hi,h2⟩:=qaS.1 h1;exact we hW n _ ((h.bE (qaz.1 hi)).under hW) x h2
theorem D8(hL:dV W)(gp:Forms W){m:Nat}(h1:g_ W n s)(h2:g_ W m s):dj W n s=dj W m s:=by
 rcases Nat.le_total n m with h|h
 .exact(LA hL gp n s h1 m h).symm
 exact LA hL gp m s h2 n h
end
section
open Go.Shelf
variable {M:Mem}{pk:Int->Nat}{x y:bD×Nat}{w0:World}
def zef:Ren:=⟨fun k=>if k=106 then 241 else if k=213 then 252 else if k=265 then 256 else k,fun t=>t,fun g=>g⟩
theorem Xb:Lays.n106 prog zef:=by
 constructor<;>first|kernel_rfl|(intro w;kernel_rfl)
theorem ML{w:World}{a b:ByteArray}:az prog 241 [.string a,.string b] w fun r w'=>r= .int .i64 (Lib.compareBytes a.data.toList b.data.toList)/\Fr [] w w':=
 uC func241 (c:=_) rfl (by kernel_rfl) ((Any.strings_Compare Xb a b w).mono fun e w' ⟨h1,h2⟩=>⟨_,h1,rfl,h2▸Fr.refl _⟩)
def mD(x y:bD):Int:=
 if exported x.name≠exported y.name then(if exported x.name then-1 else 1)
 else if bZ x.name≠bZ y.name then Lib.compareBytes (bZ x.name).data.toList (bZ y.name).data.toList
 else if exported x.name=false then Lib.compareBytes (dY x.aC).data.toList (dY y.aC).data.toList else 0
theorem MK(l:List UInt8):Lib.compareBytes l l=0:=by
 induction l with
 |nil=>rfl
 |cons a r ih=>simp[Lib.compareBytes,ih]
structure uu(M:Mem)(pk:Int->Nat)(q:bD×Nat):Prop where
 aC:M.cell q.2 1=some (vp (pk q.1.aC))
 name:M.cell q.2 2=some (.string (bZ q.1.name))
 own:M.own q.2
 pO:cN q.1.aC
 pN:bL q.1.name
theorem uu.same(dW:∀p,cN p->∃x,Bk M (pk p) [.string (dY p),x])(hx:uu M pk x)(hy:uu M pk y)(h:x.2=y.2):mD x.1 y.1=0:=by
 have h1:=hx.name;rw[h,hy.name]at h1;have hn:bZ y.1.name=bZ x.1.name:=by simpa using h1
 have lM:=ud hy.pN hx.pN hn;have h2:=hx.aC;rw[h,hy.aC]at h2;have hp:pk y.1.aC=pk x.1.aC:=by simpa using h2
 obtain⟨a,ha⟩:=dW _ hx.pO;obtain⟨b,hb⟩:=dW _ hy.pO;have h3:=ha.at 0 rfl;rw[<-hp,hb.at 0 rfl]at h3;have hs:dY y.1.aC=dY x.1.aC:=by simpa using h3
 unfold mD;rw[lM,hs,MK];simp;exact fun _=>MK _
theorem Xa(hT:fA M)(hM:M.Le (Wm w0))(dW:∀p,cN p->∃x,Bk M (pk p) [.string (dY p),x])(hx:uu M pk x)(hy:uu M pk y):
 az prog 212 [vp x.2,vp y.2] w0 fun r w'=>r= .int .i64 (mD x.1 y.1)/\Fr [] w0 w':=by
 have h:=SH.start hM;obtain⟨ex,hex⟩:∃e,e=exported x.1.name:=⟨_,rfl⟩;obtain⟨ey,tJ⟩:∃e,e=exported y.1.name:=⟨_,rfl⟩;have cX:∀{w:World},M.Le (Wm w)->az prog 123 [.string (bZ x.1.name)] w fun r w'=>r= .bool ex/\Fr [] w w':=fun h=>by rw[hex];exact hT _ h _ hx.pN
 have cY:∀{w:World},M.Le (Wm w)->az prog 123 [.string (bZ y.1.name)] w fun r w'=>r= .bool ey/\Fr [] w w':=fun h=>by rw[tJ];exact hT _ h _ hy.pN
 obtain⟨xx,pG⟩:=dW _ hx.pO;obtain⟨xy,oD⟩:=dW _ hy.pO;refine aL mixed func212 VI ?_;refine aI (Or.inr ⟨hM.own _ hx.own,hM.own _ hy.own⟩) (aI (fun he=> ?_) (fun aT=> ?_))
 .have ze:x.2=y.2:=by simpa using he
  exact⟨qaL (Value.int .i64) (hx.same dW hy ze).symm,h.fr⟩
 clear aT;cases ex with
 |true=>
  refine aP h hx.name ?_;refine s_call h (cX h.le) ?_;clear h;rintro _ w rfl h;refine aP h hy.name ?_;cases ey with
  |true=>
   refine s_call h (cY h.le) ?_;clear h;rintro _ w rfl h;refine b_ [] h ?_;clear h;intro w h;refine cd h hx.name ?_;refine cd h hy.name ?_;refine aI (fun hs=> ?_) (fun hs=> ?_);rotate_left 1
   .refine b_ [] h ?_;clear h;intro w h;refine cd h hx.name ?_;refine cd h hy.name ?_;refine aI ?_ trivial;refine dg h (ML) ?_;clear h;rintro _ w rfl h;exact⟨qaL (Value.int .i64) (Eq.symm (by unfold mD;rw[<-hex,<-tJ];simp[hs])),h.fr⟩
   exact⟨qaL (Value.int .i64) (Eq.symm (by unfold mD;rw[<-hex,<-tJ];simp[hs])),h.fr⟩
  |false=>
   refine s_call h (cY h.le) ?_;clear h;rintro _ w rfl h;exact⟨by unfold mD;rw[<-hex,<-tJ];rfl,h.fr⟩
 |false=>
  refine aP h hx.name ?_;refine s_call h (cX h.le) ?_;clear h;rintro _ w rfl h;refine aP h hy.name ?_;cases ey with
  |true=>
   refine s_call h (cY h.le) ?_;clear h;rintro _ w rfl h;exact⟨by unfold mD;rw[<-hex,<-tJ];rfl,h.fr⟩
  |false=>
   refine s_call h (cY h.le) ?_;clear h;rintro _ w rfl h;refine b_ [] h ?_;clear h;intro w h;refine cd h hx.name ?_;refine cd h hy.name ?_;refine aI (fun hs=> ?_) (fun hs=> ?_);rotate_left 1;refine b_ [] h ?_;clear h;intro w h;refine cd h hx.name ?_;refine cd h hy.name ?_;rotate_left;refine b_ [] h ?_;clear h;intro w h;refine cd h hx.aC ?_;refine cd h (pG.at 0 rfl) ?_;refine cd h hy.aC ?_;refine cd h (oD.at 0 rfl) ?_
   all_goals
    refine aI ?_ trivial;refine dg h (ML) ?_;clear h;rintro _ w rfl h;exact⟨qaL (Value.int .i64) (Eq.symm (by unfold mD;rw[<-hex,<-tJ];simp[hs])),h.fr⟩
theorem W_(hT:fA M)(hM:M.Le (Wm w0))(dW:∀p,cN p->∃x,Bk M (pk p) [.string (dY p),x])(hx:uu M pk x)(hy:uu M pk y):
 az prog 177 [vp x.2,vp y.2] w0 fun r w'=>r= .int .i64 (mD x.1 y.1)/\Fr [] w0 w':=by
 have h:=SH.start hM;refine aL mixed func177 Vz ?_;refine b_ [] h ?_;clear h;intro w h;refine aI ?_ trivial;refine dg h (Xa hT h.le dW hx hy) ?_;clear h;rintro _ w rfl h;exact⟨rfl,h.fr⟩
theorem zc0:((List.range 2).all fun p=>(List.range 16).all fun n=>(List.range 2).all fun q=>(List.range 16).all fun k=>decide (mD ⟨0,(p:Nat),(n:Nat)⟩ ⟨0,(q:Nat),(k:Nat)⟩<0)==mlt ⟨0,(p:Nat),(n:Nat)⟩ ⟨0,(q:Nat),(k:Nat)⟩)=true:=by kernel_rfl
end
section
open Go.Shelf
def Lg:Ren:=⟨fun k=>if k=6 then 176 else if k=14 then 211 else if k=15 then 121 else if k=20 then 233 else if k=21 then 234 else if k=22 then 235 else if k=23 then 236 else if k=24 then 237 else if k=25 then 238 else if k=26 then 239 else if k=27 then 240 else if k=28 then 164 else if k=29 then 165 else if k=46 then 247 else if k=47 then 248 else if k=48 then 249 else if k=49 then 250 else if k=50 then 251 else if k=57 then 255 else k,fun k=>if k=0 then 0 else if k=3 then 3 else if k=4 then 4 else if k=5 then 5 else if k=9 then 9 else if k=22 then 180 else if k=24 then 128 else if k=25 then 350 else if k=39 then 275 else if k=45 then 444 else if k=46 then 445 else if k=50 then 265 else if k=53 then 212 else if k=55 then 337 else if k=66 then 465 else if k=70 then 403 else if k=76 then 468 else if k=77 then 428 else k,fun k=>k⟩
theorem ST:SlLaysF.n6 prog Lg where
 mixed:=by kernel_rfl
 f6:=⟨Tryz.f176.name,by kernel_rfl,by kernel_rfl⟩
 f14:=⟨Tryz.f211.name,by kernel_rfl,by kernel_rfl⟩
 f15:=by kernel_rfl
 f20:=⟨Tryz.f233.name,by kernel_rfl,by kernel_rfl⟩
 f21:=⟨Tryz.f234.name,by kernel_rfl,by kernel_rfl⟩
 f22:=⟨Tryz.f235.name,by kernel_rfl,by kernel_rfl⟩
 f23:=⟨Tryz.f236.name,by kernel_rfl,by kernel_rfl⟩
 f24:=⟨Tryz.f237.name,by kernel_rfl,by kernel_rfl⟩
 f25:=⟨Tryz.f238.name,by kernel_rfl,by kernel_rfl⟩
 f26:=⟨Tryz.f239.name,by kernel_rfl,by kernel_rfl⟩
 f27:=⟨Tryz.f240.name,by kernel_rfl,by kernel_rfl⟩
 f28:=by kernel_rfl
 f29:=by kernel_rfl
 f46:=⟨Tryz.f247.name,by kernel_rfl,by kernel_rfl⟩
 f47:=by kernel_rfl
 f48:=by kernel_rfl
 f49:=⟨Tryz.f250.name,by kernel_rfl,by kernel_rfl⟩
 f50:=⟨Tryz.f251.name,by kernel_rfl,by kernel_rfl⟩
 f57:=⟨Tryz.f255.name,by kernel_rfl,by kernel_rfl⟩
 t0:=by kernel_rfl
 a0:=fun w=>by kernel_rfl
 z0:=fun w=>by kernel_rfl
 v0:=fun w=>by kernel_rfl
 t3:=by kernel_rfl
 a3:=fun w=>by kernel_rfl
 z3:=fun w=>by kernel_rfl
 v3:=fun w=>by kernel_rfl
 t4:=by kernel_rfl
 a4:=fun w=>by kernel_rfl
 z4:=fun w=>by kernel_rfl
 v4:=fun w=>by kernel_rfl
 t5:=by kernel_rfl
 a5:=fun w=>by kernel_rfl
 z5:=fun w=>by kernel_rfl
 v5:=fun w=>by kernel_rfl
 t9:=by kernel_rfl
 a9:=fun w=>by kernel_rfl
 z9:=fun w=>by kernel_rfl
 v9:=fun w=>by kernel_rfl
 t22:=by kernel_rfl
 a22:=fun w=>by kernel_rfl
 z22:=fun w=>by kernel_rfl
 v22:=fun w=>by kernel_rfl
 a24:=fun w=>by kernel_rfl
 z24:=fun w=>by kernel_rfl
 t25:=by kernel_rfl
 a25:=fun w=>by kernel_rfl
 z25:=fun w=>by kernel_rfl
 v25:=fun w=>by kernel_rfl
 t39:=by kernel_rfl
 a39:=fun w=>by kernel_rfl
 z39:=fun w=>by kernel_rfl
 v39:=fun w=>by kernel_rfl
 t45:=by kernel_rfl
 a45:=fun w=>by kernel_rfl
 z45:=fun w=>by kernel_rfl
 v45:=fun w=>by kernel_rfl
 t46:=by kernel_rfl
 a46:=fun w=>by kernel_rfl
 z46:=fun w=>by kernel_rfl
 v46:=fun w=>by kernel_rfl
 t50:=by kernel_rfl
 a50:=fun w=>by kernel_rfl
 z50:=fun w=>by kernel_rfl
 v50:=fun w=>by kernel_rfl
 t53:=by kernel_rfl
 a53:=fun w=>by kernel_rfl
 z53:=fun w=>by kernel_rfl
 v53:=fun w=>by kernel_rfl
 t55:=by kernel_rfl
 a55:=fun w=>by kernel_rfl
 z55:=fun w=>by kernel_rfl
 v55:=fun w=>by kernel_rfl
 t66:=by kernel_rfl
 a66:=fun w=>by kernel_rfl
 z66:=fun w=>by kernel_rfl
 v66:=fun w=>by kernel_rfl
 t70:=by kernel_rfl
 a70:=fun w=>by kernel_rfl
 z70:=fun w=>by kernel_rfl
 v70:=fun w=>by kernel_rfl
 t76:=by kernel_rfl
 a76:=fun w=>by kernel_rfl
 z76:=fun w=>by kernel_rfl
 v76:=fun w=>by kernel_rfl
 t77:=by kernel_rfl
 a77:=fun w=>by kernel_rfl
 z77:=fun w=>by kernel_rfl
 v77:=fun w=>by kernel_rfl
end
section
open Go.Shelf Go.Sort Go.Lib
variable {w:World}{g m:Nat}{os:Array Obj}
section
variable {α:Type} [Inhabited α]
theorem SU{enc:α->Value}{d:Array α}(b:Nat)(hb:b<w.heap.size):(sortWorld enc w g 0 m d os).heap[b]? =if g=b then(w.heap[b]?).map (onCells (putCells enc 0 d))else w.heap[b]? :=by
 show((w.heap.modify g (onCells (putCells enc 0 d)))++os)[b]? =_;rw[Array.getElem?_append_left (by simpa using hb),qb3]
theorem SV(enc:α->Value)(w:World)(g m:Nat)(d:Array α)(os:Array Obj):Fr [g] w (sortWorld enc w g 0 m d os):=by
 refine⟨?_,fun b hb hn=> ?_,rfl,rfl,rfl,?_⟩
 .show w.heap.size<=((w.heap.modify g (onCells (putCells enc 0 d)))++os).size;simp
 .rw[SU b hb,if_neg (by simpa using Ne.symm (by simpa using hn))]
 show w.drawn<=w.drawn+m;omega
theorem ze6{enc:α->Value}{cap:Nat}{T:TypeId}{d d':Array α}(h:eG w 1 T (.slice (some ⟨g,0,none⟩) d.size cap) (d.toList.map fun x=>[enc x]))(hs:d'.size=d.size):
 eG (sortWorld enc w g 0 m d' os) 1 T (.slice (some ⟨g,0,none⟩) d.size cap) (d'.toList.map fun x=>[enc x]):=by
 have c_:∀l:List α,(l.map fun x=>[enc x]).flatten=l.map enc:=fun l=>by
  induction l with
  |nil=>rfl
  |cons a r ih=>simp[ih]
 obtain⟨he,ho⟩:=h;obtain⟨h1,h2⟩:=ho;rcases h2 with⟨h2,_⟩|⟨g',wz,cur,hv,Ia,hg,hn,hm,dF,Dq⟩
 .cases h2
 simp only[qa5,qao,qbW,qca,qco]at hv;obtain⟨rfl,rfl⟩:=hv.1,hv.2.2;have aG:g<w.heap.size:=(qaM.1 hg).1;refine⟨fun cs d9=>by obtain⟨x,_,rfl⟩:=qaj.1 d9;rfl,?_,.inr ⟨g,cap,putCells enc 0 d' cur,?_,Ia,?_,?_,hm,?_,?_⟩⟩
 .rw[c_];simp
 .simp[hs]
 .rw[SU g aG,if_pos rfl,hg];rfl
 .simpa[hs]using hn
 .unfold putCells;simpa using dF
 have wQ:d'.size<=cur.size:=by
  rw[dF,hs];have:(d.toList.map fun x=>[enc x]).length=d.size:=by simp
  omega
 rw[c_];apply qbe;intro i;have hl:(d'.toList.map fun x=>[enc x]).length*1=d'.size:=by simp
 rw[hl,qbG];by_cases hi:i<d'.size
 .have hic:i<cur.size:=by omega
  rw[if_pos hi,qbv,qaE,qbv];unfold putCells;rw[Array.getElem?_mapIdx,qbN hic,qbN hi];simp[hi]
 rw[if_neg hi,qaE,qbv,qbJ (by omega)];rfl
end
theorem Fr.grown{w':World}(h:Fr [] w w'):∃q os',w'=grow (w.drewN q) os':=by
 refine⟨w'.drawn-w.drawn,w'.heap.extract w.heap.size w'.heap.size,?_⟩;obtain⟨hp,tp,dr,o,out⟩:=w;obtain⟨ea,tp',MT,o',zgE⟩:=w';obtain⟨h1,h2,h3,h4,h5,h6⟩:=h;simp only at h1 h2 h3 h4 h5 h6;subst h3 h4 h5;have e1:MT=dr+(MT-dr):=by omega
 have e2:ea=hp++ea.extract hp.size ea.size:=by
  apply Array.ext_getElem?;intro i;by_cases hi:i<hp.size
  .rw[Array.getElem?_append_left hi];exact h2 i hi (by simp)
  rw[Array.getElem?_append_right (by omega),Array.getElem?_extract];by_cases ru:i<ea.size
  .rw[if_pos (by omega)];congr 1;omega
  rw[if_neg (by omega),qbJ (by omega)]
 unfold grow World.drewN;simp only;rw[<-e2,<-e1]
theorem QV{x y:bD}(hx:p5 x)(hy:p5 y):decide (mD x y<0)=decide (x.rk<y.rk):=by
 rw[<-F6 hx hy];obtain⟨p,hp,Dk⟩:=xH hx.1;obtain⟨n,hn,aT⟩:=xz hx.2;obtain⟨q,hq,tW⟩:=xH hy.1;obtain⟨k,hk,sG⟩:=xz hy.2;have h:=zc0;rw[qaW]at h;have h1:=h p (qaz.2 hp);rw[qaW]at h1;have h2:=h1 n (qaz.2 hn);rw[qaW]at h2;have h3:=h2 q (qaz.2 hq);rw[qaW]at h3;have h4:=h3 k (qaz.2 hk);rw[beq_iff_eq]at h4;have e:mD x y=mD ⟨0,x.aC,x.name⟩ ⟨0,y.aC,y.name⟩:=rfl;rw[e,Q0 x y 0 0,Dk,aT,tW,sG];exact h4
theorem zfc{α:Type}{cf:α->α->Int}(rk:α->Nat)(h:∀x y,decide (cf x y<0)=decide (rk x<rk y)):SWO (ltOf cf):=by
 have h':∀x y,ltOf cf x y=decide (rk x<rk y):=h;refine⟨fun x=>by rw[h'];simp,fun x y z h1 h2=> ?_,fun x y z h1 h2=> ?_⟩
 .rw[h']at h1 h2⊢;simp at h1 h2⊢;omega
 rw[h']at h1 h2⊢;simp at h1 h2⊢;omega
end
end Go.Proofs.YtlfcbbcdiecelaaGreatDoor
