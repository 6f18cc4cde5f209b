import Derived.Test.YtlfcbbcdiecelaaGreatDoorZ02
import Derived.Test.YtlfcbbcdiecelaaGreatDoorZ04
import Derived.Test.YtlfcbbcdiecelaaGreatDoorZ03
namespace Go.Proofs.YtlfcbbcdiecelaaGreatDoor
open Go Go.Proofs.Tryz
set_option maxRecDepth 100000
set_option maxHeartbeats 4000000
set_option linter.all false
section
variable {b o p:Nat}{t:TypeId}{cs args:List Value}{f:FuncId}{A B L':List aB}{v:Value}
def Mem.nil:Mem:=⟨fun _ _=>none,fun _=>False⟩
theorem Mem.nil_le(M:Mem):Mem.nil.Le M:=⟨fun _ _ _ h=>(by cases h),fun _ h=>False.elim h⟩
@[reducible]def vp(b:Nat):Value:= .pointer (some ⟨b,0,none⟩)
def mL(t:TypeId)(cs:List Value)(w:World)(r:Value)(w':World):Prop:=∃b,r=vp b/\Fr [] w w'/\a_ w' b t cs/\w.heap.size<=b
section
variable {u:World}{M0:Mem}{D:List Nat}{M:Mem}{L:List aB}{w:World}{P:Program}{S:List Nat}
theorem SH.ue(h:SH u M0 [] M (.ah b t cs::L) w):mL t cs u (vp b) w:=
 ⟨b,rfl,h.fr,h.fK .here,by have:=h.iG _ qal b (by simp[aB.bX]);simpa using this⟩
theorem sX{G:Value->World->Prop}(h:SH u M0 D M L w)(c:az P f args w (mL t cs w))(k:∀b w',SH u M0 D M (.ah b t cs::L) w'->G (vp b) w'):az P f args w G:=
 c.mono fun r w' ⟨b,hr,hf,hb,hn⟩=>by subst hr;exact k b w' (h.add hf hb (by simpa[aB.bX]using hn))
theorem xG{G:Value->List Nat->World->Prop}(h:SH u M0 D M L w)(c:az P f args w (mL t cs w))(k:∀b w',SH u M0 D M (.ah b t cs::L) w'->G (vp b) S w'):
 az P f args w fun v w'=>∃S',(Fr S w w'/\∀b∈S',b∈S\/w.heap.size<=b)/\G v S' w':=
 c.mono fun r w' ⟨b,hr,hf,hb,hn⟩=>by subst hr;exact⟨S,⟨hf.nil,fun _ hb=> .inl hb⟩,k b w' (h.add hf hb (by simpa[aB.bX]using hn))⟩
def cp(L:List aB):List Nat:=L.flatMap aB.bX
theorem xv{L:List aB}:b∈cp L↔∃e∈L,b∈e.bX:=qaS
theorem SH.EH(h:SH u M0 D M (A++B) w):SH w M (cp A) M A w:=
 ⟨(
  Fr.refl w).nil,.refl M,h.le,fun _ _ _ h=> .inl h,fun _ h=> .inl h,fun e he=>h.off e (qaA _ he),fun e he=>h.mF e (qaA _ he),
  fun e he b hb=> .inl (xv.2 ⟨e,he,hb⟩),(qbs.1 h.pd).1,fun e he=>h.ok e (qaA _ he)⟩
theorem SH.join{A':List aB}{M':Mem}{w':World}(h:SH u M0 D M (A++B) w)(hg:SH w M (cp A) M' A' w'):SH u M0 D M' (A'++B) w':=by
 have qy:=qbs.1 h.pd;have hA:∀b∈cp A,b∈D\/u.heap.size<=b:=fun b hb=>by
  obtain⟨e,he,hb⟩:=xv.1 hb;exact h.iG e (qaA _ he) b hb
 have hB:∀e∈B,∀b∈e.bX,b∉cp A:=fun e he b hb jB=>by
  obtain⟨x,hx,aW⟩:=xv.1 jB;exact qy.2.2 x hx e he b aW hb
 have aG:∀e∈B,∀b∈e.bX,b<w.heap.size:=fun e he b hb=>h.lt (qaR _ he) hb;refine⟨h.fr.trans' hg.fr hA,h.dG.trans hg.dG,hg.le,fun b o v hc=> ?_,fun b hb=> ?_,fun e he b o hm=> ?_,fun e he b hb hm=> ?_,fun e he b hb=> ?_,?_,fun e he=> ?_⟩
 .rcases hg.new b o v hc with h1|h1|h1
  .exact h.new b o v h1
  .right;left;have:=h.size;omega
  right;exact(hA b h1).symm
 .rcases hg.kI b hb with h1|h1|h1
  .exact h.kI b h1
  .right;left;have:=h.size;omega
  right;exact(hA b h1).symm
 .rcases qah.1 he with he|he
  .exact hg.off e he b o hm
  cases hc:M'.cell b o with
  |none=>rfl
  |some v=>
   rcases hg.new b o v hc with h1|h1|h1
   .rw[h.off e (qaR _ he) b o hm]at h1;cases h1
   .have:=aG e he b (aB.wA hm);omega
   exact absurd h1 (hB e he b (aB.wA hm))
 .rcases qah.1 he with he|he
  .exact hg.mF e he b hb hm
  rcases hg.kI b hm with h1|h1|h1
  .exact h.mF e (qaR _ he) b hb h1
  .have:=aG e he b (aB.wG hb);omega
  exact hB e he b (aB.wG hb) h1
 .rcases qah.1 he with he|he
  .rcases hg.iG e he b hb with h1|h1
   .exact hA b h1
   right;have:=h.size;omega
  exact h.iG e (qaR _ he) b hb
 .refine qbs.2 ⟨hg.pd,qy.2.1,fun x hx y hy b hb aW=> ?_⟩;rcases hg.iG x hx b hb with h1|h1
  .exact hB y hy b aW h1
  have:=aG y hy b aW;omega
 rcases qah.1 he with he|he
 .exact hg.ok e he
 exact aB.fr hg.fr (h.ok e (qaR _ he)) fun b hb=>hB e he b hb
theorem SH.perm(h:SH u M0 D M L w)(hp:L.Perm L'):SH u M0 D M L' w:=
 h.sub (fun e he=>hp.mem_iff.2 he) (hp.pairwise_iff (fun h=>h.symm)|>.1 h.pd)
theorem SH.mG(h:SH u M0 D M (A++B) w):SH u M0 D M (B++A) w:=h.perm qbD
theorem SH.left(h:SH u M0 D M (A++B) w):SH u M0 D M A w:=h.sub (fun e he=>qaA _ he) (qbs.1 h.pd).1
theorem SH.right(h:SH u M0 D M (A++B) w):SH u M0 D M B w:=h.sub (fun e he=>qaR _ he) (qbs.1 h.pd).2.1
theorem du{R:Value->Mem->List aB->World->Prop}{G:Value->World->Prop}(A B:List aB)(h:SH u M0 D M (A++B) w)
 (c:SH w M (cp A) M A w->az P f args w fun r w'=>∃M' A',R r M' A' w'/\SH w M (cp A) M' A' w') (k:∀r M' A' w',R r M' A' w'->M.Le M'->w.heap.size<=w'.heap.size->SH u M0 D M' (A'++B) w'->G r w'):az P f args w G:=
 (c h.EH).mono fun r w' ⟨M',A',hr,hg⟩=>k r M' A' w' hr hg.dG hg.size (h.join hg)
theorem K9{R:Value->Mem->List aB->World->Prop}{G:Value->List Nat->World->Prop}(A B:List aB)(h:SH u M0 D M (A++B) w)
 (c:SH w M (cp A) M A w->az P f args w fun r w'=>∃M' A',R r M' A' w'/\SH w M (cp A) M' A' w') (hS:∀b∈cp A,b∈S) (k:∀r M' A' w',R r M' A' w'->M.Le M'->w.heap.size<=w'.heap.size->SH u M0 D M' (A'++B) w'->G r S w'):
 az P f args w fun v w'=>∃S',(Fr S w w'/\∀b∈S',b∈S\/w.heap.size<=b)/\G v S' w':=
 (c h.EH).mono fun r w' ⟨M',A',hr,hg⟩=>⟨S,⟨hg.fr.jd hS,fun _ hb=> .inl hb⟩,k r M' A' w' hr hg.dG hg.size (h.join hg)⟩
theorem DO{kp:Nat->Nat->Value->Prop}{R:Value->Mem->List aB->World->Prop}{G:Value->List Nat->World->Prop}(A B:List aB)(h:SH u M0 D M (A++B) w)
 (c:SH w M (cp A) M A w->az P f args w fun r w'=>∃M' A',R r M' A' w'/\SH w M (cp A) M' A' w') (hS:∀b∈cp A,b∈S)
 (hk:∀r M' A' w',R r M' A' w'->M.Le M'->SH u M0 D M' (A'++B) w'->∀b o v,kp b o v->w'.cell? ⟨b,o,none⟩=some v)
 (k:∀r M' A' w',R r M' A' w'->M.Le M'->w.heap.size<=w'.heap.size->SH u M0 D M' (A'++B) w'->G r S w'):
 az P f args w fun v w'=>∃S',(mJ kp S w w'/\∀b∈S',b∈S\/w.heap.size<=b)/\G v S' w':=
 (c h.EH).mono fun r w' ⟨M',A',hr,hg⟩=>⟨S,⟨⟨hg.fr.jd hS,hk r M' A' w' hr hg.dG (h.join hg)⟩,fun _ hb=> .inl hb⟩,k r M' A' w' hr hg.dG hg.size (h.join hg)⟩
section
variable {kp:Nat->Nat->Value->Prop}
theorem k_ld{G:Value->Prop}(h:SH u M0 D M L w)(k:G v)(hS:b∉S)(hp:Pk L (.ah b t cs) L':=by repeat(first|exact Pk.here|apply Pk.there))(hv:cs[o]? =some v:=by rfl):
 ∃v,(w.cell? ⟨b,o,none⟩=some v/\(b∉S\/kp b o v))/\G v:=⟨v,⟨(h.fK hp).ld o hv,.inl hS⟩,k⟩
theorem FW{G:Value->Prop}(h:SH u M0 D M L w)(k:G v)(hk:kp b o v)(hp:Pk L (.ah b t cs) L':=by repeat(first|exact Pk.here|apply Pk.there))(hv:cs[o]? =some v:=by rfl):
 ∃v,(w.cell? ⟨b,o,none⟩=some v/\(b∉S\/kp b o v))/\G v:=⟨v,⟨(h.fK hp).ld o hv,.inr hk⟩,k⟩
theorem Dz{G:Value->Prop}(h:SH u M0 D M L w)(hc:M.cell b o=some v)(k:G v)(hS:b∉S\/kp b o v):
 ∃v,(w.cell? ⟨b,o,none⟩=some v/\(b∉S\/kp b o v))/\G v:=⟨v,⟨h.le.cell _ _ _ hc,hS⟩,k⟩
theorem QB{R:Value->World->Prop}{G:Value->List Nat->World->Prop}(h:SH u M0 D M L w)(c:az P f args w fun r w'=>R r w'/\Fr [] w w')(hk:∀w',SH u M0 D M L w'->∀b o v,kp b o v->w'.cell? ⟨b,o,none⟩=some v)(k:∀r w',R r w'->SH u M0 D M L w'->G r S w'):
 az P f args w fun v w'=>∃S',(mJ kp S w w'/\∀b∈S',b∈S\/w.heap.size<=b)/\G v S' w':=
 c.mono fun r w' hr=>⟨S,⟨⟨hr.2.nil,hk w' (h.lu hr.2)⟩,fun _ hb=> .inl hb⟩,k r w' hr.1 (h.lu hr.2)⟩
end
theorem SH.partAt(h:SH u M0 D M L w)(hp:Pk L (.part b t cs o) L'):a_ w b t cs:=h.ok _ hp.mem
theorem SH.NA(h:SH u M0 D M (.ah b t cs::L) w)(o:Nat):
 ∃M',M.Le M'/\(∀i v,i≠o->cs[i]? =some v->M'.cell b i=some v)/\M'.own b/\SH u M0 D M' (.part b t cs o::L) w:=by
 classical
 have hp:=qau.1 h.pd;have hb:a_ w b t cs:=h.ok _ qal;have hu:b∈D\/u.heap.size<=b:=h.iG _ qal b (by simp[aB.bX]);have xe:∀o,M.cell b o=none:=fun o=>h.off _ qal b o rfl;refine⟨⟨fun b' i=>if b'=b/\i≠o then w.cell? ⟨b',i,none⟩else M.cell b' i,fun b'=>M.own b'∨b'=b⟩,⟨fun b' i v hc=> ?_,fun b hb=> .inl hb⟩,fun i v hi hv=> ?_,.inr rfl,?_⟩
 .by_cases hx:b'=b
  .subst hx;rw[xe]at hc;cases hc
  simp only[hx,false_and,qck];exact hc
 .simp only[ne_eq,hi,qcj,and_self,qcn];exact hb.ld i hv
 have ha:∀e∈L,b∉e.bX:=fun e he hm=>hp.1 e he b (by simp[aB.bX]) hm;refine⟨h.fr,⟨fun b' i v hc=> ?_,fun b hb=> .inl (h.dG.own b hb)⟩,⟨fun b' i v hc=> ?_,fun b' aW=> ?_⟩,fun b' i v hc=> ?_,fun b' aW=> ?_,fun e he b' i hm=> ?_,fun e he b' aW hm=> ?_,fun e he b' aW=> ?_,?_,fun e he=> ?_⟩
 .by_cases hx:b'=b
  .subst hx;have:=h.dG.cell _ _ _ hc;rw[xe]at this;cases this
  simp only[hx,false_and,qck];exact h.dG.cell _ _ _ hc
 .by_cases hx:b'=b/\i≠o
  .simp only[hx,and_self,ne_eq,qcj,qcn]at hc;obtain⟨rfl,_⟩:=hx;exact hc
  simp only[hx,qck]at hc;exact h.le.cell _ _ _ hc
 .rcases aW with aW|rfl
  .exact h.le.own _ aW
  exact hb.own
 .by_cases hx:b'=b/\i≠o
  .right;rw[hx.1];exact hu.symm
  simp only[hx,qck]at hc;exact h.new _ _ _ hc
 .rcases aW with aW|rfl
  .exact h.kI _ aW
  right;exact hu.symm
 .rcases qan.1 he with rfl|he
  .simp only[aB.jf]at hm;obtain⟨rfl,rfl⟩:=hm;simp only[ne_eq,qci,and_false,qck];exact xe _
  have hx:b'≠b:=fun hx=>ha e he (hx▸aB.wA hm);simp only[hx,false_and,qck];exact h.off e (qag _ he) b' i hm
 .rcases qan.1 he with rfl|gH
  .exact aW
  rcases hm with hm|hx
  .exact h.mF e (qag _ gH) b' aW hm
  exact ha e gH (hx▸aB.wG aW)
 .rcases qan.1 he with rfl|he
  .simp[aB.bX]at aW;subst aW;exact hu
  exact h.iG e (qag _ he) b' aW
 .exact qau.2 ⟨fun e he=>hp.1 e he,hp.2⟩
 rcases qan.1 he with rfl|he
 .exact hb
 exact h.ok e (qag _ he)
theorem BA{G:Value->Prop}(h:SH u M0 D M L w)(k:G v)(hp:Pk L (.part b t cs p) L':=by repeat(first|exact Pk.here|apply Pk.there))(hv:cs[o]? =some v:=by rfl):
 ∃v,w.cell? ⟨b,o,none⟩=some v/\G v:=⟨v,(h.partAt hp).ld o hv,k⟩
theorem zdV{G:Value->Prop}(h:SH u M0 D M L w)(k:G v)(hp:Pk L (.part b t cs p) L':=by repeat(first|exact Pk.here|apply Pk.there))(hv:cs[o]? =some v:=by rfl)(hS:b∉S:=by exact qbI):
 ∃v,(w.cell? ⟨b,o,none⟩=some v/\b∉S)/\G v:=⟨v,⟨(h.partAt hp).ld o hv,hS⟩,k⟩
theorem zeE{cs':List Value}{v:Value}{G:World->Prop}(h:SH u M0 D M L w)
 (k:∀w',SH u M0 D M L' w'->G w') (hu:Up L (.part b t cs o) (.part b t cs' o) L':=by repeat(first|exact Up.here|apply Up.there)) (hs:fQ cs o v cs':=by repeat(first|exact fQ.here|apply fQ.there)) (hv:v.oneCell'=true:=by rfl):
 ∃t cs,(a_ w b t cs/\o<cs.length/\v.oneCell'=true)/\∀w1,Fr [b] w w1->a_ w1 b t (cs.set o v)->G w1:=by
 obtain⟨L1,h1,h2⟩:=hu.pk;obtain⟨rfl,ho⟩:=hs.set;refine⟨t,cs,⟨h.partAt h1,ho,hv⟩,fun w1 hf hb=>k w1 (SH.LH h2 ?_)⟩;have h0:=h.pk h1;have hold:a_ w b t cs:=h.partAt h1;refine h0.s6 (e':= .part b t (cs.set o v) o) hf hb (fun b' aW=> .inl aW) ⟨fun b' i x hc=> ?_,fun b' aW=> ?_⟩ (fun b' i hm=>h.off _ h1.mem b' i hm) fun _ hg=>hg.elim
 .by_cases hx:b'=b
  .subst hx;by_cases hi:i=o
   .subst hi;rw[h.off _ h1.mem b' i ⟨rfl,rfl⟩]at hc;cases hc
   have h3:=h.le.cell _ _ _ hc;have h4:cs[i]? =some x:=by rw[<-Cg hold];exact h3
   exact hb.ld i (by rw[qa7 (Ne.symm hi)];exact h4)
  exact tB (h.le.cell _ _ _ hc) hf (by simpa using hx)
 by_cases hx:b'=b
 .subst hx;exact hb.own
 exact iE.fr (h.le.own _ aW) hf (by simpa using hx)
theorem SH.NB(h:SH u M0 D M L w)(hp:Pk L (.part b t cs o) L':=by repeat(first|exact Pk.here|apply Pk.there)):∃M',M.Le M'/\Bk M' b cs/\SH u M0 D M' L' w:=by
 have h0:=h.pk hp;obtain⟨M',h1,h2,h3,h4⟩:=h0.freeze;have hb:=h.partAt hp;exact⟨M',h1,⟨fun i v hi=>h3 b (by simp[aB.bX]) _ v (hb.ld _ (by simpa using hi)),h4 b (by simp[aB.bX]) hb.own⟩,h2⟩
end
def Ko:Option TypeDesc->Bool
 |some (.pointer _)=>true
 |_=>false
theorem Qw{x:Option TypeDesc}(h:Ko x=true):∃e,x=some (.pointer e):=by
 unfold Ko at h;split at h
 .exact⟨_,rfl⟩
 cases h
theorem fZ.plain{P:Program}{m:String}(h:((P.info? t).bind fun i=>i.methods.find? (·.name==m)).map (fun r=>(r.path.toList.length,r.func))=some (0,some (f,true)))(pJ:Ko (P.underlying t)=true):fZ P t v m f v:=by
 obtain⟨e,hu⟩:=Qw pJ;unfold fZ;intro w;cases hi:P.info? t with
 |none=>rw[hi]at h;cases h
 |some i=>
  rw[hi]at h;simp only[Option.bind_some]at h;cases hr:i.methods.find? (·.name==m)with
  |none=>rw[hr]at h;cases h
  |some r=>
   rw[hr]at h;simp only[qbP,qao,qby]at h;have hp:r.path.toList=[]:=qaD h.1;show(method ((P.types.size+99)+1) t v m).run P w=_;unfold method;simp[Bz hi,hr,hp,h.2,follow,receiverAt,qas hu,Place.get]
end
section
variable {w0:World}{a:ByteArray}
theorem UU(e:Env)(w:World):(execOp (ev e) ⟨none,.build 139 #[(0,C (.string ⟨#[97]⟩)),(1,C (.string ⟨#[98]⟩)),(2,C (.string ⟨#[99]⟩)),(3,C (.string ⟨#[120]⟩)),(4,C (.string ⟨#[65]⟩)),(5,C (.string ⟨#[66]⟩)),(6,C (.string ⟨#[67]⟩)),(7,C (.string ⟨#[88]⟩)),(8,C (.string ⟨#[95]⟩)),(9,C (.string ⟨#[195,169]⟩)),(10,C (.string ⟨#[195,137]⟩)),(11,C (.string ⟨#[199,133]⟩)),(12,C (.string ⟨#[228,184,150]⟩)),(13,C (.string ⟨#[84]⟩)),(14,C (.string ⟨#[83,116,114,105,110,103]⟩)),(15,C (.string ⟨#[69,114,114,111,114]⟩))],139, "",#[],none⟩).run prog w= .ok (.value (.agg (names.map Value.string).toArray)) w:=by kernel_rfl
theorem sN{n:Int}(hn:bL n):az prog 23 [.int .i64 n] w0 fun r w'=>r= .string (bZ n)/\Fr [] w0 w':=by
 have h:=SH.start (Mem.nil_le (Wm w0));refine aL mixed func23 VO ?_;refine .inl ⟨_,_,UU _ _,?_⟩;refine au h ?_;clear h;intro b w h;refine br h (cO rfl) ?_;clear h;intro w h;have aG:n.toNat<16:=by have:=hn.1;have:=hn.2;omega
 refine aJ n.toNat ?_ aG (by have:=hn.1;omega);refine ak h ?_ (hv:=by
  show(names.map Value.string)[0+n.toNat*1]? =some (.string (bZ n));simp only[qb1,qbm,qaE,bZ,qaV];have:names[n.toNat]? =some names[n.toNat]:=qaa _;rw[this];rfl)
 exact⟨rfl,h.fr⟩
theorem F_{b:ByteArray}:az prog 41 [.string a,.string b] w0 (mL 208 [.string a,.string b] w0):=by
 have h:=SH.start (Mem.nil_le (Wm w0));refine aL mixed func41 Wh ?_;refine au h ?_;clear h;intro b w h;exact h.ue
theorem Rl{p:Option Addr}:az prog 44 [.int .i64 0,.pointer p,.string a,.nilIface] w0 (mL 220 [.int .i64 0,.pointer p,.string a,.nilIface] w0):=by
 have h:=SH.start (Mem.nil_le (Wm w0));refine aL mixed func44 Wk ?_;refine au h ?_;clear h;intro b w h;exact h.ue
end
section
variable {w:World}{s m:Int}{b o:Nat}{t:TypeId}{cs:List Value}{u:Value}
theorem zcR{a:Addr}{K:Value->World->Prop}(h:w.cell? a=some (.int .u32 s))(hk:K (.int .u32 s) w):az prog 148 [.pointer (some a)] w K:=by
 refine Ht (v:= .int .u32 s) (w':=w) ?_ hk;rw[run_callFunc_extern (fn:=Tryz.f148) (e:=Extern.Atomic.loadT (.int .u32)) (by kernel_rfl) (by kernel_rfl) (by kernel_rfl) (by kernel_rfl) (by kernel_rfl)];have e1:Extern.Atomic.loadT (.int .u32) (List.toArray [.pointer (some a)])=(do Extern.Atomic.read (.int .u32) (<-asAddr (.pointer (some a)))):=rfl;rw[e1];simp[Extern.Atomic.read,asAddr,h,Result.andThen]
theorem zdK{K:Value->World->Prop}(h:a_ w b t cs)(hs:cs[o]? =some (.int .u32 s))
 (hk:∀w1,Fr [b] w w1->a_ w1 b t (cs.set o (.int .u32 (bits .or .u32 s m)))->K (.int .u32 s) w1):az prog 139 [.pointer (some ⟨b,o,none⟩),.int .u32 m] w K:=by
 refine Ht (v:= .int .u32 s) (w':={w with heap:=w.heap.setIfInBounds b (.cells (cs.set o (.int .u32 (bits .or .u32 s m))).toArray t (0,0))}) ?_ (hk _ (Fr.set _ _ _) h.set);rw[run_callFunc_extern (fn:=Tryz.f139) (e:=Extern.Atomic.update (Op.intBits .or) .u32 false) (by kernel_rfl) (by kernel_rfl) (by kernel_rfl) (by kernel_rfl) (by kernel_rfl)];have aG:=(qab.1 hs).1;have aU:(store ⟨b,o,none⟩ (.int .u32 (bits .or .u32 s m)) .atomic).run prog w= .ok () {w with heap:=w.heap.setIfInBounds b (.cells (cs.set o (.int .u32 (bits .or .u32 s m))).toArray t (0,0))}:=by
  rw[run_store prog w _ _ .atomic rfl,Cg h,sa h,DX h];simp[aG]
 have e1:Extern.Atomic.update (Op.intBits .or) .u32 false (List.toArray [.pointer (some ⟨b,o,none⟩),.int .u32 m])=(do
  let a<-asAddr (.pointer (some ⟨b,o,none⟩))
  let iB<-Extern.Atomic.read (.int .u32) a
  let new<-Op.intBits .or .u32 (<-asInt iB) (<-asInt (.int .u32 m))
  store a new .atomic
  pure (if false then new else iB)):=rfl
 rw[e1];have hc:=h.ld o hs;simp[Extern.Atomic.read,asAddr,hc,Result.andThen,intBits_or,asInt,asIntOf,aU]
theorem zD{w0:World}{s m:Nat}{x:Bool}(hc:w0.cell? ⟨b,5,none⟩=some (.int .u32 (s:Int)))(hx:decide (bits .and .u32 (s:Int) (m:Int)≠0)=x):
 az prog 115 [vp b,.int .u32 (m:Int)] w0 fun r w'=>r= .bool x/\w'=w0:=by
 refine aL mixed func115 U9 ?_;refine zcR (s:=(s:Int)) hc ?_;refine aI (fun h1=> ?_) (fun h2=> ?_)
 .exact⟨qaL Value.bool (by rw[<-hx];simp[h1]),rfl⟩
 exact⟨qaL Value.bool (by rw[<-hx];simp[h2]),rfl⟩
theorem Ln{K:Value->World->Prop}(h:a_ w b t cs)(hs:cs[5]? =some (.int .u32 s))
 (hk:∀w1,Fr [b] w w1->a_ w1 b t (cs.set 5 (.int .u32 (bits .or .u32 s m)))->K (.tuple #[]) w1):az prog 107 [vp b,.int .u32 m] w K:=by
 refine aL mixed func107 U1 ?_;exact zdK h hs hk
theorem zz(h:a_ w b t cs)(v:Value):a_ (w.setCell ⟨b,o,none⟩ v) b t (cs.set o v)/\Fr [b] w (w.setCell ⟨b,o,none⟩ v):=by
 rw[DX h];exact⟨h.set,Fr.set _ _ _⟩
theorem Hd:az prog 101 [.bool true] w fun r w'=>r= .tuple #[]/\w'=w:=by
 refine aL mixed func101 UY ?_;exact⟨rfl,rfl⟩
open Go.MuLone in
theorem zfE(h:a_ w b 218 cs)(h3:cs[3]? =some (.int .i32 0))(h5:cs[5]? =some (.int .u32 0)):
 Calls prog 103 #[vp b] w fun e w'=>e= .returned (vp b)/\Fr [b] w w'/\a_ w' b 218 (cs.set 5 (.int .u32 7)):=by
 go_enter_defers func103,ntmps103
 go_wp2_with (first
  |(go_at_call 115;refine(qa func115 rfl (by kernel_rfl) (zD (s:=0) (m:=3) (x:=false) (h.ld 5 h5) (by decide))).mono ?_;rintro e w' ⟨v,rfl,rfl,rfl⟩)
  |(go_at_call 105;refine(lock_free F7 ⟨b,3,none⟩ _ (h.ld 3 h3) (sa h)).mono ?_;rintro e w' ⟨rfl,rfl⟩))
 obtain⟨gc,jD⟩:=zz (o:=3) h (.int .i32 1);refine(qa func115 rfl (by kernel_rfl) (zD (s:=0) (m:=3) (x:=false) (gc.ld 5 (by simp[h5])) (by decide))).mono ?_;rintro e w2 ⟨v,rfl,rfl,PW⟩;subst PW
 go_wp2_with (fail)
 refine(qa (K:=fun v w1=>v= .tuple #[]/\Fr [b] _ w1/\a_ w1 b 218 _) func107 rfl (by kernel_rfl) (Ln (s:=0) (m:=7) gc (by simp[h5]) fun w1 a c=>⟨rfl,a,c⟩)).mono ?_;rintro e w3 ⟨v,rfl,rfl,iu,cV⟩
 go_wp2_with (fail)
 refine(qa func115 rfl (by kernel_rfl) (zD (s:=7) (m:=8) (x:=false) (cV.ld 5 (by have CD:=(qab.1 h5).1;simp[CD];decide)) (by decide))).mono ?_;rintro e w4 ⟨v,rfl,rfl,hw4⟩;subst hw4
 go_wp2_with (fail)
 try rw[show(Op.unary UnOp.not (Value.bool false)).run prog w4= .ok (.bool true) w4 from rfl]
 go_wp2_with (fail)
 refine(qa func101 rfl (by kernel_rfl) Hd).mono ?_;rintro e w5 ⟨v,rfl,rfl,hw5⟩;subst hw5
 go_wp2_with (fail)
 refine leaves_cons (f:=106) (args:= #[.pointer (some ⟨b,3,none⟩)]) (by simp) (by simp[go_sem]) ?_;have CD:=(qab.1 h3).1;refine(unlock_deferred F7 ⟨b,3,none⟩ .returning _ (cV.ld 3 (by simp[CD])) (sa cV)).mono ?_;rintro e u' w6 ⟨rfl,rfl,rfl⟩;obtain⟨qk,mT⟩:=zz (o:=3) cV (.int .i32 0);refine⟨_,results_tmp rfl _ _ _,rfl,jD.trans (iu.trans mT),?_⟩;have e1:((cs.set 3 (Value.int IntKind.i32 1)).set 5 (Value.int IntKind.u32 (bits BinOp.or IntKind.u32 0 7))).set 3 (Value.int IntKind.i32 0)=cs.set 5 (.int .u32 7):=by
  have e0:bits BinOp.or IntKind.u32 0 7=7:=by decide
  rw[e0];apply qbe;intro i;simp only[qaX];by_cases NU:3=i
  .subst NU;simp only[CD,qcn,h3];simp[CD]
  simp[NU]
 rw[e1]at qk;exact qk
theorem UG:az prog 60 [.nilIface] w fun r w'=>r= .pointer none/\w'=w:=by
 refine aL mixed func60 Hq ?_;refine aL mixed func112 EL ?_;exact⟨rfl,rfl⟩
def Plain(t:TypeId):Prop:=t=134\/t=168\/t=221\/t=223\/t=229
theorem zI(ht:Plain t\/t=120\/t=235\/t=289):az prog 112 [.iface t u] w fun r w'=>r= .iface t u/\w'=w:=by
 unfold Plain at ht;rcases ht with(rfl|rfl|rfl|rfl|rfl)|rfl|rfl|rfl<;>(refine aL mixed func112 EL ?_;exact⟨rfl,rfl⟩)
theorem UH(ht:Plain t):az prog 60 [.iface t u] w fun r w'=>r= .pointer none/\w'=w:=by
 unfold Plain at ht;rcases ht with(rfl|rfl|rfl|rfl|rfl)<;>(refine aL mixed func60 Hq ?_;refine aL mixed func112 EL ?_;exact⟨rfl,rfl⟩)
theorem a_.congr{cs':List Value}(h:a_ w b t cs)(he:cs=cs'):a_ w b t cs':=he▸h
open Go.MuLone in
theorem zeQ{t:Nat}{x:Value}(ht:Plain t)(hx:x.oneCell'=true)(hl:cs.length=10)(h:a_ w b 218 cs)(h3:cs[3]? =some (.int .i32 0))(h5:cs[5]? =some (.int .u32 s))(hs:s=0\/s=7):
 Calls prog 50 #[vp b,.iface t x] w fun e w'=>e= .returned (.tuple #[])/\Fr [b] w w'/\a_ w' b 218 ((((cs.set 2 (.bool false)).set 5 (.int .u32 15)).set 6 (.iface t x)).set 7 (.iface t x)):=by
 have hz:∀{w:World} {cs:List Value},a_ w b 218 cs->∀o,w.frozen? ⟨b,o,none⟩=false:=fun h o=>sa h;have mO:∃v,cs[2]? =some v:=⟨cs[2]'(by omega),by simp⟩;have h6':∃v,cs[6]? =some v:=⟨cs[6]'(by omega),by simp⟩;have h7':∃v,cs[7]? =some v:=⟨cs[7]'(by omega),by simp⟩;obtain⟨v2,h2⟩:=mO;obtain⟨v6,h6⟩:=h6';obtain⟨v7,h7⟩:=h7';have hz0:=hz h;have c6:=h.ld 6 h6;have c2:=h.ld 2 h2
 go_enter_defers func50,ntmps50
 go_wp2_with (first
  |(go_at_call 60;refine(qa func60 rfl (by kernel_rfl) (UH ht)).mono ?_;rintro e w' ⟨v,rfl,rfl,rfl⟩)
  |(go_at_call 105;refine(lock_free F7 ⟨b,3,none⟩ _ (h.ld 3 h3) (sa h)).mono ?_;rintro e w' ⟨rfl,rfl⟩))
 obtain⟨gc,jD⟩:=zz (o:=3) h (.int .i32 1);obtain⟨cV,iu⟩:=zz (o:=6) gc (.iface t x);obtain⟨qk,mT⟩:=zz (o:=2) cV (.bool false);refine(qa (K:=fun v w1=>v= .tuple #[]/\Fr [b] _ w1/\a_ w1 b 218 _) func107 rfl (by kernel_rfl) (Ln (s:=s) (m:=7) qk (by simp[h5]) fun w1 a c=>⟨rfl,a,c⟩)).mono ?_;rintro e w4 ⟨v,rfl,rfl,hf4,Au⟩;have c7:=Au.ld 7 (v:=v7) (by simp[h7]);have ua:=hz Au
 go_wp2_with (fail)
 obtain⟨hb5,hf5⟩:=zz (o:=7) Au (.iface t x);refine(qa (K:=fun v w1=>v= .tuple #[]/\Fr [b] _ w1/\a_ w1 b 218 _) func107 rfl (by kernel_rfl) (Ln (s:=bits .or .u32 s 7) (m:=8) hb5 (by simp[hl]) fun w1 a c=>⟨rfl,a,c⟩)).mono ?_;rintro e w6 ⟨v,rfl,rfl,hf6,H8⟩
 go_wp2_with (fail)
 refine leaves_cons (f:=106) (args:= #[.pointer (some ⟨b,3,none⟩)]) (by simp) (by simp[go_sem]) ?_;refine(unlock_deferred F7 ⟨b,3,none⟩ .returning _ (H8.ld 3 (by simp[hl])) (sa H8)).mono ?_;rintro e u' w7 ⟨rfl,rfl,rfl⟩;obtain⟨Ol,hf7⟩:=zz (o:=3) H8 (.int .i32 0);refine⟨_,results_none rfl _ _ _,rfl,jD.trans (iu.trans (mT.trans (hf4.trans (hf5.trans (hf6.trans hf7))))),?_⟩;have cL:bits .or .u32 (bits .or .u32 s 7) 8=15:=by rcases hs with rfl|rfl<;>decide
 rw[cL]at Ol;refine Ol.congr ?_
 match cs,hl with
 |[a0,a1,a2,a3,a4,a5,a6,a7,a8,a9],_=>simp at h3;subst h3;rfl
end
end Go.Proofs.YtlfcbbcdiecelaaGreatDoor
