import Derived.Test.YtlfcbbcdiecelaaGreatDoorZ10
namespace Go.Proofs.YtlfcbbcdiecelaaGreatDoor
open Go Go.Proofs.Tryz
set_option maxRecDepth 100000
set_option maxHeartbeats 4000000
set_option linter.all false
section
variable {W:Wd}{s s' u:Sp}{id:ByteArray}{n:Nat}{k d:Int}
inductive iT(W:Wd):Sp->ByteArray->Nat->Prop where
 |own {s:Sp} {i:Nat} (hi:i<(W.under s).of.methods.length):iT W s (aM (W.under s).aC ((W.under s).of.methods.getD i default).1) ((W.under s).at_+i)
 |np {s:Sp} {i:Nat} {id:ByteArray} {n:Nat} (hi:i<(W.under s).of.aD.length) (h:iT W ((W.under s).bE i) id n):iT W s id n
theorem iT.congr(he:W.under s=W.under s')(h:iT W s id n):iT W s' id n:=by
 cases h with
 |own hi=>rw[he]at hi⊢;exact .own hi
 |np hi h=>rw[he]at hi h;exact .np hi h
theorem Tw(hL:dV W)(hs:s.of.kind=1->W.has s.of.num):W.under (W.under s)=W.under s:=fO (Ec hL hs)
theorem iT.under(hL:dV W)(hs:s.of.kind=1->W.has s.of.num):iT W (W.under s) id n↔iT W s id n:=
 ⟨.congr (Tw hL hs),.congr (Tw hL hs).symm⟩
theorem GF{W:Wd}(hW:GW W)(hL:dV W):∀(n:Nat) (s:Sp),GS W s->s.of.kind≠1->∀m∈dj W n s,iT W s m.id m.num
 |0,s,_,_,m,h=>by simp[dj]at h
 |n+1,s,hs,hk,m,h=>by
  have hu:W.under s=s:=fO hk;rw[dj]at h;have h:=(BG _).mem_iff.1 h;rcases HB h with h|h
  .cases h
  rcases qah.1 h with h|h
  .obtain⟨j,hj,rfl⟩:=qaj.1 h;have hj:=qaz.1 hj;have:=iT.own (W:=W) (s:=s) (i:=j) (by rw[hu];exact hj);rw[hu]at this;exact this
  obtain⟨i,hi,h⟩:=qaS.1 h;have hi:=qaz.1 hi;have hg:=hs.bE hi;have:=GF hW hL n _ (hg.under hW) (Ec hL hg.ok.num) m h;exact .np (by rw[hu];exact hi) (by rw[hu];exact(iT.under hL hg.ok.num).1 this)
theorem Oh(hL:dV W)(gp:Forms W){k:Nat}(h:iT W s id k):∀n,g_ W n (W.under s)->∃m∈dj W n (W.under s),m.id=id:=by
 induction h with
 |own hi=>
  intro n hn;cases n with
  |zero=>obtain⟨d,_,hr⟩:=hn;omega
  |succ n=>
   rename_i s i;obtain⟨y,hy,he⟩:=MO (acc:=[]) (l:=m8 (W.under s)++(List.range (W.under s).of.aD.length).flatMap fun i=>dj W n (W.under ((W.under s).bE i))) (x:=⟨(W.under s).at_+i,(W.under s).aC,((W.under s).of.methods.getD i default).1⟩) (.inr (qaA _ (qaj.2 ⟨i,qaz.2 hi,rfl⟩)));exact⟨y,by rw[dj];exact(BG _).mem_iff.2 hy,he⟩
 |np hi h ih=>
  intro n hn;cases n with
  |zero=>obtain⟨d,_,hr⟩:=hn;omega
  |succ n=>
   rename_i s i id k;obtain⟨m,hm,he⟩:=ih n (hn.step hL gp hi);obtain⟨y,hy,tJ⟩:=MO (acc:=[]) (l:=m8 (W.under s)++(List.range (W.under s).of.aD.length).flatMap fun i=>dj W n (W.under ((W.under s).bE i))) (x:=m) (.inr (qaR _ (qaS.2 ⟨i,qaz.2 hi,hm⟩)));exact⟨y,by rw[dj];exact(BG _).mem_iff.2 hy,tJ.trans he⟩
def gM(l:List cU)(id:ByteArray)(k:Int):Prop:=∃x∈l,x.id=id/\k∈x.cJ
theorem Kk{x:cU}{id:ByteArray}{k:Int}:∀{l:List cU},gM (ins x l) id k↔gM l id k\/(x.id=id/\k∈x.cJ)
 |[]=>by simp[ins,gM]
 |y::r=>by
  have hc:∀{z:cU} {l:List cU},gM (z::l) id k↔(z.id=id/\k∈z.cJ)\/gM l id k:=fun{z l}=>by simp[gM]
  unfold ins;split
  .rename_i h;rw[hc,hc];simp only[qah,h];constructor
   .rintro(⟨h1,h2|h2⟩|h1)
    .exact .inl (.inl ⟨h1,h2⟩)
    .exact .inr ⟨h1,h2⟩
    exact .inl (.inr h1)
   rintro((⟨h1,h2⟩|h1)|⟨h1,h2⟩)
   .exact .inl ⟨h1,.inl h2⟩
   .exact .inr h1
   exact .inl ⟨h1,.inr h2⟩
  split
  .rw[hc];constructor
   .rintro(h|h)
    .exact .inr h
    exact .inl h
   rintro(h|h)
   .exact .inr h
   exact .inl h
  rw[hc,hc,Kk (l:=r)];constructor
  .rintro(h|h|h)
   .exact .inl (.inl h)
   .exact .inl (.inr h)
   exact .inr h
  rintro((h|h)|h)
  .exact .inl h
  .exact .inr (.inl h)
  exact .inr (.inr h)
theorem Nv{id:ByteArray}{k:Int}:∀(l:List cU) {out:List cU},hG out->(gM (l.foldl ju out) id k↔gM out id k\/gM l id k)
 |[],out,_=>by simp[gM]
 |x::r,out,h=>by
  rw[qbo,Nv r (Ej x h),BO x h,Kk];have hc:gM (x::r) id k↔(x.id=id/\k∈x.cJ)\/gM r id k:=by simp[gM]
  rw[hc];constructor
  .rintro((h|h)|h)
   .exact .inl h
   .exact .inr (.inl h)
   exact .inr (.inr h)
  rintro(h|h|h)
  .exact .inl (.inl h)
  .exact .inl (.inr h)
  exact .inr h
theorem Lp(u:Sp){id:ByteArray}{k:Int}:∀n,gM (j5 u n) id k↔∃i,i<n/\aM u.aC (u.of.methods.getD i default).1=id/\k=((u.at_+i:Nat):Int)
 |0=>by simp[j5,gM]
 |n+1=>by
  have e:j5 u (n+1)=ju (j5 u n) ⟨aM u.aC (u.of.methods.getD n default).1,[(u.at_+n:Nat)]⟩:=by unfold j5;rw[qbB,qbF];rfl
  rw[e,BO _ (zB u n).1,Kk,Lp u n];simp only[qac];constructor
  .rintro(⟨i,h1,h2,h3⟩|⟨h1,h2⟩)
   .exact⟨i,by omega,h2,h3⟩
   exact⟨n,by omega,h1,h2⟩
  rintro⟨i,h1,h2,h3⟩;by_cases hi:i=n
  .subst hi;exact .inr ⟨h2,h3⟩
  exact .inl ⟨i,by omega,h2,h3⟩
theorem SA(hW:GW W)(n:Nat)(hu:Ok W u.of)(seen:List Int)(k:Nat)(hk:k<=u.of.aD.length):hG (da W n u seen k).1:=
 (Sz hW.jZ (B:=2*W.aj) (fun d hd=>by have:=Wd.sQ hd;omega) n hu seen k hk).1
theorem Gn(hW:GW W)(n:Nat)(hu:Ok W u.of)(seen:List Int){j:Nat}(hj:j<u.of.aD.length):gM (da W n u seen (j+1)).1 id k↔gM (da W n u seen j).1 id k\/gM (fp W n (u.bE j) (da W n u seen j).2).1 id k:=by
 rw[vY,Nv _ (SA hW n hu seen j (by omega))]
theorem Gp(W:Wd)(n:Nat)(u:Sp)(seen:List Int):da W n u seen 0=(j5 u u.of.methods.length,seen):=by simp[da]
theorem zeS(hW:GW W)(n:Nat)(hu:Ok W u.of)(seen:List Int):∀{j j':Nat},j<=j'->j'<=u.of.aD.length->gM (da W n u seen j).1 id k->gM (da W n u seen j').1 id k:=by
 intro j j' h
 induction h with
 |refl=>exact fun _ h=>h
 |step h ih=>exact fun hl hh=>(Gn hW n hu seen (by omega)).2 (.inl (ih (by omega) hh))
theorem zeT(hW:GW W)(n:Nat)(hu:Ok W u.of)(seen:List Int){i:Nat}(hi:i<u.of.methods.length){k:Nat}(hk:k<=u.of.aD.length):gM (da W n u seen k).1 (aM u.aC (u.of.methods.getD i default).1) ((u.at_+i:Nat):Int):=
 zeS hW n hu seen (qae k) hk (by rw[Gp];exact(Lp u _).2 ⟨i,hi,rfl,rfl⟩)
theorem SB{W:Wd}(hW:GW W)(hL:dV W):∀(n:Nat) (s:Sp) (seen:List Int),GS W s->∀id k,gM (fp W n s seen).1 id k->∃m:Nat,k=(m:Int)/\iT W s id m
 |0,s,seen,_,id,k,⟨x,hx,_⟩=>by simp[fp]at hx
 |n+1,s,seen,hs,id,k,h=>by
  by_cases hm:s.of.kind=1/\s.of.num∈seen
  .rw[BD hm]at h;obtain⟨x,hx,_⟩:=h;cases hx
  rw[xL hm]at h;have hu:=hs.under hW;have key:∀(seen1:List Int) (j:Nat),j<=(W.under s).of.aD.length->gM (da W n (W.under s) seen1 j).1 id k->∃m:Nat,k=(m:Int)/\iT W s id m:=by
   intro seen1 j
   induction j with
   |zero=>
    intro _ h;rw[Gp]at h;obtain⟨i,h1,rfl,h3⟩:=(Lp _ _).1 h;exact⟨_,h3,.own h1⟩
   |succ j ih=>
    intro hj h;rcases(Gn hW n hu.ok seen1 (by omega)).1 h with h|h
    .exact ih (by omega) h
    obtain⟨m,h1,h2⟩:=SB hW hL n _ _ (hu.bE (by omega)) id k h;exact⟨m,h1,.np (by omega) h2⟩
  exact key _ _ (qad _) h
def mE(n:Int):Sp:=⟨.mk 1 n [] [] [] [],0,0⟩
theorem Ed(hL:dV W)(hk:s.of.kind=1)(ad:s'.of.kind=1)(hn:s.of.num=s'.of.num)(hh:W.has s.of.num):W.under s=W.under s':=by
 rw[kM hL hk hh,kM hL ad (hn▸hh),hn]
def qN(W:Wd)(d:Int)(seen:List Int)(l:List cU)(s:Sp):Prop:=∀id k,iT W s id k->gM l id (k:Nat)\/∃e∈seen,d<e/\iT W (mE e) id k
theorem cP.zdo{t:Ty}(h:cP W d t true)(hk:t.kind=1):W.has t.num/\d<t.num:=by
 cases h with
 |named _ _ hn hd=>
  rcases hd with hd|⟨hd,_⟩
  .exact⟨hn,hd⟩
  cases hd
 |basic ad=>rw[hk]at ad;cases ad
 |to ad=>rw[hk]at ad;rcases ad with h|h<;>cases h
 |struct ad=>rw[hk]at ad;cases ad
 |iface ad=>rw[hk]at ad;cases ad
theorem Sy(hW:GW W)(hL:dV W)(ih:∀(s:Sp) (seen:List Int) (d:Int),GS W s->cP W d s.of true->uk W s seen<n->qN W d seen (fp W n s seen).1 s/\∀e∈(fp W n s seen).2,e∈seen\/(d<e/\qN W d seen (fp W n s seen).1 (mE e)))
 {u:Sp} (hu:GS W u) {j d:Int} (hf:cP W j u.of true) (hdj:d<=j) {seen seen1:List Int} (fH:∀e∈seen1,e∈seen\/e<=j) (sI:∀k,k<u.of.aD.length->uk W (u.bE k) (da W n u seen1 k).2<n):
 ∀k,k<=u.of.aD.length->(∀i,i<k->qN W d seen (da W n u seen1 k).1 (u.bE i))/\∀e∈(da W n u seen1 k).2,e∈seen1\/(j<e/\qN W d seen (da W n u seen1 k).1 (mE e)):=by
 intro k
 induction k with
 |zero=>exact fun _=>⟨fun i hi=>absurd hi (qav _),fun e he=> .inl (by rw[Gp]at he;exact he)⟩
 |succ k ihk=>
  intro hk;obtain⟨a1,a2⟩:=ihk (by omega);have aG:k<u.of.aD.length:=by omega
  have oq:cP W j (u.bE k).of true:=by rw[Sp.pj aG];exact hf.aD _ (by simp)
  obtain⟨b1,b2⟩:=ih (u.bE k) (da W n u seen1 k).2 j (hu.bE aG) oq (sI k aG);have up:∀{id:ByteArray} {m:Int},gM (da W n u seen1 k).1 id m->gM (da W n u seen1 (k+1)).1 id m:=fun h=>(Gn hW n hu.ok seen1 aG).2 (.inl h);have Ef:∀{id:ByteArray} {m:Int},gM (fp W n (u.bE k) (da W n u seen1 k).2).1 id m->gM (da W n u seen1 (k+1)).1 id m:=fun h=>(Gn hW n hu.ok seen1 aG).2 (.inr h);have lift:∀{s:Sp},qN W d seen (da W n u seen1 k).1 s->qN W d seen (da W n u seen1 (k+1)).1 s:=fun h id m hm=>(h id m hm).imp_left up;have s6:∀{s:Sp},qN W j (da W n u seen1 k).2 (fp W n (u.bE k) (da W n u seen1 k).2).1 s->qN W d seen (da W n u seen1 (k+1)).1 s:=fun h id m hm=>by
   rcases h id m hm with h|⟨e,h1,h2,h3⟩
   .exact .inl (Ef h)
   rcases a2 e h1 with h4|⟨_,h4⟩
   .rcases fH e h4 with h5|h5
    .exact .inr ⟨e,h5,by omega,h3⟩
    omega
   exact lift h4 id m h3
  refine⟨fun i hi=> ?_,fun e he=> ?_⟩
  .by_cases kh:i=k
   .subst kh;exact s6 b1
   exact lift (a1 i (by omega))
  rw[vY]at he;rcases b2 e he with h|⟨h1,h2⟩
  .exact(a2 e h).imp_right fun h=>⟨h.1,lift h.2⟩
  exact .inr ⟨h1,s6 h2⟩
theorem Lo{W:Wd}(hW:GW W)(hL:dV W)(gp:Forms W):∀(n:Nat) (s:Sp) (seen:List Int) (d:Int),GS W s->cP W d s.of true->uk W s seen<n->
 qN W d seen (fp W n s seen).1 s/\∀e∈(fp W n s seen).2,e∈seen\/(d<e/\qN W d seen (fp W n s seen).1 (mE e))
 |0,s,seen,d,_,_,h=>by omega
 |n+1,s,seen,d,hs,hf,sI=>by
  have hu:=hs.under hW;have fin:∀(seen1:List Int),(∀i,i<(W.under s).of.aD.length->qN W d seen (da W n (W.under s) seen1 (W.under s).of.aD.length).1 ((W.under s).bE i))->qN W d seen (da W n (W.under s) seen1 (W.under s).of.aD.length).1 s:=fun seen1 h id k hk=>by
   cases hk with
   |own hi=>exact .inl (zeT hW n hu.ok seen1 hi (qad _))
   |np hi hk=>exact h _ hi id k hk
  by_cases hk:s.of.kind=1
  .obtain⟨hh,hd⟩:=hf.zdo hk;by_cases hm:s.of.num∈seen
   .rw[BD ⟨hk,hm⟩];exact⟨fun id k h=> .inr ⟨s.of.num,hm,hd,h.congr (Ed (s':=mE s.of.num) hL hk rfl rfl hh)⟩,fun e he=> .inl he⟩
   rw[xL (fun h=>hm h.2),if_pos hk];obtain⟨j,uZ,ki,IF⟩:=zJ hL hh;have PP:W.under s=W.spot j:=by rw[kM hL hk hh,uZ]
   have e:((j.toNat:Nat):Int)=j:=by have:=IF.1;omega
   have uT:=gp j.toNat IF.2;rw[e]at uT;have oK:=GO (W:=W) hh hm;have xj:(W.under s).of.aj<=W.aj:=by rw[PP];exact Wd.sQ (W.mem _ IF)
   obtain⟨c1,c2⟩:=Sy hW hL (fun s seen d h1 h2 h3=>Lo hW hL gp n s seen d h1 h2 h3) hu (j:=j) (d:=d) (by rw[PP];exact uT) (by omega) (seen:=seen) (seen1:=s.of.num::seen) (fun e he=>by
    rcases qan.1 he with rfl|he
    .exact .inr ki
    .exact .inl he) (fun k ad=>by
    obtain⟨l,hl⟩:=D0 n (W.under s) (s.of.num::seen) (W:=W) k;have g1:gn W (da W n (W.under s) (s.of.num::seen) k).2<=gn W (s.of.num::seen):=by rw[hl];exact GN W _ _
    have fD:=Ty.nY (t:=(W.under s).of) (u:=(W.under s).of.aD[k]) (by simp);refine Rc sI hk oK g1 (x:=if((W.under s).bE k).of.kind=1 then 0 else((W.under s).bE k).of.aj) (e:=(W.under s).of.aj) ?_ xj;rw[Sp.pj ad];split<;>omega) _ (qad _)
   have a:=fin _ c1;refine⟨a,fun e he=> ?_⟩;rcases c2 e he with h|⟨h1,h2⟩
   .rcases qan.1 h with rfl|h
    .exact .inr ⟨hd,fun id k h=>a id k (h.congr (Ed (s:=mE s.of.num) hL rfl hk rfl hh))⟩
    exact .inl h
   exact .inr ⟨by omega,h2⟩
  rw[xL (fun h=>hk h.1),if_neg hk];have ko:W.under s=s:=fO hk;obtain⟨c1,c2⟩:=Sy hW hL (fun s seen d h1 h2 h3=>Lo hW hL gp n s seen d h1 h2 h3) hu (j:=d) (d:=d) (by rw[ko];exact hf) (by omega) (seen:=seen) (seen1:=seen) (fun e he=> .inl he) (fun k ad=>by
   obtain⟨l,hl⟩:=D0 n (W.under s) seen (W:=W) k;have g1:gn W (da W n (W.under s) seen k).2<=gn W seen:=by rw[hl];exact GN W _ _
   have fD:=Ty.nY (t:=(W.under s).of) (u:=(W.under s).of.aD[k]) (by simp);have e0:(W.under s).of.aj=s.of.aj:=by rw[ko]
   refine Rb sI hk g1 (x:=if((W.under s).bE k).of.kind=1 then 0 else((W.under s).bE k).of.aj) (e:=(W.under s).of.aD[k].aj) ?_ (by omega);rw[Sp.pj ad];split<;>omega) _ (qad _)
  exact⟨fin _ c1,c2⟩
theorem Lr(hW:GW W)(hL:dV W)(gp:Forms W)(hs:GS W s)(hf:cP W d s.of true):gM (W.sigs s) id k↔∃m:Nat,k=(m:Int)/\iT W s id m:=by
 refine⟨SB hW hL _ _ _ hs id k,?_⟩;rintro⟨m,rfl,h⟩;rcases(Lo hW hL gp _ s [] d hs hf (SF W s)).1 id m h with h|⟨e,he,_⟩
 .exact h
 cases he
end
section
variable {n d:Int}{W:Wd}{s u:Sp}{id:ByteArray}{l:List cU}{i j:Nat}
theorem zch:((List.range 2).all fun p=>(List.range 16).all fun n=>(List.range 2).all fun q=>(List.range 16).all fun k=>decide (aM (p:Nat) (n:Nat)=aM (q:Nat) (k:Nat))==(decide (bZ (n:Nat)=bZ (k:Nat))&&(exported (n:Nat)||decide (dY (p:Nat)=dY (q:Nat)))))=true:=by kernel_rfl
theorem qA{p q m:Int}(hp:cN p)(hn:bL n)(hq:cN q)(hm:bL m):aM p n=aM q m↔bZ n=bZ m/\(exported n=true\/dY p=dY q):=by
 obtain⟨p,ea,rfl⟩:=xH hp;obtain⟨n,lM,rfl⟩:=xz hn;obtain⟨q,vh,rfl⟩:=xH hq;obtain⟨m,lL,rfl⟩:=xz hm;have h:=zch;rw[qaW]at h;have h1:=h p (qaz.2 ea);rw[qaW]at h1;have h2:=h1 n (qaz.2 lM);rw[qaW]at h2;have h3:=h2 q (qaz.2 vh);rw[qaW]at h3;have h4:=h3 m (qaz.2 lL);rw[beq_iff_eq]at h4;by_cases hc:aM (p:Nat) (n:Nat)=aM (q:Nat) (m:Nat)
 .rw[qaH hc]at h4;exact iff_of_true hc (by simpa using h4.symm)
 rw[qaK hc]at h4;refine iff_of_false hc fun h=> ?_;have h5:=h4.symm;rw[qaH h.1,Bool.true_and]at h5;rcases h.2 with h6|h6
 .rw[h6]at h5;cases h5
 rw[qaH h6,Bool.or_true]at h5;cases h5
theorem EV{α:Type}{f:Nat->Option α}:∀{n:Nat},(∀j,j<n->f j=none)->(List.range n).filterMap f=[]
 |0,_=>rfl
 |n+1,h=>by rw[qY,EV (fun j hj=>h j (by omega)),h n (by omega)];rfl
theorem EW{α:Type}{f:Nat->Option α}{x:α}:∀{n i:Nat},i<n->f i=some x->(∀j,j<n->f j≠none->j=i)->(List.range n).filterMap f=[x]
 |0,i,hi,_,_=>absurd hi (qav _)
 |n+1,i,hi,hx,hu=>by
  rw[qY];by_cases jG:i=n
  .subst jG;rw[hx,EV fun j hj=> ?_]
   .rfl
   cases uT:f j with
   |none=>rfl
   |some y=>have:=hu j (by omega) (by rw[uT];exact fun h=>by cases h);omega
  rw[EW (i:=i) (by omega) hx fun j hj=>hu j (by omega)];have:f n=none:=by
   cases uT:f n with
   |none=>rfl
   |some y=>have:=hu n (by omega) (by rw[uT];exact fun h=>by cases h);omega
  rw[this];rfl
theorem Bp{α:Type} [DecidableEq α]:∀{l l':List α},l.Nodup->(∀x∈l,x∈l')->l.length<=l'.length
 |[],_,_,_=>qae _
 |x::l,l',hn,hs=>by
  rw[List.nodup_cons]at hn;have hx:=hs x qal;have h1:=Bp (l':=l'.erase x) hn.2 fun y hy=>(List.mem_erase_of_ne (fun h=>hn.1 (by rw[<-h];exact hy))).2 (hs y (qag _ hy));have h2:=List.length_erase_of_mem hx;have h3:0<l'.length:=List.length_pos_of_mem hx;simp only[qaO];omega
theorem zdE{α:Type}{l l':List α}(h1:l.Nodup)(h2:l'.Nodup)(h:∀x,x∈l↔x∈l'):l.length=l'.length:=by
 classical
 exact Nat.le_antisymm (Bp h1 fun x=>(h x).1) (Bp h2 fun x=>(h x).2)
theorem Kl{x:cU}(hx:x.cJ≠[]):∀{l:List cU},(∀y∈l,y.cJ≠[])->∀y∈ins x l,y.cJ≠[]
 |[],_,y,hy=>by simp[ins]at hy;subst hy;exact hx
 |z::r,h,y,hy=>by
  unfold ins at hy;split at hy
  .rcases qan.1 hy with rfl|hy
   .simp[hx]
   exact h y (qag _ hy)
  split at hy
  .rcases qan.1 hy with rfl|hy
   .exact hx
   exact h y hy
  rcases qan.1 hy with rfl|hy
  .exact h _ qal
  exact Kl hx (fun y hy=>h y (qag _ hy)) y hy
theorem Nw:∀(l:List cU) {out:List cU},hG out->(∀y∈out,y.cJ≠[])->(∀y∈l,y.cJ≠[])->∀y∈l.foldl ju out,y.cJ≠[]
 |[],_,_,h,_=>h
 |x::r,out,hs,h,h'=>by
  rw[qbo];refine Nw r (Ej x hs) ?_ fun y hy=>h' y (qag _ hy);rw[BO x hs];exact Kl (h' x qal) h
theorem SE(u:Sp):∀n,∀y∈j5 u n,y.cJ≠[]
 |0,y,hy=>by simp[j5]at hy
 |n+1,y,hy=>by
  have e:j5 u (n+1)=ju (j5 u n) ⟨aM u.aC (u.of.methods.getD n default).1,[(u.at_+n:Nat)]⟩:=by unfold j5;rw[qbB,qbF];rfl
  rw[e,BO _ (zB u n).1]at hy;exact Kl (by simp) (SE u n) y hy
theorem SC{W:Wd}(hW:GW W):∀(n:Nat) (s:Sp) (seen:List Int),GS W s->∀y∈(fp W n s seen).1,y.cJ≠[]
 |0,s,seen,_,y,hy=>by simp[fp]at hy
 |n+1,s,seen,hs,y,hy=>by
  by_cases hm:s.of.kind=1/\s.of.num∈seen
  .rw[BD hm]at hy;cases hy
  rw[xL hm]at hy;have hu:=hs.under hW;have key:∀(seen1:List Int) (j:Nat),j<=(W.under s).of.aD.length->∀y∈(da W n (W.under s) seen1 j).1,y.cJ≠[]:=by
   intro seen1 j
   induction j with
   |zero=>intro _ y hy;rw[Gp]at hy;exact SE _ _ y hy
   |succ j ih=>
    intro hj;rw[vY];exact Nw _ (SA hW n hu.ok seen1 j (by omega)) (ih (by omega)) (SC hW n _ _ (hu.bE (by omega)))
  exact key _ _ (qad _) y hy
theorem SG(hW:GW W)(hL:dV W)(gp:Forms W)(hs:GS W s)(hf:cP W d s.of true):id∈(W.sigs s).map (·.id)↔∃m:Nat,iT W s id m:=by
 constructor
 .intro h;obtain⟨x,hx,rfl⟩:=qaj.1 h;have aT:=SC hW _ _ _ hs x hx;obtain⟨k,hk⟩:=List.exists_mem_of_ne_nil _ aT;obtain⟨m,_,hm⟩:=(Lr hW hL gp hs hf).1 ⟨x,hx,rfl,hk⟩;exact⟨m,hm⟩
 rintro⟨m,hm⟩;obtain⟨x,hx,he,_⟩:=(Lr hW hL gp hs hf).2 ⟨m,rfl,hm⟩;exact qaj.2 ⟨x,hx,he⟩
theorem SJ(hW:GW W)(hs:GS W s):hG (W.sigs s):=(Gq hW.jZ (B:=2*W.aj) (fun d hd=>by have:=Wd.sQ hd;omega) _ s [] hs.ok).1
theorem hG.nodup(h:hG l):(l.map (·.id)).Nodup:=by
 unfold List.Nodup;rw[qbl];exact h.imp fun{a b} d8 he=>by rw[he,Ch]at d8;cases d8
def wl(W:Wd)(s:Sp):Prop:=∃d,cP W d s.of true
theorem g_.fm{n:Nat}(h:g_ W n s):wl W s:=by obtain⟨d,h,_⟩:=h;exact⟨d,h⟩
theorem wl.rk(h:wl W s):∃n,g_ W n s:=by obtain⟨d,h⟩:=h;exact⟨_,d,h,qam _⟩
theorem GG(hW:GW W)(hL:dV W)(gp:Forms W){n:Nat}(hs:GS W s)(hk:s.of.kind≠1)(hn:g_ W n s):id∈(dj W n s).map bD.id↔∃m:Nat,iT W s id m:=by
 have hu:W.under s=s:=fO hk;constructor
 .intro h;obtain⟨x,hx,rfl⟩:=qaj.1 h;exact⟨_,GF hW hL n s hs hk x hx⟩
 rintro⟨m,hm⟩;obtain⟨x,hx,he⟩:=Oh hL gp hm n (by rw[hu];exact hn);rw[hu]at hx;exact qaj.2 ⟨x,hx,he⟩
theorem zfp(hW:GW W)(hL:dV W)(gp:Forms W){n:Nat}(hs:GS W s)(hk:s.of.kind≠1)(hn:g_ W n s):(W.sigs s).length=(dj W n s).length:=by
 have⟨d,hf,_⟩:=hn;have:=zdE (SJ hW hs).nodup (zG W n s) fun id=>by rw[SG hW hL gp hs hf,GG hW hL gp hs hk hn]
 simpa using this
structure bY(W:Wd)(s:Sp):Prop where
 gs:GS W s
 val:Valid W (W.under s)
 fm:wl W (W.under s)
 dec:s.of.kind=1->wi W s.of.num
structure IE where
 num:Nat
 bO:Bool
 last:Nat
 ptr:Bool
 cM:Bool
inductive ep(W:Wd)(s:Sp)(id:ByteArray):IE->Prop where
 |bO {i:Nat} (hk:s.of.kind=1) (hi:i<(W.at s.of.num).methods.length) (hid:aM (W.at s.of.num).aC ((W.at s.of.num).methods.getD i default).1=id):ep W s id ⟨W.start s.of.num.toNat+i,true,i,((W.at s.of.num).methods.getD i default).2,false⟩
 |eS {i:Nat} (hi:i<(W.under s).of.fields.length) (hn:W.fieldName ((W.under s).of.fields.getD i default)≠8) (hid:aM (W.under s).aC (W.fieldName ((W.under s).of.fields.getD i default))=id):ep W s id ⟨(W.under s).fieldAt i,false,i,false,false⟩
 |cM {n i:Nat} {m:bD} (hk:(W.under s).of.kind=5) (hn:g_ W n (W.under s)) (hm:(dj W n (W.under s))[i]? =some m) (hid:m.id=id):ep W s id ⟨m.num,true,i,false,true⟩
theorem Valid.Ny(h:Valid W s):∀j f,s.of.fields[j]? =some f->W.fieldName f≠8->W.fieldName f∉(s.of.fields.take j).map W.fieldName:=by cases h;assumption
theorem fS{α:Type}[Inhabited α]{l:List α}(h:i<l.length):l.getD i default=l[i]:=by simp[h]
theorem Gy{α β:Type}{l:List α}{f:α->β}(dc:i<j)(hj:j<l.length){y:α}(hy:l[j]? =some y)(h:f y∉(l.take j).map f):f l[i]≠f l[j]:=by
 rw[qaa hj]at hy;cases hy;intro he;exact h (qaj.2 ⟨l[i],List.mem_take_iff_getElem.2 ⟨i,by omega,rfl⟩,he⟩)
theorem cP.xB{t:Ty}{v:Bool}(h:cP W d t v)(hk:t.kind≠4):t.fields=[]:=by
 cases hf:t.fields with
 |nil=>rfl
 |cons f r=>exact absurd (h.fields (f:=f) (by rw[hf];simp)).1 hk
def sS(W:Wd)(s:Sp)(id:ByteArray):List ng:=if s.of.kind=1 then(List.range (W.at s.of.num).methods.length).filterMap (nN W s.of.num id)else []
def vU(W:Wd)(s:Sp)(id:ByteArray):List ng:=(List.range (W.under s).of.fields.length).filterMap (la W (W.under s) id)
def sT(W:Wd)(s:Sp)(id:ByteArray):List ng:=if(W.under s).of.kind=5 then(List.range (W.sigs (W.under s)).length).filterMap (oU (W.sigs (W.under s)) id)else []
theorem zx(W:Wd)(s:Sp)(id:ByteArray):W.own s id=sS W s id++(vU W s id++sT W s id):=rfl
theorem K6:nN W n id i≠none↔aM (W.at n).aC ((W.at n).methods.getD i default).1=id:=by
 unfold nN;split<;>simp only[ne_eq,reduceCtorEq,qcj,qci, *]
theorem Bt:la W u id i≠none↔W.fieldName (u.of.fields.getD i default)≠8/\aM u.aC (W.fieldName (u.of.fields.getD i default))=id:=by
 unfold la;split<;>simp only[ne_eq,reduceCtorEq,qcj,qci, *];rename_i h;simp
theorem RX:oU l id i≠none↔(l.getD i ⟨⟨#[]⟩,[]⟩).id=id:=by
 unfold oU;split<;>simp only[ne_eq,reduceCtorEq,qcj,qci, *]
theorem QY(dW:∀d∈W,cN d.aC)(hh:W.has n)(hd:wi W n)(hi:i<(W.at n).methods.length)(hj:j<(W.at n).methods.length)
 (he:aM (W.at n).aC ((W.at n).methods.getD i default).1=aM (W.at n).aC ((W.at n).methods.getD j default).1):i=j:=by
 rw[fS hi,fS hj]at he;have hn:=FT (dW _ (W.mem _ hh)) (hd.name _ (qaf hi)).1 (hd.name _ (qaf hj)).1 he;rcases qbZ i j with h|h|h
 .exact absurd hn (Gy h hj (qaa hj) (hd.once j _ (qaa hj)))
 .exact h
 exact absurd hn.symm (Gy h hi (qaa hi) (hd.once i _ (qaa hi)))
theorem HN(xb:∀d∈W,bL d.name/\d.name≠8)(hu:GS W u)(hv:Valid W u)(hi:i<u.of.fields.length)(hj:j<u.of.fields.length)
 (h8:W.fieldName (u.of.fields.getD i default)≠8) (he:aM u.aC (W.fieldName (u.of.fields.getD i default))=aM u.aC (W.fieldName (u.of.fields.getD j default))):i=j:=by
 obtain⟨d,v,hf⟩:=hu.form;rw[fS hi]at he h8;rw[fS hj]at he;have hn:=FT hu.aC (nq xb hf (qaf hi)) (nq xb hf (qaf hj)) he;rcases qbZ i j with h|h|h
 .exact absurd hn (Gy h hj (qaa hj) (hv.Ny j _ (qaa hj) (by rw[<-hn];exact h8)))
 .exact h
 exact absurd hn.symm (Gy h hi (qaa hi) (hv.Ny i _ (qaa hi) h8))
structure GD(W:Wd):Prop where
 gw:GW W
 later:dV W
 rd:Forms W
 aC:∀d∈W,cN d.aC
 tj:∀d∈W,d.bU=true->d.methods=[]
 decl:∀i,W.has i->wi W i
 valid:∀i,W.has i->Valid W (W.spot i)
theorem wi.KP(hL:dV W)(hk:s.of.kind=1)(hh:W.has s.of.num)(hd:wi W s.of.num)(hi:i<(W.at s.of.num).methods.length)(hj:j<(W.under s).of.fields.length):
 aM (W.under s).aC (W.fieldName ((W.under s).of.fields.getD j default))≠aM (W.at s.of.num).aC ((W.at s.of.num).methods.getD i default).1:=by
 rw[fS hi,fS hj];have e:=kM hL hk hh;have:=hd.eS _ (qaf hi) (W.under s).of.fields[j] (by rw[<-e];exact qaf hj);rw[<-e]at this;exact this
theorem ep.own(g:GD W){e:IE}(h:ep W s id e)(hv:bY W s):
 ∃x,W.own s id=[x]/\x.bO=e.bO/\x.ptr=e.ptr/\(e.num:Int)∈x.cJ/\x.last=(if e.bO=true then-1 else(e.last:Int))/\(0<x.gC↔e.cM=true)/\(e.cM=true->(e.last:Int)<x.gC):=by
 have hu:=hv.gs.under g.gw;have KR:∀{p q:List ng},p=[]->p++q=q:=fun h=>by rw[h];rfl
 rw[zx];cases h with
 |bO hk hi hid=>
  rename_i i;have hh:=hv.gs.ok.num hk;have hd:=hv.dec hk;have hA:sS W s id=[⟨[(W.start s.of.num.toNat+i:Nat)],-1,true,((W.at s.of.num).methods.getD i default).2,0⟩]:=by
   unfold sS;rw[if_pos hk];refine EW hi (by unfold nN;rw[if_pos hid]) fun j hj aT=> ?_;exact QY g.aC hh hd hj hi ((K6.1 aT).trans hid.symm)
  have hB:vU W s id=[]:=EV fun j hj=>by
   cases hq:la W (W.under s) id j with
   |none=>rfl
   |some y=>
    have aT:la W (W.under s) id j≠none:=by rw[hq];exact fun h=>by cases h
    exact absurd ((Bt.1 aT).2.trans hid.symm) (hd.KP g.later hk hh hi hj)
  have hC:sT W s id=[]:=by
   unfold sT;rw[if_neg];have:=(hd.no (fun h=>by rw[h]at hi;exact absurd hi (qav _))).2;rw[kM g.later hk hh];exact this
  rw[hA,hB,hC];exact⟨_,rfl,rfl,rfl,by simp,rfl,by simp,fun h=>by cases h⟩
 |eS hi hn hid=>
  rename_i i;obtain⟨d,v,hf⟩:=hu.form;have h4:(W.under s).of.kind=4:=(hf.fields (qaf hi)).1;have hB:vU W s id=[⟨[((W.under s).fieldAt i:Nat)],i,false,false,0⟩]:=by
   unfold vU;refine EW hi (by unfold la;rw[if_pos ⟨hn,hid⟩]) fun j hj aT=> ?_;exact HN g.gw.name hu hv.val hj hi (Bt.1 aT).1 ((Bt.1 aT).2.trans hid.symm)
  have hA:sS W s id=[]:=by
   unfold sS;split
   .rename_i hk;refine EV fun j hj=> ?_;cases hq:nN W s.of.num id j with
    |none=>rfl
    |some y=>
     have aT:nN W s.of.num id j≠none:=by rw[hq];exact fun h=>by cases h
     exact absurd (hid.trans (K6.1 aT).symm) ((hv.dec hk).KP g.later hk (hv.gs.ok.num hk) hj hi)
   rfl
  have hC:sT W s id=[]:=by unfold sT;rw[if_neg (by rw[h4];decide)]
  rw[hA,hB,hC];exact⟨_,rfl,rfl,rfl,by simp,rfl,by simp,fun h=>by cases h⟩
 |cM hk hn hm hid=>
  rename_i n i m;have dC:(W.under s).of.kind≠1:=by rw[hk];decide
  have⟨d,hf,hr⟩:=hn;have gk:=qax hm;have qp:=GF g.gw g.later n _ hu dC m gk;rw[hid]at qp;obtain⟨x,hx,PZ,hxo⟩:=(Lr g.gw g.later g.rd hu hf (id:=id) (k:=(m.num:Nat))).2 ⟨_,rfl,qp⟩;obtain⟨j,hj,P0⟩:=qak hx;have hlen:=zfp g.gw g.later g.rd hu dC hn;have rx:=(qab.1 hm).1;have hgj:(W.sigs (W.under s)).getD j ⟨⟨#[]⟩,[]⟩=x:=by simp[hj,P0]
  have hC:sT W s id=[⟨x.cJ,-1,true,false,(W.sigs (W.under s)).length⟩]:=by
   unfold sT;rw[if_pos hk];refine EW hj (by unfold oU;rw[hgj,if_pos PZ]) fun k ad aT=> ?_;have h1:=RX.1 aT;have mi:(W.sigs (W.under s)).getD k ⟨⟨#[]⟩,[]⟩=(W.sigs (W.under s))[k]:=by simp[ad]
   rw[mi]at h1;have pE:=(SJ g.gw hu).nodup;have h2:=(qbw (i:=k) (j:=j) (h₀:=by simpa using ad) (h₁:=by simpa using hj) pE).1 (by simp[h1,P0,PZ]);exact h2
  have hA:sS W s id=[]:=by
   unfold sS;split
   .rename_i ad;have:=fun h=>((hv.dec ad).no h).2;rw[<-kM g.later ad (hv.gs.ok.num ad)]at this;have h0:(W.at s.of.num).methods=[]:=qa8 fun h=>this h hk;rw[h0];rfl
   rfl
  have hB:vU W s id=[]:=by
   unfold vU;rw[hf.xB (by rw[hk];decide)];rfl
  rw[hA,hB,hC];refine⟨_,rfl,rfl,rfl,hxo,rfl,?_,fun _=> ?_⟩
  .simp only[iff_true];omega
  show(i:Int)<_;simp only;omega
theorem DI(g:GD W)(hv:bY W s)(h:W.own s id≠[]):∃e,ep W s id e:=by
 obtain⟨x,hx⟩:=List.exists_mem_of_ne_nil _ h;rw[zx]at hx;have hu:=hv.gs.under g.gw;rcases qah.1 hx with hx|hx
 .unfold sS at hx;split at hx
  .rename_i hk;obtain⟨i,hi,hq⟩:=qbg.1 hx;exact⟨_,.bO hk (qaz.1 hi) (K6.1 (by rw[hq];exact fun h=>by cases h))⟩
  cases hx
 rcases qah.1 hx with hx|hx
 .obtain⟨i,hi,hq⟩:=qbg.1 hx;have aT:la W (W.under s) id i≠none:=by rw[hq];exact fun h=>by cases h
  have:=Bt.1 aT;exact⟨_,.eS (qaz.1 hi) this.1 this.2⟩
 unfold sT at hx;split at hx
 .rename_i hk;obtain⟨i,hi,hq⟩:=qbg.1 hx;have hi:=qaz.1 hi;have aT:oU (W.sigs (W.under s)) id i≠none:=by rw[hq];exact fun h=>by cases h
  have h1:=RX.1 aT;obtain⟨n,hn⟩:=hv.fm.rk;have⟨d,hf,_⟩:=hn;have dC:(W.under s).of.kind≠1:=by rw[hk];decide
  have sA:(W.sigs (W.under s)).getD i ⟨⟨#[]⟩,[]⟩=(W.sigs (W.under s))[i]:=by simp[hi]
  rw[sA]at h1;have h2:=(SG g.gw g.later g.rd hu hf).1 (qaj.2 ⟨_,qaf hi,h1⟩);obtain⟨m,hm,xa⟩:=qaj.1 ((GG g.gw g.later g.rd hu dC hn).2 h2);obtain⟨j,hj,IY⟩:=qak hm;exact⟨_,.cM hk hn (by rw[qaa hj,IY]) xa⟩
 cases hx
theorem ep.uniq(g:GD W){e e':IE}(h:ep W s id e)(h':ep W s id e')(hv:bY W s):e=e':=by
 have hu:=hv.gs.under g.gw;have Rz:∀{i j:Nat},s.of.kind=1->i<(W.at s.of.num).methods.length->aM (W.at s.of.num).aC ((W.at s.of.num).methods.getD i default).1=id->j<(W.under s).of.fields.length->aM (W.under s).aC (W.fieldName ((W.under s).of.fields.getD j default))=id->False:=
  fun hk hi hid hj sE=>(hv.dec hk).KP g.later hk (hv.gs.ok.num hk) hi hj (sE.trans hid.symm)
 have RC:∀{i:Nat},s.of.kind=1->i<(W.at s.of.num).methods.length->(W.under s).of.kind=5->False:=fun hk hi sF=>by
  have:=((hv.dec hk).no (fun h=>by rw[h]at hi;exact absurd hi (qav _))).2;rw[<-kM g.later hk (hv.gs.ok.num hk)]at this;exact this sF
 have Ry:∀{i:Nat},i<(W.under s).of.fields.length->(W.under s).of.kind=5->False:=fun hi sF=>by
  obtain⟨d,v,hf⟩:=hu.form;have:=(hf.fields (qaf hi)).1;rw[sF]at this;cases this
 cases h with
 |bO hk hi hid=>
  cases h' with
  |bO ad hi' tP=>
   have:=QY g.aC (hv.gs.ok.num hk) (hv.dec hk) hi hi' (hid.trans tP.symm);subst this;rfl
  |eS hi' lM tP=>exact(Rz hk hi hid hi' tP).elim
  |cM ad=>exact(RC hk hi ad).elim
 |eS hi hn hid=>
  cases h' with
  |bO ad hi' tP=>exact(Rz ad hi' tP hi hid).elim
  |eS hi' lM tP=>
   have:=HN g.gw.name hu hv.val hi hi' hn (hid.trans tP.symm);subst this;rfl
  |cM ad=>exact(Ry hi ad).elim
 |cM hk hn hm hid=>
  cases h' with
  |bO ad hi' tP=>exact(RC ad hi' hk).elim
  |eS hi'=>exact(Ry hi' hk).elim
  |cM ad lM lL tP=>
   rename_i n i m n' i' m';rw[D8 g.later g.rd lM hn]at lL;have eD:=(zG W n (W.under s)).inj (qax hm) (qax lL) (hid.trans tP.symm);subst eD;obtain⟨h1,h2⟩:=qab.1 hm;obtain⟨h3,h4⟩:=qab.1 lL;have nz:i=i':=(qbw (i:=i) (j:=i') (h₀:=by simpa using h1) (h₁:=by simpa using h3) (zG W n (W.under s))).1 (by simp[h2,h4]);subst nz;rfl
end
section
variable {W:Wd}{i:Int}{s s':Sp}{x:Way}{l:List Way}{id:ByteArray}{a b:Ty}{ind:Bool}{K:Nat}{e:IE}
theorem ej.gd{t:Ty}(h:ej W t)(hb:W.aj<=2^19):GD W where
 gw:=h.gw hb
 later:=h.later
 rd:=h.form
 aC:=h.aC
 tj:=h.tj
 decl:=fun i hi=>by
  have:=h.decl i.toNat hi.2
  rwa [show((i.toNat:Nat):Int)=i by have:=hi.1;omega]at this
 valid:=fun i hi=>by
  have:=h.valid i.toNat hi.2
  rwa [show((i.toNat:Nat):Int)=i by have:=hi.1;omega]at this
theorem GD.form(g:GD W)(hi:W.has i):cP W i (W.at i).of true:=by
 have:=g.rd i.toNat hi.2
 rwa [show((i.toNat:Nat):Int)=i by have:=hi.1;omega]at this
theorem bY.named(g:GD W)(hs:GS W s)(hk:s.of.kind=1):bY W s:=by
 have hh:=hs.ok.num hk;obtain⟨j,h1,_,h3⟩:=zJ g.later hh;have hu:W.under s=W.spot j:=by rw[kM g.later hk hh,h1]
 exact⟨hs,by rw[hu];exact g.valid j h3,⟨j,by rw[hu];exact g.form h3⟩,fun _=>g.decl _ hh⟩
theorem bY.lit(hs:GS W s)(hk:s.of.kind≠1)(hv:Valid W s)(hf:wl W s):bY W s:=
 ⟨hs,by rw[fO hk];exact hv,by rw[fO hk];exact hf,fun h=>absurd h hk⟩
theorem bY.plain(g:GD W)(h:bY W s):bY W (W.plain s):=by
 have hu:=ku g.later h.gs.ok.num;exact⟨h.gs.plain g.gw,by rw[hu];exact h.val,by rw[hu];exact h.fm,fun hk=>g.decl _ (pR g.later h.gs.ok.num hk).1⟩
theorem oX(hL:dV W)(hs:s.of.kind=1->W.has s.of.num):W.plain (W.plain s)=W.plain s:=by
 by_cases hk:(W.plain s).of.kind=1
 .exact eu (.inr (pR hL hs hk).2)
 exact eu (.inl hk)
abbrev Eo:=Sp×Nat×Bool
def sO(u:Sp)(i:Nat):Option Eo:=if(u.of.fields.getD i default).2.1=true then some ((u.field i).base,i,decide ((u.field i).of.kind=2))else none
def Wd.kids(W:Wd)(s:Sp):List Eo:=(List.range (W.under s).of.fields.length).filterMap (sO (W.under s))
def NN(W:Wd)(id:ByteArray):Nat->Sp->Nat
 |0,s=>(W.own (W.plain s) id).length
 |n+1,s=>((W.kids s).map fun c=>NN W id n c.1).sum
def Pf(W:Wd)(s:Sp)(ind:Bool):Nat->List Way
 |0=>[⟨W.plain s,[],ind⟩]
 |n+1=>kJ W (Pf W s ind n)
theorem EP(W:Wd)(x:Way):W.nk x=(W.kids x.to).map fun c=>⟨W.plain c.1,x.index++[(c.2.1:Int)],x.ind||c.2.2⟩:=by
 unfold Wd.nk Wd.kids;rw[List.map_filterMap]
 congr 1
 funext i;unfold tC sO;split<;>rfl
theorem xo(g:GD W)(hs:GS W s){c:Eo}(hc:c∈W.kids s):bY W c.1/\c.1.of.kind=1:=by
 obtain⟨i,hi,hd⟩:=qbg.1 hc;have hi:=qaz.1 hi;unfold sO at hd;split at hd
 .rename_i he;cases hd;have hu:=GS.under g.gw hs;have hf:=hu.field hi;have Di:=Sp.tE hi;rw[fS hi]at he;have hk:((W.under s).field i).base.of.kind=1:=by
   rcases hu.ok.np _ (qaf hi) he with h1|⟨h1,h2⟩
   .have:((W.under s).field i).base=(W.under s).field i:=by unfold Sp.base;rw[if_neg (by rw[Di,h1];decide)]
    rw[this,Di];exact h1
   have:((W.under s).field i).base=((W.under s).field i).elem:=by unfold Sp.base;rw[if_pos (by rw[Di];exact h1)]
   rw[this];refine h2 _ ?_;rw[<-Di];exact Sp.uF (hf.ok.el (.inl (by rw[Di];exact h1)))
  exact⟨bY.named g (GS.base hf) hk,hk⟩
 cases hd
theorem Ku(g:GD W)(hs:GS W s):W.kids (W.plain s)=W.kids s:=by unfold Wd.kids;rw[ku g.later hs.ok.num]
theorem wt(g:GD W)(hs:GS W s)(id:ByteArray):∀n,NN W id n (W.plain s)=NN W id n s
 |0=>by rw[NN,NN,oX g.later hs.ok.num]
 |n+1=>by rw[NN,NN,Ku g hs]
theorem Lv{α:Type}{l:List α}{f f':α->Nat}(h:∀x∈l,f x=f' x):(l.map f).sum=(l.map f').sum:=by rw[List.map_congr_left h]
theorem SZ{α β:Type}(f:β->Nat)(k:α->List β):∀l:List α,((l.flatMap k).map f).sum=(l.map fun x=>((k x).map f).sum).sum
 |[]=>rfl
 |x::r=>by simp[SZ f k r]
theorem zF{α:Type}{f:α->Nat}:∀{l:List α},(l.map f).sum=0↔∀x∈l,f x=0
 |[]=>by simp
 |x::r=>by simp[zF (l:=r)]
theorem vL{α:Type}{f:α->Nat}:∀{l:List α} {x:α},x∈l->f x<=(l.map f).sum
 |y::r,x,h=>by
  rw[qaB,qaT];rcases qan.1 h with rfl|h
  .omega
  have:=vL (f:=f) h;omega
theorem Lx{α:Type}{f:α->Nat}:∀{l:List α} {x y:α},(l.map f).sum=1->x∈l->y∈l->f x≠0->f y≠0->x=y
 |z::r,x,y,h,hx,hy,fx,fy=>by
  rw[qaB,qaT]at h;rcases qan.1 hx with oL|oL
  .rcases qan.1 hy with oM|oM
   .rw[oL,oM]
   have:=vL (f:=f) oM;rw[oL]at fx;omega
  rcases qan.1 hy with oM|oM
  .have:=vL (f:=f) oL;rw[oM]at fy;omega
  have:=vL (f:=f) oL;exact Lx (by omega) oL oM fx fy
theorem XC(g:GD W)(hs:GS W x.to)(id:ByteArray)(n:Nat):((W.nk x).map fun y=>NN W id n y.to).sum=NN W id (n+1) x.to:=by
 rw[EP,qbE,NN];exact Lv fun c hc=>wt g (xo g hs hc).1.gs id n
theorem Rp(g:GD W)(hs:∀x∈l,GS W x.to)(id:ByteArray)(n:Nat):((kJ W l).map fun y=>NN W id n y.to).sum=(l.map fun x=>NN W id (n+1) x.to).sum:=by
 unfold kJ;rw[SZ];exact Lv fun x hx=>XC g (hs x hx) id n
theorem XA(g:GD W){y:Way}(hx:bY W x.to)(hy:y∈W.nk x):bY W y.to/\W.plain y.to=y.to/\y.index.length=x.index.length+1/\∃b:Sp,b.of.kind=1/\W.has b.of.num/\y.to=W.plain b:=by
 rw[EP]at hy;obtain⟨c,hc,rfl⟩:=qaj.1 hy;obtain⟨h1,h2⟩:=xo g hx.gs hc;exact⟨h1.plain g,oX g.later h1.gs.ok.num,by simp,c.1,h2,h1.gs.ok.num h2,rfl⟩
theorem r8{W:Wd}(g:GD W){s:Sp}(hs:bY W s){ind:Bool}:∀(k:Nat) (x:Way),x∈Pf W s ind k->bY W x.to/\W.plain x.to=x.to/\x.index.length=k
 |0,x,h=>by
  rw[Pf,qac]at h;subst h;exact⟨hs.plain g,oX g.later hs.gs.ok.num,rfl⟩
 |k+1,x,h=>by
  obtain⟨y,hy,hx⟩:=qaS.1 h;obtain⟨h1,_,h3⟩:=r8 g hs k y hy;obtain⟨h4,h5,h6,_⟩:=XA g h1 hx;exact⟨h4,h5,by omega⟩
theorem Eu{W:Wd}(g:GD W){s:Sp}(hs:bY W s){ind:Bool}(id:ByteArray):∀k n,((Pf W s ind k).map fun x=>NN W id n x.to).sum=NN W id (k+n) s
 |0,n=>by simp[Pf,wt g hs.gs id n]
 |k+1,n=>by
  rw[Pf,Rp g (fun x hx=>(r8 g hs k x hx).1.gs),Eu g hs id k (n+1)]
  congr 1;omega
theorem zn{W:Wd}{s:Sp}{ind:Bool}:∀(k:Nat) (x:Way),x∈eO W s ind k->x∈Pf W s ind k
 |0,x,h=>h
 |k+1,x,h=>by
  obtain⟨y,hy,hx⟩:=qaS.1 (LD h);exact qaS.2 ⟨y,zn k y hy,hx⟩
theorem zdR(hL:dV W)(hk:s.of.kind=1)(ad:s'.of.kind=1)(hn:s.of.num=s'.of.num)(hh:W.has s.of.num)(id:ByteArray):W.own s id=W.own s' id:=by
 have hu:=Ed hL hk ad hn hh;rw[zx,zx];unfold sS vU sT;rw[if_pos hk,if_pos ad,hu,hn]
theorem BT(hL:dV W)(hk:s.of.kind=1)(ad:s'.of.kind=1)(hn:s.of.num=s'.of.num)(hh:W.has s.of.num)(id:ByteArray):∀n,NN W id n s=NN W id n s'
 |0=>by
  rw[NN,NN];by_cases ha:(W.at s.of.num).bU=true
  .rw[pQ hL hk hh ha,pQ hL ad (hn▸hh) (hn▸ha),hn]
  have iX:=ha;rw[hn]at iX;rw[eu (.inr (by simpa using ha)),eu (.inr (by simpa using iX)),zdR hL hk ad hn hh]
 |n+1=>by rw[NN,NN];unfold Wd.kids;rw[Ed hL hk ad hn hh]
theorem iT.alike(hL:dV W){k:Nat}(h:iT W s id k):GS W s->∀s':Sp,s.of.kind≠1->Alike s.of s'.of->s.of.size=0->iT W s' id k:=by
 induction h with
 |own hi=>
  rename_i s i;intro _ s' hk ha hz;rw[fO hk]at hi;have:=Ty.size_eq s.of;omega
 |np hi h ih=>
  rename_i s i id k;intro hg s' hk ha hz;have hu:=fO (W:=W) hk;rw[hu]at hi h ih;have ad:s'.of.kind≠1:=by rw[<-ha.k];exact hk
  have pJ:=fO (W:=W) ad;have hi':i<s'.of.aD.length:=by rw[<-ha.ls];exact hi
  have kU:Alike (s.bE i).of (s'.bE i).of:=by
   rw[Sp.pj hi,Sp.pj hi'];exact ha.s i _ _ (qaa hi) (qaa hi')
  have aY:=hg.bE hi;refine .np (by rw[pJ];exact hi') ?_;rw[pJ];by_cases sG:(s.bE i).of.kind=1
  .exact h.congr (Ed hL sG (by rw[<-kU.k];exact sG) kU.n (aY.ok.num sG))
  refine ih aY _ sG kU ?_;have h1:=Ty.size_eq s.of;have h2:=vL (f:=Ty.size) (qaf hi);rw[Sp.pj hi];omega
theorem Alike.symm(h:Alike a b):Alike b a:=by
 induction h with
 |mk a b hk hn hm hf he hs h1 h2 h3 h4 i2 i3 i4=>
  exact .mk b a hk.symm hn.symm hm.symm hf.symm he.symm hs.symm (fun i x y hx hy=>⟨(h1 i y x hy hx).1.symm,(h1 i y x hy hx).2.symm⟩) (fun i x y hx hy=>i2 i y x hy hx) (fun i x y hx hy=>i3 i y x hy hx) (fun i x y hx hy=>i4 i y x hy hx)
theorem Alike.SK(h:Alike a b):a.size=0->b.size=0:=by
 induction h with
 |mk a b hk hn hm hf he hs h1 h2 h3 h4 i2 i3 i4=>
  intro hz;rw[Ty.size_eq]at hz⊢;have f0:a.fields=[]:=by
   cases hq:a.fields with
   |nil=>rfl
   |cons x r=>rw[hq]at hz;simp at hz
  have XS:b.fields=[]:=qaD (by rw[<-hf,f0];rfl);have e0:(b.elem.map Ty.size).sum=0:=zF.2 fun x hx=>by
   obtain⟨i,hi,rfl⟩:=qak hx;have hi':i<a.elem.length:=by rw[he];exact hi
   have:=vL (f:=Ty.size) (qaf hi');exact i3 i _ _ (qaa hi') (qaa hi) (by omega)
  have e1:(b.aD.map Ty.size).sum=0:=zF.2 fun x hx=>by
   obtain⟨i,hi,rfl⟩:=qak hx;have hi':i<a.aD.length:=by rw[hs];exact hi
   have:=vL (f:=Ty.size) (qaf hi');exact i4 i _ _ (qaa hi') (qaa hi) (by omega)
  rw[XS,e0,e1,<-hm,qa0,qbY];omega
theorem DK(g:GD W)(hv:bY W s):(W.own s id).length<=1:=by
 by_cases h:W.own s id=[]
 .rw[h];exact qae _
 obtain⟨e,he⟩:=DI g hv h;obtain⟨x,hx,_⟩:=he.own g hv;rw[hx];exact qad _
theorem Gc(g:GD W)(hv:bY W s)(hk:s.of.kind≠1)(hf:s.of.fields=[]):W.own s id≠[]↔s.of.kind=5/\∃k,iT W s id k:=by
 have hu:=fO (W:=W) hk;constructor
 .intro h;obtain⟨e,he⟩:=DI g hv h;cases he with
  |bO ad=>exact absurd ad hk
  |eS hi=>rw[hu,hf]at hi;exact absurd hi (qav _)
  |cM ad hn hm hid=>
   rw[hu]at ad hn hm;have:=GF g.gw g.later _ _ hv.gs hk _ (qax hm);rw[hid]at this;exact⟨ad,_,this⟩
 rintro⟨sF,k,hh⟩ h0;obtain⟨n,hn⟩:=hv.fm.rk;obtain⟨m,hm,hid⟩:=Oh g.later g.rd hh n hn;obtain⟨i,hi,nC⟩:=qak hm;obtain⟨x,hx,_⟩:=(ep.cM (by rw[hu];exact sF) hn (by rw[qaa hi,nC]) hid).own g hv;rw[h0]at hx;cases hx
theorem R8(hL:dV W){b:Sp}(hk:b.of.kind=1)(hh:W.has b.of.num)(hp:(W.plain b).of.kind≠1):∃i,W.has i/\(W.at i).bU=true/\W.plain b=W.spot i:=by
 have key:=zl hL (P:=fun i=>(W.at i).bU=true->(W.plain (W.spot i)).of.kind≠1->∃j,W.has j/\(W.at j).bU=true/\W.plain (W.spot i)=W.spot j) fun i hi ih ha hp=>by
  by_cases h1:(W.at i).of.kind=1
  .by_cases iX:(W.at (W.at i).of.num).bU=true
   .rw[pQ hL (s:=W.spot i) h1 (hL i hi h1).2 iX]at hp⊢;exact ih h1 iX hp
   rw[eu (s:=W.spot i) (Or.inr (by simpa[uo]using iX))]at hp;exact absurd h1 hp
  exact⟨i,hi,ha,eu (s:=W.spot i) (Or.inl h1)⟩
 by_cases ha:(W.at b.of.num).bU=true
 .rw[pQ hL hk hh ha]at hp⊢;exact key _ hh ha hp
 rw[eu (.inr (by simpa using ha))]at hp;exact absurd hk hp
theorem SX(g:GD W){j:Int}(hi:W.has i)(hj:W.has j)(yy:(W.at i).bU=true)(gE:(W.at j).bU=true)(aG:i<j)(he:(W.spot i).at_=(W.spot j).at_):(W.spot i).of.size=0:=by
 have nC:=g.tj _ (W.mem i hi) yy;have IY:=g.tj _ (W.mem j hj) gE;unfold Wd.spot at he;simp only[nC,IY,qbb,qa6]at he;have h1:=(W.facts i.toNat hi.2).2.1;have e:W[i.toNat]'hi.2=W.at i:=by simp[Wd.at,hi.2]
 rw[e]at h1;have h2:=W.sZ (a:=i.toNat+1) (b:=j.toNat) (by have:=hi.1;omega);show(W.at i).of.size=0;omega
theorem T4(g:GD W){b b':Sp}(hb:GS W b)(aW:GS W b')(hk:b.of.kind=1)(ad:b'.of.kind=1)(hs:j9 (W.plain b) (W.plain b'))(id:ByteArray)(n:Nat):NN W id n (W.plain b)=NN W id n (W.plain b'):=by
 have hh:=hb.ok.num hk;have CV:=aW.ok.num ad;have v:=(bY.named g hb hk).plain g;have v':=(bY.named g aW ad).plain g;unfold j9 at hs;split at hs
 .rename_i qx;obtain⟨e1,e2⟩:=hs;have hp:(W.plain b).of.kind=1:=by
   rcases qx with h|h
   .exact h
   rw[e1];exact h
  exact BT g.later hp (e1▸hp) e2 (v.gs.ok.num hp) id n
 rename_i qx;simp only[not_or]at qx;obtain⟨e1,e2⟩:=hs;obtain⟨i,hi,yy,FH⟩:=R8 g.later hk hh qx.1;obtain⟨j,hj,gE,mw⟩:=R8 g.later ad CV qx.2;by_cases dc:i=j
 .rw[FH,mw,dc]
 have hz:(W.plain b).of.size=0:=by
  rcases Int.lt_or_gt_of_ne dc with h|h
  .rw[FH];exact SX g hi hj yy gE h (by rw[<-FH,<-mw];exact e1)
  refine e2.symm.SK ?_;rw[mw];exact SX g hj hi gE yy h (by rw[<-FH,<-mw];exact e1.symm)
 have zg:=e2.SK hz;have KR:∀t:Ty,t.size=0->t.fields=[]:=fun t h=>by
  rw[Ty.size_eq]at h;cases hq:t.fields with
  |nil=>rfl
  |cons x r=>rw[hq]at h;simp at h
 have f1:=KR _ hz;have f2:=KR _ zg;cases n with
 |zero=>
  rw[NN,NN,oX g.later hb.ok.num,oX g.later aW.ok.num];have wY:W.own (W.plain b) id≠[]↔W.own (W.plain b') id≠[]:=by
   rw[Gc g v qx.1 f1,Gc g v' qx.2 f2];constructor
   .rintro⟨h1,k,h2⟩;exact⟨e2.k▸h1,k,h2.alike g.later v.gs _ qx.1 e2 hz⟩
   rintro⟨h1,k,h2⟩;exact⟨e2.k▸h1,k,h2.alike g.later v'.gs _ qx.2 e2.symm zg⟩
  have l1:=DK g (id:=id) v;have l2:=DK g (id:=id) v';by_cases h0:W.own (W.plain b) id=[]
  .have qi:W.own (W.plain b') id=[]:=qa8 fun h=>wY.2 h h0;rw[h0,qi]
  have qi:=wY.1 h0;have q1:=qbu.2 h0;have q2:=qbu.2 qi;omega
 |succ n=>
  rw[NN,NN];unfold Wd.kids;rw[fO qx.1,fO qx.2,f1,f2];rfl
theorem MJ(f:Way->Nat)(x:Way):∀(l:List Way),(∀y∈l,j9 x.to y.to->f x=f y)->nZ x l*f x<=(l.map f).sum
 |[],_=>by simp[nZ]
 |y::r,h=>by
  have ih:=MJ f x r fun z hz=>h z (qag _ hz);rw[qaB,qaT];unfold nZ at ih⊢;rw[List.filter_cons];split
  .rename_i hs;have:=h y qal (by simpa using hs);rw[qaO,qbr];omega
  omega
theorem LC(f:Way->Nat):∀(l out:List Way),(∀x∈l,∀y,y∈out\/y∈l->j9 x.to y.to->f x=f y)->min 2 ((l7 out l).map f).sum=min 2 ((out.map f).sum+(l.map f).sum)
 |[],out,_=>by simp[l7]
 |x::r,out,h=>by
  rw[l7,qaB,qaT];split
  .rw[LC f r _ fun z hz y hy=>h z (qag _ hz) y ?_]
   .simp only[qaq,qaN,qaB,qa0,qaT,qbY]
    congr 1;omega
   rcases hy with hy|hy
   .rcases qah.1 hy with hy|hy
    .exact .inl hy
    rw[qac.1 hy];exact .inr qal
   exact .inr (qag _ hy)
  rename_i hc;rw[LC f r _ fun z hz y hy=>h z (qag _ hz) y (hy.imp_right (qag _))];have h1:=MJ f x out fun y hy hs=>h x qal y (.inl hy) hs;have h2:2*f x<=nZ x out*f x:=qaJ _ (by omega);omega
theorem QS{W:Wd}(g:GD W){s:Sp}(hs:bY W s){ind:Bool}(id:ByteArray):∀k n,min 2 ((eO W s ind k).map fun x=>NN W id n x.to).sum=min 2 (NN W id (k+n) s)
 |0,n=>by simp[eO,wt g hs.gs id n]
 |k+1,n=>by
  have eh:∀x∈eO W s ind k,bY W x.to:=fun x hx=>(r8 g hs k x (zn k x hx)).1;have hb:∀x∈kJ W (eO W s ind k),∃b:Sp,GS W b/\b.of.kind=1/\x.to=W.plain b:=fun x hx=>by
   obtain⟨y,hy,hx⟩:=qaS.1 hx;rw[EP]at hx;obtain⟨c,hc,rfl⟩:=qaj.1 hx;obtain⟨h1,h2⟩:=xo g (eh y hy).gs hc;exact⟨c.1,h1.gs,h2,rfl⟩
  rw[eO,zH,LC _ _ _ fun x hx y hy y_=> ?_]
  .rw[qa0,qbY,qbm,Rp g (fun x hx=>(eh x hx).gs),QS g hs id k (n+1)]
   congr 2;omega
  obtain⟨b,gc,cV,qk⟩:=hb x hx;obtain⟨b',zaC,zaE,zaG⟩:=hb y (hy.resolve_left (by simp));rw[qk,zaG]at y_⊢;exact T4 g gc zaC cV zaE y_ id n
theorem zdM(id:ByteArray)(hl:∀x∈l,W.plain x.to=x.to):(i7 W id l).length=(l.map fun x=>NN W id 0 x.to).sum:=by
 unfold i7;rw[List.length_flatMap];exact Lv fun x hx=>by rw[NN,hl x hx,qat]
theorem K2(g:GD W)(hs:bY W s)(id:ByteArray)(k:Nat):min 2 (i7 W id (eO W s ind k)).length=min 2 (NN W id k s):=by
 rw[zdM id fun x hx=>(r8 g hs k x (zn k x hx)).2.1,QS g hs id k 0];rfl
theorem K3(g:GD W)(hs:bY W s)(id:ByteArray)(k:Nat):i7 W id (eO W s ind k)=[]↔NN W id k s=0:=by
 have:=K2 g hs (ind:=ind) id k;constructor
 .intro h;rw[h]at this;simp at this;omega
 intro h;rw[h]at this;exact qaD (by omega)
def pX(W:Wd)(id:ByteArray)(s:Sp)(K:Nat):Prop:=NN W id K s≠0/\∀j,j<K->NN W id j s=0
theorem pX.uniq{K':Nat}(h:pX W id s K)(h':pX W id s K'):K=K':=by
 rcases qbZ K K' with h1|h1|h1
 .exact absurd (h'.2 _ h1) h.1
 .exact h1
 exact absurd (h.2 _ h1) h'.1
theorem X5:∀{k:Nat},NN W id k s≠0->∃K,K<=k/\pX W id s K:=by
 intro k
 induction k using Nat.strongRecOn with
 |ind k ih=>
  intro h;by_cases h0:∀j,j<k->NN W id j s=0
  .exact⟨k,qad _,h,h0⟩
  simp only[Classical.not_forall]at h0;obtain⟨j,hj,aT⟩:=h0;obtain⟨K,hK,hf⟩:=ih j hj aT;exact⟨K,by omega,hf⟩
theorem NE(g:GD W)(hs:GS W s)(h:pX W id s (K+1)):∃c:Sp,bY W c/\c.of.kind=1/\pX W id c K:=by
 obtain⟨h1,h2⟩:=h;rw[NN]at h1;obtain⟨c,hc,aT⟩:∃c∈W.kids s,NN W id K c.1≠0:=qa8 fun hn=>h1 (zF.2 fun c hc=>qa8 fun h=>hn ⟨c,hc,h⟩);obtain⟨h3,h4⟩:=xo g hs hc;refine⟨c.1,h3,h4,aT,fun j hj=> ?_⟩;have:=h2 (j+1) (by omega);rw[NN]at this;exact zF.1 this c hc
theorem NC{W:Wd}(g:GD W){id:ByteArray}:∀(K:Nat) (s:Sp),bY W s->s.of.kind=1->pX W id s K->∀m,m<=K->∃u:Nat,u<W.length/\pX W id (mE u) m
 |K,s,hs,hk,h,m,hm=>by
  by_cases hmk:m=K
  .subst hmk;have hh:=hs.gs.ok.num hk;have e:((s.of.num.toNat:Nat):Int)=s.of.num:=by have:=hh.1;omega
   refine⟨s.of.num.toNat,hh.2,?_⟩;have hq:=fun n=>BT g.later (s:=mE s.of.num.toNat) rfl hk (by show((s.of.num.toNat:Nat):Int)=_;exact e) (by show W.has ((s.of.num.toNat:Nat):Int);rw[e];exact hh) id n;exact⟨by rw[hq];exact h.1,fun j hj=>by rw[hq];exact h.2 j hj⟩
  cases K with
  |zero=>omega
  |succ K=>
   obtain⟨c,h1,h2,h3⟩:=NE g hs.gs h;exact NC g K c h1 h2 h3 m (by omega)
theorem ND(g:GD W)(hs:GS W s)(h:pX W id s K):K<=W.length:=by
 cases K with
 |zero=>exact qae _
 |succ K=>
  obtain⟨c,h1,h2,h3⟩:=NE g hs h;have ch:=NC g K c h1 h2 h3;have⟨p,hp⟩:∃p:Nat->Nat,∀m,m<=K->p m<W.length/\pX W id (mE (p m)) m:=by
   refine⟨fun m=>if hm:m<=K then Classical.choose (ch m hm)else 0,fun m hm=> ?_⟩;simp only[hm,dite_true];exact qb5 (ch m hm)
  have hn:((List.range (K+1)).map p).Nodup:=by
   unfold List.Nodup;rw[qbl];refine List.nodup_range.imp_of_mem fun{a b} ha hb d8 he=>d8 ?_;have ha:=qaz.1 ha;have hb:=qaz.1 hb;have h1:=(hp a (by omega)).2;rw[he]at h1;exact h1.uniq (hp b (by omega)).2
  have:=Bp (l':=List.range W.length) hn fun x hx=>by
   obtain⟨m,hm,rfl⟩:=qaj.1 hx;exact qaz.2 (hp m (by have:=qaz.1 hm;omega)).1
  simpa using this
theorem IB{W:Wd}(g:GD W){s:Sp}(hs:bY W s){ind:Bool}{id:ByteArray}{K:Nat}(h:pX W id s K):∀n k,k<=K->K<k+n->sD W s ind id n k=i7 W id (eO W s ind K)
 |0,k,h1,h2=>by omega
 |n+1,k,h1,h2=>by
  rw[sD];by_cases hk:k=K
  .subst hk;rw[if_neg (fun h0=>h.1 ((K3 g hs id _).1 h0))]
  rw[if_pos ((K3 g hs id _).2 (h.2 k (by omega)))];exact IB g hs h n (k+1) (by omega) (by omega)
theorem OX{W:Wd}(g:GD W){s:Sp}(hs:bY W s){ind:Bool}{id:ByteArray}(h:∀j,NN W id j s=0):∀n k,sD W s ind id n k=[]
 |0,k=>rfl
 |n+1,k=>by rw[sD,if_pos ((K3 g hs id _).2 (h k))];exact OX g hs h n (k+1)
structure Uq(W:Wd)(s:Sp)(ind:Bool)(id:ByteArray)(x:Way)(e:IE):Prop where
 ex:∃K,pX W id s K/\NN W id K s=1/\x∈Pf W s ind K
 own:ep W x.to id e
theorem Uq.lv(g:GD W)(hs:bY W s)(h:Uq W s ind id x e):bY W x.to/\W.plain x.to=x.to:=by
 obtain⟨K,_,_,hx⟩:=h.ex;exact⟨(r8 g hs K x hx).1,(r8 g hs K x hx).2.1⟩
theorem ep.nn(g:GD W)(h:ep W s id e)(hv:bY W s)(hp:W.plain s=s):NN W id 0 s≠0:=by
 obtain⟨x,hx,_⟩:=h.own g hv;rw[NN,hp,hx];exact Nat.one_ne_zero
theorem Uq.uniq(g:GD W)(hs:bY W s){x':Way}{e':IE}(h:Uq W s ind id x e)(h':Uq W s ind id x' e'):x=x'/\e=e':=by
 obtain⟨K,k1,k2,k3⟩:=h.ex;obtain⟨K',Kq,k2',k3'⟩:=h'.ex;have:=k1.uniq Kq;subst this;obtain⟨v,hp⟩:=h.lv g hs;obtain⟨v',ea⟩:=h'.lv g hs;have A0:=Eu g hs (ind:=ind) id K 0;rw[qa6,k2]at A0;have hx:=Lx (f:=fun x:Way=>NN W id 0 x.to) A0 k3 k3' (h.own.nn g v hp) (h'.own.nn g v' ea);subst hx;exact⟨rfl,h.own.uniq g h'.own v⟩
structure LU(en:ng)(e:IE):Prop where
 bO:en.bO=e.bO
 ptr:en.ptr=e.ptr
 num:(e.num:Int)∈en.cJ
 last:en.last=if e.bO=true then-1 else(e.last:Int)
 EA:0<en.gC↔e.cM=true
 lt:e.cM=true->(e.last:Int)<en.gC
theorem Uq.lJ(g:GD W)(hs:bY W s)(h:Uq W s ind id x e):∃en,W.lJ s ind id=[(en,x)]/\LU en e:=by
 obtain⟨K,k1,k2,k3⟩:=h.ex;have hl:=ND g hs.gs k1;have hh:W.lJ s ind id=i7 W id (eO W s ind K):=IB g hs k1 _ 0 (qae _) (by omega);have hm:=K2 g hs (ind:=ind) id K;rw[k2]at hm
 match hq:i7 W id (eO W s ind K)with
 |[]=>rw[hq]at hm;simp at hm
 |y::z::r=>rw[hq]at hm;simp at hm
 |[(
  en,y)]=>
  have gk:(en,y)∈i7 W id (eO W s ind K):=by rw[hq];simp
  obtain⟨y',hy,he⟩:=qaS.1 gk;obtain⟨jA,dp,heq⟩:=qaj.1 he;cases heq;have P4:=zn K y hy;obtain⟨v,hp,_⟩:=r8 g hs K y P4;obtain⟨vx,pG⟩:=h.lv g hs;have A0:=Eu g hs (ind:=ind) id K 0;rw[qa6,k2]at A0;have aT:NN W id 0 y.to≠0:=by
   rw[NN,hp];intro h0;rw[qaD h0]at dp;cases dp
  have:=Lx (f:=fun x:Way=>NN W id 0 x.to) A0 k3 P4 (h.own.nn g vx pG) aT;subst this;obtain⟨w,hw,r1,r2,r3,r4,r5,r6⟩:=h.own.own g vx;rw[hw,qac]at dp;subst dp;exact⟨en,by rw[hh,hq],r1,r2,r3,r4,r5,r6⟩
theorem zfK(g:GD W)(hs:bY W s){en:ng}(h:W.lJ s ind id=[(en,x)]):∃e,Uq W s ind id x e:=by
 by_cases h0:∀j,NN W id j s=0
 .rw[Wd.lJ,OX g hs h0]at h;cases h
 simp only[Classical.not_forall]at h0;obtain⟨j,hj⟩:=h0;obtain⟨K,_,hK⟩:=X5 hj;have hl:=ND g hs.gs hK;have hh:W.lJ s ind id=i7 W id (eO W s ind K):=IB g hs hK _ 0 (qae _) (by omega);rw[h]at hh;have hm:=K2 g hs (ind:=ind) id K;rw[<-hh]at hm;have h1:NN W id K s=1:=by simp at hm;omega
 have gk:(en,x)∈i7 W id (eO W s ind K):=by rw[<-hh];simp
 obtain⟨y,hy,he⟩:=qaS.1 gk;obtain⟨jA,dp,heq⟩:=qaj.1 he;cases heq;have hP:=zn K x hy;obtain⟨e,he⟩:=DI g (r8 g hs K x hP).1 (fun h=>by rw[h]at dp;cases dp);exact⟨e,⟨K,hK,h1,hP⟩,he⟩
end
section
variable {W:Wd}{d:Int}{t:Ty}{v ind:Bool}{s c:Sp}{k n:Nat}{seen qH:List Int}{id:ByteArray}
def uw(W:Wd)(s s':Sp):Prop:=∀id n,NN W id n s=NN W id n s'
structure jQ(W:Wd)(s s':Sp):Prop where
 kind:(W.plain s).of.kind=(W.plain s').of.kind
 el:(W.plain s).of.kind=2->uw W (W.plain s).elem (W.plain s').elem
 nn:uw W s s'
 nm:(W.plain s).of.kind=1->(W.plain s).of.num=(W.plain s').of.num
structure VS(W:Wd)(s:Sp):Prop where
 gs:GS W s
 val:Valid W s
theorem cP.zdn(h:cP W d t v)(hk:t.kind=1):t.elem=[]/\t.fields=[]/\t.methods=[]/\t.aD=[]:=by
 cases h with
 |named _ hh=>
  obtain⟨h1,h2,h3,_⟩:=hh;have n:=fun{p:Prop} (h:false=true\/p)=>h.resolve_left (by simp);exact⟨n h1,n h2,(n h3).1,(n h3).2⟩
 |basic ad=>rw[hk]at ad;cases ad
 |to ad=>rw[hk]at ad;rcases ad with h|h<;>cases h
 |struct ad=>rw[hk]at ad;cases ad
 |iface ad=>rw[hk]at ad;cases ad
theorem VS.named(hs:GS W s)(hk:s.of.kind=1):VS W s:=by
 obtain⟨d,v,hf⟩:=hs.form;obtain⟨h1,h2,h3,h4⟩:=hf.zdn hk;refine⟨hs,.mk s ?_ ?_ ?_ ?_ ?_ ?_ ?_⟩
 .intro j m h;rw[h3]at h;simp at h
 .intro i h;rw[h4]at h;exact absurd h (qav _)
 .intro i h;rw[h4]at h;exact absurd h (qav _)
 .intro j f h;rw[h2]at h;simp at h
 .intro i h;rw[h2]at h;exact absurd h (qav _)
 .intro i f h;rw[h2]at h;simp at h
 intro h;exact absurd h1 h
theorem Valid.field(h:Valid W s):∀i,i<s.of.fields.length->Valid W (s.field i):=by cases h;assumption
theorem Valid.HJ(h:Valid W s):∀i f,s.of.fields[i]? =some f->f.2.1=true->rX W s.aC (s.field i):=by cases h;assumption
theorem Valid.el(h:Valid W s):s.of.elem≠[]->Valid W s.elem:=by cases h;assumption
theorem DQ(g:GD W)(hs:s.of.kind=1->W.has s.of.num)(hk:s.of.kind=1)(hp:(W.plain s).of.kind≠1):∃i,W.has i/\s.of.num<=i/\(W.at i).bU=true/\W.plain s=W.spot i:=by
 have key:=zl g.later (P:=fun i=>(W.at i).bU=true->(W.plain (W.spot i)).of.kind≠1->∃j,W.has j/\i<=j/\(W.at j).bU=true/\W.plain (W.spot i)=W.spot j) fun i hi ih ha hp=>by
  by_cases h1:(W.at i).of.kind=1
  .obtain⟨l1,l2⟩:=g.later i hi h1;by_cases iX:(W.at (W.at i).of.num).bU=true
   .rw[pQ g.later (s:=W.spot i) h1 l2 iX]at hp⊢;obtain⟨j,a1,a2,a3,a4⟩:=ih h1 iX hp;exact⟨j,a1,by omega,a3,a4⟩
   rw[eu (s:=W.spot i) (Or.inr (by simpa[uo]using iX))]at hp;exact absurd h1 hp
  exact⟨i,hi,Int.le_refl _,ha,eu (s:=W.spot i) (Or.inl h1)⟩
 by_cases ha:(W.at s.of.num).bU=true
 .rw[pQ g.later hk (hs hk) ha]at hp⊢;exact key _ (hs hk) ha hp
 rw[eu (.inr (by simpa using ha))]at hp;exact absurd hk hp
theorem VS.plain(g:GD W)(h:VS W s):VS W (W.plain s):=by
 by_cases hp:(W.plain s).of.kind=1
 .exact .named (h.gs.plain g.gw) hp
 by_cases hk:s.of.kind=1
 .obtain⟨i,hi,_,_,he⟩:=DQ g h.gs.ok.num hk hp;exact⟨h.gs.plain g.gw,by rw[he];exact g.valid i hi⟩
 rw[eu (.inl hk)];exact h
theorem LW{u:Sp}(hg:GS W u)(h1:u.of.kind≠1)(h4:u.of.kind≠4)(h5:u.of.kind≠5)(id:ByteArray):∀n,NN W id n u=0
 |0=>by
  obtain⟨d,v,hf⟩:=hg.form;rw[NN,eu (.inl h1),zx];unfold sS vU sT;rw[if_neg h1,fO h1,if_neg h5,hf.xB h4];rfl
 |n+1=>by
  obtain⟨d,v,hf⟩:=hg.form;rw[NN];unfold Wd.kids;rw[fO h1,hf.xB h4];rfl
section
variable {W:Wd}{s s':Sp}
theorem uw.Bq(g:GD W)(hs:GS W s)(cT:GS W s')(h:uw W (W.plain s) (W.plain s')):uw W s s':=fun id n=>by rw[<-wt g hs,<-wt g cT,h]
theorem jQ.flat(g:GD W)(hs:GS W s)(cT:GS W s'){k:Int}(hk:(W.plain s).of.kind=k)(ad:(W.plain s').of.kind=k)(h:k=0\/k=3):jQ W s s':=by
 have n:∀{u:Sp},GS W u->u.of.kind=k->∀id n,NN W id n u=0:=fun hg hk id n=>LW hg (by rw[hk];rcases h with rfl|rfl<;>decide) (by rw[hk];rcases h with rfl|rfl<;>decide) (by rw[hk];rcases h with rfl|rfl<;>decide) id n;exact⟨hk.trans ad.symm,fun h2=>(by rw[hk]at h2;subst h2;rcases h with h|h<;>cases h),.Bq g hs cT fun id n'=>by rw[n (hs.plain g.gw) hk,n (cT.plain g.gw) ad],fun h1=>(by rw[hk]at h1;subst h1;rcases h with h|h<;>cases h)⟩
theorem jQ.ptr(g:GD W)(hs:GS W s)(cT:GS W s')(hk:(W.plain s).of.kind=2)(ad:(W.plain s').of.kind=2)(h:uw W (W.plain s).elem (W.plain s').elem):jQ W s s':=by
 have n:∀{u:Sp},GS W u->u.of.kind=2->∀id n,NN W id n u=0:=fun hg hk id n=>LW hg (by rw[hk];decide) (by rw[hk];decide) (by rw[hk];decide) id n;exact⟨hk.trans ad.symm,fun _=>h,.Bq g hs cT fun id n'=>by rw[n (hs.plain g.gw) hk,n (cT.plain g.gw) ad],fun h1=>(by rw[hk]at h1;cases h1)⟩
theorem jQ.named(g:GD W)(hs:GS W s)(cT:GS W s')(hk:(W.plain s).of.kind=1)(ad:(W.plain s').of.kind=1)(h:(W.plain s).of.num=(W.plain s').of.num):jQ W s s':=
 ⟨hk.trans ad.symm,fun h2=>(by rw[hk]at h2;cases h2),.Bq g hs cT fun id n=>BT g.later hk ad h ((hs.plain g.gw).ok.num hk) id n,fun _=>h⟩
theorem jQ.self(g:GD W)(hs:GS W s)(cT:GS W s')(h:W.plain s=W.plain s'):jQ W s s':=
 ⟨by rw[h],fun _=>by rw[h];exact fun _ _=>rfl,.Bq g hs cT (by rw[h];exact fun _ _=>rfl),fun _=>by rw[h]⟩
theorem jQ.cM(g:GD W)(hs:VS W s)(cT:VS W s')(hk:(W.plain s).of.kind=5)(ad:(W.plain s').of.kind=5)(hf:wl W (W.plain s))(gh:wl W (W.plain s'))(h:∀id,(∃k,iT W (W.plain s) id k)↔∃k,iT W (W.plain s') id k):jQ W s s':=by
 refine⟨hk.trans ad.symm,fun h2=>(by rw[hk]at h2;cases h2),.Bq g hs.gs cT.gs fun id n=> ?_,fun h1=>(by rw[hk]at h1;cases h1)⟩;have n1:(W.plain s).of.kind≠1:=by rw[hk];decide
 have vR:(W.plain s').of.kind≠1:=by rw[ad];decide
 obtain⟨d,v,kg⟩:=(hs.plain g).gs.form;obtain⟨d',v',za_⟩:=(cT.plain g).gs.form;have f:=kg.xB (by rw[hk];decide);have f':=za_.xB (by rw[ad];decide);have v:=bY.lit (hs.plain g).gs n1 (hs.plain g).val hf;have v':=bY.lit (cT.plain g).gs vR (cT.plain g).val gh;cases n with
 |zero=>
  rw[NN,NN,eu (.inl n1),eu (.inl vR)];have wY:W.own (W.plain s) id≠[]↔W.own (W.plain s') id≠[]:=by rw[Gc g v n1 f,Gc g v' vR f',h];simp[hk,ad]
  have l1:=DK g (id:=id) v;have l2:=DK g (id:=id) v';by_cases h0:W.own (W.plain s) id=[]
  .have qi:W.own (W.plain s') id=[]:=qa8 fun h=>wY.2 h h0;rw[h0,qi]
  have q1:=qbu.2 h0;have q2:=qbu.2 (wY.1 h0);omega
 |succ n=>
  rw[NN,NN];unfold Wd.kids;rw[fO n1,fO vR,f,f'];rfl
theorem Nr{α β:Type}{f:Nat->Option α}{f':Nat->Option β}:∀{n:Nat},(∀i,i<n->(f i≠none↔f' i≠none))->((List.range n).filterMap f).length=((List.range n).filterMap f').length
 |0,_=>rfl
 |n+1,h=>by
  rw[qY,qY,qar,qar,Nr fun i hi=>h i (by omega)]
  congr 1
  have:=h n (by omega);cases h1:f n<;>cases h2:f' n<;>simp_all
theorem Ns{α β:Type}{f:Nat->Option α}{f':Nat->Option β}{k:α->Nat}{k':β->Nat}:∀{n:Nat},(∀i,i<n->(f i=none/\f' i=none)\/∃x y,f i=some x/\f' i=some y/\k x=k' y)->(((List.range n).filterMap f).map k).sum=(((List.range n).filterMap f').map k').sum
 |0,_=>rfl
 |n+1,h=>by
  rw[qY,qY,qaq,qaq,qaN,qaN,Ns fun i hi=>h i (by omega)]
  congr 1
  rcases h n (by omega)with⟨h1,h2⟩|⟨x,y,h1,h2,h3⟩
  .rw[h1,h2];rfl
  rw[h1,h2];simp[h3]
theorem jQ.base(g:GD W){p p':Int}(hs:GS W s)(cT:GS W s')(hk:s.of.kind=1\/s.of.kind=2)(ad:s'.of.kind=1\/s'.of.kind=2)(he:rX W p s)(dD:rX W p' s')(h:jQ W s s'):uw W s.base s'.base:=by
 have key:∀{p:Int} {s:Sp},GS W s->s.of.kind=1->rX W p s->(W.plain s).of.kind≠2:=fun hs hk he h2=>by
  have h1:=ku g.later hs.ok.num;rw[fO (s:=W.plain _) (by rw[h2];decide)]at h1;have h3:=he.1;unfold Sp.base at h3;rw[if_neg (by rw[hk];decide),<-h1]at h3;exact h3 h2
 rcases hk with hk|hk
 .have zbn:s'.of.kind=1:=by
   rcases ad with h1|h1
   .exact h1
   exfalso;have h2:(W.plain s').of.kind=2:=by rw[eu (.inl (by rw[h1];decide))];exact h1
   exact key hs hk he (h.kind.trans h2)
  unfold Sp.base;rw[if_neg (by rw[hk];decide),if_neg (by rw[zbn];decide)];exact h.nn
 have hp:W.plain s=s:=eu (.inl (by rw[hk];decide));have O1:s'.of.kind=2:=by
  rcases ad with h1|h1
  .exfalso;exact key cT h1 dD (h.kind.symm.trans (by rw[hp];exact hk))
  exact h1
 have ea:W.plain s'=s':=eu (.inl (by rw[O1];decide));unfold Sp.base;rw[if_pos hk,if_pos O1];have:=h.el (by rw[hp];exact hk)
 rwa [hp,ea]at this
theorem jQ.struct(g:GD W)(hs:VS W s)(cT:VS W s')(hk:(W.plain s).of.kind=4)(ad:(W.plain s').of.kind=4)(hl:(W.plain s).of.fields.length=(W.plain s').of.fields.length)
 (h:∀i,i<(W.plain s).of.fields.length->((W.plain s).of.fields.getD i default).2.1=((W.plain s').of.fields.getD i default).2.1/\aM (W.plain s).aC (W.fieldName ((W.plain s).of.fields.getD i default))=aM (W.plain s').aC (W.fieldName ((W.plain s').of.fields.getD i default))/\jQ W ((W.plain s).field i) ((W.plain s').field i)):jQ W s s':=by
 refine⟨hk.trans ad.symm,fun h2=>(by rw[hk]at h2;cases h2),.Bq g hs.gs cT.gs ?_,fun h1=>(by rw[hk]at h1;cases h1)⟩;have v:=hs.plain g;have v':=cT.plain g;generalize W.plain s=u at*;generalize W.plain s'=u' at*;have n1:u.of.kind≠1:=by rw[hk];decide
 have vR:u'.of.kind≠1:=by rw[ad];decide
 obtain⟨d,vv,hf⟩:=v.gs.form;obtain⟨d',vv',gh⟩:=v'.gs.form;intro id n;cases n with
 |zero=>
  rw[NN,NN,eu (.inl n1),eu (.inl vR),zx,zx];unfold sS vU sT;rw[if_neg n1,if_neg vR,fO n1,fO vR,if_neg (by rw[hk];decide),if_neg (by rw[ad];decide)];simp only[qbk,qaC];rw[<-hl];refine Nr fun i hi=> ?_;have hi':i<u'.of.fields.length:=by omega
  obtain⟨_,h2,_⟩:=h i hi;rw[fS hi,fS hi']at h2;have hn:=ud (nq g.gw.name hf (qaf hi)) (nq g.gw.name gh (qaf hi')) ((qA v.gs.aC (nq g.gw.name hf (qaf hi)) v'.gs.aC (nq g.gw.name gh (qaf hi'))).1 h2).1;rw[Bt,Bt,fS hi,fS hi',h2,hn]
 |succ n=>
  rw[NN,NN];unfold Wd.kids;rw[fO n1,fO vR,<-hl];refine Ns fun i hi=> ?_;have hi':i<u'.of.fields.length:=by omega
  obtain⟨h1,_,h3⟩:=h i hi;unfold sO;by_cases he:(u.of.fields.getD i default).2.1=true
  .have dD:=h1▸he;refine .inr ⟨_,_,if_pos he,if_pos dD,?_⟩;rw[fS hi]at he;rw[fS hi']at dD;have kk:∀{u:Sp} {i:Nat} (_:Ok W u.of) (hi:i<u.of.fields.length),u.of.fields[i].2.1=true->(u.field i).of.kind=1\/(u.field i).of.kind=2:=fun ho hi he=>by
    rw[Sp.tE hi];exact(ho.np _ (qaf hi) he).imp_right (·.1)
   exact h3.base g (v.gs.field hi) (v'.gs.field hi') (kk v.gs.ok hi he) (kk v'.gs.ok hi' dD) (v.val.HJ i _ (qaa hi) he) (v'.val.HJ i _ (qaa hi') dD) id n
  exact .inl ⟨if_neg he,if_neg (h1▸he)⟩
end
def RA(W:Wd)(n:Nat)(s:Sp):Prop:=(W.plain s).of.kind=1\/∃d v,cP W d (W.plain s).of v/\(d<0\/(W.at d).bU=true)/\vW W d (W.plain s).of<n
theorem Ma(h:cP W d t v)(hk:t.kind=1)(hd:d<0\/(W.at d).bU=true)(ha:(W.at t.num).bU=true):W.has t.num/\d<t.num:=by
 cases h with
 |named _ _ hn ke=>
  refine⟨hn,?_⟩;rcases ke with h|⟨_,h|h|h⟩
  .exact h
  .have:=hn.1;omega
  .rcases hd with h'|h'
   .have:=hn.1;omega
   rw[h]at h';cases h'
  rw[ha]at h;cases h
 |basic ad=>rw[hk]at ad;cases ad
 |to ad=>rw[hk]at ad;rcases ad with h|h<;>cases h
 |struct ad=>rw[hk]at ad;cases ad
 |iface ad=>rw[hk]at ad;cases ad
theorem RA.of(g:GD W)(hc:GS W c)(hf:cP W d c.of v)(hd:d<0\/(W.at d).bU=true)(hn:((W.length:Int)-d).toNat*(W.aj+1)+c.of.aj<=n)(h1:c.of.kind≠1->vW W d c.of<n):RA W n c:=by
 by_cases hk:c.of.kind=1
 .by_cases hp:(W.plain c).of.kind=1
  .exact .inl hp
  have ha:(W.at c.of.num).bU=true:=qa8 fun ha=>by
   rw[eu (.inr (by simpa using ha))]at hp;exact hp hk
  obtain⟨hh,aG⟩:=Ma hf hk hd ha;obtain⟨j,hj,hle,gE,mw⟩:=DQ g hc.ok.num hk hp;refine .inr ⟨j,true,by rw[mw];exact g.form hj,.inr gE,?_⟩;rw[mw];have hbj:(W.at j).of.aj<=W.aj:=Wd.sQ (W.mem _ hj);have uZ:=hj.1;have ki:=hj.2;unfold vW;have hc:((W.length:Int)-j).toNat+1<=((W.length:Int)-d).toNat:=by omega
  have hm:(((W.length:Int)-j).toNat+1)*(W.aj+1)<=((W.length:Int)-d).toNat*(W.aj+1):=qaJ _ hc;rw[qbr]at hm;show((W.length:Int)-j).toNat*(W.aj+1)+(W.at j).of.aj<n;omega
 exact .inr ⟨d,v,by rw[eu (.inl hk)];exact hf,hd,by rw[eu (.inl hk)];exact h1 hk⟩
theorem RA.step(g:GD W)(h:RA W (n+1) s)(hk:(W.plain s).of.kind≠1)(hc:GS W c)(lR:∀d v,cP W d (W.plain s).of v->∃v',cP W d c.of v')(hb:c.of.aj<(W.plain s).of.aj):RA W n c:=by
 rcases h with h|⟨d,v,h1,h2,h3⟩
 .exact absurd h hk
 obtain⟨v',hf⟩:=lR d v h1;unfold vW at h3;exact .of g hc hf h2 (by omega) fun _=>by unfold vW;omega
theorem RA.named(g:GD W)(hc:GS W c)(hk:c.of.kind=1):∃n,RA W n c:=by
 by_cases hp:(W.plain c).of.kind=1
 .exact⟨0,.inl hp⟩
 obtain⟨j,hj,_,gE,mw⟩:=DQ g hc.ok.num hk hp;exact⟨_,.inr ⟨j,true,by rw[mw];exact g.form hj,.inr gE,qam _⟩⟩
def RL(W:Wd)(n:Nat)(s:Sp):Prop:=(W.plain s).of.kind=1\/∃d v,cP W d (W.plain s).of v/\(d<0\/(W.at d).bU=true)/\((W.length:Int)-d).toNat<n
theorem RL.named(g:GD W)(hc:GS W c)(hk:c.of.kind=1):RL W (W.length+1) c:=by
 by_cases hp:(W.plain c).of.kind=1
 .exact .inl hp
 obtain⟨j,hj,_,gE,mw⟩:=DQ g hc.ok.num hk hp;exact .inr ⟨j,true,by rw[mw];exact g.form hj,.inr gE,by have:=hj.1;omega⟩
theorem RL.mono{m:Nat}(h:RL W n s)(hn:n<=m):RL W m s:=h.imp_right fun⟨d,v,h1,h2,h3⟩=>⟨d,v,h1,h2,by omega⟩
theorem RL.kid(g:GD W)(hs:GS W s)(h:RL W (n+1) s)(hk:(W.plain s).of.kind≠1){c:Eo}(hc:c∈W.kids s):RL W n c.1:=by
 obtain⟨hv,su⟩:=xo g hs hc;rcases h with h|⟨d,v,h1,h2,h3⟩
 .exact absurd h hk
 by_cases hp:(W.plain c.1).of.kind=1
 .exact .inl hp
 have ha:(W.at c.1.of.num).bU=true:=qa8 fun ha=>by
  rw[eu (.inr (by simpa using ha))]at hp;exact hp su
 obtain⟨v',hf⟩:∃v',cP W d c.1.of v':=by
  rw[<-Ku g hs]at hc;obtain⟨i,hi,hd⟩:=qbg.1 hc;have hi:=qaz.1 hi;rw[fO hk]at hi hd;unfold sO at hd;split at hd
  .cases hd;have iY:=(h1.fields (qaf hi)).2.1;rw[<-Sp.tE hi]at iY;unfold Sp.base;split
   .rename_i h2;have aT:=iY.ok.el (.inl h2);exact⟨false,iY.elems _ (Sp.uF aT)⟩
   exact⟨_,iY⟩
  cases hd
 obtain⟨hh,aG⟩:=Ma hf su h2 ha;obtain⟨j,hj,hle,gE,mw⟩:=DQ g hv.gs.ok.num su hp;exact .inr ⟨j,true,by rw[mw];exact g.form hj,.inr gE,by have:=hj.2;have:=hj.1;omega⟩
structure En where
 s:Sp
 index:List Int
 ind:Bool
 mult:Bool
def En.w(e:En):Nat:=if e.mult=true then 2 else 1
def En.nS(W:Wd)(e:En):Way:=⟨W.plain e.s,e.index,e.ind⟩
def eY(f:Sp->Nat)(l:List En):Nat:=(l.map fun e=>e.w*f e.s).sum
def kw(W:Wd)(seen:List Int)(e:En):Prop:=(W.plain e.s).of.kind=1/\(W.plain e.s).of.num∈seen
instance (W:Wd)(seen:List Int)(e:En):Decidable (kw W seen e):=by unfold kw;infer_instance
def ed(W:Wd)(seen:List Int)(l:List En):List En:=l.filter fun e=> !decide (kw W seen e)
def uc(W:Wd)(e:En):List En:=(W.kids e.s).map fun c=>⟨c.1,e.index++[(c.2.1:Int)],e.ind||c.2.2,e.mult⟩
def oR(W:Wd)(l:List En):List En:=l.flatMap (uc W)
def qS(W:Wd)(s s':Sp):Prop:=(W.plain s).of.kind=1/\(W.plain s').of.kind=1/\(W.plain s).of.num=(W.plain s').of.num
structure xQ(W:Wd)(l l':List En):Prop where
 sub:∀e'∈l',∃e∈l,e'.s=e.s/\e'.index=e.index/\e'.ind=e.ind
 nn:∀id n,min 2 (eY (NN W id n) l')=min 2 (eY (NN W id n) l)
 nd:l'.Pairwise fun a b=>¬qS W a.s b.s
 num:l'.length<=1\/l'.Pairwise fun a b=>a.s.of.num≠b.s.of.num
structure jw(W:Wd)(s:Sp)(ind:Bool)(k:Nat)(cur:List En)(seen:List Int):Prop where
 w:∀e∈cur,e.nS W∈Pf W s ind k/\bY W e.s
 sn:∀T∈seen,W.has T/\∃j,j<k/\∀id n,NN W id n (mE T)<=NN W id (j+n) s
 q:∀id n,(∀j,j<k+n->NN W id j s=0)->min 2 (eY (NN W id n) cur)=min 2 (NN W id (k+n) s)
 nd:cur.Pairwise fun a b=>¬qS W a.s b.s
 num:cur.length<=1\/((∀e∈cur,e.s.of.kind=1)/\cur.Pairwise fun a b=>a.s.of.num≠b.s.of.num)
theorem jw.start(g:GD W){s0:Sp}(hs:bY W s)(dR:bY W s0)(hp:W.plain s0=W.plain s):jw W s ind 0 [⟨s0,[],ind,false⟩] [] where
 w:=fun e he=>by
  rw[qac]at he;subst he;exact⟨by simp[En.nS,Pf,hp],dR⟩
 sn:=fun T h=>by cases h
 q:=fun id n _=>by
  have:NN W id n s0=NN W id n s:=by rw[<-wt g dR.gs,hp,wt g hs.gs]
  simp[eY,En.w,this]
 nd:=by simp
 num:= .inl (qad _)
theorem TP{W:Wd}{seen:List Int}{f:Sp->Nat}:∀{l:List En},(∀e∈l,kw W seen e->f e.s=0)->eY f (ed W seen l)=eY f l
 |[],_=>rfl
 |e::r,h=>by
  have ih:=TP (seen:=seen) (f:=f) fun e he=>h e (qag _ he);unfold ed at ih⊢;rw[List.filter_cons];by_cases hd:kw W seen e
  .rw[if_neg (by simp[hd])];have:=h e qal hd;rw[ih];simp[eY,this]
  rw[if_pos (by simp[hd])];unfold eY at ih⊢;rw[qaB,qaT,ih,qaB,qaT]
theorem Xr(g:GD W){cur:List En}(h:jw W s ind k cur seen)(h0:∀j,j<k+n->NN W id j s=0):∀e∈cur,kw W seen e->NN W id n e.s=0:=fun e he hd=>by
 obtain⟨hh,j,hj,hle⟩:=h.sn _ hd.2;have h1:=hle id n;rw[h0 (j+n) (by omega)]at h1;rw[<-wt g (h.w e he).2.gs,BT g.later (s':=mE (W.plain e.s).of.num) hd.1 rfl rfl hh];omega
theorem jw.live(g:GD W){cur:List En}(h:jw W s ind k cur seen)(h0:∀j,j<k+n->NN W id j s=0):min 2 (eY (NN W id n) (ed W seen cur))=min 2 (NN W id (k+n) s):=by
 rw[TP (Xr g h h0),h.q id n h0]
theorem zdl(w:Nat)(l:List Nat):(l.map fun x=>w*x).sum=w*l.sum:=by
 induction l with
 |nil=>rfl
 |cons x r ih=>rw[qaB,qaT,qaT,ih,Nat.mul_add]
theorem Rq{W:Wd}{id:ByteArray}{n:Nat}:∀{l:List En},eY (NN W id n) (oR W l)=eY (NN W id (n+1)) l
 |[]=>rfl
 |e::r=>by
  have ih:=Rq (W:=W) (id:=id) (n:=n) (l:=r);unfold eY oR at ih⊢;rw[List.flatMap_cons,qaq,qaN,ih,qaB,qaT]
  congr 1
  unfold uc;rw[qbE,NN,<-zdl,qbE];rfl
theorem Ks(g:GD W){e c:En}(he:bY W e.s)(hc:c∈uc W e):bY W c.s/\c.s.of.kind=1/\c.nS W∈W.nk (e.nS W):=by
 obtain⟨x,hx,rfl⟩:=qaj.1 hc;obtain⟨h1,h2⟩:=xo g he.gs hx;refine⟨h1,h2,?_⟩;rw[EP];exact qaj.2 ⟨x,by show x∈W.kids (W.plain e.s);rw[Ku g he.gs];exact hx,rfl⟩
theorem vM{l:List En}{e:En}:e∈ed W seen l↔e∈l/\¬kw W seen e:=by unfold ed;simp
theorem jw.step(g:GD W){cur jh:List En}(hs:bY W s)(h:jw W s ind k cur seen)(hc:xQ W (oR W (ed W seen cur)) jh)
 (jp:∀T∈qH,T∈seen\/∃e∈ed W seen cur,(W.plain e.s).of.kind=1/\(W.plain e.s).of.num=T):jw W s ind (k+1) jh qH:=by
 have gk:∀e'∈jh,e'.nS W∈Pf W s ind (k+1)/\bY W e'.s/\e'.s.of.kind=1:=fun e' dD=>by
  obtain⟨c,ql,h1,h2,h3⟩:=hc.sub e' dD;obtain⟨e,he,kW⟩:=qaS.1 ql;obtain⟨hw,hv⟩:=h.w e (vM.1 he).1;obtain⟨a1,a2,a3⟩:=Ks g hv kW;have:e'.nS W=c.nS W:=by unfold En.nS;rw[h1,h2,h3]
  rw[this,h1];exact⟨qaS.2 ⟨_,hw,a3⟩,a1,a2⟩
 refine⟨fun e' dD=>⟨(gk e' dD).1,(gk e' dD).2.1⟩,fun T hT=> ?_,fun id n h0=> ?_,hc.nd,hc.num.imp_right fun h=>⟨fun e he=>(gk e he).2.2,h⟩⟩
 .rcases jp T hT with h1|⟨e,he,hk,rfl⟩
  .obtain⟨a,j,b,c⟩:=h.sn T h1;exact⟨a,j,by omega,c⟩
  obtain⟨hw,hv⟩:=h.w e (vM.1 he).1;have hh:=(hv.gs.plain g.gw).ok.num hk;refine⟨hh,k,by omega,fun id n=> ?_⟩;rw[BT g.later (s:=mE (W.plain e.s).of.num) (s':=W.plain e.s) rfl hk rfl hh,<-Eu g hs (ind:=ind) id k n];exact vL (f:=fun x:Way=>NN W id n x.to) hw
 rw[hc.nn,Rq,h.live g (n:=n+1) (fun j hj=>h0 j (by omega))]
 congr 2;omega
def vQ(W:Wd)(cur:List En)(seen:List Int)(r:Nat):Nat:=gn W seen*(W.length+4)+(if cur=[]then 0 else r+1)
theorem zdk(g:GD W){cur jh:List En}{r:Nat}(h:jw W s ind k cur seen)(hc:xQ W (oR W (ed W seen cur)) jh)(aT:cur≠[])(hr:∀e∈cur,RL W r e.s)(rF:r<=W.length+2)
 (lR:∀T∈seen,T∈qH) (jp:∀e∈ed W seen cur,(W.plain e.s).of.kind=1->(W.plain e.s).of.num∈qH):∃r',r'<=W.length+2/\(∀e∈jh,RL W r' e.s)/\vQ W jh qH r'<vQ W cur seen r:=by
 have oK:gn W qH<=gn W seen:=qb6 fun x _ hx=>by
  simp only[qbp]at hx⊢;exact fun h=>hx (lR _ h)
 have II:∀e'∈jh,∃e∈ed W seen cur,∃c∈uc W e,e'.s=c.s:=fun e' dD=>by
  obtain⟨c,ql,h1,_,_⟩:=hc.sub e' dD;obtain⟨e,he,kW⟩:=qaS.1 ql;exact⟨e,he,c,kW,h1⟩
 unfold vQ;rw[if_neg aT];by_cases OO:∃e∈ed W seen cur,(W.plain e.s).of.kind=1
 .obtain⟨e,he,hk⟩:=OO;have hm:=vM.1 he;have oz:(W.plain e.s).of.num∉seen:=fun h=>hm.2 ⟨hk,h⟩;have hh:=((h.w e hm.1).2.gs.plain g.gw).ok.num hk;have h1:=GO hh oz;have h2:gn W qH<=gn W ((W.plain e.s).of.num::seen):=qb6 fun x _ hx=>by
   simp only[qbp]at hx⊢;intro h;rcases qan.1 h with h|h
   .exact hx (h▸jp e he hk)
   exact hx (lR _ h)
  refine⟨W.length+1,by omega,fun e' dD=> ?_,?_⟩
  .obtain⟨e,he,c,kW,h1⟩:=II e' dD;obtain⟨a1,a2,_⟩:=Ks g (h.w e (vM.1 he).1).2 kW;rw[h1];exact RL.named g a1.gs a2
  have h3:(gn W qH+1)*(W.length+4)<=gn W seen*(W.length+4):=qaJ _ (by omega);rw[qbr]at h3;split<;>omega
 have Pd:∀e∈ed W seen cur,(W.plain e.s).of.kind≠1:=fun e he hk=>OO ⟨e,he,hk⟩;have h3:gn W qH*(W.length+4)<=gn W seen*(W.length+4):=qaJ _ oK;cases r with
 |zero=>
  have:jh=[]:=List.eq_nil_iff_forall_not_mem.2 fun e' dD=>by
   obtain⟨e,he,c,kW,_⟩:=II e' dD;rcases hr e (vM.1 he).1 with h1|⟨d,v,_,_,h1⟩
   .exact Pd e he h1
   exact absurd h1 (qav _)
  refine⟨0,by omega,fun e' dD=>(by rw[this]at dD;cases dD),?_⟩;rw[if_pos this];omega
 |succ r=>
  refine⟨r,by omega,fun e' dD=> ?_,?_⟩
  .obtain⟨e,he,c,kW,h1⟩:=II e' dD;obtain⟨x,hx,rfl⟩:=qaj.1 kW;have hm:=(vM.1 he).1;rw[h1];exact(hr e hm).kid g (h.w e hm).2.gs (Pd e he) hx
  split<;>omega
end
section
variable {W:Wd}{seen:List Int}{j n:Nat}{e:En}{ie:IE}
theorem xr{cur:List En}(hj:j<cur.length):ed W seen (cur.take (j+1))=ed W seen (cur.take j)++(if kw W seen cur[j]then []else [cur[j]]):=by
 unfold ed;rw[<-dN hj,List.filter_append]
 congr 1
 rw[List.filter_cons,List.filter_nil];by_cases h:kw W seen cur[j]<;>simp[h]
theorem TO(f:Sp->Nat)(l l':List En):eY f (l++l')=eY f l+eY f l':=by unfold eY;rw[qaq,qaN]
theorem zfY(f:Sp->Nat)(e:En):eY f [e]=e.w*f e.s:=by simp[eY]
theorem Rn(W:Wd)(l l':List En):oR W (l++l')=oR W l++oR W l':=by unfold oR;rw[List.flatMap_append]
theorem Ro(W:Wd)(e:En):oR W [e]=uc W e:=by simp[oR]
theorem zfm{f:Sp->Nat}(cur:List En)(j:Nat):eY f (ed W seen (cur.take j))<=eY f (ed W seen cur):=by
 have h:ed W seen cur=ed W seen (cur.take j)++ed W seen (cur.drop j):=by
  unfold ed;rw[<-List.filter_append,qbR]
 rw[h,TO];omega
section
variable {W:Wd}{s:Sp}{ind:Bool}{k:Nat}{cur:List En}{seen:List Int}{id:ByteArray}
theorem jw.pg(g:GD W)(h:jw W s ind k cur seen)(h0:∀j,j<k->NN W id j s=0)(h2:2<=eY (NN W id 0) (ed W seen cur)):∀x e,¬Uq W s ind id x e:=fun x e hu=>by
 have:=h.live g (n:=0) (id:=id) (fun j hj=>h0 j hj);rw[qa6]at this;obtain⟨K,k1,k2,_⟩:=hu.ex;have hk:pX W id s k:=⟨by omega,h0⟩;rw[k1.uniq hk]at k2;omega
theorem jw.found(g:GD W)(h:jw W s ind k cur seen)(h0:∀j,j<k->NN W id j s=0)(h1:eY (NN W id 0) (ed W seen cur)=1)(he:e∈cur)(ho:ep W (W.plain e.s) id ie):Uq W s ind id (e.nS W) ie:=by
 have:=h.live g (n:=0) (id:=id) (fun j hj=>h0 j hj);rw[qa6,h1]at this;exact⟨⟨k,⟨by omega,h0⟩,by omega,(h.w e he).1⟩,ho⟩
theorem jw.zero(g:GD W)(h:jw W s ind k cur seen)(h0:∀j,j<k->NN W id j s=0)(h1:eY (NN W id 0) (ed W seen cur)=0):∀j,j<k+1->NN W id j s=0:=fun j hj=>by
 have:=h.live g (n:=0) (id:=id) (fun j hj=>h0 j hj);rw[qa6,h1]at this;by_cases hjk:j=k
 .subst hjk;omega
 exact h0 j (by omega)
theorem jw.nil(h:jw W s ind k [] seen)(h0:∀j,j<k->NN W id j s=0):∀j,NN W id j s=0:=by
 intro j
 induction j using Nat.strongRecOn with
 |ind j ih=>
  by_cases hj:j<k
  .exact h0 j hj
  have:=h.q id (j-k) (fun i hi=>ih i (by omega));rw[show k+(j-k)=j by omega]at this;simp[eY]at this;omega
theorem Ru(h:∀j,NN W id j s=0):∀x e,¬Uq W s ind id x e:=fun x e hu=>by
 obtain⟨K,k1,_⟩:=hu.ex;exact k1.1 (h K)
theorem K7(g:GD W)(hv:bY W e.s):NN W id 0 e.s=0\/(NN W id 0 e.s=1/\∃ie,ep W (W.plain e.s) id ie):=by
 rw[NN];by_cases h:W.own (W.plain e.s) id=[]
 .left;rw[h];rfl
 right;have h1:=DK g (id:=id) (hv.plain g);have h2:=qbu.2 h;exact⟨by omega,DI g (hv.plain g) h⟩
theorem Gd(g:GD W)(hv:bY W e.s)(h:ep W (W.plain e.s) id ie):NN W id 0 e.s=1:=by
 obtain⟨x,hx,_⟩:=h.own g (hv.plain g);rw[NN,hx];rfl
theorem jw.len(h:jw W s ind k cur seen):cur.length<=W.length+1:=by
 rcases h.num with h1|⟨h1,h2⟩
 .omega
 have hn:(cur.map fun e=>e.s.of.num.toNat).Nodup:=by
  unfold List.Nodup;rw[qbl];refine h2.imp_of_mem fun{a b} ha hb d8 he=>d8 ?_;have p1:=((h.w a ha).2.gs.ok.num (h1 a ha)).1;have p2:=((h.w b hb).2.gs.ok.num (h1 b hb)).1;omega
 have:=Bp (l':=List.range W.length) hn fun x hx=>by
  obtain⟨e,he,rfl⟩:=qaj.1 hx;exact qaz.2 ((h.w e he).2.gs.ok.num (h1 e he)).2
 simp at this;omega
theorem jw.Rv(h:jw W s ind k cur seen)(hj:j<cur.length)(hk:(W.plain cur[j].s).of.kind=1){qH:List Int}(h1:∀T∈qH,T∈seen\/∃e∈ed W seen (cur.take j),(W.plain e.s).of.kind=1/\(W.plain e.s).of.num=T)(h2:∀T∈seen,T∈qH):(W.plain cur[j].s).of.num∈qH↔kw W seen cur[j]:=by
 constructor
 .intro hm;rcases h1 _ hm with h3|⟨e,he,h3,h4⟩
  .exact⟨hk,h3⟩
  exfalso;have dD:=(vM.1 he).1;obtain⟨i,hi,rfl⟩:=qak dD;simp only[qaG]at hi;rw[List.getElem_take]at h3 h4;exact qb8.1 h.nd i j (by omega) hj (by omega) ⟨h3,hk,h4⟩
 exact fun hd=>h2 _ hd.2
end
def kG(W:Wd)(e:En)(n:Nat):List En:=((List.range n).filterMap (sO (W.under e.s))).map fun c=>⟨c.1,e.index++[(c.2.1:Int)],e.ind||c.2.2,e.mult⟩
theorem Kt(W:Wd)(e:En):kG W e (W.under e.s).of.fields.length=uc W e:=rfl
theorem QH(W:Wd)(e:En):kG W e 0=[]:=rfl
theorem QG(h:((W.under e.s).of.fields.getD n default).2.1=false):kG W e (n+1)=kG W e n:=by
 unfold kG;rw[qY];have:sO (W.under e.s) n=none:=by unfold sO;rw[h];rfl
 rw[this];simp
theorem xq(h:((W.under e.s).of.fields.getD n default).2.1=true):kG W e (n+1)=kG W e n++[⟨((W.under e.s).field n).base,e.index++[(n:Int)],e.ind||decide (((W.under e.s).field n).of.kind=2),e.mult⟩]:=by
 unfold kG;rw[qY];have:sO (W.under e.s) n=some (((W.under e.s).field n).base,n,decide (((W.under e.s).field n).of.kind=2)):=by unfold sO;rw[if_pos h]
 rw[this];simp
theorem QF(W:Wd)(e:En)(n:Nat):(kG W e n).length<=n:=by unfold kG;rw[qat];exact tF _ _
theorem QE(h:(W.under e.s).of.fields=[]):uc W e=[]:=by rw[<-Kt,h];rfl
end
section
variable {xs ys:List Nat}{i j a b a0 b0 m:Nat}{lt:Nat->Nat->Bool}
abbrev gx(xs:List Nat)(i:Nat):Nat:=xs.getD i 0
def gY(xs:List Nat)(i j:Nat):List Nat:=(xs.set i (gx xs j)).set j (gx xs i)
theorem n9(h:i<xs.length):gx xs i=xs[i]:=by simp[gx,h]
theorem S8(xs:List Nat)(i j:Nat):(gY xs i j).length=xs.length:=by simp[gY]
theorem BI{k:Nat}(hi:i<xs.length)(hj:j<xs.length):gx (gY xs i j) k=if k=j then gx xs i else if k=i then gx xs j else gx xs k:=by
 unfold gY gx;simp only[qaV,qaX,qbh];by_cases h1:k=j
 .subst h1;simp[hj]
 rw[if_neg (fun h=>h1 h.symm),if_neg h1];by_cases h2:k=i
 .subst h2;simp[hi]
 rw[if_neg (fun h=>h2 h.symm),if_neg h2]
theorem zfd(hi:i<xs.length)(hj:j<xs.length):(gY xs i j).Perm xs:=by
 unfold gY;rw[n9 hi,n9 hj];exact List.set_set_perm hi hj
structure Rg(a b:Nat)(xs ys:List Nat):Prop where
 len:ys.length=xs.length
 perm:ys.Perm xs
 out:∀i,i<a\/b<=i->gx ys i=gx xs i
theorem Rg.refl(a b:Nat)(xs:List Nat):Rg a b xs xs:=⟨rfl,.refl _,fun _ _=>rfl⟩
theorem Rg.trans{zs:List Nat}(h:Rg a b xs ys)(h':Rg a b ys zs):Rg a b xs zs:=⟨h'.len.trans h.len,h'.perm.trans h.perm,fun i hi=>(h'.out i hi).trans (h.out i hi)⟩
theorem Rg.mono{a' b':Nat}(h:Rg a b xs ys)(ha:a'<=a)(hb:b<=b'):Rg a' b' xs ys:=⟨h.len,h.perm,fun i hi=>h.out i (by omega)⟩
theorem Rg.gY{a b i j:Nat}{xs:List Nat}(hi:a<=i/\i<b)(hj:a<=j/\j<b)(hb:b<=xs.length):Rg a b xs (gY xs i j):=
 ⟨S8 xs i j,zfd (by omega) (by omega),fun k hk=>by rw[BI (by omega) (by omega),if_neg (by omega),if_neg (by omega)]⟩
theorem NS(hn:xs.Nodup)(hi:i<xs.length)(hj:j<xs.length)(h:gx xs i=gx xs j):i=j:=by
 rw[n9 hi,n9 hj]at h;exact(qbw (h₀:=hi) (h₁:=hj) hn).1 h
theorem Rg.src(h:Rg a b xs ys)(hn:xs.Nodup)(hb:b<=xs.length)(hi:a<=i/\i<b):∃j,(a<=j/\j<b)/\gx ys i=gx xs j:=by
 have yJ:i<ys.length:=by have:=h.len;omega
 have hm:ys[i]∈xs:=h.perm.mem_iff.1 (qaf yJ);obtain⟨j,hj,he⟩:=qak hm;by_cases hr:a<=j/\j<b
 .exact⟨j,hr,by rw[n9 yJ,n9 hj,he]⟩
 exfalso;have h1:=h.out j (by omega);have hjy:j<ys.length:=by have:=h.len;omega
 rw[n9 hj,he,<-n9 yJ]at h1;have:=NS (h.perm.nodup_iff.2 hn) hjy yJ h1;omega
theorem Rg.dst(h:Rg a b xs ys)(hn:xs.Nodup)(hb:b<=xs.length)(hi:a<=i/\i<b):∃j,(a<=j/\j<b)/\gx ys j=gx xs i:=by
 have hl:=h.len;obtain⟨j,h1,h2⟩:=Rg.src (xs:=ys) (ys:=xs) ⟨hl.symm,h.perm.symm,fun i hi=>(h.out i hi).symm⟩ (h.perm.nodup_iff.2 hn) (by omega) hi;exact⟨j,h1,h2.symm⟩
structure mK(lt:Nat->Nat->Bool)(xs:List Nat):Prop where
 tr:∀a b c,lt a b=true->lt b c=true->lt a c=true
 ir:∀a,lt a a=false
 lh:∀a∈xs,∀b∈xs,a≠b->lt a b=true\/lt b a=true
 nd:xs.Nodup
theorem mK.perm(h:mK lt xs)(hp:ys.Perm xs):mK lt ys:=
 ⟨h.tr,h.ir,fun a ha b hb=>h.lh a (hp.mem_iff.1 ha) b (hp.mem_iff.1 hb),hp.nodup_iff.2 h.nd⟩
theorem mK.asym(h:mK lt xs)(d8:lt a b=true):lt b a=false:=by
 cases hb:lt b a with
 |false=>rfl
 |true=>have:=h.tr _ _ _ d8 hb;rw[h.ir]at this;cases this
theorem mK.at(h:mK lt xs)(hi:i<xs.length)(hj:j<xs.length)(aT:i≠j):lt (gx xs i) (gx xs j)=true\/lt (gx xs j) (gx xs i)=true:=
 h.lh _ (by rw[n9 hi];exact qaf hi) _ (by rw[n9 hj];exact qaf hj) fun he=>aT (NS h.nd hi hj he)
theorem mK.not(h:mK lt xs)(hi:i<xs.length)(hj:j<xs.length)(aT:i≠j)(hn:lt (gx xs i) (gx xs j)=false):lt (gx xs j) (gx xs i)=true:=by
 rcases h.at hi hj aT with h1|h1
 .rw[hn]at h1;cases h1
 exact h1
def Sd(lt:Nat->Nat->Bool)(a b:Nat)(xs:List Nat):Prop:=∀i j,a<=i->i<j->j<b->lt (gx xs i) (gx xs j)=true
structure wm(lt:Nat->Nat->Bool)(a i j:Nat)(xs:List Nat):Prop where
 s1:∀p q,a<=p->p<q->q<=i->p≠j->q≠j->lt (gx xs p) (gx xs q)=true
 s2:∀q,j<q->q<=i->lt (gx xs j) (gx xs q)=true
theorem wm.start(h:Sd lt a i xs):wm lt a i i xs:=⟨fun p q h1 h2 h3 h4 h5=>h p q h1 h2 (by omega),fun q h1 h2=>by omega⟩
theorem wm.step(h:wm lt a i j xs)(hj:a<j)(hi:j<=i)(hl:i<xs.length)(aG:lt (gx xs j) (gx xs (j-1))=true):wm lt a i (j-1) (gY xs j (j-1)):=by
 have hg:∀k,gx (gY xs j (j-1)) k=if k=j-1 then gx xs j else if k=j then gx xs (j-1)else gx xs k:=fun k=>BI (by omega) (by omega);refine⟨fun p q h1 h2 h3 h4 h5=> ?_,fun q h1 h2=> ?_⟩
 .rw[hg p,hg q,if_neg h4,if_neg h5];by_cases hp:p=j
  .subst hp;rw[if_pos rfl,if_neg (by omega)];exact h.s1 (p-1) q (by omega) (by omega) h3 (by omega) (by omega)
  rw[if_neg hp];by_cases hq:q=j
  .subst hq;rw[if_pos rfl];exact h.s1 p (q-1) h1 (by omega) (by omega) hp (by omega)
  rw[if_neg hq];exact h.s1 p q h1 h2 h3 hp hq
 rw[hg (j-1),if_pos rfl,hg q,if_neg (by omega)];by_cases hq:q=j
 .rw[if_pos hq];exact aG
 rw[if_neg hq];exact h.s2 q (by omega) h2
theorem wm.done(ho:mK lt xs)(h:wm lt a i j xs)(ha:a<=j)(hi:j<=i)(hl:i<xs.length)(hs:j=a\/lt (gx xs j) (gx xs (j-1))=false):Sd lt a (i+1) xs:=fun p q h1 h2 h3=>by
 by_cases hp:p=j
 .subst hp;exact h.s2 q h2 (by omega)
 by_cases hq:q=j
 .subst hq;rcases hs with rfl|hs
  .omega
  have h4:=ho.not (i:=q) (j:=q-1) (by omega) (by omega) (by omega) hs;by_cases kF:p=q-1
  .rw[kF];exact h4
  exact ho.tr _ _ _ (h.s1 p (q-1) h1 (by omega) (by omega) hp (by omega)) h4
 exact h.s1 p q h1 h2 (by omega) hp hq
theorem Sd.one(lt:Nat->Nat->Bool)(a:Nat)(xs:List Nat):Sd lt a (a+1) xs:=fun i j h1 h2 h3=>by omega
theorem Sd.zdI(ho:mK lt xs)(hb:b<=xs.length)(h:∀i,a<i->i<b->lt (gx xs i) (gx xs (i-1))=false):Sd lt a b xs:=by
 intro i j h1 h2 h3
 induction j with
 |zero=>omega
 |succ j ih=>
  have h4:=ho.not (i:=j+1) (j:=j) (by omega) (by omega) (by omega) (h (j+1) (by omega) h3);by_cases dc:i=j
  .rw[dc];exact h4
  exact ho.tr _ _ _ (ih (by omega) (by omega)) h4
def nW(lt:Nat->Nat->Bool)(a0 b0 a b:Nat)(xs:List Nat):Prop:=∀i j,a0<=i->i<j->j<b0->(i<a\/b<=j)->lt (gx xs i) (gx xs j)=true
theorem nW.rg(h:nW lt a0 b0 a b xs)(hr:Rg a b xs ys)(hn:xs.Nodup)(hb:b<=b0)(ha:a0<=a)(hl:b0<=xs.length):nW lt a0 b0 a b ys:=fun i j h1 h2 h3 h4=>by
 have key:∀k,a0<=k->k<b0->∃k',gx ys k=gx xs k'/\((a<=k/\k<b/\a<=k'/\k'<b)\/((k<a\/b<=k)/\k'=k)):=fun k dC dE=>by
  by_cases hk:a<=k/\k<b
  .obtain⟨k',h5,h6⟩:=hr.src hn (by omega) hk;exact⟨k',h6,.inl ⟨hk.1,hk.2,h5.1,h5.2⟩⟩
  exact⟨k,hr.out k (by omega),.inr ⟨by omega,rfl⟩⟩
 obtain⟨i',e1,c1⟩:=key i (by omega) (by omega);obtain⟨j',e2,c2⟩:=key j (by omega) h3;rw[e1,e2];rcases c1 with c1|c1<;>rcases c2 with c2|c2
 .omega
 rotate_left 2
 all_goals
  exact h i' j' (by omega) (by omega) (by omega) (by omega)
theorem nW.sd(h:nW lt a0 b0 a b xs)(hs:Sd lt a b xs):Sd lt a0 b0 xs:=fun i j h1 h2 h3=>by
 by_cases hc:i<a\/b<=j
 .exact h i j h1 h2 h3 hc
 exact hs i j (by omega) h2 (by omega)
theorem nW.full(lt:Nat->Nat->Bool)(a b:Nat)(xs:List Nat):nW lt a b a b xs:=fun i j h1 h2 h3 h4=>by omega
theorem Sd.rg{c d:Nat}(h:Sd lt c d xs)(hr:Rg a b xs ys)(hd:d<=a\/b<=c):Sd lt c d ys:=fun i j h1 h2 h3=>by
 rw[hr.out i (by omega),hr.out j (by omega)];exact h i j h1 h2 h3
structure qR(lt:Nat->Nat->Bool)(a b m:Nat)(xs:List Nat):Prop where
 lo:∀i,a<=i->i<m->lt (gx xs i) (gx xs m)=true
 hi:∀i,m<i->i<b->lt (gx xs m) (gx xs i)=true
theorem nW.left(ho:mK lt xs)(h:nW lt a0 b0 a b xs)(hp:qR lt a b m xs)(hm:a<=m/\m<b)(hs:Sd lt a m xs):nW lt a0 b0 (m+1) b xs:=fun i j h1 h2 h3 h4=>by
 by_cases hc:i<a\/b<=j
 .exact h i j h1 h2 h3 hc
 have hi:i<=m:=by omega
 by_cases C1:j<m
 .exact hs i j (by omega) h2 C1
 by_cases zbm:j=m
 .subst zbm;exact hp.lo i (by omega) h2
 have h5:=hp.hi j (by omega) (by omega);by_cases sC:i=m
 .rw[sC];exact h5
 exact ho.tr _ _ _ (hp.lo i (by omega) (by omega)) h5
theorem nW.right(ho:mK lt xs)(h:nW lt a0 b0 a b xs)(hp:qR lt a b m xs)(hm:a<=m/\m<b)(hs:Sd lt (m+1) b xs):nW lt a0 b0 a m xs:=fun i j h1 h2 h3 h4=>by
 by_cases hc:i<a\/b<=j
 .exact h i j h1 h2 h3 hc
 have hj:m<=j:=by omega
 by_cases sC:m<i
 .exact hs i j (by omega) h2 (by omega)
 by_cases zbi:i=m
 .subst zbi;exact hp.hi j h2 (by omega)
 have h5:=hp.lo i (by omega) (by omega);by_cases C1:j=m
 .rw[C1];exact h5
 exact ho.tr _ _ _ h5 (hp.hi j (by omega) (by omega))
theorem qR.rgL(h:qR lt a b m xs)(hr:Rg a m xs ys)(hn:xs.Nodup)(hl:b<=xs.length)(hm:m<b):qR lt a b m ys:=
 ⟨fun i h1 h2=>by
  obtain⟨j,h3,h4⟩:=hr.src hn (by omega) ⟨h1,h2⟩;rw[h4,hr.out m (by omega)];exact h.lo j h3.1 h3.2,
  fun i h1 h2=>by rw[hr.out m (by omega),hr.out i (by omega)];exact h.hi i h1 h2⟩
theorem qR.rgR(h:qR lt a b m xs)(hr:Rg (m+1) b xs ys)(hn:xs.Nodup)(hl:b<=xs.length)(hm:a<=m):qR lt a b m ys:=
 ⟨fun i h1 h2=>by rw[hr.out m (by omega),hr.out i (by omega)];exact h.lo i h1 h2,
  fun i h1 h2=>by
   obtain⟨j,h3,h4⟩:=hr.src hn (by omega) ⟨by omega,h2⟩;rw[h4,hr.out m (by omega)];exact h.hi j (by omega) h3.2⟩
end
section
variable {xs D:List Nat}{cs:List Value}{i j a b sb:Nat}
def fX(cs:List Value)(xs:List Nat):Prop:=∀i,i<xs.length->cs[i]? =some (vp (gx xs i))
def GZ(fl:FuncId)(cl:List Value)(lt:Nat->Nat->Bool)(lb:Nat)(T:TypeId)(M:Mem)(x0:List Nat):Prop:=
 ∀(xs:List Nat) (cs:List Value) (i j:Nat) (w:World),xs.Perm x0->fX cs xs->i<xs.length->j<xs.length->M.Le (Wm w)->a_ w lb T cs->az prog fl ([.int .i64 ((i:Nat):Int),.int .i64 ((j:Nat):Int)]++cl) w fun r w'=>r= .bool (lt (gx xs i) (gx xs j))/\Fr [] w w'
def LZ(fs:FuncId)(cs':List Value)(lb:Nat)(T:TypeId)(x0:List Nat):Prop:=
 ∀(xs:List Nat) (cs:List Value) (i j:Nat) (w:World),xs.Perm x0->fX cs xs->i<xs.length->j<xs.length->a_ w lb T cs->az prog fs ([.int .i64 ((i:Nat):Int),.int .i64 ((j:Nat):Int)]++cs') w fun r w'=>r= .tuple #[]/\∃ph,fX ph (gY xs i j)/\Fr [lb] w w'/\a_ w' lb T ph
structure l9 where
 fl:FuncId
 cl:Array Value
 fs:FuncId
 sc:Array Value
 lt:Nat->Nat->Bool
 lb:Nat
 T:TypeId
 M:Mem
 x0:List Nat
@[reducible]def l9.lf(S:l9):Value:= .func (.func S.fl) #[] S.cl
@[reducible]def l9.sf(S:l9):Value:= .func (.func S.fs) #[] S.sc
@[reducible]def l9.d(S:l9):Value:= .agg #[S.lf,S.sf]
structure l9.OK(S:l9):Prop where
 less:GZ S.fl S.cl.toList S.lt S.lb S.T S.M S.x0
 swap:LZ S.fs S.sc.toList S.lb S.T S.x0
 lt:mK S.lt S.x0
 len:S.x0.length<=23
section
variable {u:World}{M0:Mem}{D:List Nat}{L L':List aB}{w:World}{S:l9}
theorem oY{G:Value->World->Prop}(hS:S.OK)(h:SH u M0 D S.M L w)(b:Bool)(hb:S.lt (gx xs i) (gx xs j)=b)(hp:xs.Perm S.x0)(ha:fX cs xs)(hi:i<xs.length)(hj:j<xs.length)(k:∀w',SH u M0 D S.M L w'->G (.bool b) w')
 (dW:Pk L (.ah S.lb S.T cs) L':=by repeat(first|exact Pk.here|apply Pk.there)):az prog S.fl ([.int .i64 ((i:Nat):Int),.int .i64 ((j:Nat):Int)]++S.cl.toList) w G:=
 (hS.less xs cs i j w hp ha hi hj h.le (h.fK dW)).mono fun r w' ⟨h1,h2⟩=>by rw[h1,hb];exact k w' (h.lu h2)
theorem xM{G:Value->World->Prop}(hS:S.OK)(h:SH u M0 D S.M L w)(hp:xs.Perm S.x0)(ha:fX cs xs)(hi:i<xs.length)(hj:j<xs.length)
 (k:∀ph w',fX ph (gY xs i j)->SH u M0 D S.M (.ah S.lb S.T ph::L') w'->G (.tuple #[]) w') (dW:Pk L (.ah S.lb S.T cs) L':=by repeat(first|exact Pk.here|apply Pk.there)):az prog S.fs ([.int .i64 ((i:Nat):Int),.int .i64 ((j:Nat):Int)]++S.sc.toList) w G:=
 (hS.swap xs cs i j w hp ha hi hj (h.fK dW)).mono fun r w' ⟨h1,ph,h2,h3,h4⟩=>by rw[h1];exact k ph w' h2 ((h.pk dW).rS .here h3 h4)
end
def s_(S:l9)(w0:World)(R:Value->List Nat->Prop)(r:Value)(w':World):Prop:=∃M' A',(∃ys cs',R r ys/\fX cs' ys/\M'=S.M/\A'=[.ah S.lb S.T cs'])/\SH w0 S.M [S.lb] M' A' w'
theorem s_.of{S:l9}{w0:World}{R:Value->List Nat->Prop}{r:Value}{w':World}{ys:List Nat}{cs':List Value}(hr:R r ys)(ha:fX cs' ys)(h:SH w0 S.M [S.lb] S.M [.ah S.lb S.T cs'] w'):s_ S w0 R r w':=⟨_,_,⟨ys,cs',hr,ha,rfl,rfl⟩,h⟩
section
variable {w0:World}{S:l9}{xs:List Nat}{cs:List Value}
theorem Qt(hS:S.OK)(hp:xs.Perm S.x0)(ha:fX cs xs)(d8:a<b)(hb:b<=xs.length)(h:SH w0 S.M [S.lb] S.M [.ah S.lb S.T cs] w0):
 az prog 166 [S.d,.int .i64 (a:Int),.int .i64 (b:Int)] w0 (s_ S w0 fun r ys=>r= .tuple #[]/\Rg a b xs ys/\Sd S.lt a b ys):=by
 have nL:xs.length<=23:=by rw[hp.length_eq];exact hS.len
 refine aL mixed func166 Hp ?_;refine au (cs:=[S.lf,S.sf]) h ?_;clear h;intro b3 w h;refine aA (((a+1:Nat):Int)) ?_;refine bN (X:=Nat×List Nat×List Value) (fun y=>[(1,.int .i64 (a:Int)),(2,.int .i64 (b:Int)),(3,.pointer (some ⟨b3,0,none⟩)),(6,.int .i64 (y.1:Int))])
  (fun y w=>a<y.1/\y.1<=b/\Rg a b xs y.2.1/\Sd S.lt a y.1 y.2.1/\fX y.2.2 y.2.1/\SH w0 S.M [S.lb] S.M [.ah b3 278 [S.lf,S.sf],.ah S.lb S.T y.2.2] w) (fun y=>b-y.1) (a+1,xs,cs) ⟨rfl,rfl,rfl,rfl,tV⟩ ⟨qam _,d8,.refl _ _ _,.one _ _ _,ha,h⟩ ?_
 clear h;rintro⟨i,ys,ds⟩ aK w N ⟨yy,qq,hr,hs,eL,h⟩ hN;simp only at yy qq hr hs eL h;refine aI (fun aG=> ?_) (fun aY=> ?_);rotate_left 1
 .simp only at aY;obtain rfl:i=b:=by omega
  exact⟨_,_,⟨ys,ds,⟨rfl,hr,hs⟩,eL,rfl,rfl⟩,h.aF⟩
 simp only at aG;have eB:i<b:=by omega
 have pK:=hr.len;refine bN (X:=Nat×List Nat×List Value) (fun y=>[(1,.int .i64 (a:Int)),(2,.int .i64 (b:Int)),(3,.pointer (some ⟨b3,0,none⟩)),(6,.int .i64 (i:Int)),(7,.int .i64 (y.1:Int))])
  (fun y w=>a<=y.1/\y.1<=i/\Rg a b xs y.2.1/\wm S.lt a i y.1 y.2.1/\fX y.2.2 y.2.1/\SH w0 S.M [S.lb] S.M [.ah b3 278 [S.lf,S.sf],.ah S.lb S.T y.2.2] w) (fun y=>y.1) (i,ys,ds) ⟨rfl,rfl,rfl,rfl,rfl,tV⟩ ⟨by simp only;omega,qad _,hr,.start hs,eL,h⟩ ?_
 clear h hr hs eL;rintro⟨j,zs,es⟩ aK w N2 ⟨gE,pC,hr,hs,eL,h⟩ d7;simp only at gE pC hr hs eL h;have kq:=hr.len;have qz:=hr.perm.trans hp;have ho:=hS.lt.perm qz;have fin:∀{w:World},(j=a\/S.lt (gx zs j) (gx zs (j-1))=false)->SH w0 S.M [S.lb] S.M [.ah b3 278 [S.lf,S.sf],.ah S.lb S.T es] w->a<i+1/\i+1<=b/\Rg a b xs zs/\Sd S.lt a (i+1) zs/\fX es zs/\SH w0 S.M [S.lb] S.M [.ah b3 278 [S.lf,S.sf],.ah S.lb S.T es] w:=
  fun hd h=>⟨by omega,eB,hr,hs.done ho gE pC (by omega) hd,eL,h⟩
 refine aI (fun mj=> ?_) (fun hle=> ?_);rotate_left 1
 .simp only at hle;refine aA ((i+1:Nat):Int) ?_ (hy:=rfl);exact hN (i+1,zs,es) _ _ ⟨rfl,rfl,rfl,rfl,tV⟩ (fin (.inl (by omega)) h) (by simp only;omega)
 simp only at mj;have C0:a<j:=by omega
 refine ak h ?_;refine aA ((j-1:Nat):Int) ?_ (hy:=by show((j:Nat):Int)-1=_;omega);cases gt:S.lt (gx zs j) (gx zs (j-1))with
 |false=>
  refine oY hS h false gt qz eL (by omega) (by omega) ?_;clear h;intro w h;refine aA ((i+1:Nat):Int) ?_ (hy:=rfl);exact hN (i+1,zs,es) _ _ ⟨rfl,rfl,rfl,rfl,tV⟩ (fin (.inr gt) h) (by simp only;omega)
 |true=>
  refine oY hS h true gt qz eL (by omega) (by omega) ?_;clear h;intro w h;refine ak h ?_;refine aA ((j-1:Nat):Int) ?_ (hy:=by show((j:Nat):Int)-1=_;omega);refine xM hS h qz eL (by omega) (by omega) ?_;clear h;intro bP w tI h;refine aA ((j-1:Nat):Int) ?_ (hy:=by show((j:Nat):Int)-1=_;omega);exact d7 (j-1,_,bP) _ _ ⟨rfl,rfl,rfl,rfl,rfl,tV⟩ ⟨by simp only;omega,by simp only;omega,hr.trans (.gY ⟨by omega,by omega⟩ ⟨by omega,by omega⟩ (by omega)),hs.step C0 pC (by omega) gt,tI,h.aF⟩ (by simp only;omega)
theorem K1(hS:S.OK){s:Int}(hp:xs.Perm S.x0)(ha:fX cs xs)(C7:a<xs.length)(C8:b<xs.length)(hs:0<=s/\s<=100)(h:SH w0 S.M D S.M [.ah sb 3 [.int .i64 s],.ah S.lb S.T cs] w0):
 az prog 230 [S.d,.int .i64 (a:Int),.int .i64 (b:Int),vp sb] w0 fun r w'=>∃M' A',(∃(x y:Nat) (s':Int),r= .tuple #[.int .i64 (x:Int),.int .i64 (y:Int)]/\(s<=s'/\s'<=s+1)/\((x=a/\y=b/\S.lt (gx xs b) (gx xs a)=false)\/(x=b/\y=a/\S.lt (gx xs b) (gx xs a)=true))/\M'=S.M/\A'=[.ah sb 3 [.int .i64 s'],.ah S.lb S.T cs])/\SH w0 S.M D M' A' w':=by
 refine aL mixed func230 VP ?_;refine au (cs:=[S.lf,S.sf]) h ?_;clear h;intro b4 w h;refine ak h ?_;cases aG:S.lt (gx xs b) (gx xs a)with
 |true=>
  refine oY hS h true aG hp ha C8 C7 ?_;clear h;intro w h;refine ak h ?_;refine aA ((s+1)) ?_;refine eQ h ?_;clear h;intro w h;exact⟨S.M,_,⟨b,a,s+1,rfl,by omega,.inr ⟨rfl,rfl,rfl⟩,rfl,rfl⟩,h.aF⟩
 |false=>
  refine oY hS h false aG hp ha C8 C7 ?_;clear h;intro w h;exact⟨S.M,_,⟨a,b,s,rfl,by omega,.inl ⟨rfl,rfl,rfl⟩,rfl,rfl⟩,h.aF⟩
theorem zc1(hS:S.OK){c:Nat}(hp:xs.Perm S.x0)(ha:fX cs xs)(C7:a<xs.length)(C8:b<xs.length)(IM:c<xs.length)(d8:a≠b)(E9:a≠c)(hbc:b≠c)(h:SH w0 S.M D S.M [.ah sb 3 [.int .i64 0],.ah S.lb S.T cs] w0):
 az prog 208 [S.d,.int .i64 (a:Int),.int .i64 (b:Int),.int .i64 (c:Int),vp sb] w0 fun r w'=>∃M' A',(∃(m:Nat) (s':Int),r= .int .i64 (m:Int)/\(0<=s'/\s'<=3)/\(m=a\/m=b\/m=c)/\(∃x,(x=a\/x=b\/x=c)/\S.lt (gx xs x) (gx xs m)=true)/\(∃x,(x=a\/x=b\/x=c)/\S.lt (gx xs m) (gx xs x)=true)/\M'=S.M/\A'=[.ah sb 3 [.int .i64 s'],.ah S.lb S.T cs])/\SH w0 S.M D M' A' w':=by
 have ho:=hS.lt.perm hp;have ord:∀{x y a b:Nat},a<xs.length->b<xs.length->a≠b->((x=a/\y=b/\S.lt (gx xs b) (gx xs a)=false)\/(x=b/\y=a/\S.lt (gx xs b) (gx xs a)=true))->S.lt (gx xs x) (gx xs y)=true/\((x=a/\y=b)\/(x=b/\y=a)):=fun h1 h2 h3 h4=>by
  rcases h4 with⟨rfl,rfl,h5⟩|⟨rfl,rfl,h5⟩
  .exact⟨ho.not h2 h1 (Ne.symm h3) h5,.inl ⟨rfl,rfl⟩⟩
  exact⟨h5,.inr ⟨rfl,rfl⟩⟩
 refine aL mixed func208 c208 ?_;refine au (cs:=[S.lf,S.sf]) h ?_;clear h;intro b5 w h;refine bj h ?_;refine du [.ah sb 3 [.int .i64 0],.ah S.lb S.T cs] [.ah b5 278 [S.lf,S.sf]] h.aF (K1 hS (s:=0) hp ha C7 C8 (by omega)) ?_;clear h;rintro _ _ _ w ⟨a1,b1,s1,rfl,fH,oL,rfl,rfl⟩ _ _ h;obtain⟨l1,m1⟩:=ord C7 C8 d8 oL;have q1:a1<xs.length/\b1<xs.length/\b1≠c/\a1≠c:=by rcases m1 with⟨rfl,rfl⟩|⟨rfl,rfl⟩<;>exact⟨by assumption,by assumption,by assumption,by assumption⟩
 refine bj h ?_;refine du [.ah sb 3 [.int .i64 s1],.ah S.lb S.T cs] [.ah b5 278 [S.lf,S.sf]] h.aF (K1 hS (s:=s1) hp ha q1.2.1 IM (by omega)) ?_;clear h;rintro _ _ _ w ⟨b2,c2,s2,rfl,pH,jX,rfl,rfl⟩ _ _ h;obtain⟨l2,m2⟩:=ord q1.2.1 IM q1.2.2.1 jX;have zat:a1≠b1:=fun h=>by rw[h,ho.ir]at l1;cases l1
 have q2:b2<xs.length/\a1≠b2/\S.lt (gx xs a1) (gx xs c2)=true:=by
  rcases m2 with⟨rfl,rfl⟩|⟨rfl,rfl⟩
  .exact⟨q1.2.1,zat,ho.tr _ _ _ l1 l2⟩
  exact⟨IM,q1.2.2.2,l1⟩
 refine bj h ?_;refine du [.ah sb 3 [.int .i64 s2],.ah S.lb S.T cs] [.ah b5 278 [S.lf,S.sf]] h.aF (K1 hS (s:=s2) hp ha q1.1 q2.1 (by omega)) ?_;clear h;rintro _ _ _ w ⟨a3,b3,s3,rfl,dt,hx3,rfl,rfl⟩ _ _ h;obtain⟨l3,m3⟩:=ord q1.1 q2.1 q2.2.1 hx3;have e1:a1=a\/a1=b:=by rcases m1 with⟨h,_⟩|⟨h,_⟩;exact .inl h;exact .inr h
 have MV:b1=a\/b1=b:=by rcases m1 with⟨_,h⟩|⟨_,h⟩;exact .inr h;exact .inl h
 have e2:b2=a\/b2=b\/b2=c:=by rcases m2 with⟨h,_⟩|⟨h,_⟩<;>rw[h];exact MV.imp_right .inl;exact .inr (.inr rfl)
 have XJ:c2=a\/c2=b\/c2=c:=by rcases m2 with⟨_,h⟩|⟨_,h⟩<;>rw[h];exact .inr (.inr rfl);exact MV.imp_right .inl
 have MU:a1=a\/a1=b\/a1=c:=e1.imp_right .inl;refine⟨S.M,_,⟨b3,s3,rfl,by omega,?_,⟨a3,?_,l3⟩,⟨c2,XJ,?_⟩,rfl,rfl⟩,h.aF⟩
 .rcases m3 with⟨_,h⟩|⟨_,h⟩<;>rw[h];exact e2;exact MU
 .rcases m3 with⟨h,_⟩|⟨h,_⟩<;>rw[h];exact MU;exact e2
 rcases m3 with⟨_,h⟩|⟨_,h⟩<;>rw[h];exact l2;exact q2.2.2
theorem zd5(hS:S.OK)(hp:xs.Perm S.x0)(ha:fX cs xs)(d8:a+8<=b)(hb:b<=xs.length)(h:SH w0 S.M [S.lb] S.M [.ah S.lb S.T cs] w0):
 az prog 169 [S.d,.int .i64 (a:Int),.int .i64 (b:Int)] w0 (s_ S w0 fun r ys=>∃(m:Nat) (hint:Int),r= .tuple #[.int .i64 (m:Int),.int .i64 hint]/\ys=xs/\(hint=0\/hint=1)/\(a<=m/\m<b)/\(∃x,(a<=x/\x<b)/\S.lt (gx xs x) (gx xs m)=true)/\∃x,(a<=x/\x<b)/\S.lt (gx xs m) (gx xs x)=true):=by
 have nL:xs.length<=23:=by rw[hp.length_eq];exact hS.len
 obtain⟨l,hl⟩:∃l,b=a+l:=⟨b-a,by omega⟩;have hq:Int.tdiv (l:Int) 4=((l/4:Nat):Int):=by rw[Int.tdiv_eq_ediv_of_nonneg (by omega)];rfl
 refine aL mixed func169 Vv ?_;refine au (cs:=[S.lf,S.sf]) h ?_;clear h;intro b3 w h;refine aA (((l:Nat):Int)) ?_;refine au h ?_;clear h;intro b9 w h;refine aI (by decide) ?_;refine aA ((l/4:Nat):Int) ?_ (hy:=hq);refine aA (((l/4*1:Nat):Int)) ?_;refine aA (((a+l/4*1:Nat):Int)) ?_;refine aI (by decide) ?_;refine aA ((l/4:Nat):Int) ?_ (hy:=hq);refine aA (((l/4*2:Nat):Int)) ?_;refine aA (((a+l/4*2:Nat):Int)) ?_;refine aI (by decide) ?_;refine aA ((l/4:Nat):Int) ?_ (hy:=hq);refine aA (((l/4*3:Nat):Int)) ?_;refine aA (((a+l/4*3:Nat):Int)) ?_;refine aI (fun _=> ?_) (fun hx=>by omega);refine aI (fun hx=>by omega) (fun _=> ?_);refine bj h ?_;have Az:2<=l/4/\l/4*4<=l:=by omega
 refine du [.ah b9 3 [.int .i64 0],.ah S.lb S.T cs] [.ah b3 278 [S.lf,S.sf]] h.aF (zc1 hS (a:=a+l/4*1) (b:=a+l/4*2) (c:=a+l/4*3) hp ha (by omega) (by omega) (by omega) (by omega) (by omega) (by omega)) ?_;clear h;rintro _ _ _ w ⟨m,s,rfl,hs,hm,⟨x,hx,lx⟩,⟨y,hy,ly⟩,rfl,rfl⟩ _ _ h;refine ak h ?_;have fin:(a<=m/\m<b)/\(∃x,(a<=x/\x<b)/\S.lt (gx xs x) (gx xs m)=true)/\∃x,(a<=x/\x<b)/\S.lt (gx xs m) (gx xs x)=true:=⟨by omega,⟨x,by omega,lx⟩,⟨y,by omega,ly⟩⟩;refine aI (fun _=> ?_) (fun _=> ?_)
 .exact⟨_,_,⟨xs,cs,⟨m,1,rfl,rfl,.inr rfl,fin⟩,ha,rfl,rfl⟩,h.aF⟩
 refine aI (fun hx=>by omega) (fun _=> ?_);exact⟨_,_,⟨xs,cs,⟨m,0,rfl,rfl,.inl rfl,fin⟩,ha,rfl,rfl⟩,h.aF⟩
end
end
section
variable {a b p i j:Nat}{lt:Nat->Nat->Bool}{ys:List Nat}
section
variable {w0:World}{S:l9}{xs:List Nat}{cs:List Value}
theorem zdY(hS:S.OK)(hp:xs.Perm S.x0)(ha:fX cs xs)(d8:a<b)(hb:b<=xs.length)(h:SH w0 S.M [S.lb] S.M [.ah S.lb S.T cs] w0):
 az prog 171 [S.d,.int .i64 (a:Int),.int .i64 (b:Int)] w0 (s_ S w0 fun r ys=>ys=xs/\((r= .bool true/\Sd S.lt a b xs)\/r= .bool false)):=by
 have nL:xs.length<=23:=by rw[hp.length_eq];exact hS.len
 have ho:=hS.lt.perm hp;refine aL mixed func171 Vx ?_;refine au (cs:=[S.lf,S.sf]) h ?_;clear h;intro b3 w h;refine aA (((a+1:Nat):Int)) ?_;refine bN (X:=Unit) (fun _=>[(1,.int .i64 (a:Int)),(2,.int .i64 (b:Int)),(3,.pointer (some ⟨b3,0,none⟩)),(6,.bool false),(7,.int .i64 ((a+1:Nat):Int)),(8,.int .i64 0)])
  (fun _ w=>SH w0 S.M [S.lb] S.M [.ah b3 278 [S.lf,S.sf],.ah S.lb S.T cs] w) (fun _=>0) () ⟨rfl,rfl,rfl,rfl,rfl,rfl,tV⟩ h ?_
 clear h;rintro _ aK w N h hN;refine aI (fun _=> ?_) (fun hx=>absurd hx (by decide));refine bN (X:=Nat) (fun i=>[(1,.int .i64 (a:Int)),(2,.int .i64 (b:Int)),(3,.pointer (some ⟨b3,0,none⟩)),(6,.bool false),(7,.int .i64 (i:Int)),(8,.int .i64 0)])
  (fun i w=>a<i/\i<=b/\(∀q,a<q->q<i->S.lt (gx xs q) (gx xs (q-1))=false)/\SH w0 S.M [S.lb] S.M [.ah b3 278 [S.lf,S.sf],.ah S.lb S.T cs] w) (fun i=>b-i) (a+1) ⟨rfl,rfl,rfl,rfl,rfl,rfl,tV⟩ ⟨by omega,d8,fun q h1 h2=>by omega,h⟩ ?_
 clear h;rintro i aK w N2 ⟨yy,qq,Of,h⟩ d7;refine aI (fun aG=> ?_) (fun aY=> ?_);rotate_left 1
 .obtain rfl:i=b:=by omega
  refine aI (fun _=> ?_) (fun hx=>absurd rfl hx);exact⟨_,_,⟨xs,cs,⟨rfl,.inl ⟨rfl,.zdI ho hb fun q h1 h2=>Of q h1 h2⟩⟩,ha,rfl,rfl⟩,h.aF⟩
 refine ak h ?_;refine aA ((i-1:Nat):Int) ?_ (hy:=by show((i:Nat):Int)-1=_;omega);cases gt:S.lt (gx xs i) (gx xs (i-1))with
 |false=>
  refine oY hS h false gt hp ha (by omega) (by omega) ?_;clear h;intro w h;refine aA ((i+1:Nat):Int) ?_ (hy:=rfl);exact d7 (i+1) _ _ ⟨rfl,rfl,rfl,rfl,rfl,rfl,tV⟩ ⟨by omega,by omega,fun q h1 h2=>if hq:q=i then by rw[hq];exact gt else Of q h1 (by omega),h⟩ (by first|omega|(simp only;omega))
 |true=>
  refine oY hS h true gt hp ha (by omega) (by omega) ?_;clear h;intro w h;refine aI (fun hx=>by omega) (fun _=> ?_);refine aA ((b-a:Nat):Int) ?_ (hy:=by show((b:Nat):Int)-((a:Nat):Int)=_;omega);refine aI (fun _=> ?_) (fun hx=>by omega);exact⟨_,_,⟨xs,cs,⟨rfl,.inr rfl⟩,ha,rfl,rfl⟩,h.aF⟩
structure j8(lt:Nat->Nat->Bool)(a b p i j:Nat)(ys:List Nat):Prop where
 a1:a<i
 ij:i<=j+1
 jb:j<b
 pv:gx ys a=p
 lo:∀q,a<q->q<i->lt (gx ys q) p=true
 hi:∀q,j<q->q<b->lt p (gx ys q)=true
theorem j8.Ni(h:j8 lt a b p i j ys)(hb:b<=ys.length)(dc:i<j)(h1:lt (gx ys j) p=true)(h2:lt p (gx ys i)=true):j8 lt a b p (i+1) (j-1) (gY ys i j):=by
 have g:∀k,gx (gY ys i j) k=if k=j then gx ys i else if k=i then gx ys j else gx ys k:=fun k=>BI (by have:=h.jb;omega) (by have:=h.jb;omega);have a1:=h.a1;have jb:=h.jb;refine⟨by omega,by omega,by omega,?_,fun q q1 q2=> ?_,fun q q1 q2=> ?_⟩
 .rw[g,if_neg (by omega),if_neg (by omega)];exact h.pv
 .rw[g,if_neg (by omega)];by_cases hq:q=i
  .rw[if_pos hq];exact h1
  rw[if_neg hq];exact h.lo q q1 (by omega)
 rw[g];by_cases hq:q=j
 .rw[if_pos hq];exact h2
 rw[if_neg hq,if_neg (by omega)];exact h.hi q (by omega) q2
theorem j8.fin(h:j8 lt a b p i j ys)(hb:b<=ys.length)(dc:j<i):qR lt a b j (gY ys j a)/\gx (gY ys j a) j=p/\a<=j:=by
 have a1:=h.a1;have ij:=h.ij;have jb:=h.jb;have g:∀k,gx (gY ys j a) k=if k=a then gx ys j else if k=j then gx ys a else gx ys k:=fun k=>BI (by omega) (by omega);have hj:gx (gY ys j a) j=p:=by
  rw[g];by_cases C0:j=a
  .rw[if_pos C0,C0];exact h.pv
  rw[if_neg C0,if_pos rfl];exact h.pv
 refine⟨⟨fun q q1 q2=> ?_,fun q q1 q2=> ?_⟩,hj,by omega⟩
 .rw[hj,g];by_cases hq:q=a
  .rw[if_pos hq];exact h.lo j (by omega) (by omega)
  rw[if_neg hq,if_neg (by omega)];exact h.lo q (by omega) (by omega)
 rw[hj,g,if_neg (by omega),if_neg (by omega)];exact h.hi q (by omega) q2
theorem j8.up(h:j8 lt a b p i j ys)(dc:i<=j)(h1:lt (gx ys i) p=true):j8 lt a b p (i+1) j ys:=
 ⟨by have:=h.a1;omega,by omega,h.jb,h.pv,fun q q1 q2=>if hq:q=i then by rw[hq];exact h1 else h.lo q q1 (by omega),h.hi⟩
theorem j8.down(h:j8 lt a b p i j ys)(dc:i<=j)(h1:lt p (gx ys j)=true):j8 lt a b p i (j-1) ys:=
 ⟨h.a1,by have:=h.a1;omega,by have:=h.jb;omega,h.pv,h.lo,fun q q1 q2=>if hq:q=j then by rw[hq];exact h1 else h.hi q (by omega) q2⟩
theorem zdZ(hS:S.OK){c:Nat}(hp:xs.Perm S.x0)(ha:fX cs xs)(hc:a<=c/\c<b)(hb:b<=xs.length)(h:SH w0 S.M [S.lb] S.M [.ah S.lb S.T cs] w0):
 az prog 173 [S.d,.int .i64 (a:Int),.int .i64 (b:Int),.int .i64 (c:Int)] w0 (s_ S w0 fun r ys=>∃(m:Nat) (d:Bool),r= .tuple #[.int .i64 (m:Int),.bool d]/\Rg a b xs ys/\qR S.lt a b m ys/\gx ys m=gx xs c/\a<=m/\m<b):=by
 have nL:xs.length<=23:=by rw[hp.length_eq];exact hS.len
 refine aL mixed func173 Vy ?_;refine au (cs:=[S.lf,S.sf]) h ?_;clear h;intro b4 w h;refine ak h ?_;refine xM hS h hp ha (i:=a) (j:=c) (by omega) (by omega) ?_;clear h;intro ds w wM h;have hr:Rg a b xs (gY xs a c):= .gY ⟨by omega,by omega⟩ hc hb;have hg:gx (gY xs a c) a=gx xs c:=by
  rw[BI (by omega) (by omega)];by_cases E9:a=c
  .rw[if_pos E9,E9]
  rw[if_neg E9,if_pos rfl]
 obtain⟨ys,mB⟩:∃x,x=gY xs a c:=⟨_,rfl⟩;rw[<-mB]at hr hg wM;clear mB;replace h:=h.aF (L':=[.ah b4 278 [S.lf,S.sf],.ah S.lb S.T ds]);have pK:=hr.len;have oD:=hr.perm.trans hp;have ho:=hS.lt.perm oD;refine aA (((a+1:Nat):Int)) ?_;refine aA ((b-1:Nat):Int) ?_ (hy:=by show((b:Nat):Int)-1=_;omega);have hs:j8 S.lt a b (gx xs c) (a+1) (b-1) ys:=⟨by omega,by omega,by omega,hg,fun q h1 h2=>by omega,fun q h1 h2=>by omega⟩;refine fB (X:=Nat) (Y:=Nat) 0 (fun i=>[(1,.int .i64 (a:Int)),(4,.pointer (some ⟨b4,0,none⟩)),(10,.int .i64 (i:Int)),(11,.int .i64 (((b-1):Nat):Int))])
  (fun i w=>j8 S.lt a b (gx xs c) i (b-1) ys/\SH w0 S.M [S.lb] S.M [.ah b4 278 [S.lf,S.sf],.ah S.lb S.T ds] w) (fun i=>(b-1)+1-i)
  (fun i=>[(1,.int .i64 (a:Int)),(4,.pointer (some ⟨b4,0,none⟩)),(10,.int .i64 (i:Int)),(11,.int .i64 (((b-1):Nat):Int))])
  (fun i w=>j8 S.lt a b (gx xs c) i (b-1) ys/\(i<=(b-1)->S.lt (gx xs c) (gx ys i)=true)/\SH w0 S.M [S.lb] S.M [.ah b4 278 [S.lf,S.sf],.ah S.lb S.T ds] w) (a+1) ⟨rfl,rfl,rfl,rfl,tV⟩ ⟨hs,h⟩ ?_ ?_
 .clear h hs;rintro i aK w N Z ⟨hs,h⟩ hN hZ;have a1:=hs.a1;have ij:=hs.ij;have jb:=hs.jb;have pv:=hs.pv;refine aI (fun hle=> ?_) (fun mj=> ?_);rotate_left 1
  .exact hZ i _ _ ⟨rfl,rfl,rfl,rfl,tV⟩ ⟨hs,fun h=>by omega,h⟩
  have dc:i<=(b-1):=by omega
  refine ak h ?_;cases gt:S.lt (gx ys i) (gx ys a)with
  |true=>
   refine oY hS h true gt oD wM (by omega) (by omega) ?_;clear h;intro w h;refine aA ((i+1:Nat):Int) ?_ (hy:=rfl);exact hN (i+1) _ _ ⟨rfl,rfl,rfl,rfl,tV⟩ ⟨hs.up dc (pv▸gt),h⟩ (by first|omega|(simp only;omega))
  |false=>
   refine oY hS h false gt oD wM (by omega) (by omega) ?_;clear h;intro w h;exact hZ i _ _ ⟨rfl,rfl,rfl,rfl,tV⟩ ⟨hs,fun _=>pv▸ho.not (by omega) (by omega) (by omega) gt,h⟩
 clear h hs;rintro i aK w ⟨hs,hx,h⟩;have iR:i<=b-1->S.lt (gx xs c) (gx ys i)=true:=hx;refine fB (X:=Nat) (Y:=Nat) 2 (fun j=>[(1,.int .i64 (a:Int)),(4,.pointer (some ⟨b4,0,none⟩)),(10,.int .i64 (i:Int)),(11,.int .i64 (j:Int))])
  (fun j w=>j8 S.lt a b (gx xs c) i j ys/\j<=(b-1)/\(i<=j->S.lt (gx xs c) (gx ys i)=true)/\SH w0 S.M [S.lb] S.M [.ah b4 278 [S.lf,S.sf],.ah S.lb S.T ds] w) (fun j=>j)
  (fun j=>[(1,.int .i64 (a:Int)),(4,.pointer (some ⟨b4,0,none⟩)),(10,.int .i64 (i:Int)),(11,.int .i64 (j:Int))])
  (fun j w=>j8 S.lt a b (gx xs c) i j ys/\j<=(b-1)/\(i<=j->S.lt (gx xs c) (gx ys i)=true)/\(i<=j->S.lt (gx ys j) (gx xs c)=true)/\SH w0 S.M [S.lb] S.M [.ah b4 278 [S.lf,S.sf],.ah S.lb S.T ds] w) (b-1) ⟨rfl,rfl,rfl,rfl,tV⟩ ⟨hs,qad _,hx,h⟩ ?_ ?_
 .clear h hs hx;rintro j aK w N Z ⟨hs,yK,hx,h⟩ hN hZ;have a1:=hs.a1;have ij:=hs.ij;have jb:=hs.jb;have pv:=hs.pv;refine aI (fun hle=> ?_) (fun mj=> ?_);rotate_left 1
  .exact hZ j _ _ ⟨rfl,rfl,rfl,rfl,tV⟩ ⟨hs,yK,hx,fun h=>by omega,h⟩
  have dc:i<=j:=by omega
  refine ak h ?_;cases gt:S.lt (gx ys j) (gx ys a)with
  |false=>
   refine oY hS h false gt oD wM (by omega) (by omega) ?_;clear h;intro w h;refine aA ((j-1:Nat):Int) ?_ (hy:=by show((j:Nat):Int)-1=_;omega);exact hN (j-1) _ _ ⟨rfl,rfl,rfl,rfl,tV⟩ ⟨hs.down dc (pv▸ho.not (by omega) (by omega) (by omega) gt),by omega,fun h=>hx dc,h⟩ (by first|omega|(simp only;omega))
  |true=>
   refine oY hS h true gt oD wM (by omega) (by omega) ?_;clear h;intro w h;exact hZ j _ _ ⟨rfl,rfl,rfl,rfl,tV⟩ ⟨hs,yK,hx,fun _=>pv▸gt,h⟩
 clear h hs hx;rintro j aK w ⟨hs,yK,hx,hy,h⟩;have a1:=hs.a1;have ij:=hs.ij;have jb:=hs.jb;refine aI (fun mj=> ?_) (fun hle=> ?_)
 .have pC:j<i:=by omega
  refine ak h ?_;refine xM hS h oD wM (i:=j) (j:=a) (by omega) (by omega) ?_;clear h;intro es w ns h;obtain⟨f1,f2,f3⟩:=hs.fin (by omega) pC;exact⟨_,_,⟨_,es,⟨j,true,rfl,hr.trans (.gY ⟨f3,by omega⟩ ⟨by omega,by omega⟩ (by omega)),f1,f2,f3,by omega⟩,ns,rfl,rfl⟩,h.aF⟩
 have dc:i<=j:=by omega
 have aT:i≠j:=fun h0=>by
  have h1:=hx dc;have h2:=hy dc;rw[h0]at h1;rw[ho.asym h1]at h2;cases h2
 refine ak h ?_;refine xM hS h oD wM (i:=i) (j:=j) (by omega) (by omega) ?_;replace hs:=hs.Ni (by omega) (by omega) (hy dc) (hx dc);replace hr:Rg a b xs (gY ys i j):=hr.trans (.gY ⟨by omega,by omega⟩ ⟨by omega,by omega⟩ (by omega));clear h hx hy iR hg wM pK oD ho;intro es w ns h;replace h:=h.aF (L':=[.ah b4 278 [S.lf,S.sf],.ah S.lb S.T es]);refine aA ((i+1:Nat):Int) ?_ (hy:=rfl);refine aA ((j-1:Nat):Int) ?_ (hy:=by show((j:Nat):Int)-1=_;omega);refine fB (X:=Nat×Nat×List Nat×List Value) (Y:=Nat×Nat×List Nat×List Value) 4 (fun y=>[(1,.int .i64 (a:Int)),(4,.pointer (some ⟨b4,0,none⟩)),(10,.int .i64 (y.1:Int)),(11,.int .i64 (y.2.1:Int))])
  (fun y w=>j8 S.lt a b (gx xs c) y.1 y.2.1 y.2.2.1/\Rg a b xs y.2.2.1/\fX y.2.2.2 y.2.2.1/\SH w0 S.M [S.lb] S.M [.ah b4 278 [S.lf,S.sf],.ah S.lb S.T y.2.2.2] w) (fun y=>y.2.1)
  (fun y=>[(1,.int .i64 (a:Int)),(4,.pointer (some ⟨b4,0,none⟩)),(10,.int .i64 (y.1:Int)),(11,.int .i64 (y.2.1:Int))])
  (fun y w=>j8 S.lt a b (gx xs c) y.1 y.2.1 y.2.2.1/\y.2.1<y.1/\Rg a b xs y.2.2.1/\fX y.2.2.2 y.2.2.1/\SH w0 S.M [S.lb] S.M [.ah b4 278 [S.lf,S.sf],.ah S.lb S.T y.2.2.2] w) (i+1,j-1,_,es) ⟨rfl,rfl,rfl,rfl,tV⟩ ⟨hs,hr,ns,h⟩ ?_ ?_
 .clear h hs hr ns;rintro⟨i0,j0,zs,fs⟩ aK w N Z ⟨hs,hr,ns,h⟩ hN hZ;simp only at hs hr ns h;have kq:=hr.len;have qz:=hr.perm.trans hp;have ho:=hS.lt.perm qz;refine fB (X:=Nat) (Y:=Nat) 6 (fun i=>[(1,.int .i64 (a:Int)),(4,.pointer (some ⟨b4,0,none⟩)),(10,.int .i64 (i:Int)),(11,.int .i64 ((j0:Nat):Int))])
   (fun i w=>j8 S.lt a b (gx xs c) i j0 zs/\SH w0 S.M [S.lb] S.M [.ah b4 278 [S.lf,S.sf],.ah S.lb S.T fs] w) (fun i=>j0+1-i)
   (fun i=>[(1,.int .i64 (a:Int)),(4,.pointer (some ⟨b4,0,none⟩)),(10,.int .i64 (i:Int)),(11,.int .i64 ((j0:Nat):Int))])
   (fun i w=>j8 S.lt a b (gx xs c) i j0 zs/\(i<=j0->S.lt (gx xs c) (gx zs i)=true)/\SH w0 S.M [S.lb] S.M [.ah b4 278 [S.lf,S.sf],.ah S.lb S.T fs] w) i0 ⟨rfl,rfl,rfl,rfl,tV⟩ ⟨hs,h⟩ ?_ ?_
  .clear h hs;rintro i aK w N Z ⟨hs,h⟩ hN hZ;have a1:=hs.a1;have ij:=hs.ij;have jb:=hs.jb;have pv:=hs.pv;refine aI (fun hle=> ?_) (fun mj=> ?_);rotate_left 1
   .exact hZ i _ _ ⟨rfl,rfl,rfl,rfl,tV⟩ ⟨hs,fun h=>by omega,h⟩
   have dc:i<=j0:=by omega
   refine ak h ?_;cases gt:S.lt (gx zs i) (gx zs a)with
   |true=>
    refine oY hS h true gt qz ns (by omega) (by omega) ?_;clear h;intro w h;refine aA ((i+1:Nat):Int) ?_ (hy:=rfl);exact hN (i+1) _ _ ⟨rfl,rfl,rfl,rfl,tV⟩ ⟨hs.up dc (pv▸gt),h⟩ (by first|omega|(simp only;omega))
   |false=>
    refine oY hS h false gt qz ns (by omega) (by omega) ?_;clear h;intro w h;exact hZ i _ _ ⟨rfl,rfl,rfl,rfl,tV⟩ ⟨hs,fun _=>pv▸ho.not (by omega) (by omega) (by omega) gt,h⟩
  clear h hs;rintro i aK w ⟨hs,hx,h⟩;have zgl:i<=j0+1:=hs.ij;refine fB (X:=Nat) (Y:=Nat) 8 (fun j=>[(1,.int .i64 (a:Int)),(4,.pointer (some ⟨b4,0,none⟩)),(10,.int .i64 (i:Int)),(11,.int .i64 (j:Int))])
   (fun j w=>j8 S.lt a b (gx xs c) i j zs/\j<=j0/\(i<=j->S.lt (gx xs c) (gx zs i)=true)/\SH w0 S.M [S.lb] S.M [.ah b4 278 [S.lf,S.sf],.ah S.lb S.T fs] w) (fun j=>j)
   (fun j=>[(1,.int .i64 (a:Int)),(4,.pointer (some ⟨b4,0,none⟩)),(10,.int .i64 (i:Int)),(11,.int .i64 (j:Int))])
   (fun j w=>j8 S.lt a b (gx xs c) i j zs/\j<=j0/\(i<=j->S.lt (gx xs c) (gx zs i)=true)/\(i<=j->S.lt (gx zs j) (gx xs c)=true)/\SH w0 S.M [S.lb] S.M [.ah b4 278 [S.lf,S.sf],.ah S.lb S.T fs] w) j0 ⟨rfl,rfl,rfl,rfl,tV⟩ ⟨hs,qad _,hx,h⟩ ?_ ?_
  .clear h hs hx;rintro j aK w N Z ⟨hs,yK,hx,h⟩ hN hZ;have a1:=hs.a1;have ij:=hs.ij;have jb:=hs.jb;have pv:=hs.pv;refine aI (fun hle=> ?_) (fun mj=> ?_);rotate_left 1
   .exact hZ j _ _ ⟨rfl,rfl,rfl,rfl,tV⟩ ⟨hs,yK,hx,fun h=>by omega,h⟩
   have dc:i<=j:=by omega
   refine ak h ?_;cases gt:S.lt (gx zs j) (gx zs a)with
   |false=>
    refine oY hS h false gt qz ns (by omega) (by omega) ?_;clear h;intro w h;refine aA ((j-1:Nat):Int) ?_ (hy:=by show((j:Nat):Int)-1=_;omega);exact hN (j-1) _ _ ⟨rfl,rfl,rfl,rfl,tV⟩ ⟨hs.down dc (pv▸ho.not (by omega) (by omega) (by omega) gt),by omega,fun h=>hx dc,h⟩ (by first|omega|(simp only;omega))
   |true=>
    refine oY hS h true gt qz ns (by omega) (by omega) ?_;clear h;intro w h;exact hZ j _ _ ⟨rfl,rfl,rfl,rfl,tV⟩ ⟨hs,yK,hx,fun _=>pv▸gt,h⟩
  clear h hs hx;rintro j aK w ⟨hs,yK,hx,hy,h⟩;have a1:=hs.a1;have ij:=hs.ij;have jb:=hs.jb;refine aI (fun mj=> ?_) (fun hle=> ?_)
  .exact hZ (i,j,zs,fs) _ _ ⟨rfl,rfl,rfl,rfl,tV⟩ ⟨hs,by simp only;omega,hr,ns,h⟩
  have dc:i<=j:=by omega
  have aT:i≠j:=fun h0=>by
   have h1:=hx dc;have h2:=hy dc;rw[h0]at h1;rw[ho.asym h1]at h2;cases h2
  refine ak h ?_;refine xM hS h qz ns (i:=i) (j:=j) (by omega) (by omega) ?_;clear h;intro es w kU h;refine aA ((i+1:Nat):Int) ?_ (hy:=rfl);refine aA ((j-1:Nat):Int) ?_ (hy:=by show((j:Nat):Int)-1=_;omega);exact hN (i+1,j-1,_,es) _ _ ⟨rfl,rfl,rfl,rfl,tV⟩ ⟨hs.Ni (by omega) (by omega) (hy dc) (hx dc),hr.trans (.gY ⟨by omega,by omega⟩ ⟨by omega,by omega⟩ (by omega)),kU,h.aF⟩ (by first|omega|(simp only;omega))
 clear h hs hr ns;rintro⟨i1,j1,zs,fs⟩ aK w ⟨hs,pC,hr,ns,h⟩;simp only at hs pC hr ns h;have kq:=hr.len;have qz:=hr.perm.trans hp;have a1:=hs.a1;have ij:=hs.ij;have jb:=hs.jb;refine ak h ?_;refine xM hS h qz ns (i:=j1) (j:=a) (by omega) (by omega) ?_;clear h;intro es w kU h;obtain⟨f1,f2,f3⟩:=hs.fin (by omega) pC;exact⟨_,_,⟨_,es,⟨j1,false,rfl,hr.trans (.gY ⟨f3,by omega⟩ ⟨by omega,by omega⟩ (by omega)),f1,f2,f3,by omega⟩,kU,rfl,rfl⟩,h.aF⟩
end
end
section
open Go.Shelf
variable {w:World}{n:Nat}
def zeg:Ren:=⟨fun k=>if k=36 then 206 else if k=125 then 121 else if k=128 then 164 else if k=129 then 165 else k,fun k=>if k=41 then 275 else if k=51 then 337 else if k=60 then 399 else if k=66 then 427 else k,fun k=>k⟩
def zee:Ren:=⟨fun k=>if k=125 then 121 else if k=128 then 164 else if k=129 then 165 else k,fun k=>if k=46 then 275 else if k=51 then 212 else if k=53 then 337 else k,fun k=>k⟩
theorem zdz:LaysGg.n36 prog zeg:=by constructor<;>first|kernel_rfl|(intro w;kernel_rfl)
theorem zcN:Lays.n125 prog zee:=by constructor<;>first|kernel_rfl|(intro w;kernel_rfl)
theorem zej{rb X:Nat}(hX:X<18446744073709551616)(hb:a_ w rb 399 [.int .u64 (X:Int)]):az prog 206 [vp rb] w fun r w'=>∃Y:Nat,Y<18446744073709551616/\r= .int .u64 (Y:Int)/\Fr [rb] w w'/\a_ w' rb 399 [.int .u64 (Y:Int)]:=
 uC func206 (c:=_) rfl (by kernel_rfl) ((Any.xorshift_Next zdz rb 0 X hX w (hb.ld 0 rfl) (sa hb)).mono fun e w' ⟨h1,h2⟩=>⟨_,h1,Sort.xorNextN X,Sort.xorNextN_lt X hX,rfl,by
  rw[DX hb]at h2;have aG:rb<w.heap.size:=(qaM.1 hb).1;subst h2;exact⟨⟨(Fr.set w rb _).size,(Fr.set w rb _).iB,rfl,rfl,rfl,qbx _ _⟩,by simp[a_,World.drewN,aG]⟩⟩)
theorem UQ(hn:n<=100):az prog 121 [.int .u64 (n:Int)] w fun r w'=>r= .int .i64 ((Sort.bitsLen n:Nat):Int)/\Fr [] w w':=
 uC func121 (c:=_) rfl (by kernel_rfl) ((Any.bits_Len zcN (n:Int) w (by omega) (by omega)).mono fun e w' ⟨h1,h2⟩=>⟨_,h1,by rw[Int.toNat_natCast,bitLen_eq _ (by omega)],by rw[h2];exact Fr.refl _⟩)
theorem Ek{z:Int}(h0:0<=z)(h1:z<=18446744073709551615):IntKind.u64.wrap z=z:=by
 simp[IntKind.wrap,IntKind.bits,IntKind.signed];omega
theorem zeb(h0:1<=n)(hn:n<=100):az prog 205 [.int .i64 (n:Int)] w fun r w'=>r= .int .u64 ((2^Sort.bitsLen n:Nat):Int)/\Fr [] w w':=by
 have hl:=(Sort.bitsLen_le_iff n 7).2 (by omega);have hp:=Sort.two_pow_bitsLen_le (n:=n) (by omega);refine aL mixed func205 VG ?_;refine⟨(n:Int),Ek (by omega) (by omega),?_⟩;refine(UQ hn).mono ?_;rintro _ w ⟨rfl,hf⟩;refine⟨((Sort.bitsLen n:Nat):Int),Ek (by omega) (by omega),?_⟩;refine aI (by omega) ⟨((2^Sort.bitsLen n:Nat):Int),?_,⟨rfl,hf⟩⟩;have:min ((Sort.bitsLen n:Nat):Int).toNat IntKind.u64.bits=Sort.bitsLen n:=by
  rw[Int.toNat_natCast];exact qaY (qaQ hl (by decide))
 rw[this];have e:(1:Int)*2^Sort.bitsLen n=((2^Sort.bitsLen n:Nat):Int):=by simp
 rw[e];have h1:=Nat.two_pow_pos (Sort.bitsLen n);generalize 2^Sort.bitsLen n=m at*;exact Ek (by omega) (by omega)
section
variable {w0:World}{S:l9}{xs:List Nat}{cs:List Value}
theorem UT(hS:S.OK){a b:Nat}(hp:xs.Perm S.x0)(ha:fX cs xs)(d8:a+8<=b)(hb:b<=xs.length)(h:SH w0 S.M [S.lb] S.M [.ah S.lb S.T cs] w0):
 az prog 168 [S.d,.int .i64 (a:Int),.int .i64 (b:Int)] w0 (s_ S w0 fun r ys=>r= .tuple #[]/\Rg a b xs ys):=by
 have nL:xs.length<=23:=by rw[hp.length_eq];exact hS.len
 refine aL mixed func168 Vu ?_;refine au (cs:=[S.lf,S.sf]) h ?_;clear h;intro b3 w h;obtain⟨l,hl⟩:∃l,b=a+l:=⟨b-a,by omega⟩;subst hl;refine aA ((l:Nat):Int) ?_ (hy:=by omega);refine aI (fun _=> ?_) (fun hx=>by omega);refine⟨((l:Nat):Int),Ek (by omega) (by omega),?_⟩;refine au (cs:=[.int .u64 0]) h ?_;clear h;intro rb w h;refine eQ h ?_;clear h;intro w h;refine s_call h (zeb (n:=l) (by omega) (by omega)) ?_;clear h;rintro _ w rfl h;have yP:=Sort.two_pow_bitsLen_le (n:=l) (by omega);have mr:=Nat.two_pow_pos (Sort.bitsLen l);generalize 2^Sort.bitsLen l=m at*;have hq:((l:Nat):Int).tdiv 4=((l/4:Nat):Int):=rfl;refine aI (by decide) ?_;refine aA ((l/4:Nat):Int) ?_ (hy:=hq);refine aA (((l/4*2:Nat):Int)) ?_;refine aA (((a+l/4*2:Nat):Int)) ?_;refine aA (((a+l/4*2-1:Nat):Int)) ?_;refine bN (X:=Nat×Nat×List Nat×List Value) (fun y=>[(1,.int .i64 (a:Int)),(3,.pointer (some ⟨b3,0,none⟩)),(6,.int .i64 (l:Int)),(7,.pointer (some ⟨rb,0,none⟩)),(8,.int .u64 (m:Int)),(9,.int .i64 (y.1:Int))])
  (fun y w=>a+l/4*2-1<=y.1/\y.1<=a+l/4*2+2/\y.2.1<18446744073709551616/\Rg a (a+l) xs y.2.2.1/\fX y.2.2.2 y.2.2.1/\SH w0 S.M [S.lb] S.M [.ah rb 399 [.int .u64 (y.2.1:Int)],.ah b3 278 [S.lf,S.sf],.ah S.lb S.T y.2.2.2] w) (fun y=>a+l/4*2+2-y.1) (a+l/4*2-1,l,xs,cs) ⟨rfl,rfl,rfl,rfl,rfl,rfl,tV⟩ ⟨qad _,by simp only;omega,by simp only;omega,.refl _ _ _,ha,h⟩ ?_
 clear h;rintro⟨i,X,ys,ds⟩ aK w N ⟨sB,ru,hX,hr,eL,h⟩ hN;simp only at sB ru hX hr eL h;refine aI (by decide) ?_;refine aA ((l/4:Nat):Int) ?_ (hy:=hq);refine aA (((l/4*2:Nat):Int)) ?_;refine aA (((a+l/4*2:Nat):Int)) ?_;refine aA (((a+l/4*2+1:Nat):Int)) ?_;refine aI (fun hle=> ?_) (fun mj=> ?_);rotate_left 1
 .exact⟨_,_,⟨ys,ds,⟨rfl,hr⟩,eL,rfl,rfl⟩,h.aF⟩
 simp only at hle;have wZ:i<=a+l/4*2+1:=by omega
 have pK:=hr.len;have oD:=hr.perm.trans hp;refine(zej hX (h.fK .here)).mono ?_;rintro _ w ⟨Y,hY,rfl,hf,fD⟩;replace h:=h.rS .here hf fD;refine⟨((m-1:Nat):Int),?_,?_⟩
 .rw[show((m:Nat):Int)-1=((m-1:Nat):Int) by omega];exact Ek (by omega) (by omega)
 have hand:=bits_and_u64_nat Y (m-1) hY (by omega);have hO:Y&&&(m-1)<=m-1:=Nat.and_le_right;obtain⟨o,ho⟩:∃o,o=Y&&&(m-1):=⟨_,rfl⟩;rw[<-ho]at hand hO;refine aA ((o:Nat):Int) ?_ (hy:=hand);refine aI (fun aY=> ?_) (fun aG=> ?_)
 focus
  refine aA ((o-l:Nat):Int) ?_ (hy:=by show((o:Nat):Int)-((l:Nat):Int)=_;omega);refine ak h ?_;refine aA (((a+(o-l):Nat):Int)) ?_;refine xM hS h oD eL (i:=i) (j:=a+(o-l)) (by omega) (by omega) ?_
 rotate_left
 focus
  refine ak h ?_;refine aA (((a+o:Nat):Int)) ?_;refine xM hS h oD eL (i:=i) (j:=a+o) (by omega) (by omega) ?_
 all_goals
  clear h;intro es w kU h;refine aA ((i+1:Nat):Int) ?_ (hy:=rfl);exact hN (i+1,Y,_,es) _ _ ⟨rfl,rfl,rfl,rfl,rfl,rfl,tV⟩ ⟨by simp only;omega,by simp only;omega,hY,hr.trans (.gY ⟨by omega,by omega⟩ ⟨by omega,by omega⟩ (by omega)),kU,h.aF⟩ (by simp only;omega)
end
end
section
variable {a b:Nat}
theorem qR.both{lt:Nat->Nat->Bool}{m c:Nat}{xs ys:List Nat}(ho:mK lt ys)(hn:xs.Nodup)(hl:b<=xs.length)(hr:Rg a b xs ys)(hp:qR lt a b m ys)(hm:gx ys m=gx xs c)(h1:∃x,(a<=x/\x<b)/\lt (gx xs x) (gx xs c)=true)(h2:∃x,(a<=x/\x<b)/\lt (gx xs c) (gx xs x)=true)(yQ:a<=m/\m<b):a<m/\m+1<b:=by
 obtain⟨x,hx,l1⟩:=h1;obtain⟨y,hy,l2⟩:=h2;obtain⟨x',iR,e1⟩:=hr.dst hn hl hx;obtain⟨y',rL,e2⟩:=hr.dst hn hl hy;rw[<-e1,<-hm]at l1;rw[<-e2,<-hm]at l2;refine⟨qa8 fun h=> ?_,qa8 fun h=> ?_⟩
 .have jX:m<=x':=by omega
  by_cases he:x'=m
  .rw[he,ho.ir]at l1;cases l1
  have:=ho.asym (hp.hi x' (by omega) iR.2);rw[l1]at this;cases this
 have P3:y'<=m:=by omega
 by_cases he:y'=m
 .rw[he,ho.ir]at l2;cases l2
 have:=ho.asym (hp.lo y' rL.1 (by omega));rw[l2]at this;cases this
theorem L7{c:Operand}{a b:CK}{Q:Exit->Env->World->Prop}{e:Env}{w:World}(h:ev e c= .bool false)(k:b Q e w):ye c a b Q e w:=by
 unfold ye;rw[h];exact k
section
variable {w0:World}{S:l9}{xs:List Nat}{cs:List Value}
theorem Qs(ha:fX cs xs)(d8:b<=a)(hb:a<=23)(h:SH w0 S.M [S.lb] S.M [.ah S.lb S.T cs] w0):
 az prog 166 [S.d,.int .i64 (a:Int),.int .i64 (b:Int)] w0 (s_ S w0 fun r ys=>r= .tuple #[]/\ys=xs):=by
 refine aL mixed func166 Hp ?_;refine au (cs:=[S.lf,S.sf]) h ?_;clear h;intro b3 w h;refine aA (((a+1:Nat):Int)) ?_;refine bN (X:=Unit) (fun _=>[(1,.int .i64 (a:Int)),(2,.int .i64 (b:Int)),(3,.pointer (some ⟨b3,0,none⟩)),(6,.int .i64 ((a+1:Nat):Int))])
  (fun _ w=>SH w0 S.M [S.lb] S.M [.ah b3 278 [S.lf,S.sf],.ah S.lb S.T cs] w) (fun _=>0) () ⟨rfl,rfl,rfl,rfl,tV⟩ h ?_
 clear h;rintro _ aK w N h hN;refine aI (fun hx=>by omega) (fun _=> ?_);exact⟨_,_,⟨xs,cs,⟨rfl,rfl⟩,ha,rfl,rfl⟩,h.aF⟩
theorem pdq_small(hS:S.OK){lim:Int}(hp:xs.Perm S.x0)(ha:fX cs xs)(d8:a<=b)(hb:b<=xs.length)(y_:b<=a+12)(h:SH w0 S.M [S.lb] S.M [.ah S.lb S.T cs] w0):
 az prog 122 [S.d,.int .i64 (a:Int),.int .i64 (b:Int),.int .i64 lim] w0 (s_ S w0 fun r ys=>r= .tuple #[]/\Rg a b xs ys/\Sd S.lt a b ys):=by
 have nL:xs.length<=23:=by rw[hp.length_eq];exact hS.len
 refine aL mixed func122 Hm ?_;refine au (cs:=[S.lf,S.sf]) h ?_;clear h;intro b4 w h;refine bN (X:=Unit) (fun _=>[(1,.int .i64 (a:Int)),(2,.int .i64 (b:Int)),(3,.int .i64 lim),(4,.pointer (some ⟨b4,0,none⟩)),(8,.bool true),(9,.bool true)])
  (fun _ w=>SH w0 S.M [S.lb] S.M [.ah b4 278 [S.lf,S.sf],.ah S.lb S.T cs] w) (fun _=>0) () ⟨rfl,rfl,rfl,rfl,rfl,rfl,tV⟩ h ?_
 clear h;rintro _ aK w N h hN;refine aA ((b-a:Nat):Int) ?_ (hy:=by show((b:Nat):Int)-((a:Nat):Int)=_;omega);refine aI (fun _=> ?_) (fun hx=>by omega);refine bj h ?_;by_cases aG:a<b
 .refine du [.ah S.lb S.T cs] [.ah b4 278 [S.lf,S.sf]] h.aF (Qt hS hp ha aG hb) ?_;clear h;rintro _ _ _ w ⟨ys,ds,⟨rfl,hr,hs⟩,eL,rfl,rfl⟩ _ _ h;exact⟨_,_,⟨ys,ds,⟨rfl,hr,hs⟩,eL,rfl,rfl⟩,h.aF⟩
 refine du [.ah S.lb S.T cs] [.ah b4 278 [S.lf,S.sf]] h.aF (Qs ha (by omega) (by omega)) ?_;clear h;rintro _ _ _ w ⟨ys,ds,⟨rfl,rfl⟩,eL,rfl,rfl⟩ _ _ h;exact⟨_,_,⟨ys,ds,⟨rfl,.refl _ _ _,fun i j h1 h2 h3=>by omega⟩,eL,rfl,rfl⟩,h.aF⟩
structure G2 where
 a:Nat
 b:Nat
 lim:Nat
 Ab:Bool
 par:Bool
 xs:List Nat
 cs:List Value
structure G2.OK(S:l9)(n:Nat)(q:G2):Prop where
 perm:q.xs.Perm S.x0
 arr:fX q.cs q.xs
 len:q.xs.length=n
 ab:q.a<=q.b
 bn:q.b<=n
 rst:nW S.lt 0 n q.a q.b q.xs
 lim:12<q.b-q.a->(q.b-q.a-14)/2+1+(if q.Ab then 0 else 1)<=q.lim
 l2:q.lim<=100
theorem zd2(hS:S.OK){n lim:Nat}(hp:xs.Perm S.x0)(ha:fX cs xs)(hn:xs.length=n)(pD:12<n->(n-14)/2+1<=lim)(cR:lim<=100)(h:SH w0 S.M [S.lb] S.M [.ah S.lb S.T cs] w0):
 az prog 122 [S.d,.int .i64 0,.int .i64 (n:Int),.int .i64 (lim:Int)] w0 (s_ S w0 fun r ys=>r= .tuple #[]/\ys.Perm S.x0/\Sd S.lt 0 n ys):=by
 have nL:xs.length<=23:=by rw[hp.length_eq];exact hS.len
 refine aL mixed func122 Hm ?_;refine au (cs:=[S.lf,S.sf]) h ?_;clear h;intro b4 w h;refine bN (X:=G2) (fun q=>[(1,.int .i64 (q.a:Int)),(2,.int .i64 (q.b:Int)),(3,.int .i64 (q.lim:Int)),(4,.pointer (some ⟨b4,0,none⟩)),(8,.bool q.Ab),(9,.bool q.par)])
  (fun q w=>q.OK S n/\SH w0 S.M [S.lb] S.M [.ah b4 278 [S.lf,S.sf],.ah S.lb S.T q.cs] w) (fun q=>q.b-q.a) ⟨0,n,lim,true,true,xs,cs⟩ ⟨rfl,rfl,rfl,rfl,rfl,rfl,tV⟩ ⟨⟨hp,ha,hn,qae _,qad _,.full _ _ _ _,fun h=>by have:=pD (by simpa using h);simpa using this,cR⟩,h⟩ ?_
 clear h hp ha pD cR;rintro⟨a,b,lim,Ab,par,zs,es⟩ aK w N ⟨⟨hp,ha,xm,d8,hb,rH,pD,cR⟩,h⟩ hN;simp only at hp ha xm d8 hb rH pD cR h;obtain⟨l,hl⟩:∃l,b=a+l:=⟨b-a,by omega⟩;subst hl;rw[Nat.add_sub_cancel_left]at pD;refine aA ((l:Nat):Int) ?_ (hy:=by show((a+l:Nat):Int)-((a:Nat):Int)=_;omega);refine aI (fun y_=> ?_) (fun lD=> ?_)
 .refine bj h ?_;by_cases aG:0<l
  .refine du [.ah S.lb S.T es] [.ah b4 278 [S.lf,S.sf]] h.aF (Qt hS hp ha (a:=a) (b:=a+l) (by omega) (by omega)) ?_;clear h;rintro _ _ _ w ⟨ys,ds,⟨rfl,hr,hs⟩,eL,rfl,rfl⟩ _ _ h;exact⟨_,_,⟨ys,ds,⟨rfl,hr.perm.trans hp,(rH.rg hr (hS.lt.perm hp).nd hb (qae _) (by omega)).sd hs⟩,eL,rfl,rfl⟩,h.aF⟩
  refine du [.ah S.lb S.T es] [.ah b4 278 [S.lf,S.sf]] h.aF (Qs ha (a:=a) (b:=a+l) (by omega) (by omega)) ?_;clear h;rintro _ _ _ w ⟨ys,ds,⟨rfl,rfl⟩,eL,rfl,rfl⟩ _ _ h;exact⟨_,_,⟨ys,ds,⟨rfl,hp,rH.sd fun i j h1 h2 h3=>by omega⟩,eL,rfl,rfl⟩,h.aF⟩
 have zgp:13<=l:=by omega
 replace pD:=pD (by omega);refine aI (fun h0=>by simp only at h0;omega) (fun _=> ?_);refine L7 rfl ?_;refine lq (X:=Nat×List Nat×List Value) (fun y=>[(1,.int .i64 (a:Int)),(2,.int .i64 ((a+l:Nat):Int)),(3,.int .i64 (y.1:Int)),(4,.pointer (some ⟨b4,0,none⟩)),(8,.bool Ab),(9,.bool par),(10,.int .i64 (l:Int))])
  (fun y w=>(l-14)/2+1<=y.1/\y.1<=100/\y.2.1.Perm S.x0/\fX y.2.2 y.2.1/\y.2.1.length=n/\nW S.lt 0 n a (a+l) y.2.1/\SH w0 S.M [S.lb] S.M [.ah b4 278 [S.lf,S.sf],.ah S.lb S.T y.2.2] w) ?_ ?_
 .intro N3 kc;cases Ab with
  |true=>exact kc (lim,zs,es) _ _ ⟨rfl,rfl,rfl,rfl,rfl,rfl,rfl,tV⟩ ⟨by simpa using pD,cR,hp,ha,xm,rH,h⟩
  |false=>
   refine bj h ?_;refine du [.ah S.lb S.T es] [.ah b4 278 [S.lf,S.sf]] h.aF (UT hS hp ha (a:=a) (b:=a+l) (by omega) (by omega)) ?_;clear h;rintro _ _ _ w ⟨ys,ds,⟨rfl,hr⟩,eL,rfl,rfl⟩ _ _ h;have zgs:(l-14)/2+1+1<=lim:=by simpa using pD
   refine aA ((lim-1:Nat):Int) ?_ (hy:=by show((lim:Nat):Int)-1=_;omega);exact kc (lim-1,ys,ds) _ _ ⟨rfl,rfl,rfl,rfl,rfl,rfl,rfl,tV⟩ ⟨by simp only;omega,by simp only;omega,hr.perm.trans hp,eL,hr.len.trans xm,rH.rg hr (hS.lt.perm hp).nd hb (qae _) (by omega),h.aF⟩
 clear h hp ha xm rH pD cR;rintro⟨Bn,zs,es⟩ aK w ⟨pD,cR,hp,ha,xm,rH,h⟩;simp only at pD cR hp ha xm rH h;have ho:=hS.lt.perm hp;refine bj h ?_;refine du [.ah S.lb S.T es] [.ah b4 278 [S.lf,S.sf]] h.aF (zd5 hS hp ha (a:=a) (b:=a+l) (by omega) (by omega)) ?_;clear h;rintro _ _ _ w ⟨ys,ds,⟨c,hint,rfl,mB,hh,hc,oL,jX⟩,eL,rfl,rfl⟩ _ _ h;rw[mB]at eL;clear ha mB;replace h:=h.aF (L':=[.ah b4 278 [S.lf,S.sf],.ah S.lb S.T ds]);refine aI (fun h2=>by omega) (fun _=> ?_);refine L7 rfl ?_;refine lq (X:=List Value) (fun _=>[(1,.int .i64 (a:Int)),(2,.int .i64 ((a+l:Nat):Int)),(3,.int .i64 (Bn:Int)),(4,.pointer (some ⟨b4,0,none⟩)),(10,.int .i64 (l:Int)),(11,.int .i64 (c:Int))])
  (fun ds w=>fX ds zs/\SH w0 S.M [S.lb] S.M [.ah b4 278 [S.lf,S.sf],.ah S.lb S.T ds] w) ?_ ?_
 .intro N3 kc;cases Ab with
  |false=>exact kc ds _ _ ⟨rfl,rfl,rfl,rfl,rfl,rfl,tV⟩ ⟨eL,h⟩
  |true=>
   cases par with
   |false=>exact kc ds _ _ ⟨rfl,rfl,rfl,rfl,rfl,rfl,tV⟩ ⟨eL,h⟩
   |true=>
    refine aI (fun _=> ?_) (fun _=> ?_);rotate_left 1
    .exact kc ds _ _ ⟨rfl,rfl,rfl,rfl,rfl,rfl,tV⟩ ⟨eL,h⟩
    refine bj h ?_;refine du [.ah S.lb S.T ds] [.ah b4 278 [S.lf,S.sf]] h.aF (zdY hS hp eL (a:=a) (b:=a+l) (by omega) (by omega)) ?_;clear h;rintro _ _ _ w ⟨ys,fs,⟨mB,⟨rfl,hs⟩|rfl⟩,tI,rfl,rfl⟩ _ _ h
    all_goals rw[mB]at tI
    .exact⟨_,_,⟨zs,fs,⟨rfl,hp,rH.sd hs⟩,tI,rfl,rfl⟩,h.aF⟩
    exact kc fs _ _ ⟨rfl,rfl,rfl,rfl,rfl,rfl,tV⟩ ⟨tI,h.aF⟩
 clear h eL;rintro ds aK w ⟨eL,h⟩;refine lq (X:=Unit) (fun _=>[(1,.int .i64 (a:Int)),(2,.int .i64 ((a+l:Nat):Int)),(3,.int .i64 (Bn:Int)),(4,.pointer (some ⟨b4,0,none⟩)),(10,.int .i64 (l:Int)),(11,.int .i64 (c:Int))])
  (fun _ w=>SH w0 S.M [S.lb] S.M [.ah b4 278 [S.lf,S.sf],.ah S.lb S.T ds] w) ?_ ?_
 .intro N3 kc;refine aI (fun mj=> ?_) (fun _=> ?_);rotate_left 1
  .exact kc () _ _ ⟨rfl,rfl,rfl,rfl,rfl,rfl,tV⟩ h
  have ha0:0<a:=by omega
  refine ak h ?_;refine aA ((a-1:Nat):Int) ?_ (hy:=by show((a:Nat):Int)-1=_;omega);refine oY hS h true (rH (a-1) c (qae _) (by omega) (by omega) (.inl (by omega))) hp eL (by omega) (by omega) ?_;clear h;intro w h;exact kc () _ _ ⟨rfl,rfl,rfl,rfl,rfl,rfl,tV⟩ h
 clear h;rintro _ aK w h;replace h:SH w0 S.M [S.lb] S.M [.ah b4 278 [S.lf,S.sf],.ah S.lb S.T ds] w:=h;refine bj h ?_;refine du [.ah S.lb S.T ds] [.ah b4 278 [S.lf,S.sf]] h.aF (zdZ hS hp eL (a:=a) (b:=a+l) hc (by omega)) ?_;clear h;rintro _ _ _ w ⟨zs,fs,⟨m,d,rfl,hr,nJ,u9,mr,yP⟩,tI,rfl,rfl⟩ _ _ h;have pE:=ho.nd;have qv:=ho.perm hr.perm;obtain⟨hm3,hm4⟩:=nJ.both qv pE (by omega) hr u9 oL jX ⟨mr,yP⟩;have PG:=rH.rg hr pE hb (qae _) (by omega);have oA:=hr.perm.trans hp;have xl:=hr.len.trans xm;clear hr rH eL hp xm ho pE oL jX u9 hc;refine aA ((m-a:Nat):Int) ?_ (hy:=by show((m:Nat):Int)-((a:Nat):Int)=_;omega);refine aA ((a+l-m:Nat):Int) ?_ (hy:=by show((a+l:Nat):Int)-((m:Nat):Int)=_;omega);refine aI (by decide) ?_;refine aA ((l/8:Nat):Int) ?_ (hy:=rfl);refine aI (fun aG=> ?_) (fun aY=> ?_)
 .have dF:m-a<a+l-m:=by omega
  refine aI (fun hy=> ?_) (fun hy=> ?_)
  .refine bj h ?_;refine du [.ah S.lb S.T fs] [.ah b4 278 [S.lf,S.sf]] h.aF (pdq_small hS oA tI (a:=a) (b:=m) (by omega) (by omega) (by omega)) ?_;clear h;rintro _ _ _ w ⟨ws,gs,⟨rfl,k8,dt⟩,yx,rfl,rfl⟩ _ _ h;refine aA ((m+1:Nat):Int) ?_ (hy:=rfl);have IT:=k8.len;refine hN ⟨m+1,a+l,Bn,true,d,ws,gs⟩ _ _ ⟨rfl,rfl,rfl,rfl,rfl,rfl,tV⟩ ⟨⟨k8.perm.trans oA,yx,by simp only;omega,by simp only;omega,hb,?_,fun An=> ?_,cR⟩,h.aF⟩ (by simp only;omega)
   .exact((PG.rg (k8.mono (qad _) (by omega)) qv.nd hb (qae _) (by omega))).left (qv.perm k8.perm) (nJ.rgL k8 qv.nd (by omega) yP) ⟨mr,yP⟩ dt
   simp only at An⊢;simp only[Bool.false_eq_true,qcn,qck];omega
  refine bj h ?_;refine du [.ah S.lb S.T fs] [.ah b4 278 [S.lf,S.sf]] h.aF (pdq_small hS oA tI (a:=a) (b:=m) (by omega) (by omega) (by omega)) ?_;clear h;rintro _ _ _ w ⟨ws,gs,⟨rfl,k8,dt⟩,yx,rfl,rfl⟩ _ _ h;refine aA ((m+1:Nat):Int) ?_ (hy:=rfl);have IT:=k8.len;refine hN ⟨m+1,a+l,Bn,false,d,ws,gs⟩ _ _ ⟨rfl,rfl,rfl,rfl,rfl,rfl,tV⟩ ⟨⟨k8.perm.trans oA,yx,by simp only;omega,by simp only;omega,hb,?_,fun An=> ?_,cR⟩,h.aF⟩ (by simp only;omega)
  .exact((PG.rg (k8.mono (qad _) (by omega)) qv.nd hb (qae _) (by omega))).left (qv.perm k8.perm) (nJ.rgL k8 qv.nd (by omega) yP) ⟨mr,yP⟩ dt
  simp only at An⊢;simp only[Bool.false_eq_true,qcn,qck];omega
 refine aI (fun hy=> ?_) (fun hy=> ?_)
 .refine bj h ?_;refine aA ((m+1:Nat):Int) ?_ (hy:=rfl);refine du [.ah S.lb S.T fs] [.ah b4 278 [S.lf,S.sf]] h.aF (pdq_small hS oA tI (a:=m+1) (b:=a+l) (by omega) (by omega) (by omega)) ?_;clear h;rintro _ _ _ w ⟨ws,gs,⟨rfl,k8,dt⟩,yx,rfl,rfl⟩ _ _ h;have IT:=k8.len;refine hN ⟨a,m,Bn,true,d,ws,gs⟩ _ _ ⟨rfl,rfl,rfl,rfl,rfl,rfl,tV⟩ ⟨⟨k8.perm.trans oA,yx,by simp only;omega,mr,by simp only;omega,?_,fun An=> ?_,cR⟩,h.aF⟩ (by simp only;omega)
  .exact((PG.rg (k8.mono (by omega) (qad _)) qv.nd hb (qae _) (by omega))).right (qv.perm k8.perm) (nJ.rgR k8 qv.nd (by omega) mr) ⟨mr,yP⟩ dt
  simp only at An⊢;simp only[Bool.false_eq_true,qcn,qck];omega
 refine bj h ?_;refine aA ((m+1:Nat):Int) ?_ (hy:=rfl);refine du [.ah S.lb S.T fs] [.ah b4 278 [S.lf,S.sf]] h.aF (pdq_small hS oA tI (a:=m+1) (b:=a+l) (by omega) (by omega) (by omega)) ?_;clear h;rintro _ _ _ w ⟨ws,gs,⟨rfl,k8,dt⟩,yx,rfl,rfl⟩ _ _ h;have IT:=k8.len;refine hN ⟨a,m,Bn,false,d,ws,gs⟩ _ _ ⟨rfl,rfl,rfl,rfl,rfl,rfl,tV⟩ ⟨⟨k8.perm.trans oA,yx,by simp only;omega,mr,by simp only;omega,?_,fun An=> ?_,cR⟩,h.aF⟩ (by simp only;omega)
 .exact((PG.rg (k8.mono (by omega) (qad _)) qv.nd hb (qae _) (by omega))).right (qv.perm k8.perm) (nJ.rgR k8 qv.nd (by omega) mr) ⟨mr,yP⟩ dt
 simp only at An⊢;simp only[Bool.false_eq_true,qcn,qck];omega
end
end
section
open Go.Shelf
variable {w w0:World}{cs:List Value}{lb n c:Nat}{S:l9}{fl:FuncId}{cl:Array Value}
def DR:Ren:=⟨fun k=>if k=6 then 74 else if k=10 then 118 else if k=11 then 119 else if k=12 then 120 else if k=13 then 121 else if k=14 then 122 else if k=24 then 164 else if k=25 then 165 else if k=26 then 166 else if k=27 then 167 else if k=28 then 168 else if k=29 then 169 else if k=30 then 170 else if k=31 then 171 else if k=32 then 172 else if k=33 then 173 else if k=34 then 204 else if k=35 then 205 else if k=36 then 206 else if k=37 then 207 else if k=38 then 208 else if k=39 then 230 else k,fun k=>if k=26 then 193 else if k=32 then 267 else if k=33 then 268 else if k=35 then 270 else if k=37 then 272 else if k=41 then 275 else if k=44 then 278 else if k=49 then 212 else if k=51 then 337 else if k=53 then 339 else if k=54 then 340 else if k=58 then 265 else if k=60 then 399 else if k=64 then 403 else if k=66 then 427 else if k=67 then 428 else if k=75 then 475 else if k=76 then 476 else if k=77 then 477 else if k=78 then 478 else if k=79 then 479 else if k=80 then 480 else if k=82 then 482 else k,fun k=>k⟩
theorem SR:LaysGg.n6 prog DR:=by constructor<;>first|kernel_rfl|(intro w;kernel_rfl)
noncomputable def SN:TypeInfo:=(prog.info? 148).get (by kernel_rfl)
noncomputable def sY:TypeInfo:=(prog.info? 108).get (by kernel_rfl)
theorem slK(n:Nat)(h2:2<=n):Lib.swapperK n sY 22=3:=by
 have a:sY.hasPointers=true:=by kernel_rfl
 have b:sY.bytes=8:=by kernel_rfl
 have c:(n==0)=false:=by simp;omega
 have d:(n==1)=false:=by simp;omega
 simp[Lib.swapperK,a,b,c,d]
theorem SM(n:Nat)(h:n<=1):Lib.swapperK n sY 22=n+1:=by
 rcases Nat.eq_zero_or_pos n with h|h
 .subst h;simp[Lib.swapperK]
 obtain rfl:n=1:=by omega
 simp[Lib.swapperK]
theorem Mv{b o:Nat}{t:TypeId}{v:Value}(h:a_ w b t cs):Fr [b] w (w.setCell ⟨b,o,none⟩ v)/\a_ (w.setCell ⟨b,o,none⟩ v) b t (cs.set o v):=by
 have aG:b<w.heap.size:=(qaM.1 h).1;rw[DX h];exact⟨Fr.set w b _,by simp[a_,aG]⟩
theorem zfb{x0:List Nat}(hn:x0.length=n):LZ 157 [.slice (some ⟨lb,0,none⟩) n c,typeHandle prog 108] lb 108 x0:=by
 intro xs cs i j w hp ha hi hj hb;have hl:=hp.length_eq;have hx:∀k,k<xs.length->w.cell? ⟨lb,0+k,none⟩=some (vp (gx xs k)):=fun k hk=>by rw[qbm];exact hb.ld k (ha k hk)
 have mA:=Lib.run_swap_one (P:=prog) true 108 sY (by kernel_rfl) (by kernel_rfl) (fun _=>by kernel_rfl) lb 0 n c i j (by omega) (by omega) (vp (gx xs i)) (vp (gx xs j)) rfl rfl w (hx i hi) (hx j hj) (sa hb) (sa hb);refine Ht (w':=(w.setCell ⟨lb,0+i,none⟩ (vp (gx xs j))).setCell ⟨lb,0+j,none⟩ (vp (gx xs i))) (v:= .tuple #[]) ?_ ⟨rfl,?_⟩
 .rw[run_callFunc_extern func157 (by kernel_rfl) (by kernel_rfl) (by kernel_rfl) (e:=Extern.ReflectliteSwapper.swap true) (by kernel_rfl)];show(Sem.run prog (Extern.ReflectliteSwapper.swap true #[.int .i64 i,.int .i64 j,.slice (some ⟨lb,0,none⟩) n c,typeHandle prog 108]) w).andThen _=_;rw[mA];rfl
 rw[qbm,qbm];obtain⟨f1,gc⟩:=Mv (o:=i) (v:=vp (gx xs j)) hb;obtain⟨f2,cV⟩:=Mv (o:=j) (v:=vp (gx xs i)) gc;refine⟨_,fun k hk=> ?_,f1.trans f2,cV⟩;rw[S8]at hk;have aE:i<cs.length:=(qab.1 (ha i hi)).1;have hcj:j<cs.length:=(qab.1 (ha j hj)).1;rw[BI hi hj,qaX,qaX,qbh];by_cases h1:k=j
 .subst h1;simp[hcj]
 rw[if_neg (fun h=>h1 h.symm),if_neg h1];by_cases h2:k=i
 .subst h2;simp[aE]
 rw[if_neg (fun h=>h2 h.symm),if_neg h2];exact ha k hk
theorem zcs(hn:n<=1):az prog 166 [S.d,.int .i64 0,.int .i64 (n:Int)] w0 fun r w'=>r= .tuple #[]/\Fr [] w0 w':=by
 obtain⟨M,hM⟩:∃M,M=Wm w0:=⟨_,rfl⟩;have h:=SH.start (M:=M) (w:=w0) (hM▸Mem.Le.refl _);refine aL mixed func166 Hp ?_;refine au (cs:=[S.lf,S.sf]) h ?_;clear h;intro b3 w h;refine aA (1) ?_;refine bN (X:=Unit) (fun _=>[(1,.int .i64 0),(2,.int .i64 (n:Int)),(6,.int .i64 1)]) (fun _ w1=>SH w0 M [] M [.ah b3 278 [S.lf,S.sf]] w1) (fun _=>0) () ⟨rfl,rfl,rfl,tV⟩ h ?_;clear h;rintro _ aK w N h hN;refine aI (fun hx=>by omega) (fun _=> ?_);exact⟨rfl,h.fr⟩
theorem zd1{lim:Int}(hn:n<=1):az prog 122 [S.d,.int .i64 0,.int .i64 (n:Int),.int .i64 lim] w0 fun r w'=>r= .tuple #[]/\Fr [] w0 w':=by
 obtain⟨M,hM⟩:∃M,M=Wm w0:=⟨_,rfl⟩;have h:=SH.start (M:=M) (w:=w0) (hM▸Mem.Le.refl _);refine aL mixed func122 Hm ?_;refine au (cs:=[S.lf,S.sf]) h ?_;clear h;intro b4 w h;refine bN (X:=Unit) (fun _=>[(1,.int .i64 0),(2,.int .i64 (n:Int)),(4,.pointer (some ⟨b4,0,none⟩))]) (fun _ w1=>SH w0 M [] M [.ah b4 278 [S.lf,S.sf]] w1) (fun _=>0) () ⟨rfl,rfl,rfl,tV⟩ h ?_;clear h;rintro _ aK w N h hN;refine aA ((n:Int)) ?_;refine aI (fun _=> ?_) (fun hx=>by omega);refine bj h ?_;refine s_call h (zcs hn) ?_;clear h;rintro _ w rfl h;exact⟨rfl,h.fr⟩
theorem zeX{p:Option Addr}(hn:n<=1):az prog 74 [.iface 148 (.slice p n c),.func (.func fl) #[] cl] w fun r w'=>r= .tuple #[]/\Fr [] w w':=by
 have hf:prog.funcs.findIdx? (·.name== "internal/reflectlite" ++ ".Swapper$" ++toString (Lib.swapperK n sY 22))=some (155+n):=by
  rw[SM n hn];rcases Nat.eq_zero_or_pos n with h|h
  .subst h;kernel_rfl
  obtain rfl:n=1:=by omega
  kernel_rfl
 have hb:=SM n hn;refine uC func74 (c:=_) rfl (by kernel_rfl) ?_;have hp:=qa func122 (c:=_) rfl (by kernel_rfl) (zd1 (w0:=sliceWorld prog DR 148 p n c w) (S:=⟨fl,cl,155+n,#[],fun _ _=>false,0,0,Wm w,[]⟩) (lim:=Lib.bitLen n) hn);have:=Any.sort_Slice_of_pdq SR 148 108 SN sY (by kernel_rfl) (by kernel_rfl) (by kernel_rfl) (by kernel_rfl) 22 (fun _=>by kernel_rfl) p n c (by omega) (155+n) hf (.func fl) #[] cl w (fun w'=>Fr [] w w') ?_
 .exact this.mono fun e w' ⟨h1,h2⟩=>⟨_,h1,rfl,h2⟩
 have sK:sliceBound prog 108 sY 22 p n c= #[]:=by unfold sliceBound;rw[hb,if_pos (by omega)]
 rw[sK];refine hp.mono fun e w' ⟨v,h1,h2,h3⟩=>⟨by rw[h1,h2],?_⟩;exact((Fr.alloc w _).D7 (Fr.alloc _ _)).trans h3
theorem zeY{M:Mem}{xs:List Nat}{lt:Nat->Nat->Bool}(h2:2<=n)(hn:xs.length=n)(h23:n<=23)(zbu:GZ fl cl.toList lt lb 108 M xs)(aG:mK lt xs)(ha:fX cs xs)(h:SH w0 M [lb] M [.ah lb 108 cs] w0):
 az prog 74 [.iface 148 (.slice (some ⟨lb,0,none⟩) n c),.func (.func fl) #[] cl] w0 fun r w'=>∃M' A',(∃ys cs',r= .tuple #[]/\ys.Perm xs/\Sd lt 0 n ys/\fX cs' ys/\M'=M/\A'=[.ah lb 108 cs'])/\SH w0 M [lb] M' A' w':=by
 have hK:=slK n h2;obtain⟨S,hS⟩:∃S:l9,S=⟨fl,cl,157,#[.slice (some ⟨lb,0,none⟩) n c,typeHandle prog 108],lt,lb,108,M,xs⟩:=⟨_,rfl⟩;have hSO:S.OK:=by subst hS;exact⟨zbu,zfb hn,aG,by show xs.length<=23;omega⟩
 have hf:prog.funcs.findIdx? (·.name== "internal/reflectlite" ++ ".Swapper$" ++toString (Lib.swapperK n sY 22))=some 157:=by rw[hK];kernel_rfl
 have iK:Fr [] w0 (sliceWorld prog DR 148 (some ⟨lb,0,none⟩) n c w0):=(Fr.alloc w0 _).D7 (Fr.alloc _ _);have h1:=h.lu iK;have pD:12<n->(n-14)/2+1<=Lib.bitLen n:=fun An=>by
  rw[bitLen_eq n (by omega)];by_cases HW:n<16
  .have:¬Sort.bitsLen n<=3:=fun h=>by have:=(Sort.bitsLen_le_iff n 3).1 h;omega
   omega
  have:¬Sort.bitsLen n<=4:=fun h=>by have:=(Sort.bitsLen_le_iff n 4).1 h;omega
  omega
 have cR:Lib.bitLen n<=100:=by
  rw[bitLen_eq n (by omega)];have:=(Sort.bitsLen_le_iff n 5).2 (by omega);omega
 have zaI:SH (sliceWorld prog DR 148 (some ⟨lb,0,none⟩) n c w0) S.M [S.lb] S.M [.ah S.lb S.T cs] (sliceWorld prog DR 148 (some ⟨lb,0,none⟩) n c w0):=by
  subst hS;exact SH.EH (A:=[.ah lb 108 cs]) (B:=[]) h1
 have hp:=qa func122 (c:=_) rfl (by kernel_rfl) (zd2 hSO (xs:=xs) (cs:=cs) (n:=n) (lim:=Lib.bitLen n) (by subst hS;exact .refl _) ha hn pD cR zaI);refine uC func74 (c:=_) rfl (by kernel_rfl) ?_;have:=Any.sort_Slice_of_pdq SR 148 108 SN sY (by kernel_rfl) (by kernel_rfl) (by kernel_rfl) (by kernel_rfl) 22 (fun _=>by kernel_rfl) (some ⟨lb,0,none⟩) n c (by omega) 157 hf (.func fl) #[] cl w0 (fun w'=>∃M' A',(∃ys cs',ys.Perm xs/\Sd lt 0 n ys/\fX cs' ys/\M'=M/\A'=[.ah lb 108 cs'])/\SH w0 M [lb] M' A' w') ?_
 .exact this.mono fun e w' ⟨h1,M',A',⟨ys,cs',h2,h3,h4,h5,h6⟩,h7⟩=>⟨_,h1,M',A',⟨ys,cs',rfl,h2,h3,h4,h5,h6⟩,h7⟩
 have sK:sliceBound prog 108 sY 22 (some ⟨lb,0,none⟩) n c= #[.slice (some ⟨lb,0,none⟩) n c,typeHandle prog 108]:=by unfold sliceBound;rw[hK,if_neg (by omega)]
 rw[sK];subst hS;refine hp.mono fun e w' ⟨v,e1,M',A',⟨ys,cs',⟨e2,e3,e4⟩,e5,e6,e7⟩,e8⟩=>⟨by rw[e1,e2],M',A',⟨ys,cs',e3,e4,e5,e6,e7⟩,?_⟩;subst e6 e7;have:=SH.join (A:=[.ah lb 108 cs]) (B:=[]) h1 e8;simpa using this
end
end Go.Proofs.YtlfcbbcdiecelaaGreatDoor
