import Derived.Test.YtlfcbbcdiecelaaGreatDoorZ01
namespace Go.Proofs.YtlfcbbcdiecelaaGreatDoor
open Go Go.Proofs.Tryz
set_option maxRecDepth 100000
set_option maxHeartbeats 4000000
set_option linter.all false
section
variable {b o k tx ty n b':Nat}{e:Env}{w w':World}{a:CK}{z:Int}{P:Program}{f:FuncId}{fn:Func}{c:Code}{args vs cs l cs':List Value}{v s x u:Value}{S:List Nat}{T t t':TypeId}{css ys:List (List Value)}
@[reducible]def mk:List (Nat×Value)->Env->Env
 |[],e=>e
 |(s,v)::r,e=>iS (mk r e) s v
def rV(e:Env):List (Nat×Value)->Prop
 |[]=>True
 |(s,v)::r=>e s=v/\rV e r
theorem zfI(e:Env)(s:Nat):iS e s (e s)=e:=by
 funext i;unfold iS;cases h:Nat.beq i s with
 |false=>rfl
 |true=>have:=qaI h;subst this;rfl
theorem F5{e:Env}:∀{l:List (Nat×Value)},rV e l->mk l e=e
 |[],_=>rfl
 |(s,v)::r,h=>by
  obtain⟨h1,h2⟩:=h;simp only[mk];rw[F5 h2,<-h1,zfI]
theorem bN{b:CK}{Q:Exit->Env->World->Prop}{X:Type}(pT:X->List (Nat×Value))(F:X->World->Prop)(μ:X->Nat)(x0:X)
 (h0:rV e (pT x0)) (hF:F x0 w)
 (step:∀x aK w' (N:Env->World->Prop),F x w'->(∀x' gQ eX,rV gQ (pT x')->F x' eX->μ x'<μ x->N gQ eX)->b (wb N Q) (mk (pT x) aK) w'):
 Kz b Q e w:=by
 classical
 let Pr:Env->World->Nat->Prop:=fun e w n=>∃x,rV e (pT x)/\F x w/\μ x<=n
 have wf:∀e w,(∃n,Pr e w n)->∃n,Pr e w n/\∀m,Pr e w m->n<=m:=by
  intro e w ⟨n,hn⟩
  induction n using Nat.strongRecOn with
  |_ n ih=>
   by_cases hx:∃m,m<n/\Pr e w m
   .obtain⟨m,hm,hp⟩:=hx;exact ih m hm hp
   refine⟨n,hn,fun m hp=> ?_⟩;rcases qa1 m n with h|h
   .exact absurd ⟨m,h,hp⟩ hx
   exact h
 let M:Env->World->Nat:=fun e w=>if h:∃n,Pr e w n then Classical.choose (wf e w h)else 0
 refine⟨fun e w=>∃x,rV e (pT x)/\F x w,M,⟨x0,h0,hF⟩,?_⟩;intro e' w' ⟨x1,eL,jD⟩;have hex:∃n,Pr e' w' n:=⟨μ x1,x1,eL,jD,qad _⟩;have hM:M e' w'=Classical.choose (wf e' w' hex):=by simp only[M,hex,dif_pos]
 obtain⟨⟨x,ha,hf,hle⟩,IX⟩:=qb5 (wf e' w' hex);rw[<-hM]at hle IX;have hs:=step x e' w' (fun gQ eX=>(∃x,rV gQ (pT x)/\F x eX)/\M gQ eX<M e' w') hf (by
  intro x' gQ eX iX gh aG;refine⟨⟨x',iX,gh⟩,?_⟩;have Is:∃n,Pr gQ eX n:=⟨μ x',x',iX,gh,qad _⟩;have hM':M gQ eX=Classical.choose (wf gQ eX Is):=by simp only[M,Is,dif_pos]
  have Pi:=(qb5 (wf gQ eX Is)).2;rw[<-hM']at Pi;have h1:=Pi (μ x') ⟨x',iX,gh,qad _⟩;omega)
 rw[F5 ha]at hs;exact hs
@[reducible]def Qx(id:Nat)(Z:Env->World->Prop)(Q:Exit->Env->World->Prop):Exit->Env->World->Prop
 | .exit j,e,w=>bif Nat.beq j id then Z e w else Q (.exit j) e w
 |x,e,w=>Q x e w
theorem zcC(id:Nat)(Q:Exit->Env->World->Prop):Qx id (Q (.exit id)) Q=Q:=by
 funext x e w;cases x<;>try rfl
 rename_i j;show(bif Nat.beq j id then Q (.exit id) e w else Q (.exit j) e w)=Q (.exit j) e w;cases h:Nat.beq j id with
 |false=>rfl
 |true=>rw[qaI h];rfl
theorem fB{b:CK}{Q:Exit->Env->World->Prop}{X Y:Type}(id:Nat)(pT:X->List (Nat×Value))(F:X->World->Prop)(μ:X->Nat)(Js:Y->List (Nat×Value))(JF:Y->World->Prop)(x0:X)
 (h0:rV e (pT x0)) (hF:F x0 w)
 (step:∀x aK w' (N Z:Env->World->Prop),F x w'->(∀x' gQ eX,rV gQ (pT x')->F x' eX->μ x'<μ x->N gQ eX)->(∀y gQ eX,rV gQ (Js y)->JF y eX->Z gQ eX)->b (wb N (Qx id Z Q)) (mk (pT x) aK) w')
 (fin:∀y aK w',JF y w'->Q (.exit id) (mk (Js y) aK) w'):Kz b Q e w:=by
 refine bN pT F μ x0 h0 hF fun x aK w' N hx hN=> ?_;have:=step x aK w' N (Q (.exit id)) hx hN fun y gQ eX ha hy=>by
  have h1:=fin y gQ eX hy
  rwa [F5 ha]at h1
 rwa [zcC]at this
theorem lq{b:CK}{Q:Exit->Env->World->Prop}{X:Type}(pT:X->List (Nat×Value))(F:X->World->Prop)
 (h1:∀N:Env->World->Prop,(∀x gQ eX,rV gQ (pT x)->F x eX->N gQ eX)->a (wb N Q) e w)
 (h2:∀x aK w',F x w'->b Q (mk (pT x) aK) w'):DW a b Q e w:=
 h1 (b Q) fun x gQ eX ha hf=>by have:=h2 x gQ eX hf;rwa [F5 ha]at this
theorem G7{b:CK}{Q:Exit->Env->World->Prop}(h:a (wb (b Q) Q) e w):DW a b Q e w:=h
theorem TF(h0: -9223372036854775808<=z)(h1:z<=9223372036854775807):IntKind.i64.wrap z=z:=by
 rw[IntKind.wrap_i64];omega
theorem uC{K:Value->World->Prop}(hf:P.funcs[f]? =some fn)(hb:fn.body=some c)
 (hn:(fn.name != "runtime.NumGoroutine")=true) (h:Calls P f args.toArray w fun en w'=>∃v,en= .returned v/\K v w'):az P f args w K:=by
 unfold az;have pz:(callFunc f args.toArray).run P w= .ok (.enter f args.toArray) w:=by
  have:fn.name≠ "runtime.NumGoroutine" :=by simpa using hn
  simp[callFunc,hf,this,hb]
 rw[pz];exact h
theorem qa{K:Value->World->Prop}(hf:P.funcs[f]? =some fn)(hb:fn.body=some c)
 (hn:(fn.name != "runtime.NumGoroutine")=true) (h:az P f args w K):Calls P f args.toArray w fun en w'=>∃v,en= .returned v/\K v w':=by
 unfold az at h;have pz:(callFunc f args.toArray).run P w= .ok (.enter f args.toArray) w:=by
  have:fn.name≠ "runtime.NumGoroutine" :=by simpa using hn
  simp[callFunc,hf,this,hb]
 rw[pz]at h;exact h
theorem Ht{K:Value->World->Prop}(h:(callFunc f args.toArray).run P w= .ok (.value v) w')(hk:K v w'):az P f args w K:=by
 unfold az;rw[h];exact hk
structure Mem where
 cell:Nat->Nat->Option Value
 own:Nat->Prop
structure Mem.Le(M N:Mem):Prop where
 cell:∀b o v,M.cell b o=some v->N.cell b o=some v
 own:∀b,M.own b->N.own b
def Wm(w:World):Mem:=⟨fun b o=>w.cell? ⟨b,o,none⟩,iE w⟩
theorem Mem.Le.refl(M:Mem):M.Le M:=⟨fun _ _ _ h=>h,fun _ h=>h⟩
theorem Mem.Le.trans{M N O:Mem}(h:M.Le N)(h':N.Le O):M.Le O:=⟨fun b o v hc=>h'.cell b o v (h.cell b o v hc),fun b hb=>h'.own b (h.own b hb)⟩
def Rw(M:Mem)(b o:Nat)(vs:List Value):Prop:=∀i v,vs[i]? =some v->M.cell b (o+i)=some v
structure Bk(M:Mem)(b:Nat)(cs:List Value):Prop where
 rw:Rw M b 0 cs
 own:M.own b
theorem Rw.le{M N:Mem}(h:Rw M b o vs)(hl:M.Le N):Rw N b o vs:=fun i v hi=>hl.cell _ _ _ (h i v hi)
theorem Bk.le{M N:Mem}(h:Bk M b vs)(hl:M.Le N):Bk N b vs:=⟨h.rw.le hl,hl.own _ h.own⟩
theorem Rw.sub{M:Mem}(h:Rw M b o cs)(k:Nat)(vs:List Value)(hd:(cs.drop k).take vs.length=vs):Rw M b (o+k) vs:=by
 intro i v hi;have aG:=(qab.1 hi).1;have:((cs.drop k).take vs.length)[i]? =some v:=by rw[hd];exact hi
 rw[qbG,if_pos aG,List.getElem?_drop]at this;have:=h (k+i) v this
 rwa [Nat.add_assoc]
theorem Bk.at{M:Mem}{b:Nat}{cs:List Value}(h:Bk M b cs)(i:Nat){v:Value}(hv:cs[i]? =some v):M.cell b i=some v:=by
 have:=h.rw i v hv;rwa [qbm]at this
theorem iE.fr(h:iE w b)(hf:Fr S w w')(hb:b∉S):iE w' b:=by
 obtain⟨c,t,h⟩:=h;have aG:b<w.heap.size:=(qaM.1 h).1;exact⟨c,t,by rw[hf.iB b aG hb];exact h⟩
def bQ{α:Type}(M:Mem)(k:Nat)(R:α->List Value->Prop)(a:Option Addr)(xs:List α):Prop:=
 ∀(i:Nat) (x:α),xs[i]? =some x->∃b o cs,a=some ⟨b,o,none⟩/\cs.length=k/\Rw M b (o+i*k) cs/\R x cs
theorem bQ.at{α:Type}{M:Mem}{R:α->List Value->Prop}{a:Option Addr}{xs:List α}(h:bQ M k R a xs){i:Nat}(hi:i<xs.length):
 ∃b o cs,a=some ⟨b,o,none⟩/\cs.length=k/\Rw M b (o+i*k) cs/\R xs[i] cs:=h i xs[i] (by simp[hi])
theorem bQ.mono{α:Type}{M N:Mem}{R R':α->List Value->Prop}{a:Option Addr}{xs:List α}(h:bQ M k R a xs)(hl:M.Le N)(hr:∀x∈xs,∀cs,R x cs->R' x cs):bQ N k R' a xs:=by
 intro i x hi;obtain⟨b,o,cs,h1,h2,h3,h4⟩:=h i x hi;exact⟨b,o,cs,h1,h2,h3.le hl,hr x (qax hi) cs h4⟩
theorem bQ.nil{α:Type}(M:Mem)(k:Nat)(R:α->List Value->Prop)(a:Option Addr):bQ M k R a ([]:List α):=fun i x hi=>by simp at hi
def Sl{α:Type}(M:Mem)(k:Nat)(R:α->List Value->Prop)(v:Value)(xs:List α):Prop:=
 ∃a cap,v= .slice a xs.length cap/\xs.length<=cap/\bQ M k R a xs
theorem Sl.mono{α:Type}{M N:Mem}{R R':α->List Value->Prop}{xs:List α}(h:Sl M k R v xs)(hl:M.Le N)(hr:∀x∈xs,∀cs,R x cs->R' x cs):Sl N k R' v xs:=by
 obtain⟨a,cap,h1,h2,h3⟩:=h;exact⟨a,cap,h1,h2,h3.mono hl hr⟩
theorem Sl.nil{α:Type}(M:Mem)(k:Nat)(R:α->List Value->Prop):Sl M k R (.slice none 0 0) ([]:List α):=⟨none,0,rfl,qad _,bQ.nil _ _ _ _⟩
theorem Sl.one{α:Type}{M:Mem}{R:α->List Value->Prop}{x:α}(hb:Bk M b cs)(hl:cs.length=k)(hx:R x cs):Sl M k R (.slice (some ⟨b,0,none⟩) 1 1) [x]:=by
 refine⟨_,1,rfl,qad _,fun i y hi=> ?_⟩;cases i with
 |zero=>simp at hi;subst hi;exact⟨b,0,cs,rfl,hl,by simpa using hb.rw,hx⟩
 |succ i=>simp at hi
def gz(x cs:List Value):Prop:=cs=x
structure eG(w:World)(k:Nat)(T:TypeId)(v:Value)(css:List (List Value)):Prop where
 len:∀cs∈css,cs.length=k
 own:w.ownsRow 0 T k v css.length css.flatten
def cZ(v:Value):List Nat:=v.ownBlock.toList
theorem Al{k:Nat}:∀{css:List (List Value)},(∀cs∈css,cs.length=k)->css.flatten.length=css.length*k
 |[],_=>by simp
 |cs::css,h=>by
  have h1:=h cs qal;have h2:=Al (css:=css) (k:=k) (fun c hc=>h c (qag _ hc));simp only[List.flatten_cons,qar,qaO,qbr];omega
theorem yn{k:Nat}:∀{css:List (List Value)} {i:Nat} {cs:List Value},(∀cs∈css,cs.length=k)->css[i]? =some cs->∀j v,cs[j]? =some v->css.flatten[i*k+j]? =some v
 |[],i,cs,_,hi,_,_,_=>by simp at hi
 |c::css,0,cs,h,hi,j,v,hj=>by
  simp at hi;subst hi;simp only[List.flatten_cons,Nat.zero_mul,qbm];rw[qbi (qab.1 hj).1];exact hj
 |c::css,i+1,cs,h,hi,j,v,hj=>by
  simp at hi;have:=yn (fun c hc=>h c (by simp[hc])) hi j v hj;simp only[List.flatten_cons];have hl:=h c (by simp);rw[qbA (by rw[hl,qbr];omega),hl,show(i+1)*k+j-k=i*k+j by rw[qbr];omega];exact this
theorem eG.nil(w:World)(k:Nat)(T:TypeId):eG w k T (.slice none 0 0) []:=⟨by simp,World.ownsRow_nil w 0 T k⟩
theorem eG.open_(h:eG w k T v css):
 (v= .slice none 0 0/\css=[])\/∃g cap,v= .slice (some ⟨g,0,none⟩) css.length cap/\css.length<=cap/\iE w g/\Row w g 0 css.flatten:=by
 obtain⟨he,ho⟩:=h;rcases ho.2 with⟨h1,h2⟩|⟨g,cap,cur,h1,_,hg,h2,_,_,_⟩
 .exact .inl ⟨h1,qaD h2⟩
 refine .inr ⟨g,cap,h1,h2,⟨_,_,hg⟩,fun i v hi=> ?_⟩;have:=ho.cells (g:=g) (by rw[h1];rfl) i v hi
 rwa [qb2]at this
theorem eG.shape(h:eG w k T v css):∃a cap,v= .slice a css.length cap/\css.length<=cap:=by
 rcases h.open_ with⟨rfl,rfl⟩|⟨g,cap,rfl,hc,_⟩
 .exact⟨none,0,rfl,qad _⟩
 exact⟨_,cap,rfl,hc⟩
theorem eG.fr(h:eG w k T v css)(hf:Fr S w w')(hb:∀b∈cZ v,b∉S):eG w' k T v css:=by
 obtain⟨he,ho⟩:=h;refine⟨he,ho.1,?_⟩;rcases ho.2 with hn|⟨g,cap,cur,rfl,Ia,hg,rest⟩
 .exact .inl hn
 refine .inr ⟨g,cap,cur,rfl,Ia,?_,rest⟩;rw[hf.iB g (qaM.1 hg).1 (hb g (by simp[cZ,Value.ownBlock]))];exact hg
theorem eG.UR(h:eG w k T v css):∀b∈cZ v,b<w.heap.size:=by
 obtain⟨he,ho⟩:=h;intro b hb;exact(ho.lt b (by simpa[cZ]using hb)).2
theorem Fr.RO(h:w.grownBy w' v.ownBlock)(hd:w.drawn<=w'.drawn):Fr (cZ v) w w':=
 ⟨h.size,fun b hb hn=>h.block b hb (fun e=>hn (by simp[cZ,<-e])),h.os,h.tape,h.output,hd⟩
def h_(P:Program)(t tx:TypeId)(e k b:Nat):Bool:=
 Nat.beq t tx&& !(Nat.beq k 0)&&(match P.underlying t with
  |some (.slice e')=>Nat.beq e e'
  |_=>false)&&(match P.info? e with
  |some i=>Nat.beq i.size k&&Nat.beq i.bytes b&&(match i.zero with
   |some z=>Nat.beq z.cells.size k
   |none=>false)
  |none=>false)
theorem Mi{t e:Nat}(h:h_ P t tx e k b=true):tx=t/\0<k/\P.underlying t=some (.slice e)/\∃i z,P.info? e=some i/\i.zero=some z/\i.size=k/\i.bytes=b/\z.cells.size=k:=by
 unfold h_ at h;simp only[qbn]at h;obtain⟨⟨⟨h1,h2⟩,h3⟩,h4⟩:=h;refine⟨(qaI h1).symm,?_,?_,?_⟩
 .cases k with
  |zero=>simp at h2
  |succ n=>omega
 .split at h3
  .rename_i e' he;rw[he,qaI h3]
  simp at h3
 split at h4
 .rename_i i hi;simp only[qbn]at h4;obtain⟨⟨h5,h6⟩,h7⟩:=h4;split at h7
  .rename_i z hz;exact⟨i,z,hi,hz,qaI h5,qaI h6,qaI h7⟩
  simp at h7
 simp at h4
def Src(w:World)(k:Nat)(x:Value)(css:List (List Value)):Prop:=
 (∀cs∈css,cs.length=k)/\∃a cap,x= .slice a css.length cap/\(css=[]\/∃b o,a=some ⟨b,o,none⟩/\Row w b o css.flatten)
theorem ll.K8{t e:Nat}{xs:List (List Value)}{K:Value->World->Prop}(cQ:h_ P t tx e k b=true)
 (hs:eG w k e s xs) (hx:Src w k x ys) (h1:∀cs∈ys,∀u∈cs,u.oneCell'=true) (hb:(xs.length+ys.length)*(b+1)<=140737488355328)
 (hk:∀v w',eG w' k e v (xs++ys)->Fr (cZ s) w w'->(∀g∈cZ v,g∈cZ s\/w.heap.size<=g)->K v w'):ll P t tx ty s x w K:=by
 obtain⟨rfl,C2,ht,i,z,hi,hz,dF,cL,mC⟩:=Mi cQ;obtain⟨he,ho⟩:=hs;have iM:xs.length+ys.length<=140737488355328:=qaQ (Nat.le_mul_of_pos_right _ (by omega)) hb;have mt:(xs.length+ys.length)*b<=140737488355328:=qaQ (Nat.mul_le_mul_left _ (by omega)) hb;obtain⟨gH,a,cap,rfl,jX⟩:=hx;have Fo:=Al he;have c_:=Al gH;rcases jX with rfl|⟨bx,ox,rfl,rF⟩
 .unfold ll;refine⟨s,w,?_,hk s w ?_ (Fr.refl w|>.nil) fun g hg=> .inl hg⟩
  .have key:∃bs cs,s= .slice bs xs.length cs/\xs.length<=cs/\(bs=none\/∃g,bs=some ⟨g,0,none⟩):=by
    rcases ho.2 with⟨h,h0⟩|⟨g,cap,cur,h,_,hg,h2,_⟩
    .exact⟨none,0,by rw[h,h0],by omega,.inl rfl⟩
    exact⟨_,cap,h,h2,.inr ⟨g,rfl⟩⟩
   obtain⟨bs,cs,rfl,hle,ge⟩:=key;have hf:∀a',(Builtin.firstCells i.size 0 (.slice a' 0 cap)).run P w= .ok #[] w:=by
    intro a';cases a' with
    |none=>exact run_firstCells_none w _ _ _ _
    |some q=>exact run_firstCells_some w _ _ _ _ _ [] (by simp) (by simp)
   rcases ge with rfl|⟨g,rfl⟩<;>
    simp[Builtin.append_,qas ht,sizeOf,typeInfo,hi,Builtin.lenOf,hle,hf,storeCells]
  simpa using⟨he,ho⟩
 have qv:∀u∈ys.flatten,u.oneCell'=true:=by
  intro u hu;obtain⟨cs,d9,hu⟩:=List.mem_flatten.1 hu;exact h1 cs d9 u hu
 obtain⟨v',w',mA,fG,ny,_⟩:=run_append_own (P:=P) w 0 tx ty e i z k b ht hi hz dF cL mC C2 s xs.length xs.flatten ho ⟨bx,ox,none⟩ ys.length cap ys.flatten c_
  (fun j u hj=>by rw[qb2];exact rF j u hj) qv (by unfold maxLen;omega) mt (qae _)
 unfold ll;refine⟨v',w',mA,hk v' w' ⟨fun cs hc=> ?_,?_⟩ (Fr.RO ny (Sc _ mA)) ?_⟩
 .rcases qah.1 hc with h|h
  .exact he cs h
  exact gH cs h
 .rw[List.flatten_append,qar];exact fG
 intro g hg;rcases qa1 g w.heap.size with aG|aY
 .left;have hv:v'.ownBlock=some g:=by simpa[cZ]using hg
  have nF:∀j u,ys.flatten[j]? =some u->w.cell? ((⟨bx,ox,none⟩:Addr).add j)=some u:=fun j u hj=>by rw[qb2];exact rF j u hj
  rcases ho.2 with⟨dR,O5⟩|⟨g',wz,cur,fH,_,tL,qt,_,d9,zgA⟩
  .obtain⟨v2,w2,PH,zbO,_,_⟩:=run_append_own (P:=P) w w.heap.size tx ty e i z k b ht hi hz dF cL mC C2 (.slice none 0 0) 0 [] (World.ownsRow_nil w _ _ _) ⟨bx,ox,none⟩ ys.length cap ys.flatten c_ nF qv (by unfold maxLen;omega) (qaQ (qaJ _ (by omega)) mt) (qad _);rw[dR]at mA;rw[mA]at PH;obtain⟨rfl,rfl⟩:v'=v2/\w'=w2:=by simpa using PH
   have:=(zbO.lt g hv).1;omega
  subst fH;simp only[cZ,Value.ownBlock,qa9,qac];by_cases PE:xs.length+ys.length<=wz
  .have za9:xs.length*i.size+ys.flatten.length<=cur.size:=by rw[c_,d9,dF,<-Nat.add_mul];exact qaJ _ PE
   have hr:=run_append_room (P:=P) w tx ty e i ht hi g' xs.length wz cur tL ⟨bx,ox,none⟩ ys.length cap ys.flatten (by rw[dF];exact c_) nF qv PE za9;rw[mA]at hr;obtain⟨rfl,_⟩:=by simpa using hr
   simpa[Value.ownBlock]using hv.symm
  have hold:∀j u,xs.flatten[j]? =some u->w.cell? ((⟨g',0,none⟩:Addr).add j)=some u:=ho.cells (g:=g') rfl;have hr:=run_append_grow (P:=P) w tx ty e i z ht hi hz ⟨g',0,none⟩ xs.length wz xs.flatten (by rw[dF];exact Fo) hold ⟨bx,ox,none⟩ ys.length cap ys.flatten (by rw[dF];exact c_) nF (by omega) (by omega) (growslice_fits (by omega) (by rw[cL];exact mt));rw[mA]at hr;obtain⟨rfl,_⟩:=by simpa using hr
  simp[Value.ownBlock]at hv;omega
 exact .inr aY
inductive aB where
 |ah (b:Nat) (t:TypeId) (cs:List Value)
 |part (b:Nat) (t:TypeId) (cs:List Value) (o:Nat)
 |own (v:Value) (k:Nat) (T:TypeId) (css:List (List Value))
 |map (b:Nat) (es:Array MapEntry)
 |raw (b:Nat) (o:Obj)
namespace aB
@[reducible]def bX:aB->List Nat
 |ah b _ _=>[b]
 |part b _ _ _=>[b]
 |own v _ _ _=>cZ v
 |map b _=>[b]
 |raw b _=>[b]
def jf:aB->Nat->Nat->Prop
 |ah b _ _,b',_=>b'=b
 |part b _ _ o,b',o'=>b'=b/\o'=o
 |own v _ _ _,b',_=>b'∈cZ v
 |map b _,b',_=>b'=b
 |raw b _,b',_=>b'=b
def yq:aB->Nat->Prop
 |own v _ _ _,b=>b∈cZ v
 |_,_=>False
theorem wG:∀{e:aB} {b:Nat},e.yq b->b∈e.bX
 |ah _ _ _,_,h=>h.elim
 |part _ _ _ _,_,h=>h.elim
 |own _ _ _ _,_,h=>h
 |map _ _,_,h=>h.elim
 |raw _ _,_,h=>h.elim
def holds(w:World):aB->Prop
 |ah b t cs=>a_ w b t cs
 |part b t cs _=>a_ w b t cs
 |own v k T css=>eG w k T v css
 |map b es=>wo w b es
 |raw b o=>w.heap[b]? =some o
theorem lt:∀{e:aB},e.holds w->∀b∈e.bX,b<w.heap.size
 |ah _ _ _,h,b,hb=>by simp[bX]at hb;subst hb;exact a_.lt h
 |part _ _ _ _,h,b,hb=>by simp[bX]at hb;subst hb;exact a_.lt h
 |own _ _ _ _,h,b,hb=>eG.UR h b hb
 |map _ _,h,b,hb=>by
  simp[bX]at hb;subst hb;obtain⟨bJ,h,_⟩:=h;exact(qaM.1 h).1
 |raw _ _,h,b,hb=>by
  simp[bX]at hb;subst hb;exact(qaM.1 h).1
theorem fr(hf:Fr S w w'):∀{e:aB},e.holds w->(∀b∈e.bX,b∉S)->e.holds w'
 |ah _ _ _,h,hb=>a_.fr h hf (hb _ (by simp[bX]))
 |part _ _ _ _,h,hb=>a_.fr h hf (hb _ (by simp[bX]))
 |own _ _ _ _,h,hb=>eG.fr h hf hb
 |map b _,h,hb=>by
  obtain⟨bJ,h,hs⟩:=h;exact⟨bJ,by rw[hf.iB b (qaM.1 h).1 (hb b (by simp[bX]))];exact h,hs⟩
 |raw b o,h,hb=>by
  show _=some o;rw[hf.iB b (qaM.1 h).1 (hb b (by simp[bX]))];exact h
theorem wA:∀{e:aB} {b o:Nat},e.jf b o->b∈e.bX
 |ah _ _ _,_,_,h=>by simp[jf]at h;simp[bX,h]
 |part _ _ _ _,_,_,h=>by simp[jf]at h;simp[bX,h.1]
 |own _ _ _ _,_,_,h=>h
 |map _ _,_,_,h=>by simp[jf]at h;simp[bX,h]
 |raw _ _,_,_,h=>by simp[jf]at h;simp[bX,h]
end aB
def jv(e e':aB):Prop:=∀b∈e.bX,b∉e'.bX
theorem jv.symm{e e':aB}(h:jv e e'):jv e' e:=fun b hb aW=>h b aW hb
inductive Pk:List aB->aB->List aB->Prop where
 |here {e:aB} {L:List aB}:Pk (e::L) e L
 |there {e x:aB} {L L':List aB} (h:Pk L e L'):Pk (x::L) e (x::L')
inductive Up:List aB->aB->aB->List aB->Prop where
 |here {e e':aB} {L:List aB}:Up (e::L) e e' (e'::L)
 |there {e e' x:aB} {L L':List aB} (h:Up L e e' L'):Up (x::L) e e' (x::L')
inductive xX:List aB->List aB->Prop where
 |nil {L:List aB}:xX L []
 |cons {L L1 L':List aB} {e:aB} (h:Pk L e L1) (h':xX L1 L'):xX L (e::L')
inductive fQ:List Value->Nat->Value->List Value->Prop where
 |here {v u:Value} {l:List Value}:fQ (v::l) 0 u (u::l)
 |there {v u:Value} {l l':List Value} {n:Nat} (h:fQ l n u l'):fQ (v::l) (n+1) u (v::l')
theorem fQ.set{l':List Value}(h:fQ l n u l'):l'=l.set n u/\n<l.length:=by
 induction h with
 |here=>exact⟨rfl,by simp⟩
 |there _ ih=>exact⟨by rw[ih.1];rfl,by simp;exact ih.2⟩
theorem fQ.of(h:n<l.length):fQ l n u (l.set n u):=by
 induction l generalizing n with
 |nil=>simp at h
 |cons x l ih=>cases n with
  |zero=>exact .here
  |succ n=>exact .there (ih (by simpa using h))
theorem Pk.mem{L L':List aB}{e:aB}(h:Pk L e L'):e∈L:=by
 induction h with
 |here=>simp
 |there _ ih=>simp[ih]
theorem Pk.sub{L L':List aB}{e:aB}(h:Pk L e L'):∀x∈L',x∈L:=by
 induction h with
 |here=>intro x hx;simp[hx]
 |there _ ih=>
  intro x hx;rcases qan.1 hx with rfl|hx
  .simp
  simp[ih x hx]
theorem Pk.all{L L':List aB}{e:aB}(h:Pk L e L'):∀x∈L,x=e\/x∈L':=by
 induction h with
 |here=>intro x hx;simpa using hx
 |there _ ih=>
  intro x hx;rcases qan.1 hx with rfl|hx
  .right;simp
  rcases ih x hx with h|h
  .exact .inl h
  right;simp[h]
theorem Pk.pd{L L':List aB}{e:aB}(h:Pk L e L')(hp:L.Pairwise jv):(e::L').Pairwise jv:=by
 induction h with
 |here=>exact hp
 |there h ih=>
  rename_i e x L L';rw[qau]at hp;have h1:=ih hp.2;rw[qau]at h1;rw[qau,qau];refine⟨?_,fun y hy=>hp.1 y (h.sub y hy),h1.2⟩;intro y hy;rcases qan.1 hy with rfl|hy
  .exact(hp.1 e h.mem).symm
  exact h1.1 y hy
theorem Up.pk{L L':List aB}{e e':aB}(h:Up L e e' L'):∃L1,Pk L e L1/\Pk L' e' L1:=by
 induction h with
 |here=>exact⟨_,.here,.here⟩
 |there _ ih=>obtain⟨L1,h1,h2⟩:=ih;exact⟨_,.there h1,.there h2⟩
theorem Pk.pd'{L L':List aB}{e:aB}(h:Pk L e L')(hp:(e::L').Pairwise jv):L.Pairwise jv:=by
 induction h with
 |here=>exact hp
 |there h ih=>
  rename_i e x L L';rw[qau,qau]at hp;have h0:=hp.1;rw[qau];refine⟨?_,ih (qau.2 ⟨fun y hy=>h0 y (by simp[hy]),hp.2.2⟩)⟩;intro y hy;rcases h.all y hy with rfl|hy
  .exact(h0 x (by simp)).symm
  exact hp.2.1 y hy
structure SH(u:World)(M0:Mem)(D:List Nat)(M:Mem)(L:List aB)(w:World):Prop where
 fr:Fr D u w
 dG:M0.Le M
 le:M.Le (Wm w)
 new:∀b o v,M.cell b o=some v->M0.cell b o=some v\/u.heap.size<=b\/b∈D
 kI:∀b,M.own b->M0.own b\/u.heap.size<=b\/b∈D
 off:∀e∈L,∀b o,e.jf b o->M.cell b o=none
 mF:∀e∈L,∀b,e.yq b->¬M.own b
 iG:∀e∈L,∀b∈e.bX,b∈D\/u.heap.size<=b
 pd:L.Pairwise jv
 ok:∀e∈L,e.holds w
structure Gr(M:Mem)(w:World)(M':Mem)(w':World):Prop where
 fr:Fr [] w w'
 le:M.Le M'
 qD:M'.Le (Wm w')
 new:∀b o v,M'.cell b o=some v->M.cell b o=some v\/w.heap.size<=b
 kI:∀b,M'.own b->M.own b\/w.heap.size<=b
theorem iE.lt(h:iE w b):b<w.heap.size:=by
 obtain⟨c,t,h⟩:=h;exact(qaM.1 h).1
theorem Mem.Le.fr{M:Mem}(h:M.Le (Wm w))(hf:Fr S w w')(hS:∀b∈S,(∀o,M.cell b o=none)/\(M.own b->iE w' b)):M.Le (Wm w'):=by
 refine⟨fun b o v hc=> ?_,fun b hb=> ?_⟩
 .by_cases ge:b∈S
  .rw[(hS b ge).1 o]at hc;simp at hc
  exact tB (h.cell b o v hc) hf ge
 by_cases ge:b∈S
 .exact(hS b ge).2 hb
 exact iE.fr (h.own b hb) hf ge
theorem Mem.Le.CA{M:Mem}(h:M.Le (Wm w))(hf:Fr [] w w'):M.Le (Wm w'):=h.fr hf (by simp)
theorem Gr.of{M:Mem}(h:M.Le (Wm w))(hf:Fr [] w w'):Gr M w M w':=⟨hf,.refl _,h.CA hf,fun _ _ _ h=> .inl h,fun _ h=> .inl h⟩
theorem Gr.trans{M M1 M2:Mem}{w1 w2:World}(h:Gr M w M1 w1)(h':Gr M1 w1 M2 w2):Gr M w M2 w2:=
 ⟨h.fr.D7 h'.fr,h.le.trans h'.le,h'.qD,fun b o v hc=>by
  rcases h'.new b o v hc with h1|h1
  .exact h.new b o v h1
  .right;have:=h.fr.size;omega,fun b hb=>by
  rcases h'.kI b hb with h1|h1
  .exact h.kI b h1
  right;have:=h.fr.size;omega⟩
namespace SH
variable {u:World}{M0:Mem}{D:List Nat}{M:Mem}{L:List aB}{w:World}
theorem start(hM:M.Le (Wm w)):SH w M [] M [] w:=
 ⟨Fr.refl w,.refl M,hM,fun _ _ _ h=> .inl h,fun _ h=> .inl h,by simp,by simp,by simp,.nil,by simp⟩
theorem gr(h:SH u M0 [] M L w):Gr M0 u M w:=⟨h.fr,h.dG,h.le,fun b o v hc=>by simpa using h.new b o v hc,fun b hb=>by simpa using h.kI b hb⟩
theorem CA(h:SH u M0 [] M L w):Fr [] u w:=h.fr
theorem size(h:SH u M0 D M L w):u.heap.size<=w.heap.size:=h.fr.size
theorem sub(h:SH u M0 D M L w){L':List aB}(hs:∀e∈L',e∈L)(hp:L'.Pairwise jv):SH u M0 D M L' w:=
 ⟨h.fr,h.dG,h.le,h.new,h.kI,fun e he=>h.off e (hs e he),fun e he=>h.mF e (hs e he),fun e he=>h.iG e (hs e he),hp,fun e he=>h.ok e (hs e he)⟩
theorem pk(h:SH u M0 D M L w){e:aB}{L':List aB}(hp:Pk L e L'):SH u M0 D M (e::L') w:=
 h.sub (fun x hx=>by rcases qan.1 hx with rfl|hx;exact hp.mem;exact hp.sub x hx) (hp.pd h.pd)
theorem LH{e:aB}{L':List aB}(hp:Pk L e L')(h:SH u M0 D M (e::L') w):SH u M0 D M L w:=
 h.sub (fun x hx=>by rcases hp.all x hx with rfl|hx;exact qal;exact qag _ hx) (hp.pd' h.pd)
theorem tail{e:aB}(h:SH u M0 D M (e::L) w):SH u M0 D M L w:=h.sub (fun x hx=>qag _ hx) (qau.1 h.pd).2
theorem aF{L':List aB}(h:SH u M0 D M L w)(hs:xX L L':=by repeat(first|exact xX.nil|refine xX.cons (by repeat(first|exact Pk.here|apply Pk.there)) ?_)):SH u M0 D M L' w:=by
 have key:∀{L L':List aB},xX L L'->(∀x∈L',x∈L)/\(L.Pairwise jv->L'.Pairwise jv):=by
  intro L L' hs
  induction hs with
  |nil=>exact⟨by simp,fun _=> .nil⟩
  |cons hp _ ih=>
   refine⟨fun x hx=> ?_,fun hq=> ?_⟩
   .rcases qan.1 hx with rfl|hx
    .exact hp.mem
    exact hp.sub x (ih.1 x hx)
   have h1:=hp.pd hq;rw[qau]at h1⊢;exact⟨fun x hx=>h1.1 x (ih.1 x hx),ih.2 h1.2⟩
 exact h.sub (key hs).1 ((key hs).2 h.pd)
theorem lt(h:SH u M0 D M L w){e:aB}(he:e∈L)(hb:b∈e.bX):b<w.heap.size:=aB.lt (h.ok e he) b hb
theorem lu(h:SH u M0 D M L w)(hf:Fr [] w w'):SH u M0 D M L w':=
 ⟨h.fr.D7 hf,h.dG,h.le.CA hf,h.new,h.kI,h.off,h.mF,h.iG,h.pd,fun e he=>aB.fr hf (h.ok e he) (by simp)⟩
theorem grow{M':Mem}(h:SH u M0 D M L w)(hg:Gr M w M' w'):SH u M0 D M' L w':=
 ⟨h.fr.D7 hg.fr,h.dG.trans hg.le,hg.qD,fun b o v hc=>by
  rcases hg.new b o v hc with h1|h1
  .exact h.new b o v h1
  .right;left;have:=h.fr.size;omega,
  fun b hb=>by
   rcases hg.kI b hb with h1|h1
   .exact h.kI b h1
   right;left;have:=h.fr.size;omega,
  fun e he b o hm=>by
   cases hc:M'.cell b o with
   |none=>rfl
   |some v=>
    rcases hg.new b o v hc with h1|h1
    .rw[h.off e he b o hm]at h1;simp at h1
    have:=h.lt he (aB.wA hm);omega,
  fun e he b hb hm=>by
   rcases hg.kI b hm with h1|h1
   .exact h.mF e he b hb h1
   have:=h.lt he (aB.wG hb);omega,
  h.iG,h.pd,fun e he=>aB.fr hg.fr (h.ok e he) (by simp)⟩
theorem add{e:aB}(h:SH u M0 D M L w)(hf:Fr [] w w')(he:e.holds w')(hn:∀b∈e.bX,w.heap.size<=b):SH u M0 D M (e::L) w':=by
 have h':=h.lu hf;refine⟨h'.fr,h.dG,h'.le,h.new,h.kI,?_,?_,?_,?_,?_⟩;rotate_left 1
 .intro x hx b hb hm;rcases qan.1 hx with rfl|hx
  .have h1:=(h.le.own b hm).lt;have:=hn b (aB.wG hb);omega
  exact h.mF x hx b hb hm
 rotate_right 1
 .intro x hx b o hm;rcases qan.1 hx with rfl|hx
  .cases hc:M.cell b o with
   |none=>rfl
   |some v=>
    have h1:=h.le.cell b o v hc;have h2:b<w.heap.size:=qbV w _ h1;have:=hn b (aB.wA hm);omega
  exact h.off x hx b o hm
 .intro x hx b hb;rcases qan.1 hx with rfl|hx
  .right;have:=hn b hb;have:=h.size;omega
  exact h.iG x hx b hb
 .rw[qau];refine⟨fun x hx b hb aW=> ?_,h.pd⟩;have:=hn b hb;have:=h.lt hx aW;omega
 intro x hx;rcases qan.1 hx with rfl|hx
 .exact he
 exact h'.ok x hx
theorem s6{e e':aB}(h:SH u M0 D M (e::L) w)(hf:Fr e.bX w w')(he:e'.holds w')(CT:∀b∈e'.bX,b∈e.bX\/w.heap.size<=b)
 (hM:M.Le (Wm w')) (hm:∀b o,e'.jf b o->M.cell b o=none) (IZ:∀b,e'.yq b->¬M.own b):SH u M0 D M (e'::L) w':=by
 have hp:=qau.1 h.pd;refine⟨h.fr.trans' hf fun b hb=>h.iG e qal b hb,h.dG,hM,h.new,h.kI,?_,?_,?_,?_,?_⟩;rotate_left 1
 .intro x hx b hb lL;rcases qan.1 hx with rfl|hx
  .exact IZ b hb lL
  exact h.mF x (qag _ hx) b hb lL
 rotate_right 1
 .intro x hx b o lL;rcases qan.1 hx with rfl|hx
  .exact hm b o lL
  exact h.off x (qag _ hx) b o lL
 .intro x hx b hb;rcases qan.1 hx with rfl|hx
  .rcases CT b hb with h1|h1
   .exact h.iG e qal b h1
   right;have:=h.size;omega
  exact h.iG x (qag _ hx) b hb
 .rw[qau];refine⟨fun x hx b hb aW=> ?_,hp.2⟩;rcases CT b hb with h1|h1
  .exact hp.1 x hx b h1 aW
  have:=h.lt (qag _ hx) aW;omega
 intro x hx;rcases qan.1 hx with rfl|hx
 .exact he
 exact aB.fr hf (h.ok x (qag _ hx)) fun b hb aW=>hp.1 x hx b aW hb
theorem fK(h:SH u M0 D M L w){L':List aB}(hp:Pk L (.ah b t cs) L'):a_ w b t cs:=h.ok _ hp.mem
theorem rS{L':List aB}(h:SH u M0 D M L w)(hu:Up L (.ah b t cs) (.ah b t cs') L')(hf:Fr [b] w w')(hb:a_ w' b t cs'):SH u M0 D M L' w':=by
 obtain⟨L1,h1,h2⟩:=hu.pk;have h0:=h.pk h1;refine LH h2 (h0.s6 (e':= .ah b t cs') hf hb (fun b' aW=> .inl aW) (h.le.fr hf fun b' aW=> ?_) (fun b' o hm=>h.off _ h1.mem b' o hm) fun _ hg=>hg.elim);simp only[qac]at aW;subst aW;exact⟨fun o=>h.off _ h1.mem b' o rfl,fun _=>hb.own⟩
theorem ne(h:SH u M0 D M L w){e:aB}(he:e∈L)(hc:M.cell b o=some v)(hm:∀o,e.jf b' o):b≠b':=fun hb=>by
 subst hb;rw[h.off e he b o (hm o)]at hc;simp at hc
theorem xA(h:SH u M0 D M L w)(b':Nat){L':List aB}(hp:Pk L (.ah b' t cs) L':=by repeat(first|exact Pk.here|apply Pk.there))(hc:M.cell b o=some v):b∉[b']:=by
 simpa using h.ne hp.mem hc (fun _=>rfl)
theorem Bo(h:SH u M0 D M L w){L1 L2:List aB}(hp:Pk L (.ah b t cs) L1:=by repeat(first|exact Pk.here|apply Pk.there))(hq:Pk L1 (.ah b' t' cs') L2:=by repeat(first|exact Pk.here|apply Pk.there)):b∉[b']:=by
 have h1:=qau.1 (hp.pd h.pd);exact h1.1 _ hq.mem b (by simp)
theorem F9(h:SH u M0 D M L w){L1 L2 L3:List aB}(hp:Pk L (.ah b t cs) L1:=by repeat(first|exact Pk.here|apply Pk.there))(hq:Pk L1 (.ah b' t' cs') L2:=by repeat(first|exact Pk.here|apply Pk.there))(hr:Pk L1 (.own v k T css) L3:=by repeat(first|exact Pk.here|apply Pk.there)):b∉b'::cZ v:=by
 have h1:=qau.1 (hp.pd h.pd);intro hm;rcases qan.1 hm with rfl|hm
 .exact h1.1 _ hq.mem b (by simp) (by simp)
 exact h1.1 _ hr.mem b (by simp) hm
theorem freeze{e:aB}(h:SH u M0 D M (e::L) w):
 ∃M',M.Le M'/\SH u M0 D M' L w/\(∀b∈e.bX,∀o v,w.cell? ⟨b,o,none⟩=some v->M'.cell b o=some v)/\∀b∈e.bX,iE w b->M'.own b:=by
 classical
 have hp:=qau.1 h.pd;have hu:∀b∈e.bX,u.heap.size<=b\/b∈D:=fun b hb=>(h.iG _ qal b hb).symm;refine⟨⟨fun b o=>if b∈e.bX then w.cell? ⟨b,o,none⟩else M.cell b o,fun b=>M.own b\/(b∈e.bX/\iE w b)⟩,⟨fun b o v hc=> ?_,fun b hb=> .inl hb⟩,?_,?_,fun b hb ho=> .inr ⟨hb,ho⟩⟩
 .by_cases hb:b∈e.bX
  .simp only[hb,qcn];exact h.le.cell b o v hc
  simp only[hb,qck];exact hc
 .refine⟨h.fr,⟨fun b o v hc=> ?_,fun b hb=> .inl (h.dG.own b hb)⟩,⟨fun b o v hc=> ?_,fun b hb=> ?_⟩,fun b o v hc=> ?_,fun b hb=> ?_,fun x hx b o hm=> ?_,fun x hx b hb hm=> ?_,fun x hx=>h.iG x (qag _ hx),hp.2,fun x hx=>h.ok x (qag _ hx)⟩
  .by_cases hb:b∈e.bX
   .simp only[hb,qcn];exact h.le.cell b o v (h.dG.cell b o v hc)
   simp only[hb,qck];exact h.dG.cell b o v hc
  .by_cases hb:b∈e.bX
   .simp only[hb,qcn]at hc;exact hc
   simp only[hb,qck]at hc;exact h.le.cell b o v hc
  .rcases hb with hb|hb
   .exact h.le.own b hb
   exact hb.2
  .by_cases hb:b∈e.bX
   .right;exact hu b hb
   simp only[hb,qck]at hc;exact h.new b o v hc
  .rcases hb with hb|hb
   .exact h.kI b hb
   right;exact hu b hb.1
  rotate_left 1
  .rcases hm with hm|hm
   .exact h.mF x (qag _ hx) b hb hm
   exact hp.1 x hx b hm.1 (aB.wG hb)
  rotate_right 1
  have hb:b∉e.bX:=fun hb=>hp.1 x hx b hb (aB.wA hm);simp only[hb,qck];exact h.off x (qag _ hx) b o hm
 intro b hb o v hc;simp only[hb,qcn];exact hc
theorem dA{L':List aB}(h:SH u M0 D M L w)(b:Nat)(hp:Pk L (.ah b t cs) L':=by repeat(first|exact Pk.here|apply Pk.there)):∃M',M.Le M'/\Bk M' b cs/\SH u M0 D M' L' w:=by
 have h0:=h.pk hp;obtain⟨M',h1,h2,h3,h4⟩:=h0.freeze;have hb:=h.fK hp;exact⟨M',h1,⟨fun i v hi=>h3 b (by simp[aB.bX]) _ v (hb.ld _ (by simpa using hi)),h4 b (by simp[aB.bX]) hb.own⟩,h2⟩
theorem d6{L':List aB}(h:SH u M0 D M L w)(v:Value)(hp:Pk L (.own v k T css) L':=by repeat(first|exact Pk.here|apply Pk.there)):∃M',M.Le M'/\Sl M' k gz v css/\SH u M0 D M' L' w:=by
 have h0:=h.pk hp;obtain⟨M',h1,h2,h3,h4⟩:=h0.freeze;have ho:eG w k T v css:=h.ok _ hp.mem;refine⟨M',h1,?_,h2⟩;rcases ho.open_ with⟨rfl,rfl⟩|⟨g,cap,rfl,hc,hg,hr⟩
 .exact Sl.nil _ _ _
 refine⟨_,cap,rfl,hc,fun i x hi=>⟨g,0,x,rfl,ho.len x (qax hi),fun j v hj=> ?_,rfl⟩⟩;refine h3 g (by simp[aB.bX,cZ,Value.ownBlock]) _ v ?_;have:=hr (i*k+j) v (yn ho.len hi j v hj)
 rwa [show 0+i*k+j=0+(i*k+j) by omega]
theorem gV(h:SH u M0 D M L w)(k:Nat)(T:TypeId):SH u M0 D M (.own (.slice none 0 0) k T []::L) w:=
 h.add (Fr.refl w) (eG.nil w k T) (by simp[aB.bX,cZ,Value.ownBlock])
end SH
section
variable {u:World}{M0:Mem}{D:List Nat}{M:Mem}{L:List aB}{w:World}{P:Program}
theorem au{G:World->Nat->Prop}(h:SH u M0 D M L w)(k:∀b w',SH u M0 D M (.ah b t cs::L) w'->G w' b):
 ∀w1 b,Fr [] w w1->a_ w1 b t cs->w.heap.size<=b->G w1 b:=
 fun w1 b hf hb hn=>k b w1 (h.add hf hb (by simpa using hn))
theorem qG{G:World->Nat->Prop}(h:SH u M0 D M L w)(k:∀b w',SH u M0 D M (.map b #[]::L) w'->G w' b):
 ∀w1 b,Fr [] w w1->wo w1 b #[]->w.heap.size<=b->G w1 b:=
 fun w1 b hf hb hn=>k b w1 (h.add hf hb (by simpa using hn))
theorem ak{L':List aB}{G:Value->Prop}(h:SH u M0 D M L w)(k:G v)(hp:Pk L (.ah b t cs) L':=by repeat(first|exact Pk.here|apply Pk.there))(hv:cs[o]? =some v:=by rfl):
 ∃v,w.cell? ⟨b,o,none⟩=some v/\G v:=⟨v,(h.fK hp).ld o hv,k⟩
theorem aP{G:Value->Prop}(h:SH u M0 D M L w)(hc:M.cell b o=some v)(k:G v):
 ∃v,w.cell? ⟨b,o,none⟩=some v/\G v:=⟨v,h.le.cell _ _ _ hc,k⟩
theorem i_{L':List aB}{G:List Value->Prop}(h:SH u M0 D M L w)(vs:List Value)(k:G vs)(hp:Pk L (.ah b t cs) L':=by repeat(first|exact Pk.here|apply Pk.there))(hl:vs.length=n:=by rfl)(hd:(cs.drop o).take vs.length=vs:=by rfl):
 ∃vs:List Value,(vs.length=n/\Row w b o vs)/\G vs:=by
 refine⟨vs,⟨hl,fun i v hi=>(h.fK hp).ld _ ?_⟩,k⟩;have aG:=(qab.1 hi).1;have:((cs.drop o).take vs.length)[i]? =some v:=by rw[hd];exact hi
 rw[qbG,if_pos aG,List.getElem?_drop]at this;exact this
theorem bj{L':List aB}{G:List Value->Prop}(h:SH u M0 D M L w)(k:G cs)(hp:Pk L (.ah b t cs) L':=by repeat(first|exact Pk.here|apply Pk.there))(hl:cs.length=n:=by rfl):
 ∃vs:List Value,(vs.length=n/\Row w b 0 vs)/\G vs:=⟨cs,⟨hl,(h.fK hp).DS⟩,k⟩
theorem Rw.row(hr:Rw M b o vs)(hl:M.Le (Wm w)):Row w b o vs:=fun i v hi=>hl.cell _ _ _ (hr i v hi)
theorem cG{G:List Value->Prop}(h:SH u M0 D M L w)(hr:Rw M b o vs)(k:G vs)(hl:vs.length=n:=by rfl):
 ∃vs:List Value,(vs.length=n/\Row w b o vs)/\G vs:=⟨vs,⟨hl,hr.row h.le⟩,k⟩
theorem eQ{o:Nat}{v:Value}{L':List aB}{G:World->Prop}(h:SH u M0 D M L w)
 (k:∀w',SH u M0 D M L' w'->G w') (hu:Up L (.ah b t cs) (.ah b t cs') L':=by repeat(first|exact Up.here|apply Up.there)) (hs:fQ cs o v cs':=by repeat(first|exact fQ.here|apply fQ.there)) (hv:v.oneCell'=true:=by rfl):
 ∃t cs,(a_ w b t cs/\o<cs.length/\v.oneCell'=true)/\∀w1,Fr [b] w w1->a_ w1 b t (cs.set o v)->G w1:=by
 obtain⟨L1,h1,_⟩:=hu.pk;obtain⟨rfl,ho⟩:=hs.set;exact⟨t,cs,⟨h.fK h1,ho,hv⟩,fun w1 hf hb=>k w1 (h.rS hu hf hb)⟩
theorem br{b n:Nat}{t:TypeId}{cs:List Value}{L':List aB}{G:World->Prop}(h:SH u M0 D M L w)
 (hv:∀v∈vs,v.oneCell'=true) (k:∀w',SH u M0 D M L' w'->G w') (hx:ez x=vs:=by rfl) (hu:Up L (.ah b t cs) (.ah b t vs) L':=by repeat(first|exact Up.here|apply Up.there)) (hn:cs.length=n:=by rfl) (lM:vs.length=n:=by rfl):
 ∃t cs,(a_ w b t cs/\0+n<=cs.length/\(ez x).length=n/\(∀v∈ez x,v.oneCell'=true))/\∀w1,Fr [b] w w1->a_ w1 b t (gU cs 0 (ez x))->G w1:=by
 obtain⟨L1,h1,_⟩:=hu.pk;subst hx;refine⟨t,cs,⟨h.fK h1,by omega,lM,hv⟩,fun w1 hf hb=>k w1 (h.rS hu hf ?_)⟩;have:=K4 [] cs [] (ez x) (by omega);simp only[qbk,qaC,qbb]at this
 rwa [this]at hb
theorem zeF{b o n:Nat}{t:TypeId}{cs cs':List Value}{L':List aB}{G:World->Prop}(h:SH u M0 D M L w)
 (hv:∀v∈vs,v.oneCell'=true) (k:∀w',SH u M0 D M L' w'->G w') (hx:ez x=vs:=by rfl) (ho:gU cs o vs=cs':=by rfl) (hu:Up L (.ah b t cs) (.ah b t cs') L':=by repeat(first|exact Up.here|apply Up.there)) (hn:o+n<=cs.length:=by exact qbQ rfl) (lM:vs.length=n:=by rfl):
 ∃t cs,(a_ w b t cs/\o+n<=cs.length/\(ez x).length=n/\(∀v∈ez x,v.oneCell'=true))/\∀w1,Fr [b] w w1->a_ w1 b t (gU cs o (ez x))->G w1:=by
 obtain⟨L1,h1,_⟩:=hu.pk;subst hx;subst ho;exact⟨t,cs,⟨h.fK h1,hn,lM,hv⟩,fun w1 hf hb=>k w1 (h.rS hu hf hb)⟩
theorem s_call{R G:Value->World->Prop}(h:SH u M0 D M L w)(c:az P f args w fun r w'=>R r w'/\Fr [] w w')(k:∀r w',R r w'->SH u M0 D M L w'->G r w'):az P f args w G:=
 c.mono fun r w' hr=>k r w' hr.1 (h.lu hr.2)
theorem fk{R:Value->Mem->Prop}{G:Value->World->Prop}(h:SH u M0 D M L w)(c:az P f args w fun r w'=>∃M',R r M'/\Gr M w M' w')(k:∀r M' w',R r M'->M.Le M'->SH u M0 D M' L w'->G r w'):az P f args w G:=
 c.mono fun r w' ⟨M',hr,hg⟩=>k r M' w' hr hg.le (h.grow hg)
theorem gJ{t ty T:Nat}{L':List aB}{G:Value->World->Prop}(h:SH u M0 D M L w)(cQ:h_ P t tx T k b=true)
 (hx:Src w k x ys) (h1:∀cs∈ys,∀u∈cs,u.oneCell'=true)
 (kk:∀v w',SH u M0 D M (.own v k T (css++ys)::L') w'->G v w') (hp:Pk L (.own s k T css) L':=by repeat(first|exact Pk.here|apply Pk.there)) (hb:(css.length+ys.length)*(b+1)<=140737488355328:=by simp;omega):ll P t tx ty s x w G:=by
 have h0:=h.pk hp;have ho:eG w k T s css:=h.ok _ hp.mem;refine ll.K8 cQ ho hx h1 hb fun v w' fG hf hg=>kk v w' ?_;have hM:∀b'∈cZ s,∀o,M.cell b' o=none:=fun b' aW o=>h.off _ hp.mem b' o aW;refine h0.s6 (e':= .own v k T (css++ys)) hf fG hg (h.le.fr hf fun b' aW=>⟨hM b' aW,fun hx=>absurd hx (h.mF _ hp.mem b' aW)⟩) (fun b' o hm=> ?_) fun b' aW mY=> ?_;rotate_left 1
 .rcases hg b' aW with h2|h2
  .exact h.mF _ hp.mem b' h2 mY
  have:=(h.le.own b' mY).lt;omega
 rcases hg b' hm with h2|h2
 .exact hM b' h2 o
 cases hc:M.cell b' o with
 |none=>rfl
 |some v=>
  have h3:b'<w.heap.size:=qbV w _ (h.le.cell b' o v hc);omega
end
section
variable {u:World}{M0:Mem}{D:List Nat}{M:Mem}{L:List aB}{w:World}{P:Program}{S:List Nat}
theorem b_{X:World->Prop}{G:List Nat->World->Prop}(S:List Nat)(h:SH u M0 D M L w)(k:∀w',SH u M0 D M L w'->G S w'):∀w1,Fr [] w w1->(∃S,G S w1)\/X w1:=
 fun w1 hf=> .inl ⟨S,k w1 (h.lu hf)⟩
theorem Ge{X:World->Prop}{G:(Nat->Nat->Value->Prop)->List Nat->World->Prop}(kp:Nat->Nat->Value->Prop)(S:List Nat)(h:SH u M0 D M L w)(hk:∀w',SH u M0 D M L w'->∀b o v,kp b o v->w'.cell? ⟨b,o,none⟩=some v)(k:∀w',SH u M0 D M L w'->G kp S w'):
 ∀w1,Fr [] w w1->X w1\/(∃kp S,(∀b o v,kp b o v->w1.cell? ⟨b,o,none⟩=some v)/\G kp S w1):=
 fun w1 hf=> .inr ⟨kp,S,hk w1 (h.lu hf),k w1 (h.lu hf)⟩
theorem bI{L':List aB}{G:Value->Prop}(h:SH u M0 D M L w)(k:G v)(hp:Pk L (.ah b t cs) L':=by repeat(first|exact Pk.here|apply Pk.there))(hv:cs[o]? =some v:=by rfl)(hS:b∉S:=by exact qbI):
 ∃v,(w.cell? ⟨b,o,none⟩=some v/\b∉S)/\G v:=⟨v,⟨(h.fK hp).ld o hv,hS⟩,k⟩
theorem cd{G:Value->Prop}(h:SH u M0 D M L w)(hc:M.cell b o=some v)(k:G v)(hS:b∉S:=by exact qbI):
 ∃v,(w.cell? ⟨b,o,none⟩=some v/\b∉S)/\G v:=⟨v,⟨h.le.cell _ _ _ hc,hS⟩,k⟩
theorem uh{L':List aB}{G:List Value->Prop}(h:SH u M0 D M L w)(vs:List Value)(k:G vs)(hp:Pk L (.ah b t cs) L':=by repeat(first|exact Pk.here|apply Pk.there))(hl:vs.length=n:=by rfl)(hd:(cs.drop o).take vs.length=vs:=by rfl)(hS:b∉S:=by exact qbI):
 ∃vs:List Value,((vs.length=n/\Row w b o vs)/\b∉S)/\G vs:=by
 obtain⟨vs,h1,h2⟩:=i_ h vs k hp hl hd;exact⟨vs,⟨h1,hS⟩,h2⟩
theorem lc{L':List aB}{G:List Value->Prop}(h:SH u M0 D M L w)(k:G cs)(hp:Pk L (.ah b t cs) L':=by repeat(first|exact Pk.here|apply Pk.there))(hl:cs.length=n:=by rfl)(hS:b∉S:=by exact qbI):
 ∃vs:List Value,((vs.length=n/\Row w b 0 vs)/\b∉S)/\G vs:=⟨cs,⟨⟨hl,(h.fK hp).DS⟩,hS⟩,k⟩
theorem ug{G:List Value->Prop}(h:SH u M0 D M L w)(hr:Rw M b o vs)(k:G vs)(hl:vs.length=n:=by rfl)(hS:b∉S:=by exact qbI):
 ∃vs:List Value,((vs.length=n/\Row w b o vs)/\b∉S)/\G vs:=⟨vs,⟨⟨hl,hr.row h.le⟩,hS⟩,k⟩
theorem dg{R:Value->World->Prop}{G:Value->List Nat->World->Prop}(h:SH u M0 D M L w)(c:az P f args w fun r w'=>R r w'/\Fr [] w w')(k:∀r w',R r w'->SH u M0 D M L w'->G r S w'):
 az P f args w fun v w'=>∃S',(Fr S w w'/\∀b∈S',b∈S\/w.heap.size<=b)/\G v S' w':=
 c.mono fun r w' hr=>⟨S,⟨hr.2.nil,fun _ hb=> .inl hb⟩,k r w' hr.1 (h.lu hr.2)⟩
theorem fN{R:Value->Mem->Prop}{G:Value->List Nat->World->Prop}(h:SH u M0 D M L w)(c:az P f args w fun r w'=>∃M',R r M'/\Gr M w M' w')(k:∀r M' w',R r M'->M.Le M'->SH u M0 D M' L w'->G r S w'):
 az P f args w fun v w'=>∃S',(Fr S w w'/\∀b∈S',b∈S\/w.heap.size<=b)/\G v S' w':=
 c.mono fun r w' ⟨M',hr,hg⟩=>⟨S,⟨hg.fr.nil,fun _ hb=> .inl hb⟩,k r M' w' hr hg.le (h.grow hg)⟩
theorem dX{G:List Nat->World->Nat->Prop}(h:SH u M0 D M L w)(k:∀b w',SH u M0 D M (.ah b t cs::L) w'->G S w' b):
 ∀w1 b,Fr [] w w1->a_ w1 b t cs->w.heap.size<=b->∃S',(Fr S w w1/\∀b'∈S',b'∈S\/w.heap.size<=b')/\G S' w1 b:=
 fun w1 b hf hb hn=>⟨S,⟨hf.nil,fun _ hb=> .inl hb⟩,k b w1 (h.add hf hb (by simpa using hn))⟩
theorem sU{G:List Nat->World->Nat->Prop}(h:SH u M0 D M L w)(k:∀b w',SH u M0 D M (.ah b t cs::L) w'->G (b::S) w' b):
 ∀w1 b,Fr [] w w1->a_ w1 b t cs->w.heap.size<=b->∃S',(Fr S w w1/\∀b'∈S',b'∈S\/w.heap.size<=b')/\G S' w1 b:=
 fun w1 b hf hb hn=>⟨b::S,⟨hf.nil,fun b' aW=>by rcases qan.1 aW with rfl|aW;exact .inr hn;exact .inl aW⟩,k b w1 (h.add hf hb (by simpa using hn))⟩
theorem sV{o:Nat}{v:Value}{L':List aB}{G:List Nat->World->Prop}(h:SH u M0 D M L w)
 (k:∀w',SH u M0 D M L' w'->G S w') (hu:Up L (.ah b t cs) (.ah b t cs') L':=by repeat(first|exact Up.here|apply Up.there)) (hs:fQ cs o v cs':=by repeat(first|exact fQ.here|apply fQ.there)) (hv:v.oneCell'=true:=by rfl) (hS:b∈S:=by simp):
 ∃t cs,(a_ w b t cs/\o<cs.length/\v.oneCell'=true)/\∀w1,Fr [b] w w1->a_ w1 b t (cs.set o v)->∃S',(Fr S w w1/\∀b'∈S',b'∈S\/w.heap.size<=b')/\G S' w1:=by
 obtain⟨L1,h1,_⟩:=hu.pk;obtain⟨rfl,ho⟩:=hs.set;exact⟨t,cs,⟨h.fK h1,ho,hv⟩,fun w1 hf hb=>⟨S,⟨hf.jd fun b' aW=>by simp at aW;subst aW;exact hS,fun _ hb=> .inl hb⟩,k w1 (h.rS hu hf hb)⟩⟩
theorem zdW{b o n:Nat}{t:TypeId}{cs cs':List Value}{L':List aB}{G:List Nat->World->Prop}(h:SH u M0 D M L w)
 (hv:∀v∈vs,v.oneCell'=true) (k:∀w',SH u M0 D M L' w'->G S w') (hx:ez x=vs:=by rfl) (ho:gU cs o vs=cs':=by rfl) (hu:Up L (.ah b t cs) (.ah b t cs') L':=by repeat(first|exact Up.here|apply Up.there)) (hn:o+n<=cs.length:=by exact qbQ rfl) (lM:vs.length=n:=by rfl) (hS:b∈S:=by simp):
 ∃t cs,(a_ w b t cs/\o+n<=cs.length/\(ez x).length=n/\(∀v∈ez x,v.oneCell'=true))/\∀w1,Fr [b] w w1->a_ w1 b t (gU cs o (ez x))->∃S',(Fr S w w1/\∀b'∈S',b'∈S\/w.heap.size<=b')/\G S' w1:=by
 obtain⟨L1,h1,_⟩:=hu.pk;subst hx;subst ho;exact⟨t,cs,⟨h.fK h1,hn,lM,hv⟩,fun w1 hf hb=>⟨S,⟨hf.jd fun b' aW=>by simp at aW;subst aW;exact hS,fun _ hb=> .inl hb⟩,k w1 (h.rS hu hf hb)⟩⟩
theorem zdN(h:cs.length=vs.length):gU cs 0 vs=vs:=by
 have:=K4 [] cs [] vs h;simpa using this
theorem pP{b n:Nat}{t:TypeId}{cs:List Value}{L':List aB}{G:List Nat->World->Prop}(h:SH u M0 D M L w)
 (hv:∀v∈vs,v.oneCell'=true) (k:∀w',SH u M0 D M L' w'->G S w') (hx:ez x=vs:=by rfl) (hu:Up L (.ah b t cs) (.ah b t vs) L':=by repeat(first|exact Up.here|apply Up.there)) (hn:cs.length=n:=by rfl) (lM:vs.length=n:=by rfl) (hS:b∈S:=by simp):
 ∃t cs,(a_ w b t cs/\0+n<=cs.length/\(ez x).length=n/\(∀v∈ez x,v.oneCell'=true))/\∀w1,Fr [b] w w1->a_ w1 b t (gU cs 0 (ez x))->∃S',(Fr S w w1/\∀b'∈S',b'∈S\/w.heap.size<=b')/\G S' w1:=
 zdW h hv k hx (zdN (by omega)) hu (by omega) lM hS
end
section
variable {u:World}{M0:Mem}{D:List Nat}{M:Mem}{L:List aB}{w:World}{P:Program}{S:List Nat}
theorem td{L':List aB}{G:Value->List Nat->Prop}(h:SH u M0 D M L w)(k:G v S)(hp:Pk L (.ah b t cs) L':=by repeat(first|exact Pk.here|apply Pk.there))(hv:cs[o]? =some v:=by rfl):
 ∃v,w.cell? ⟨b,o,none⟩=some v/\∃S',(Fr S w w/\∀b∈S',b∈S\/w.heap.size<=b)/\G v S':=⟨v,(h.fK hp).ld o hv,S,⟨(Fr.refl w).nil,fun _ hb=> .inl hb⟩,k⟩
theorem eI{t ty T:Nat}{L':List aB}{G:Value->List Nat->World->Prop}(h:SH u M0 D M L w)(cQ:h_ P t tx T k b=true)
 (hx:Src w k x ys) (h1:∀cs∈ys,∀u∈cs,u.oneCell'=true)
 (kk:∀v w',SH u M0 D M (.own v k T (css++ys)::L') w'->G v S w') (hp:Pk L (.own s k T css) L':=by repeat(first|exact Pk.here|apply Pk.there)) (hb:(css.length+ys.length)*(b+1)<=140737488355328:=by simp;omega) (hS:∀b∈cZ s,b∈S:=by first|(intro b hb;exact hb)|(intro b hb;exact qag _ hb)|(intro b hb;simp[hb])):
 ll P t tx ty s x w fun v w'=>∃S',(Fr S w w'/\∀b∈S',b∈S\/w.heap.size<=b)/\G v S' w':=by
 have h0:=h.pk hp;have ho:eG w k T s css:=h.ok _ hp.mem;refine ll.K8 cQ ho hx h1 hb fun v w' fG hf hg=>⟨S,⟨hf.jd hS,fun _ hb=> .inl hb⟩,kk v w' ?_⟩;have hM:∀b'∈cZ s,∀o,M.cell b' o=none:=fun b' aW o=>h.off _ hp.mem b' o aW;refine h0.s6 (e':= .own v k T (css++ys)) hf fG hg (h.le.fr hf fun b' aW=>⟨hM b' aW,fun hx=>absurd hx (h.mF _ hp.mem b' aW)⟩) (fun b' o hm=> ?_) fun b' aW mY=> ?_;rotate_left 1
 .rcases hg b' aW with h2|h2
  .exact h.mF _ hp.mem b' h2 mY
  have:=(h.le.own b' mY).lt;omega
 rcases hg b' hm with h2|h2
 .exact hM b' h2 o
 cases hc:M.cell b' o with
 |none=>rfl
 |some v=>
  have h3:b'<w.heap.size:=qbV w _ (h.le.cell b' o v hc);omega
theorem SH.lU{L':List aB}(h:SH u M0 D M L w)(hp:Pk L (.own v k T css) L':=by repeat(first|exact Pk.here|apply Pk.there)):v.oneCell'=true:=by
 obtain⟨a,c,rfl,_⟩:=eG.shape (h.ok _ hp.mem);rfl
theorem SH.df{L':List aB}(h:SH u M0 D M L w)(hp:Pk L (.ah b t cs) L':=by repeat(first|exact Pk.here|apply Pk.there))(hl:cs.length=k:=by rfl):Src w k (.slice (some ⟨b,0,none⟩) 1 1) [cs]:=
 ⟨by simpa using hl,_,1,rfl,.inr ⟨b,0,rfl,by simpa using(h.fK hp).DS⟩⟩
end
theorem cO(h:vs.all Value.oneCell'=true):∀v∈vs,v.oneCell'=true:=by simpa using h
theorem de(h:∀v∈cs,v.oneCell'=true):∀c∈[cs],∀v∈c,v.oneCell'=true:=by simpa using h
def bC{α β:Type}(R:α->β->Prop):List α->List β->Prop
 |[],[]=>True
 |x::r,y::s=>R x y/\bC R r s
 |_,_=>False
theorem bC.append{α β:Type}{R:α->β->Prop}:∀{a:List α} {b:List β} {a':List α} {b':List β},bC R a b->bC R a' b'->bC R (a++a') (b++b')
 |[],[],_,_,_,h=>h
 |_::_,_::_,_,_,h,h'=>⟨h.1,bC.append h.2 h'⟩
theorem bC.len{α β:Type}{R:α->β->Prop}:∀{a:List α} {b:List β},bC R a b->a.length=b.length
 |[],[],_=>rfl
 |_::_,_::_,h=>by simp[bC.len h.2]
theorem bC.mono{α β:Type}{R R':α->β->Prop}:∀{a:List α} {b:List β},(∀x∈a,∀y,R x y->R' x y)->bC R a b->bC R' a b
 |[],[],_,_=>trivial
 |x::_,y::_,h,h'=>⟨h x (by simp) y h'.1,bC.mono (fun x hx=>h x (by simp[hx])) h'.2⟩
theorem bC.get{α β:Type}{R:α->β->Prop}:∀{a:List α} {b:List β},bC R a b->∀{i:Nat} {x:α},a[i]? =some x->∃y,b[i]? =some y/\R x y
 |[],[],_,i,x,hi=>by simp at hi
 |x::_,y::_,h,0,_,hi=>by simp at hi;subst hi;exact⟨y,rfl,h.1⟩
 |_::_,_::_,h,i+1,x,hi=>by simpa using bC.get h.2 (i:=i) (by simpa using hi)
theorem bC.snoc{α β:Type}{R:α->β->Prop}{a:List α}{b:List β}{x:α}{y:β}(h:bC R a b)(hx:R x y):bC R (a++[x]) (b++[y]):=h.append ⟨hx,tV⟩
theorem dN{α:Type}{l:List α}(h:k<l.length):l.take k++[l[k]]=l.take (k+1):=by simp
theorem bC.dN{α β:Type}{R:α->β->Prop}{l:List α}{b:List β}{y:β}(h:bC R (l.take k) b)(hk:k<l.length)(hx:R l[k] y):bC R (l.take (k+1)) (b++[y]):=by
 rw[<-Go.Proofs.YtlfcbbcdiecelaaGreatDoor.dN hk];exact h.snoc hx
theorem Sl.fV{α:Type}{M:Mem}{R:α->List Value->Prop}{xs:List α}(h:Sl M k gz v css)(he:bC R xs css):Sl M k R v xs:=by
 obtain⟨a,cap,rfl,hc,h⟩:=h;have hl:=he.len;refine⟨a,cap,by rw[hl],by omega,fun i x hi=> ?_⟩;obtain⟨cs,d9,hr⟩:=he.get hi;obtain⟨b,o,cs',h1,h2,h3,h4⟩:=h i cs d9;cases h4;exact⟨b,o,_,h1,h2,h3,hr⟩
theorem aA{G:Int->Prop}(y:Int)(k:G y)(hy:z=y:=by omega)(h0: -9223372036854775808<=y:=by omega)(h1:y<=9223372036854775807:=by omega):∃x,IntKind.i64.wrap z=x/\G x:=⟨y,by rw[hy];exact TF h0 h1,k⟩
theorem aJ{n:Int}{len:Nat}{G:Nat->Prop}(k:Nat)(g:G k)(hk:k<len:=by omega)(hn:n=(k:Int):=by first|rfl|omega):∃k:Nat,(n=(k:Int)/\k<len)/\G k:=⟨k,⟨hn,hk⟩,g⟩
end
section
variable {w w':Mem}{cs:List Value}
inductive Ty where
 |mk (kind num:Int) (elem:List Ty) (fields:List (Int×Bool×Ty)) (methods:List (Int×Bool)) (aD:List Ty)
namespace Ty
def kind:Ty->Int|mk k _ _ _ _ _=>k
def num:Ty->Int|mk _ n _ _ _ _=>n
def elem:Ty->List Ty|mk _ _ e _ _ _=>e
def fields:Ty->List (Int×Bool×Ty)|mk _ _ _ f _ _=>f
def methods:Ty->List (Int×Bool)|mk _ _ _ _ m _=>m
def aD:Ty->List Ty|mk _ _ _ _ _ e=>e
theorem QN{t u:Ty}(h:u∈t.elem):SizeOf.sizeOf u<SizeOf.sizeOf t:=by
 cases t;simp only[elem]at h;have:=List.sizeOf_lt_of_mem h;simp;omega
theorem QO{t u:Ty}(h:u∈t.aD):SizeOf.sizeOf u<SizeOf.sizeOf t:=by
 cases t;simp only[aD]at h;have:=List.sizeOf_lt_of_mem h;simp;omega
theorem QP{t:Ty}{f:Int×Bool×Ty}(h:f∈t.fields):SizeOf.sizeOf f.2.2<SizeOf.sizeOf t:=by
 cases t;obtain⟨n,b,u⟩:=f;simp only[fields]at h;have:=List.sizeOf_lt_of_mem h;simp at this⊢;omega
end Ty
structure Dc where
 name:Int
 aC:Int
 bU:Bool
 of:Ty
 methods:List (Int×Bool)
def kR(m:Int×Bool)(cs:List Value):Prop:=cs=[.int .i64 m.1,.bool m.2]
inductive cC(w:Mem):Ty->List Value->Prop where
 |mk (k n:Int) (el:List Ty) (fs:List (Int×Bool×Ty)) (ms:List (Int×Bool)) (es:List Ty)
  (ae af:Option Addr) (vm:Value) (zZ:Option Addr) (ce cf Ad:Nat) (be oe bf xE bs xF:Nat) (re rf rs:Nat->List Value)
  (hle:el.length<=ce) (u7:fs.length<=cf) (tR:es.length<=Ad)
  (kU:el=[]\/ae=some ⟨be,oe,none⟩) (rh:fs=[]\/af=some ⟨bf,xE,none⟩) (has:es=[]\/zZ=some ⟨bs,xF,none⟩)
  (tY:∀i t,el[i]? =some t->(re i).length=6/\Rw w be (oe+i*6) (re i))
  (vj:∀i t,fs[i]? =some t->(rf i).length=6/\Rw w bf (xE+i*8) (.int .i64 t.1:: .bool t.2.1::rf i))
  (rG:∀i t,es[i]? =some t->(rs i).length=6/\Rw w bs (xF+i*6) (rs i))
  (oG:∀i t,el[i]? =some t->cC w t (re i))
  (JW:∀i t,fs[i]? =some t->cC w t.2.2 (rf i))
  (dS:∀i t,es[i]? =some t->cC w t (rs i))
  (hm:Sl w 2 kR vm ms):
  cC w (.mk k n el fs ms es) [.int .i64 k,.int .i64 n,.slice ae el.length ce,.slice af fs.length cf,vm,.slice zZ es.length Ad]
def kO(w:Mem)(f:Int×Bool×Ty)(cs:List Value):Prop:=∃tc,cs= .int .i64 f.1:: .bool f.2.1::tc/\cC w f.2.2 tc
def qO(w:Mem)(d:Dc)(cs:List Value):Prop:=
 ∃tc vm,cs=[.int .i64 d.name,.int .i64 d.aC,.bool d.bU]++tc++[vm]/\cC w d.of tc/\Sl w 2 kR vm d.methods
theorem KJ{α:Type}{xs:List α}{i:Nat}{x:α}(h:xs[i]? =some x):xs≠[]:=by rintro rfl;simp at h
theorem cC.out{t:Ty}(h:cC w t cs):∃ve vf vm vs,cs=[.int .i64 t.kind,.int .i64 t.num,ve,vf,vm,vs]/\
 Sl w 6 (cC w) ve t.elem/\Sl w 8 (kO w) vf t.fields/\Sl w 2 kR vm t.methods/\Sl w 6 (cC w) vs t.aD:=by
 cases h with
 |mk k n el fs ms es ae af vm zZ ce cf Ad be oe bf xE bs xF re rf rs hle u7 tR kU rh has tY vj rG oG JW dS hm=>
  refine⟨_,_,_,_,rfl,⟨ae,ce,rfl,hle,?_⟩,⟨af,cf,rfl,u7,?_⟩,hm,⟨zZ,Ad,rfl,tR,?_⟩⟩
  .exact fun i x hi=>⟨be,oe,re i,kU.resolve_left (KJ hi),(tY i x hi).1,(tY i x hi).2,oG i x hi⟩
  .exact fun i x hi=>⟨bf,xE,_,rh.resolve_left (KJ hi),by simp[(vj i x hi).1],(vj i x hi).2,rf i,rfl,JW i x hi⟩
  exact fun i x hi=>⟨bs,xF,rs i,has.resolve_left (KJ hi),(rG i x hi).1,(rG i x hi).2,dS i x hi⟩
theorem cC.len{t:Ty}(h:cC w t cs):cs.length=6:=by
 obtain⟨_,_,_,_,rfl,_⟩:=h.out;rfl
theorem MH{α:Type}(xs:List α)(Q:Nat->α->List Value->Prop)(h:∀i x,xs[i]? =some x->∃cs,Q i x cs):∃f:Nat->List Value,∀i x,xs[i]? =some x->Q i x (f i):=by
 have key:∀i,∃cs,∀x,xs[i]? =some x->Q i x cs:=by
  intro i;cases hx:xs[i]? with
  |none=>exact⟨[],fun x h=>by simp at h⟩
  |some y=>obtain⟨cs,hc⟩:=h i y hx;exact⟨cs,fun x h=>by simp at h;subst h;exact hc⟩
 exact⟨fun i=>Classical.choose (key i),fun i=>qb5 (key i)⟩
theorem bQ.place{α:Type}{k:Nat}{R:α->List Value->Prop}{a:Option Addr}{xs:List α}(h:bQ w k R a xs):
 ∃b o,∃f:Nat->List Value,(xs=[]\/a=some ⟨b,o,none⟩)/\∀i x,xs[i]? =some x->(f i).length=k/\Rw w b (o+i*k) (f i)/\R x (f i):=by
 cases xs with
 |nil=>exact⟨0,0,fun _=>[],.inl rfl,fun i x hi=>by simp at hi⟩
 |cons x xs=>
  obtain⟨b,o,_,ha,_⟩:=h 0 x rfl;obtain⟨f,hf⟩:=MH (x::xs) (fun i x cs=>cs.length=k/\Rw w b (o+i*k) cs/\R x cs) fun i y hi=>by
   obtain⟨b',o',cs,iX,h1,h2,h3⟩:=h i y hi;rw[ha]at iX;simp at iX;obtain⟨rfl,rfl⟩:=iX;exact⟨cs,h1,h2,h3⟩
  exact⟨b,o,f,.inr ha,hf⟩
theorem cC.FV{t:Ty}{ve vf vm vs:Value}(h1:Sl w 6 (cC w) ve t.elem)(h2:Sl w 8 (kO w) vf t.fields)(h3:Sl w 2 kR vm t.methods)(h4:Sl w 6 (cC w) vs t.aD):
 cC w t [.int .i64 t.kind,.int .i64 t.num,ve,vf,vm,vs]:=by
 obtain⟨k,n,el,fs,ms,es⟩:=t;obtain⟨ae,ce,rfl,hle,he⟩:=h1;obtain⟨af,cf,rfl,u7,hf⟩:=h2;obtain⟨UI,cs,rfl,tR,hs⟩:=h4;simp only[Ty.elem,Ty.fields,Ty.methods,Ty.aD]at*;obtain⟨be,oe,re,kU,tY⟩:=he.place;obtain⟨bs,xF,rs,has,rG⟩:=hs.place;obtain⟨bf,xE,rf,rh,vj⟩:∃be oe,∃re:Nat->List Value,(fs=[]\/af=some ⟨be,oe,none⟩)/\∀i t,fs[i]? =some t->((re i).length=6/\Rw w be (oe+i*8) (.int .i64 t.1:: .bool t.2.1::re i))/\cC w t.2.2 (re i):=by
  obtain⟨b,o,f,ha,hf⟩:=hf.place;obtain⟨g,hg⟩:=MH fs (fun i x cs=>(cs.length=6/\Rw w b (o+i*8) (.int .i64 x.1:: .bool x.2.1::cs))/\cC w x.2.2 cs) (fun i x hi=>by
   obtain⟨hl,hr,tc,he,ht⟩:=hf i x hi;rw[he]at hr;exact⟨tc,⟨ht.len,hr⟩,ht⟩)
  exact⟨b,o,g,ha,hg⟩
 exact .mk k n el fs ms es ae af vm UI ce cf cs be oe bf xE bs xF re rf rs hle u7 tR kU rh has (fun i t h=>⟨(tY i t h).1,(tY i t h).2.1⟩) (fun i t h=>(vj i t h).1) (fun i t h=>⟨(rG i t h).1,(rG i t h).2.1⟩)
  (fun i t h=>(tY i t h).2.2) (fun i t h=>(vj i t h).2) (fun i t h=>(rG i t h).2.2) h3
@[reducible]def bh(t:Ty)(a1:Option Addr)(c1:Nat)(a2:Option Addr)(c2:Nat)(a3:Option Addr)(c3:Nat)(a4:Option Addr)(c4:Nat):List Value:=
 [.int .i64 t.kind,.int .i64 t.num,.slice a1 t.elem.length c1,.slice a2 t.fields.length c2,.slice a3 t.methods.length c3,.slice a4 t.aD.length c4]
@[reducible]def D9:List Value:=[(.int .i64 0),(.int .i64 0),(.slice none 0 0),(.slice none 0 0),(.slice none 0 0),(.slice none 0 0)]
@[reducible]def Nj:List Value:=[(.int .i64 0),(.bool false),(.int .i64 0),(.int .i64 0),(.slice none 0 0),(.slice none 0 0),(.slice none 0 0),(.slice none 0 0)]
theorem cC.lit{t:Ty}(h:cC w t cs):∃a1 c1 a2 c2 a3 c3 a4 c4,cs=bh t a1 c1 a2 c2 a3 c3 a4 c4/\
 bQ w 6 (cC w) a1 t.elem/\bQ w 8 (kO w) a2 t.fields/\bQ w 2 kR a3 t.methods/\bQ w 6 (cC w) a4 t.aD/\
 t.elem.length<=c1/\t.fields.length<=c2/\t.methods.length<=c3/\t.aD.length<=c4:=by
 obtain⟨ve,vf,vm,vs,rfl,h1,h2,h3,h4⟩:=h.out;obtain⟨a1,c1,rfl,l1,e1⟩:=h1;obtain⟨a2,c2,rfl,l2,e2⟩:=h2;obtain⟨a3,c3,rfl,l3,e3⟩:=h3;obtain⟨a4,c4,rfl,l4,e4⟩:=h4;exact⟨a1,c1,a2,c2,a3,c3,a4,c4,rfl,e1,e2,e3,e4,l1,l2,l3,l4⟩
theorem cC.one{t:Ty}(h:cC w t cs):∀v∈cs,v.oneCell'=true:=by
 obtain⟨a1,c1,a2,c2,a3,c3,a4,c4,rfl,_⟩:=h.lit;simp[Value.oneCell']
theorem kO.one{f:Int×Bool×Ty}(h:kO w f cs):∀v∈cs,v.oneCell'=true:=by
 obtain⟨tc,rfl,h⟩:=h;intro v hv;simp only[qan]at hv;rcases hv with rfl|rfl|hv
 .rfl
 .rfl
 exact h.one v hv
theorem cC.le(hf:w.Le w'){t:Ty}(h:cC w t cs):cC w' t cs:=by
 induction h with
 |mk k n el fs ms es ae af vm zZ ce cf Ad be oe bf xE bs xF re rf rs hle u7 tR kU rh has tY vj rG oG JW dS hm ihe ihf ihs=>
  exact .mk k n el fs ms es ae af vm zZ ce cf Ad be oe bf xE bs xF re rf rs hle u7 tR kU rh has
   (fun i t h=>⟨(tY i t h).1,(tY i t h).2.le hf⟩) (fun i t h=>⟨(vj i t h).1,(vj i t h).2.le hf⟩) (fun i t h=>⟨(rG i t h).1,(rG i t h).2.le hf⟩)
   ihe ihf ihs (hm.mono hf fun _ _ _ h=>h)
theorem kO.le(hf:w.Le w'){t:Int×Bool×Ty}(h:kO w t cs):kO w' t cs:=by
 obtain⟨tc,h1,h2⟩:=h;exact⟨tc,h1,h2.le hf⟩
theorem qO.le(hf:w.Le w'){t:Dc}(h:qO w t cs):qO w' t cs:=by
 obtain⟨tc,vm,h1,h2,h3⟩:=h;exact⟨tc,vm,h1,h2.le hf,h3.mono hf fun _ _ _ h=>h⟩
def Ty.size(t:Ty):Nat:=
 t.methods.length+(t.elem.attach.map fun x=>x.1.size).sum+(t.fields.attach.map fun x=>1+x.1.2.2.size).sum+(t.aD.attach.map fun x=>x.1.size).sum
termination_by SizeOf.sizeOf t
decreasing_by
 .exact Ty.QN x.2
 .exact Ty.QP x.2
 exact Ty.QO x.2
theorem Ty.size_eq(t:Ty):t.size=t.methods.length+(t.elem.map Ty.size).sum+(t.fields.map fun f=>1+f.2.2.size).sum+(t.aD.map Ty.size).sum:=by
 rw[Ty.size];simp only[List.attach_map_subtype_val,List.map_attach_eq_pmap,List.pmap_eq_map]
theorem qJ:∀(l:List Nat) (k:Nat) (h:k<l.length),(l.take (k+1)).sum=(l.take k).sum+l[k]
 |[],k,h=>by simp at h
 |x::l,0,h=>by simp
 |x::l,k+1,h=>by
  have:=qJ l k (by simpa using h);simp only[qbK,qaT,List.getElem_cons_succ];omega
theorem nR:∀(l:List Nat) (k:Nat),(l.take k).sum<=l.sum
 |[],k=>by simp
 |x::l,0=>by simp
 |x::l,k+1=>by
  have:=nR l k;simp only[qbK,qaT];omega
theorem tH(l:List Nat)(k:Nat)(h:k<l.length):l[k]<=l.sum:=by
 have h1:=qJ l k h;have h2:=nR l (k+1);omega
theorem Bm:∀{α:Type} (l:List α) (f:α->Nat),(∀x∈l,1<=f x)->l.length<=(l.map f).sum
 |_,[],f,_=>by simp
 |_,x::l,f,h=>by
  have h1:=Bm l f fun y hy=>h y (by simp[hy]);have h2:=h x (by simp);simp only[qaO,qaB,qaT];omega
theorem s5:∀{α:Type} (l:List α) (f g:α->Nat),(∀x∈l,f x<=g x)->(l.map f).sum<=(l.map g).sum
 |_,[],f,g,_=>by simp
 |_,x::l,f,g,h=>by
  have h1:=s5 l f g fun y hy=>h y (by simp[hy]);have h2:=h x (by simp);simp only[qaB,qaT];omega
def Ty.aj(t:Ty):Nat:=
 1+t.methods.length+(t.elem.attach.map fun x=>x.1.aj).sum+(t.fields.attach.map fun x=>1+x.1.2.2.aj).sum+(t.aD.attach.map fun x=>x.1.aj).sum
termination_by SizeOf.sizeOf t
decreasing_by
 .exact Ty.QN x.2
 .exact Ty.QP x.2
 exact Ty.QO x.2
theorem Ty.iW(t:Ty):t.aj=1+t.methods.length+(t.elem.map Ty.aj).sum+(t.fields.map fun f=>1+f.2.2.aj).sum+(t.aD.map Ty.aj).sum:=by
 rw[Ty.aj];simp only[List.attach_map_subtype_val,List.map_attach_eq_pmap,List.pmap_eq_map]
theorem Ty.EK(t:Ty):1<=t.aj:=by rw[Ty.iW];omega
theorem Ty.yh(t:Ty):t.elem.length<=t.aj:=by
 have:=Bm t.elem Ty.aj fun x _=>x.EK;rw[Ty.iW];omega
theorem Ty.qX(t:Ty):t.aD.length<=t.aj:=by
 have:=Bm t.aD Ty.aj fun x _=>x.EK;rw[Ty.iW];omega
theorem Ty.lB(t:Ty):t.fields.length<=t.aj:=by
 have:=Bm t.fields (fun f=>1+f.2.2.aj) fun x _=>by omega
 rw[Ty.iW];omega
theorem Ty.zp(t:Ty):t.methods.length<=t.aj:=by rw[Ty.iW];omega
theorem DC{α:Type}{l:List α}{f:α->Nat}{x:α}(h:x∈l):f x<=(l.map f).sum:=by
 induction l with
 |nil=>simp at h
 |cons y l ih=>
  simp only[qaB,qaT];rcases qan.1 h with rfl|h
  .omega
  have:=ih h;omega
theorem Ty.pe{t u:Ty}(h:u∈t.elem):u.aj<t.aj:=by
 have:=DC (f:=Ty.aj) h;rw[Ty.iW t];omega
theorem Ty.nY{t u:Ty}(h:u∈t.aD):u.aj<t.aj:=by
 have:=DC (f:=Ty.aj) h;rw[Ty.iW t];omega
theorem Ty.sj{t:Ty}{f:Int×Bool×Ty}(h:f∈t.fields):f.2.2.aj<t.aj:=by
 have:=DC (f:=fun f:Int×Bool×Ty=>1+f.2.2.aj) h;rw[Ty.iW t];omega
theorem Ty.size_le:∀(n:Nat) (t:Ty),t.aj<n->t.size<=t.aj
 |0,t,h=>by omega
 |n+1,t,h=>by
  have h1:=s5 t.elem Ty.size Ty.aj fun x hx=>Ty.size_le n x (by have:=Ty.pe hx;omega);have h2:=s5 t.aD Ty.size Ty.aj fun x hx=>Ty.size_le n x (by have:=Ty.nY hx;omega);have h3:=s5 t.fields (fun f=>1+f.2.2.size) (fun f=>1+f.2.2.aj) fun x hx=>by
   have:=Ty.size_le n x.2.2 (by have:=Ty.sj hx;omega);omega
  rw[Ty.size_eq,Ty.iW];omega
end
section
variable {i c k:Nat}{w w':Mem}{cs:List Value}{d:Dc}{a:Option Addr}{t:Ty}
instance :Inhabited Ty:=⟨.mk 0 0 [] [] [] []⟩
instance :Inhabited Dc:=⟨⟨0,0,false,default,[]⟩⟩
def Dc.aj(d:Dc):Nat:=1+d.methods.length+d.of.aj
def Dc.size(d:Dc):Nat:=d.methods.length+d.of.size
abbrev Wd:=List Dc
def Wd.aj(W:Wd):Nat:=(W.map Dc.aj).sum
theorem Wd.len(W:Wd):W.length<=Wd.aj W:=Bm W Dc.aj fun x _=>by unfold Dc.aj;omega
def Wd.at(W:Wd)(i:Int):Dc:=W.getD i.toNat default
def Wd.has(W:Wd)(i:Int):Prop:=0<=i/\i.toNat<W.length
theorem Wd.wx(W:Wd)(i:Nat)(h:i<W.length):W.at (i:Int)=W[i]:=by simp[Wd.at,h]
theorem Wd.mem(W:Wd)(i:Int)(h:W.has i):W.at i∈W:=by simp[Wd.at,h.2]
def Wd.start(W:Wd)(d:Nat):Nat:=((W.take d).map Dc.size).sum
theorem Dc.size_le(d:Dc):d.size+1<=d.aj:=by
 have:=Ty.size_le _ d.of (qam _);unfold Dc.size Dc.aj;omega
theorem Wd.v_(W:Wd)(d:Nat):W.start d<=Wd.aj W:=by
 unfold Wd.start Wd.aj;have h1:(W.take d).map Dc.size=(W.map Dc.size).take d:=by rw[qbt]
 rw[h1];exact qaQ (nR _ _) (s5 W Dc.size Dc.aj fun x _=>by have:=x.size_le;omega)
theorem Wd.facts(W:Wd)(k:Nat)(h:k<W.length):1+W[k].methods.length+W[k].of.aj<=Wd.aj W/\W.start (k+1)=W.start k+(W[k].methods.length+W[k].of.size)/\W.start (k+1)<=Wd.aj W/\W[k].of.size<=W[k].of.aj/\W.length<=Wd.aj W:=by
 refine⟨?_,?_,W.v_ _,Ty.size_le _ _ (qam _),W.len⟩
 .have:=tH (W.map Dc.aj) k (by simpa using h);simp only[qaU]at this;exact this
 have:=qJ (W.map Dc.size) k (by simpa using h);simp only[qaU,<-qbt]at this;exact this
structure Sp where
 of:Ty
 at_:Nat
 aC:Int
def Wd.spot(W:Wd)(i:Int):Sp:=⟨(W.at i).of,W.start i.toNat+(W.at i).methods.length,(W.at i).aC⟩
def Wd.operand(W:Wd)(t:Ty):Sp:=⟨t,W.start W.length,0⟩
def Sp.elem(s:Sp):Sp:=⟨s.of.elem.headD default,s.at_,s.aC⟩
def qg(f:Int×Bool×Ty):Nat:=1+f.2.2.size
def Sp.fieldAt(s:Sp)(i:Nat):Nat:=s.at_+((s.of.fields.take i).map qg).sum
def Sp.field(s:Sp)(i:Nat):Sp:=⟨(s.of.fields.getD i default).2.2,s.fieldAt i+1,s.aC⟩
def Sp.bE(s:Sp)(i:Nat):Sp:=⟨s.of.aD.getD i default,s.at_+s.of.methods.length+((s.of.aD.take i).map Ty.size).sum,s.aC⟩
def Wd.qF(W:Wd):Nat->Sp->Sp
 |0,s=>s
 |n+1,s=>if s.of.kind≠1\/(W.at s.of.num).bU=false then s else Wd.qF W n (W.spot s.of.num)
def Wd.plain(W:Wd)(s:Sp):Sp:=Wd.qF W (W.length+1) s
def Wd.ja(W:Wd):Nat->Sp->Sp
 |0,s=>s
 |n+1,s=>if s.of.kind≠1 then s else Wd.ja W n (W.spot s.of.num)
def Wd.under(W:Wd)(s:Sp):Sp:=Wd.ja W (W.length+1) s
def Wd.fieldName(W:Wd)(f:Int×Bool×Ty):Int:=
 if f.2.1=false then f.1 else if f.2.2.kind=2 then(W.at (f.2.2.elem.headD default).num).name else(W.at f.2.2.num).name
def Sp.top(s:Sp):Nat:=s.at_+s.of.aj
theorem HR(t:Ty)(i:Nat)(h:i<t.fields.length):((t.fields.take i).map qg).sum+1+t.fields[i].2.2.aj<=t.aj:=by
 have h1:=tH ((t.fields.drop i).map fun f:Int×Bool×Ty=>1+f.2.2.aj) 0 (by simp;omega);have h2:((t.fields.take i).map qg).sum<=((t.fields.take i).map fun f:Int×Bool×Ty=>1+f.2.2.aj).sum:=s5 _ _ _ fun f _=>by
  have:=Ty.size_le _ f.2.2 (qam _);unfold qg;omega
 have h3:(t.fields.map fun f:Int×Bool×Ty=>1+f.2.2.aj).sum=((t.fields.take i).map fun f:Int×Bool×Ty=>1+f.2.2.aj).sum+((t.fields.drop i).map fun f:Int×Bool×Ty=>1+f.2.2.aj).sum:=by
  rw[<-qaN,<-qaq,qbR]
 simp only[qaU,List.getElem_drop,qa6]at h1;have h4:=Ty.iW t;omega
theorem HI(t:Ty)(i:Nat)(h:i<t.aD.length):t.methods.length+((t.aD.take i).map Ty.size).sum+t.aD[i].aj<=t.aj:=by
 have h1:=tH ((t.aD.drop i).map Ty.aj) 0 (by simp;omega);have h2:((t.aD.take i).map Ty.size).sum<=((t.aD.take i).map Ty.aj).sum:=s5 _ _ _ fun f _=>Ty.size_le _ f (qam _);have h3:(t.aD.map Ty.aj).sum=((t.aD.take i).map Ty.aj).sum+((t.aD.drop i).map Ty.aj).sum:=by
  rw[<-qaN,<-qaq,qbR]
 simp only[qaU,List.getElem_drop,qa6]at h1;have h4:=Ty.iW t;omega
theorem Sp.Nl{s:Sp}(h:i<s.of.fields.length):(s.field i).top<=s.top:=by
 have:=HR s.of i h;unfold Sp.top Sp.field Sp.fieldAt;simp only[qaV,h,qaa,qcl];omega
theorem Sp.Nd{s:Sp}(h:i<s.of.aD.length):(s.bE i).top<=s.top:=by
 have:=HI s.of i h;unfold Sp.top Sp.bE;simp only[qaV,h,qaa,qcl];omega
theorem Sp.Nb{s:Sp}(h:s.of.elem≠[]):s.elem.top<=s.top:=by
 unfold Sp.top Sp.elem;cases he:s.of.elem with
 |nil=>exact absurd he h
 |cons x r=>
  have:x.aj<s.of.aj:=Ty.pe (by rw[he];simp);simp only[List.headD_cons];omega
theorem Wd.Gs{W:Wd}{i:Int}(h:W.has i):(W.spot i).top<=Wd.aj W:=by
 have h2:=h.2;unfold Sp.top Wd.spot;have he:W.at i=W[i.toNat]:=by simp[Wd.at,h2]
 simp only[he];have h1:=tH ((W.drop i.toNat).map Dc.aj) 0 (by simp;omega);have h3:Wd.aj W=((W.take i.toNat).map Dc.aj).sum+((W.drop i.toNat).map Dc.aj).sum:=by
  unfold Wd.aj;rw[<-qaN,<-qaq,qbR]
 have h4:W.start i.toNat<=((W.take i.toNat).map Dc.aj).sum:=by
  unfold Wd.start;exact s5 _ _ _ fun x _=>by have:=x.size_le;omega
 simp only[qaU,List.getElem_drop,qa6]at h1;have h5:Dc.aj W[i.toNat]=1+W[i.toNat].methods.length+W[i.toNat].of.aj:=rfl;omega
def names:List ByteArray:=[⟨#[97]⟩,⟨#[98]⟩,⟨#[99]⟩,⟨#[120]⟩,⟨#[65]⟩,⟨#[66]⟩,⟨#[67]⟩,⟨#[88]⟩,⟨#[95]⟩,⟨#[195,169]⟩,⟨#[195,137]⟩,⟨#[199,133]⟩,⟨#[228,184,150]⟩,⟨#[84]⟩,⟨#[83,116,114,105,110,103]⟩,⟨#[69,114,114,111,114]⟩]
def bZ(n:Int):ByteArray:=names.getD n.toNat ⟨#[]⟩
def bL(n:Int):Prop:=0<=n/\n<16
def exported(n:Int):Bool:=(decide (4<=n)&&decide (n<=7))||decide (n=10)||decide (13<=n)
def dY(p:Int):ByteArray:=if p=0 then⟨#[112]⟩else⟨#[113]⟩
def cN(p:Int):Prop:=p=0\/p=1
def aM(p n:Int):ByteArray:=if exported n=true then bZ n else dY p++⟨#[46]⟩++bZ n
def aS(w:Mem)(s:Sp)(cs:List Value):Prop:=∃tc,cs=tc++[.int .i64 s.at_,.int .i64 s.aC]/\cC w s.of tc
@[reducible]def dZ(s:Sp)(a1:Option Addr)(c1:Nat)(a2:Option Addr)(c2:Nat)(a3:Option Addr)(c3:Nat)(a4:Option Addr)(c4:Nat):List Value:=
 [.int .i64 s.of.kind,.int .i64 s.of.num,.slice a1 s.of.elem.length c1,.slice a2 s.of.fields.length c2,.slice a3 s.of.methods.length c3,.slice a4 s.of.aD.length c4,.int .i64 s.at_,.int .i64 s.aC]
@[reducible]def zC:List Value:=[(.int .i64 0),(.int .i64 0),(.slice none 0 0),(.slice none 0 0),(.slice none 0 0),(.slice none 0 0),(.int .i64 0),(.int .i64 0)]
@[reducible]def jz(d:Dc)(a1:Option Addr)(c1:Nat)(a2:Option Addr)(c2:Nat)(a3:Option Addr)(c3:Nat)(a4:Option Addr)(c4:Nat)(a5:Option Addr)(c5:Nat):List Value:=
 [.int .i64 d.name,.int .i64 d.aC,.bool d.bU,.int .i64 d.of.kind,.int .i64 d.of.num,.slice a1 d.of.elem.length c1,.slice a2 d.of.fields.length c2,.slice a3 d.of.methods.length c3,.slice a4 d.of.aD.length c4,.slice a5 d.methods.length c5]
theorem aS.lit{s:Sp}(h:aS w s cs):∃a1 c1 a2 c2 a3 c3 a4 c4,cs=dZ s a1 c1 a2 c2 a3 c3 a4 c4/\cC w s.of (bh s.of a1 c1 a2 c2 a3 c3 a4 c4)/\
 bQ w 6 (cC w) a1 s.of.elem/\bQ w 8 (kO w) a2 s.of.fields/\bQ w 2 kR a3 s.of.methods/\bQ w 6 (cC w) a4 s.of.aD/\
 s.of.elem.length<=c1/\s.of.fields.length<=c2/\s.of.methods.length<=c3/\s.of.aD.length<=c4:=by
 obtain⟨tc,rfl,h⟩:=h;have h0:=h;obtain⟨a1,c1,a2,c2,a3,c3,a4,c4,rfl,e⟩:=h.lit;exact⟨a1,c1,a2,c2,a3,c3,a4,c4,rfl,h0,e⟩
theorem aS.mk{s:Sp}{a1:Option Addr}{c1:Nat}{a2:Option Addr}{c2:Nat}{a3:Option Addr}{c3:Nat}{a4:Option Addr}{c4:Nat}(h:cC w s.of (bh s.of a1 c1 a2 c2 a3 c3 a4 c4)):
 aS w s (dZ s a1 c1 a2 c2 a3 c3 a4 c4):=⟨_,rfl,h⟩
theorem aS.le(hf:w.Le w'){s:Sp}(h:aS w s cs):aS w' s cs:=by
 obtain⟨tc,rfl,h⟩:=h;exact⟨tc,rfl,h.le hf⟩
theorem aS.one{s:Sp}(h:aS w s cs):∀v∈cs,v.oneCell'=true:=by
 obtain⟨a1,c1,a2,c2,a3,c3,a4,c4,rfl,_⟩:=h.lit;simp[Value.oneCell']
theorem qO.lit(h:qO w d cs):∃a1 c1 a2 c2 a3 c3 a4 c4 a5 c5,cs=jz d a1 c1 a2 c2 a3 c3 a4 c4 a5 c5/\cC w d.of (bh d.of a1 c1 a2 c2 a3 c3 a4 c4)/\
 bQ w 2 kR a5 d.methods/\d.methods.length<=c5:=by
 obtain⟨tc,vm,rfl,h,hm⟩:=h;have h0:=h;obtain⟨a1,c1,a2,c2,a3,c3,a4,c4,rfl,e⟩:=h.lit;obtain⟨a5,c5,rfl,l5,e5⟩:=hm;exact⟨a1,c1,a2,c2,a3,c3,a4,c4,a5,c5,rfl,h0,e5,l5⟩
theorem qO.one(h:qO w d cs):∀v∈cs,v.oneCell'=true:=by
 obtain⟨a1,c1,a2,c2,a3,c3,a4,c4,a5,c5,rfl,_⟩:=h.lit;simp[Value.oneCell']
structure eK(w:Mem)(W:Wd)(a:Option Addr)(c:Nat):Prop where
 le:W.length<=c
 el:bQ w 10 (qO w) a W
theorem eK.fr{W:Wd}(h:eK w W a c)(hf:w.Le w'):eK w' W a c:=⟨h.le,h.el.mono hf fun _ _ _ h=>h.le hf⟩
@[reducible]def bK(W:Wd)(a:Option Addr)(c:Nat):Value:= .slice a W.length c
theorem Sl.pi{α:Type}{R:α->List Value->Prop}{n:Nat}{xs:List α}(h:Sl w k R (.slice a n c) xs):n=xs.length/\n<=c/\bQ w k R a xs:=by
 obtain⟨a',c',he,hl,e⟩:=h;simp only[qa5]at he;obtain⟨rfl,rfl,rfl⟩:=he;exact⟨rfl,hl,e⟩
theorem bQ.sl{α:Type}{R:α->List Value->Prop}{xs:List α}(h:bQ w k R a xs)(hc:xs.length<=c):Sl w k R (.slice a xs.length c) xs:=⟨a,c,rfl,hc,h⟩
inductive Ok(W:Wd):Ty->Prop where
 |mk (t:Ty) (hn:t.kind=1->W.has t.num) (he:t.kind=2\/t.kind=3->t.elem≠[]) (h1:∀u∈t.elem,Ok W u) (h2:∀f∈t.fields,Ok W f.2.2) (h4:∀f∈t.fields,f.2.1=true->f.2.2.kind=1\/(f.2.2.kind=2/\∀u∈f.2.2.elem,u.kind=1)) (h3:∀u∈t.aD,Ok W u):Ok W t
def o6(W:Wd):Prop:=∀d∈W,Ok W d.of
theorem Ok.num{W:Wd}(h:Ok W t):t.kind=1->W.has t.num:=by cases h;assumption
theorem Ok.el{W:Wd}(h:Ok W t):t.kind=2\/t.kind=3->t.elem≠[]:=by cases h;assumption
theorem Ok.elem{W:Wd}(h:Ok W t):∀u∈t.elem,Ok W u:=by cases h;assumption
theorem Ok.fields{W:Wd}(h:Ok W t):∀f∈t.fields,Ok W f.2.2:=by cases h;assumption
theorem Ok.np{W:Wd}(h:Ok W t):∀f∈t.fields,f.2.1=true->f.2.2.kind=1\/(f.2.2.kind=2/\∀u∈f.2.2.elem,u.kind=1):=by cases h;assumption
theorem Ok.aD{W:Wd}(h:Ok W t):∀u∈t.aD,Ok W u:=by cases h;assumption
theorem Wd.rT{W:Wd}(hW:o6 W){i:Int}(h:W.has i):Ok W (W.spot i).of:=hW _ (W.mem i h)
theorem Wd.LG{W:Wd}(hW:o6 W):∀(n:Nat) (s:Sp),Ok W s.of->Ok W (Wd.ja W n s).of
 |0,s,h=>h
 |n+1,s,h=>by
  unfold Wd.ja;split
  .exact h
  rename_i hc;simp only[ne_eq,qbC]at hc;exact Wd.LG hW n _ (Wd.rT hW (h.num hc))
theorem Wd.Ts{W:Wd}(hW:o6 W){B:Nat}(hB:Wd.aj W<=B):∀(n:Nat) (s:Sp),Ok W s.of->s.top<=B->(Wd.ja W n s).top<=B
 |0,s,_,h=>h
 |n+1,s,ho,h=>by
  unfold Wd.ja;split
  .exact h
  rename_i hc;simp only[ne_eq,qbC]at hc;exact Wd.Ts hW hB n _ (Wd.rT hW (ho.num hc)) (qaQ (Wd.Gs (ho.num hc)) hB)
theorem Sp.Ak{W:Wd}{s:Sp}(h:Ok W s.of)(hi:i<s.of.fields.length):Ok W (s.field i).of:=by
 unfold Sp.field;simp only[qaV,hi,qaa,qcl];exact h.fields _ (by simp)
theorem Sp.yi{W:Wd}{s:Sp}(h:Ok W s.of)(hi:i<s.of.aD.length):Ok W (s.bE i).of:=by
 unfold Sp.bE;simp only[qaV,hi,qaa,qcl];exact h.aD _ (by simp)
theorem Sp.tD{W:Wd}{s:Sp}(h:Ok W s.of)(hi:s.of.elem≠[]):Ok W s.elem.of:=by
 unfold Sp.elem;cases he:s.of.elem with
 |nil=>exact absurd he hi
 |cons x r=>exact h.elem x (by rw[he];simp)
end
theorem Ls:∀(n:Nat) (t:Ty),t.aj<n->∀{M:Mem} (w0:World) (cs:List Value),M.Le (Wm w0)->cC M t cs->t.aj<=2^40->az prog 81 [.agg cs.toArray] w0 fun r w'=>r= .int .i64 t.size/\Fr [] w0 w':=by
 intro n
 induction n with
 |zero=>intro t h;omega
 |succ n ih=>
 intro t hn M w0 cs hM eo dF;have cu:=Ty.size_le _ t (qam _);have jp:=t.size_eq;have l1:=t.yh;have l2:=t.lB;have l3:=t.qX;have e1:((t.elem.map Ty.size).take t.elem.length).sum=(t.elem.map Ty.size).sum:=by rw[qa2 (by simp)]
 have e2:((t.fields.map (fun f:Int×Bool×Ty=>1+f.2.2.size)).take t.fields.length).sum=(t.fields.map (fun f:Int×Bool×Ty=>1+f.2.2.size)).sum:=by rw[qa2 (by simp)]
 have e3:((t.aD.map Ty.size).take t.aD.length).sum=(t.aD.map Ty.size).sum:=by rw[qa2 (by simp)]
 obtain⟨a1,c1,a2,c2,a3,c3,a4,c4,rfl,he,hf,hm,hs,Bh,Bi,Bj,Bl⟩:=eo.lit;have h:=SH.start hM;refine aL mixed func81 WN ?_;refine au h ?_;clear h;intro b0 w h;refine ak h ?_;refine ak h ?_;refine bN (X:=Nat) (fun k=>[(1,.pointer (some ⟨b0,0,none⟩)),(3,.int .i64 ((t.methods.length+((t.elem.map Ty.size).take k).sum:Nat):Int)),(14,.slice a1 t.elem.length c1),(15,.int .i64 (t.elem.length:Int)),(16,.int .i64 (k:Int))])
  (fun k w=>k<=t.elem.length/\SH w0 M [] M [.ah b0 45 (bh t a1 c1 a2 c2 a3 c3 a4 c4)] w) (fun k=>t.elem.length-k) 0 ⟨rfl,rfl,rfl,rfl,rfl,tV⟩ ⟨qae _,h.aF⟩ ?_
 clear h;intro k aK w N ⟨hk,h⟩ hN;refine aI (fun aG=> ?_) (fun aY=> ?_)
 .have ad:k<t.elem.length:=by omega
  obtain⟨b,o,ci,rfl,hl,aO,aE⟩:=he.at ad;have fu:t.elem[k].aj<t.aj:=Ty.pe (by simp);have hle:=tH (t.elem.map Ty.size) k (by simpa using ad);have dS:=qJ (t.elem.map Ty.size) k (by simpa using ad);have gl:=nR (t.elem.map Ty.size) (k+1);simp only[qaU]at hle dS;have aZ:=aE.one;obtain⟨x1,d1,x2,d2,x3,d3,x4,d4,rfl,_⟩:=aE.lit;refine aJ (k) ?_;refine cG h aO ?_;refine au h ?_;clear h;intro b2 w h;refine br h aZ ?_;clear h;intro w h;refine bj h ?_;refine s_call h (ih t.elem[k] (by omega) w _ h.le aE (by omega)) ?_;clear h;rintro _ w rfl h
  skip
  refine aA (((t.methods.length+((t.elem.map Ty.size).take (k+1)).sum:Nat):Int)) ?_;refine aA (((k+1:Nat):Int)) ?_;exact hN (k+1) _ _ ⟨rfl,rfl,rfl,rfl,rfl,tV⟩ ⟨by omega,h.aF⟩ (by omega)
 obtain rfl:k=t.elem.length:=by omega
 clear hN;refine ak h ?_;refine bN (X:=Nat) (fun k=>[(1,.pointer (some ⟨b0,0,none⟩)),(3,.int .i64 ((t.methods.length+((t.elem.map Ty.size).take t.elem.length).sum+((t.fields.map (fun f:Int×Bool×Ty=>1+f.2.2.size)).take k).sum:Nat):Int)),(26,.slice a2 t.fields.length c2),(27,.int .i64 (t.fields.length:Int)),(28,.int .i64 (k:Int))])
  (fun k w=>k<=t.fields.length/\SH w0 M [] M [.ah b0 45 (bh t a1 c1 a2 c2 a3 c3 a4 c4)] w) (fun k=>t.fields.length-k) 0 ⟨rfl,rfl,rfl,rfl,rfl,tV⟩ ⟨qae _,h.aF⟩ ?_
 clear h;intro k aK w N ⟨hk,h⟩ hN;refine aI (fun aG=> ?_) (fun aY=> ?_)
 .have ad:k<t.fields.length:=by omega
  obtain⟨b,o,ci,rfl,hl,aO,aE⟩:=hf.at ad;have fu:t.fields[k].2.2.aj<t.aj:=Ty.sj (by simp);have hle:=tH (t.fields.map (fun f:Int×Bool×Ty=>1+f.2.2.size)) k (by simpa using ad);have dS:=qJ (t.fields.map (fun f:Int×Bool×Ty=>1+f.2.2.size)) k (by simpa using ad);have gl:=nR (t.fields.map (fun f:Int×Bool×Ty=>1+f.2.2.size)) (k+1);simp only[qaU]at hle dS;have aZ:=aE.one;obtain⟨tc,rfl,aE⟩:=aE;obtain⟨x1,d1,x2,d2,x3,d3,x4,d4,rfl,_⟩:=aE.lit;refine aJ (k) ?_;refine cG h aO ?_;refine au h ?_;clear h;intro b2 w h;refine br h aZ ?_;clear h;intro w h;refine i_ h (bh t.fields[k].2.2 x1 d1 x2 d2 x3 d3 x4 d4) ?_;refine s_call h (ih t.fields[k].2.2 (by omega) w _ h.le aE (by omega)) ?_;clear h;rintro _ w rfl h;refine aA (((1+t.fields[k].2.2.size:Nat):Int)) ?_;refine aA (((t.methods.length+((t.elem.map Ty.size).take t.elem.length).sum+((t.fields.map (fun f:Int×Bool×Ty=>1+f.2.2.size)).take (k+1)).sum:Nat):Int)) ?_;refine aA (((k+1:Nat):Int)) ?_;exact hN (k+1) _ _ ⟨rfl,rfl,rfl,rfl,rfl,tV⟩ ⟨by omega,h.aF⟩ (by omega)
 obtain rfl:k=t.fields.length:=by omega
 clear hN;refine ak h ?_;refine bN (X:=Nat) (fun k=>[(1,.pointer (some ⟨b0,0,none⟩)),(3,.int .i64 ((t.methods.length+((t.elem.map Ty.size).take t.elem.length).sum+((t.fields.map (fun f:Int×Bool×Ty=>1+f.2.2.size)).take t.fields.length).sum+((t.aD.map Ty.size).take k).sum:Nat):Int)),(40,.slice a4 t.aD.length c4),(41,.int .i64 (t.aD.length:Int)),(42,.int .i64 (k:Int))])
  (fun k w=>k<=t.aD.length/\SH w0 M [] M [.ah b0 45 (bh t a1 c1 a2 c2 a3 c3 a4 c4)] w) (fun k=>t.aD.length-k) 0 ⟨rfl,rfl,rfl,rfl,rfl,tV⟩ ⟨qae _,h.aF⟩ ?_
 clear h;intro k aK w N ⟨hk,h⟩ hN;refine aI (fun aG=> ?_) (fun aY=> ?_)
 .have ad:k<t.aD.length:=by omega
  obtain⟨b,o,ci,rfl,hl,aO,aE⟩:=hs.at ad;have fu:t.aD[k].aj<t.aj:=Ty.nY (by simp);have hle:=tH (t.aD.map Ty.size) k (by simpa using ad);have dS:=qJ (t.aD.map Ty.size) k (by simpa using ad);have gl:=nR (t.aD.map Ty.size) (k+1);simp only[qaU]at hle dS;have aZ:=aE.one;obtain⟨x1,d1,x2,d2,x3,d3,x4,d4,rfl,_⟩:=aE.lit;refine aJ (k) ?_;refine cG h aO ?_;refine au h ?_;clear h;intro b2 w h;refine br h aZ ?_;clear h;intro w h;refine bj h ?_;refine s_call h (ih t.aD[k] (by omega) w _ h.le aE (by omega)) ?_;clear h;rintro _ w rfl h
  skip
  refine aA (((t.methods.length+((t.elem.map Ty.size).take t.elem.length).sum+((t.fields.map (fun f:Int×Bool×Ty=>1+f.2.2.size)).take t.fields.length).sum+((t.aD.map Ty.size).take (k+1)).sum:Nat):Int)) ?_;refine aA (((k+1:Nat):Int)) ?_;exact hN (k+1) _ _ ⟨rfl,rfl,rfl,rfl,rfl,tV⟩ ⟨by omega,h.aF⟩ (by omega)
 obtain rfl:k=t.aD.length:=by omega
 clear hN;refine⟨?_,h.fr⟩;show Value.int _ _=_
 congr 2;omega
theorem Cp:∀(n:Nat) (t:Ty),t.aj<n->∀{M:Mem} (w0:World) (cs:List Value),M.Le (Wm w0)->cC M t cs->t.aj<=2^40->az prog 42 [.agg cs.toArray] w0 fun r w'=>r= .int .i64 t.size/\Fr [] w0 w':=by
 intro n
 induction n with
 |zero=>intro t h;omega
 |succ n ih=>
 intro t hn M w0 cs hM eo dF;have cu:=Ty.size_le _ t (qam _);have jp:=t.size_eq;have l1:=t.yh;have l2:=t.lB;have l3:=t.qX;have e1:((t.elem.map Ty.size).take t.elem.length).sum=(t.elem.map Ty.size).sum:=by rw[qa2 (by simp)]
 have e2:((t.fields.map (fun f:Int×Bool×Ty=>1+f.2.2.size)).take t.fields.length).sum=(t.fields.map (fun f:Int×Bool×Ty=>1+f.2.2.size)).sum:=by rw[qa2 (by simp)]
 have e3:((t.aD.map Ty.size).take t.aD.length).sum=(t.aD.map Ty.size).sum:=by rw[qa2 (by simp)]
 obtain⟨a1,c1,a2,c2,a3,c3,a4,c4,rfl,he,hf,hm,hs,Bh,Bi,Bj,Bl⟩:=eo.lit;have h:=SH.start hM;refine aL mixed func42 Wi ?_;refine au h ?_;clear h;intro b0 w h;refine ak h ?_;refine ak h ?_;refine bN (X:=Nat) (fun k=>[(1,.pointer (some ⟨b0,0,none⟩)),(3,.int .i64 ((t.methods.length+((t.fields.map (fun f:Int×Bool×Ty=>1+f.2.2.size)).take k).sum:Nat):Int)),(14,.slice a2 t.fields.length c2),(15,.int .i64 (t.fields.length:Int)),(16,.int .i64 (k:Int))])
  (fun k w=>k<=t.fields.length/\SH w0 M [] M [.ah b0 28 (bh t a1 c1 a2 c2 a3 c3 a4 c4)] w) (fun k=>t.fields.length-k) 0 ⟨rfl,rfl,rfl,rfl,rfl,tV⟩ ⟨qae _,h.aF⟩ ?_
 clear h;intro k aK w N ⟨hk,h⟩ hN;refine aI (fun aG=> ?_) (fun aY=> ?_)
 .have ad:k<t.fields.length:=by omega
  obtain⟨b,o,ci,rfl,hl,aO,aE⟩:=hf.at ad;have fu:t.fields[k].2.2.aj<t.aj:=Ty.sj (by simp);have hle:=tH (t.fields.map (fun f:Int×Bool×Ty=>1+f.2.2.size)) k (by simpa using ad);have dS:=qJ (t.fields.map (fun f:Int×Bool×Ty=>1+f.2.2.size)) k (by simpa using ad);have gl:=nR (t.fields.map (fun f:Int×Bool×Ty=>1+f.2.2.size)) (k+1);simp only[qaU]at hle dS;have aZ:=aE.one;obtain⟨tc,rfl,aE⟩:=aE;obtain⟨x1,d1,x2,d2,x3,d3,x4,d4,rfl,_⟩:=aE.lit;refine aJ (k) ?_;refine cG h aO ?_;refine au h ?_;clear h;intro b2 w h;refine br h aZ ?_;clear h;intro w h;refine i_ h (bh t.fields[k].2.2 x1 d1 x2 d2 x3 d3 x4 d4) ?_;refine s_call h (ih t.fields[k].2.2 (by omega) w _ h.le aE (by omega)) ?_;clear h;rintro _ w rfl h;refine aA (((1+t.fields[k].2.2.size:Nat):Int)) ?_;refine aA (((t.methods.length+((t.fields.map (fun f:Int×Bool×Ty=>1+f.2.2.size)).take (k+1)).sum:Nat):Int)) ?_;refine aA (((k+1:Nat):Int)) ?_;exact hN (k+1) _ _ ⟨rfl,rfl,rfl,rfl,rfl,tV⟩ ⟨by omega,h.aF⟩ (by omega)
 obtain rfl:k=t.fields.length:=by omega
 clear hN;refine ak h ?_;refine bN (X:=Nat) (fun k=>[(1,.pointer (some ⟨b0,0,none⟩)),(3,.int .i64 ((t.methods.length+((t.fields.map (fun f:Int×Bool×Ty=>1+f.2.2.size)).take t.fields.length).sum+((t.aD.map Ty.size).take k).sum:Nat):Int)),(28,.slice a4 t.aD.length c4),(29,.int .i64 (t.aD.length:Int)),(30,.int .i64 (k:Int))])
  (fun k w=>k<=t.aD.length/\SH w0 M [] M [.ah b0 28 (bh t a1 c1 a2 c2 a3 c3 a4 c4)] w) (fun k=>t.aD.length-k) 0 ⟨rfl,rfl,rfl,rfl,rfl,tV⟩ ⟨qae _,h.aF⟩ ?_
 clear h;intro k aK w N ⟨hk,h⟩ hN;refine aI (fun aG=> ?_) (fun aY=> ?_)
 .have ad:k<t.aD.length:=by omega
  obtain⟨b,o,ci,rfl,hl,aO,aE⟩:=hs.at ad;have fu:t.aD[k].aj<t.aj:=Ty.nY (by simp);have hle:=tH (t.aD.map Ty.size) k (by simpa using ad);have dS:=qJ (t.aD.map Ty.size) k (by simpa using ad);have gl:=nR (t.aD.map Ty.size) (k+1);simp only[qaU]at hle dS;have aZ:=aE.one;obtain⟨x1,d1,x2,d2,x3,d3,x4,d4,rfl,_⟩:=aE.lit;refine aJ (k) ?_;refine cG h aO ?_;refine au h ?_;clear h;intro b2 w h;refine br h aZ ?_;clear h;intro w h;refine bj h ?_;refine s_call h (ih t.aD[k] (by omega) w _ h.le aE (by omega)) ?_;clear h;rintro _ w rfl h
  skip
  refine aA (((t.methods.length+((t.fields.map (fun f:Int×Bool×Ty=>1+f.2.2.size)).take t.fields.length).sum+((t.aD.map Ty.size).take (k+1)).sum:Nat):Int)) ?_;refine aA (((k+1:Nat):Int)) ?_;exact hN (k+1) _ _ ⟨rfl,rfl,rfl,rfl,rfl,tV⟩ ⟨by omega,h.aF⟩ (by omega)
 obtain rfl:k=t.aD.length:=by omega
 clear hN;refine ak h ?_;refine bN (X:=Nat) (fun k=>[(1,.pointer (some ⟨b0,0,none⟩)),(3,.int .i64 ((t.methods.length+((t.fields.map (fun f:Int×Bool×Ty=>1+f.2.2.size)).take t.fields.length).sum+((t.aD.map Ty.size).take t.aD.length).sum+((t.elem.map Ty.size).take k).sum:Nat):Int)),(40,.slice a1 t.elem.length c1),(41,.int .i64 (t.elem.length:Int)),(42,.int .i64 (k:Int))])
  (fun k w=>k<=t.elem.length/\SH w0 M [] M [.ah b0 28 (bh t a1 c1 a2 c2 a3 c3 a4 c4)] w) (fun k=>t.elem.length-k) 0 ⟨rfl,rfl,rfl,rfl,rfl,tV⟩ ⟨qae _,h.aF⟩ ?_
 clear h;intro k aK w N ⟨hk,h⟩ hN;refine aI (fun aG=> ?_) (fun aY=> ?_)
 .have ad:k<t.elem.length:=by omega
  obtain⟨b,o,ci,rfl,hl,aO,aE⟩:=he.at ad;have fu:t.elem[k].aj<t.aj:=Ty.pe (by simp);have hle:=tH (t.elem.map Ty.size) k (by simpa using ad);have dS:=qJ (t.elem.map Ty.size) k (by simpa using ad);have gl:=nR (t.elem.map Ty.size) (k+1);simp only[qaU]at hle dS;have aZ:=aE.one;obtain⟨x1,d1,x2,d2,x3,d3,x4,d4,rfl,_⟩:=aE.lit;refine aJ (k) ?_;refine cG h aO ?_;refine au h ?_;clear h;intro b2 w h;refine br h aZ ?_;clear h;intro w h;refine bj h ?_;refine s_call h (ih t.elem[k] (by omega) w _ h.le aE (by omega)) ?_;clear h;rintro _ w rfl h
  skip
  refine aA (((t.methods.length+((t.fields.map (fun f:Int×Bool×Ty=>1+f.2.2.size)).take t.fields.length).sum+((t.aD.map Ty.size).take t.aD.length).sum+((t.elem.map Ty.size).take (k+1)).sum:Nat):Int)) ?_;refine aA (((k+1:Nat):Int)) ?_;exact hN (k+1) _ _ ⟨rfl,rfl,rfl,rfl,rfl,tV⟩ ⟨by omega,h.aF⟩ (by omega)
 obtain rfl:k=t.elem.length:=by omega
 clear hN;refine⟨?_,h.fr⟩;show Value.int _ _=_
 congr 2;omega
section
variable {M:Mem}{w0:World}{W:Wd}{a:Option Addr}{c i:Nat}{s:Sp}{cs:List Value}
theorem Gu{d:Nat}(hM:M.Le (Wm w0))(hW:eK M W a c)(hd:d<=W.length)(hb:W.aj<=2^40):
 az prog 33 [bK W a c,.int .i64 d] w0 fun r w'=>r= .int .i64 (W.start d)/\Fr [] w0 w':=by
 refine aL mixed func33 V9 ?_;have h:=SH.start hM;refine qai d (qai c (aI ⟨rfl,rfl,qaQ hd hW.le,qad _⟩ ?_));refine bN (X:=Nat) (fun k=>[(0,bK W a c),(1,.int .i64 d),(5,.int .i64 (W.start k)),(10,.slice a d c),(11,.int .i64 d),(12,.int .i64 (k:Int))])
  (fun k w=>k<=d/\SH w0 M [] M [] w) (fun k=>d-k) 0 ⟨rfl,rfl,rfl,rfl,rfl,rfl,tV⟩ ⟨qae _,h⟩ ?_
 clear h;intro k aK w N ⟨hk,h⟩ hN;refine aI (fun aG=> ?_) (fun aY=> ?_)
 .have ad:k<d:=by omega
  have iL:k<W.length:=by omega
  obtain⟨b,o,ci,rfl,hl,aO,aE⟩:=hW.el.at iL;have aZ:=aE.one;obtain⟨a1,c1,a2,c2,a3,c3,a4,c4,a5,c5,rfl,bA,hm,u9⟩:=aE.lit;refine aJ (k) ?_;refine cG h aO ?_;refine au h ?_;clear h;intro b2 w h;refine br h aZ ?_;clear h;intro w h;refine b_ [] h ?_;clear h;intro w h;refine bI h ?_;refine uh h (bh W[k].of a1 c1 a2 c2 a3 c3 a4 c4) ?_;refine aI ?_ trivial;obtain⟨f1,f2,f3,f4,f5⟩:=W.facts k iL;refine dg h (Ls _ W[k].of (qam _) w _ h.le bA (by omega)) ?_;clear h;rintro _ w rfl h;refine aA (((W[k].methods.length+W[k].of.size:Nat):Int)) ?_;refine aA (((W.start (k+1):Nat):Int)) ?_;refine aA (((k+1:Nat):Int)) ?_;exact hN (k+1) _ _ ⟨rfl,rfl,rfl,rfl,rfl,rfl,tV⟩ ⟨by omega,h.aF⟩ (by omega)
 obtain rfl:k=d:=by omega
 exact⟨rfl,h.fr⟩
theorem OE{α:Type}{l:List α}{d:α}(h:0<l.length):l[0]=l.headD d:=by
 cases l with
 |nil=>simp at h
 |cons x r=>rfl
theorem wE{α:Type}{l:List α}{d:α}(h:i<l.length):l[i]=l.getD i d:=by simp[qaV,h]
def r9(M:Mem)(s:Sp)(r:Value):Prop:=∃cs,r= .agg cs.toArray/\aS M s cs
theorem tD(hM:M.Le (Wm w0))(hs:aS M s cs)(aT:s.of.elem≠[]):
 az prog 56 [.agg cs.toArray] w0 fun r w'=>r9 M s.elem r/\Fr [] w0 w':=by
 obtain⟨a1,c1,a2,c2,a3,c3,a4,c4,rfl,bA,he,_⟩:=hs.lit;have hlen:0<s.of.elem.length:=qbu.2 aT;obtain⟨b,o,ci,rfl,hl,aO,aE⟩:=he.at hlen;rw[OE (d:=default) hlen,show s.of.elem.headD default=s.elem.of from rfl]at aE;obtain⟨x1,d1,x2,d2,x3,d3,x4,d4,rfl,_⟩:=aE.lit;have h:=SH.start hM;refine aL mixed func56 Wt ?_;refine au h ?_;clear h;intro b1 w h;refine au h ?_;clear h;intro b2 w h;have cV:=h.ne (o:=o) (b:=b) (e:= .ah b2 89 zC) (by simp) (aO 0 _ rfl) fun _=>rfl;have ne:=h.pd;simp[jv]at ne;refine b_ [b2] h ?_;clear h;intro w h;refine bI h ?_ (hS:=by simp;omega);refine aJ (0) ?_;refine ug h aO ?_ (hS:=by simpa using cV);refine bI h ?_ (hS:=by simp;omega);refine bI h ?_ (hS:=by simp;omega);refine aI ?_ trivial;refine pP h (aS.one (aS.mk (s:=s.elem) aE)) ?_;clear h;intro w h;refine bj h ?_;exact⟨⟨_,rfl,aS.mk aE⟩,h.fr⟩
theorem Ak(hM:M.Le (Wm w0))(hs:aS M s cs)(hi:i<s.of.fields.length)(hB:s.top<=2^40):
 az prog 85 [.agg cs.toArray,.int .i64 i] w0 fun r w'=>(∃v,r= .tuple #[v,.int .i64 (s.fieldAt i)]/\r9 M (s.field i) v)/\Fr [] w0 w':=by
 obtain⟨a1,c1,a2,c2,a3,c3,a4,c4,rfl,bA,_,he,_,_,_,yA,_⟩:=hs.lit;have AG:=HR s.of i hi;have c_:=s.of.lB;unfold Sp.top at hB;have h:=SH.start hM;refine aL mixed func85 WS ?_;refine au h ?_;clear h;intro b1 w h;refine au h ?_;clear h;intro b2 w h;refine ak h ?_;refine ak h ?_;refine qai i (qai c2 (aI ⟨rfl,rfl,by omega,qad _⟩ ?_));refine bN (X:=Nat) (fun k=>[(1,.int .i64 i),(2,.pointer (some ⟨b1,0,none⟩)),(4,.pointer (some ⟨b2,0,none⟩)),(6,.int .i64 (s.fieldAt k:Nat)),(15,.slice a2 i c2),(16,.int .i64 i),(17,.int .i64 (k:Int))])
  (fun k w=>k<=i/\SH w0 M [] M [.ah b2 89 zC,.ah b1 89 (dZ s a1 c1 a2 c2 a3 c3 a4 c4)] w) (fun k=>i-k) 0 ⟨rfl,rfl,rfl,rfl,rfl,rfl,rfl,tV⟩ ⟨qae _,h⟩ ?_
 clear h;intro k aK w N ⟨hk,h⟩ hN;refine aI (fun aG=> ?_) (fun aY=> ?_)
 .have ad:k<i:=by omega
  have iw:k<s.of.fields.length:=by omega
  obtain⟨b,o,ci,rfl,hl,aO,aE⟩:=he.at iw;have aZ:=aE.one;obtain⟨tc,rfl,aE⟩:=aE;obtain⟨x1,d1,x2,d2,x3,d3,x4,d4,rfl,_⟩:=aE.lit;have dS:=qJ (s.of.fields.map qg) k (by simpa using iw);have gl:=HR s.of k iw;have dF:=Ty.size_le _ s.of.fields[k].2.2 (qam _);simp only[qaU,<-qbt]at dS;have nx:qg s.of.fields[k]=1+s.of.fields[k].2.2.size:=rfl;refine aJ (k) ?_;refine cG h aO ?_;refine au h ?_;clear h;intro b4 w h;refine br h aZ ?_;clear h;intro w h;refine i_ h (bh s.of.fields[k].2.2 x1 d1 x2 d2 x3 d3 x4 d4) ?_;refine s_call h (Ls _ s.of.fields[k].2.2 (qam _) w _ h.le aE (by omega)) ?_;clear h;rintro _ w rfl h;refine aA (((1+s.of.fields[k].2.2.size:Nat):Int)) ?_;refine aA ((s.fieldAt (k+1):Nat):Int) ?_ (by unfold Sp.fieldAt;omega) (by unfold Sp.fieldAt;omega) (by unfold Sp.fieldAt;omega);refine aA (((k+1:Nat):Int)) ?_;exact hN (k+1) _ _ ⟨rfl,rfl,rfl,rfl,rfl,rfl,rfl,tV⟩ ⟨by omega,h.aF⟩ (by omega)
 obtain rfl:k=i:=by omega
 obtain⟨b,o,ci,rfl,hl,aO,aE⟩:=he.at hi;obtain⟨tc,rfl,aE⟩:=aE;rw[wE (d:=default) hi,show(s.of.fields.getD k default).2.2=(s.field k).of from rfl]at aE;obtain⟨x1,d1,x2,d2,x3,d3,x4,d4,rfl,_⟩:=aE.lit;have nM:=fun b o v=>h.xA b2 (b:=b) (o:=o) (v:=v);have ne:=h.pd;simp[jv]at ne;refine b_ [b2] h ?_;clear h;intro w h;refine bI h ?_ (hS:=by simp;omega);refine aJ (k) ?_;refine ug h (aO.sub 2 (bh (s.field k).of x1 d1 x2 d2 x3 d3 x4 d4) rfl) ?_ (hS:=nM _ _ _ (aO 0 _ rfl));refine aA ((s.fieldAt k+1:Nat):Int) ?_ (by omega) (by unfold Sp.fieldAt;omega) (by unfold Sp.fieldAt;omega);refine bI h ?_ (hS:=by simp;omega);refine aI ?_ trivial;refine pP h (aS.one (aS.mk (s:=s.field k) aE)) ?_;clear h;intro w h;refine bj h ?_;exact⟨⟨_,rfl,⟨_,rfl,aS.mk aE⟩⟩,h.fr⟩
theorem yi(hM:M.Le (Wm w0))(hs:aS M s cs)(hi:i<s.of.aD.length)(hB:s.top<=2^40):
 az prog 84 [.agg cs.toArray,.int .i64 i] w0 fun r w'=>r9 M (s.bE i) r/\Fr [] w0 w':=by
 obtain⟨a1,c1,a2,c2,a3,c3,a4,c4,rfl,bA,_,_,_,he,_,_,_,Ib⟩:=hs.lit;have AG:=HI s.of i hi;have c_:=s.of.qX;unfold Sp.top at hB;have h:=SH.start hM;refine aL mixed func84 WR ?_;refine au h ?_;clear h;intro b1 w h;refine au h ?_;clear h;intro b2 w h;refine ak h ?_;refine ak h ?_;refine aA ((s.at_+s.of.methods.length+((s.of.aD.take 0).map Ty.size).sum:Nat):Int) ?_ (by simp) (by simp;omega) (by simp;omega);refine ak h ?_;refine qai i (qai c4 (aI ⟨rfl,rfl,by omega,qad _⟩ ?_));refine bN (X:=Nat) (fun k=>[(1,.int .i64 i),(2,.pointer (some ⟨b1,0,none⟩)),(4,.pointer (some ⟨b2,0,none⟩)),(5,.int .i64 (s.at_+s.of.methods.length+((s.of.aD.take k).map Ty.size).sum:Nat)),(19,.slice a4 i c4),(20,.int .i64 i),(21,.int .i64 (k:Int))])
  (fun k w=>k<=i/\SH w0 M [] M [.ah b2 89 zC,.ah b1 89 (dZ s a1 c1 a2 c2 a3 c3 a4 c4)] w) (fun k=>i-k) 0 ⟨rfl,rfl,rfl,rfl,rfl,rfl,rfl,tV⟩ ⟨qae _,h⟩ ?_
 clear h;intro k aK w N ⟨hk,h⟩ hN;refine aI (fun aG=> ?_) (fun aY=> ?_)
 .have ad:k<i:=by omega
  have iw:k<s.of.aD.length:=by omega
  obtain⟨b,o,ci,rfl,hl,aO,aE⟩:=he.at iw;have aZ:=aE.one;obtain⟨x1,d1,x2,d2,x3,d3,x4,d4,rfl,_⟩:=aE.lit;have dS:=qJ (s.of.aD.map Ty.size) k (by simpa using iw);have gl:=HI s.of k iw;have dF:=Ty.size_le _ s.of.aD[k] (qam _);simp only[qaU,<-qbt]at dS;refine aJ (k) ?_;refine cG h aO ?_;refine au h ?_;clear h;intro b4 w h;refine br h aZ ?_;clear h;intro w h;refine bj h ?_;refine s_call h (Ls _ s.of.aD[k] (qam _) w _ h.le aE (by omega)) ?_;clear h;rintro _ w rfl h;refine aA (((s.at_+s.of.methods.length+((s.of.aD.take (k+1)).map Ty.size).sum:Nat):Int)) ?_;refine aA (((k+1:Nat):Int)) ?_;exact hN (k+1) _ _ ⟨rfl,rfl,rfl,rfl,rfl,rfl,rfl,tV⟩ ⟨by omega,h.aF⟩ (by omega)
 obtain rfl:k=i:=by omega
 obtain⟨b,o,ci,rfl,hl,aO,aE⟩:=he.at hi;rw[wE (d:=default) hi,show(s.of.aD.getD k default)=(s.bE k).of from rfl]at aE;obtain⟨x1,d1,x2,d2,x3,d3,x4,d4,rfl,_⟩:=aE.lit;have nM:=fun b o v=>h.xA b2 (b:=b) (o:=o) (v:=v);have ne:=h.pd;simp[jv]at ne;refine b_ [b2] h ?_;clear h;intro w h;refine bI h ?_ (hS:=by simp;omega);refine aJ (k) ?_;refine ug h aO ?_ (hS:=nM _ _ _ (aO 0 _ rfl));refine bI h ?_ (hS:=by simp;omega);refine aI ?_ trivial;refine pP h (aS.one (aS.mk (s:=s.bE k) aE)) ?_;clear h;intro w h;refine bj h ?_;exact⟨⟨_,rfl,aS.mk aE⟩,h.fr⟩
theorem Wd.p7{i:Int}(h:W.has i):W[i.toNat]'h.2=W.at i:=by simp[Wd.at,h.2]
theorem Wd.ji{i:Int}(h:W.has i):i=(i.toNat:Int):=by have:=h.1;omega
theorem rT{i:Int}(hM:M.Le (Wm w0))(hW:eK M W a c)(hi:W.has i)(hb:W.aj<=2^40):
 az prog 38 [bK W a c,.int .i64 i] w0 fun r w'=>r9 M (W.spot i) r/\Fr [] w0 w':=by
 obtain⟨b,o,ci,rfl,hl,aO,aE⟩:=hW.el.at hi.2;rw[Wd.p7 hi]at aE;obtain⟨x1,d1,x2,d2,x3,d3,x4,d4,x5,d5,rfl,bA,hm,u9⟩:=aE.lit;have ht:=Wd.Gs hi;unfold Sp.top Wd.spot at ht;simp only at ht;have fD:=(W.at i).of.EK;have h:=SH.start hM;refine aL mixed func38 We ?_;refine au h ?_;clear h;intro b1 w h;have nM:=fun b o v=>h.xA b1 (b:=b) (o:=o) (v:=v);have ne:=h.pd;simp[jv]at ne;refine b_ [b1] h ?_;clear h;intro w h;refine aJ i.toNat ?_ hi.2 (Wd.ji hi);refine ug h (aO.sub 3 (bh (W.at i).of x1 d1 x2 d2 x3 d3 x4 d4) rfl) ?_ (hS:=nM _ _ _ (aO 0 _ rfl));refine aJ i.toNat ?_ hi.2 (Wd.ji hi);refine cd h (aO 9 _ rfl) ?_ (hS:=nM _ _ _ (aO 0 _ rfl));refine aJ i.toNat ?_ hi.2 (Wd.ji hi);refine cd h (aO 1 _ rfl) ?_ (hS:=nM _ _ _ (aO 0 _ rfl));refine aI ?_ trivial;have aU:=Gu h.le hW (Nat.le_of_lt hi.2) hb;rw[<-Wd.ji hi]at aU;refine dg h (aU) ?_;clear h;rintro _ w rfl h;refine aA (((W.start i.toNat+(W.at i).methods.length:Nat):Int)) ?_;refine aI ?_ trivial;refine pP h (aS.one (aS.mk (s:=W.spot i) bA)) ?_;clear h;intro w h;refine bj h ?_;exact⟨⟨_,rfl,aS.mk bA⟩,h.fr⟩
theorem RS{t:Ty}(hM:M.Le (Wm w0))(hW:eK M W a c)(ht:cC M t cs)(hb:W.aj<=2^40):
 az prog 40 [bK W a c,.agg cs.toArray] w0 fun r w'=>r9 M (W.operand t) r/\Fr [] w0 w':=by
 have FM:=ht;obtain⟨x1,d1,x2,d2,x3,d3,x4,d4,rfl,_⟩:=ht.lit;have h:=SH.start hM;refine aL mixed func40 Wg ?_;refine au h ?_;clear h;intro b1 w h;refine au h ?_;clear h;intro b2 w h;have nM:=fun b o v=>h.xA b2 (b:=b) (o:=o) (v:=v);have ne:=h.pd;simp[jv]at ne;refine b_ [b2] h ?_;clear h;intro w h;refine lc h ?_ (hS:=by simp;omega);refine aI ?_ trivial;refine dg h (Gu h.le hW (qad _) hb) ?_;clear h;rintro _ w rfl h;refine aI ?_ trivial;refine pP h (aS.one (aS.mk (s:=W.operand t) FM)) ?_;clear h;intro w h;refine bj h ?_;exact⟨⟨_,rfl,aS.mk FM⟩,h.fr⟩
theorem vV(W:Wd)(n:Nat)(s:Sp):Wd.qF W (n+1) s=if s.of.kind≠1\/(W.at s.of.num).bU=false then s else Wd.qF W n (W.spot s.of.num):=rfl
theorem rU(W:Wd)(n:Nat)(s:Sp):Wd.ja W (n+1) s=if s.of.kind≠1 then s else Wd.ja W n (W.spot s.of.num):=rfl
theorem Rw.at{b o:Nat}(h:Rw M b o cs)(i:Nat){v:Value}(hv:cs[i]? =some v):M.cell b (o+i)=some v:=h i v hv
theorem sW(hM:M.Le (Wm w0))(hW:eK M W a c)(hs:aS M s cs)(hk:o6 W)(ho:Ok W s.of)(hb:W.aj<=2^40):
 az prog 54 [bK W a c,.agg cs.toArray] w0 fun r w'=>r9 M (W.plain s) r/\Fr [] w0 w':=by
 obtain⟨x1,d1,x2,d2,x3,d3,x4,d4,rfl,bA,_⟩:=hs.lit;have vE:=W.len;have h:=SH.start hM;refine aL mixed func54 Wr ?_;refine au h ?_;clear h;intro b1 w h;refine au h ?_;clear h;intro b2 w h;refine aA (((W.length+1:Nat):Int)) ?_;refine fB (X:=Nat×Sp×List Value) (Y:=List Value) 0 (fun x=>[(0,bK W a c),(3,.pointer (some ⟨b1,0,none⟩)),(4,.pointer (some ⟨b2,0,none⟩)),(7,.int .i64 (W.length+1:Nat)),(8,.int .i64 (x.1:Int))])
  (fun x w=>x.1<=W.length+1/\aS M x.2.1 x.2.2/\W.qF (W.length+1-x.1) x.2.1=W.plain s/\Ok W x.2.1.of/\SH w0 M [] M [.ah b1 89 x.2.2,.ah b2 89 zC] w) (fun x=>W.length+1-x.1)
  (fun _=>[(3,.pointer (some ⟨b1,0,none⟩)),(4,.pointer (some ⟨b2,0,none⟩))])
  (fun cs' w=>aS M (W.plain s) cs'/\SH w0 M [] M [.ah b1 89 cs',.ah b2 89 zC] w)
  (0,s,dZ s x1 d1 x2 d2 x3 d3 x4 d4) ⟨rfl,rfl,rfl,rfl,rfl,tV⟩ ⟨qae _,hs,rfl,ho,h.aF⟩ ?_ ?_
 .clear h hs bA ho;rintro⟨k,s1,ph⟩ aK w N Z hx hN lC;obtain⟨nA,fH,jJ,cQ,h⟩:=hx;simp only at*;obtain⟨y1,e1,y2,e2,y3,e3,y4,e4,rfl,bA,_⟩:=fH.lit;refine aI (fun aG=> ?_) (fun aY=> ?_)
  .have zbo:k<W.length+1:=by omega
   rw[show W.length+1-k=(W.length-k)+1 by omega,vV]at jJ;refine ak h ?_;refine aI (fun h1=> ?_) (fun h1=> ?_)
   .have hn:=cQ.num h1;obtain⟨b,o,ci,rfl,hl,aO,aE⟩:=hW.el.at hn.2;rw[Wd.p7 hn]at aE;obtain⟨z1,f1,z2,f2,z3,f3,z4,f4,z5,f5,rfl,_⟩:=aE.lit;refine ak h ?_;refine aJ s1.of.num.toNat ?_ hn.2 (Wd.ji hn);refine aP h (aO 2 _ rfl) ?_;by_cases iI:(W.at s1.of.num).bU=true;rotate_left 1
    .simp only[qaZ]at iI;rw[iI];rw[if_pos (.inr iI)]at jJ;exact lC (dZ s1 y1 e1 y2 e2 y3 e3 y4 e4) _ _ ⟨rfl,rfl,tV⟩ ⟨by rw[<-jJ];exact fH,h.aF⟩
    rw[iI];rw[if_neg (by simp[h1,iI])]at jJ;refine ak h ?_;refine s_call h (rT h.le hW hn hb) ?_;clear h;rintro _ w ⟨Xl,rfl,tZ⟩ h;have JK:=tZ;obtain⟨u1,g1,u2,g2,u3,g3,u4,g4,rfl,_⟩:=tZ.lit;refine br h tZ.one ?_;clear h;intro w h;refine aA (((k+1:Nat):Int)) ?_;exact hN (k+1,W.spot s1.of.num,dZ (W.spot s1.of.num) u1 g1 u2 g2 u3 g3 u4 g4) _ _ ⟨rfl,rfl,rfl,rfl,rfl,tV⟩ ⟨by simp only;omega,JK,by simp only;rw[<-jJ,show W.length+1-(k+1)=W.length-k by omega],Wd.rT hk hn,h.aF⟩ (by simp only;omega)
   rw[if_pos (by simp[h1])]at jJ;exact lC (dZ s1 y1 e1 y2 e2 y3 e3 y4 e4) _ _ ⟨rfl,rfl,tV⟩ ⟨by rw[<-jJ];exact fH,h.aF⟩
  obtain rfl:k=W.length+1:=by omega
  rw[Nat.sub_self]at jJ;exact lC (dZ s1 y1 e1 y2 e2 y3 e3 y4 e4) _ _ ⟨rfl,rfl,tV⟩ ⟨by rw[<-jJ];exact fH,h.aF⟩
 clear h;intro cs' aK w ⟨fH,h⟩;obtain⟨y1,e1,y2,e2,y3,e3,y4,e4,rfl,bA,_⟩:=fH.lit;refine bj h ?_;refine br h fH.one ?_;clear h;intro w h;refine bj h ?_;exact⟨⟨_,rfl,fH⟩,h.fr⟩
theorem pU(hM:M.Le (Wm w0))(hW:eK M W a c)(hs:aS M s cs)(hk:o6 W)(ho:Ok W s.of)(hb:W.aj<=2^40):
 az prog 55 [bK W a c,.agg cs.toArray] w0 fun r w'=>r9 M (W.under s) r/\Fr [] w0 w':=by
 obtain⟨x1,d1,x2,d2,x3,d3,x4,d4,rfl,bA,_⟩:=hs.lit;have vE:=W.len;have h:=SH.start hM;refine aL mixed func55 Ws ?_;refine au h ?_;clear h;intro b1 w h;refine au h ?_;clear h;intro b2 w h;refine aA (((W.length+1:Nat):Int)) ?_;refine fB (X:=Nat×Sp×List Value) (Y:=List Value) 0 (fun x=>[(0,bK W a c),(3,.pointer (some ⟨b1,0,none⟩)),(4,.pointer (some ⟨b2,0,none⟩)),(7,.int .i64 (W.length+1:Nat)),(8,.int .i64 (x.1:Int))])
  (fun x w=>x.1<=W.length+1/\aS M x.2.1 x.2.2/\W.ja (W.length+1-x.1) x.2.1=W.under s/\Ok W x.2.1.of/\SH w0 M [] M [.ah b1 89 x.2.2,.ah b2 89 zC] w) (fun x=>W.length+1-x.1)
  (fun _=>[(3,.pointer (some ⟨b1,0,none⟩)),(4,.pointer (some ⟨b2,0,none⟩))])
  (fun cs' w=>aS M (W.under s) cs'/\SH w0 M [] M [.ah b1 89 cs',.ah b2 89 zC] w)
  (0,s,dZ s x1 d1 x2 d2 x3 d3 x4 d4) ⟨rfl,rfl,rfl,rfl,rfl,tV⟩ ⟨qae _,hs,rfl,ho,h.aF⟩ ?_ ?_
 .clear h hs bA ho;rintro⟨k,s1,ph⟩ aK w N Z hx hN lC;obtain⟨nA,fH,jJ,cQ,h⟩:=hx;simp only at*;obtain⟨y1,e1,y2,e2,y3,e3,y4,e4,rfl,bA,_⟩:=fH.lit;refine aI (fun aG=> ?_) (fun aY=> ?_)
  .have zbo:k<W.length+1:=by omega
   rw[show W.length+1-k=(W.length-k)+1 by omega,rU]at jJ;refine ak h ?_;refine aI (fun h1=> ?_) (fun h1=> ?_)
   .have hn:=cQ.num h1;rw[if_neg (by simp[h1])]at jJ;refine ak h ?_;refine s_call h (rT h.le hW hn hb) ?_;clear h;rintro _ w ⟨Xl,rfl,tZ⟩ h;have JK:=tZ;obtain⟨u1,g1,u2,g2,u3,g3,u4,g4,rfl,_⟩:=tZ.lit;refine br h tZ.one ?_;clear h;intro w h;refine aA (((k+1:Nat):Int)) ?_;exact hN (k+1,W.spot s1.of.num,dZ (W.spot s1.of.num) u1 g1 u2 g2 u3 g3 u4 g4) _ _ ⟨rfl,rfl,rfl,rfl,rfl,tV⟩ ⟨by simp only;omega,JK,by simp only;rw[<-jJ,show W.length+1-(k+1)=W.length-k by omega],Wd.rT hk hn,h.aF⟩ (by simp only;omega)
   rw[if_pos (by simp[h1])]at jJ;exact lC (dZ s1 y1 e1 y2 e2 y3 e3 y4 e4) _ _ ⟨rfl,rfl,tV⟩ ⟨by rw[<-jJ];exact fH,h.aF⟩
  obtain rfl:k=W.length+1:=by omega
  rw[Nat.sub_self]at jJ;exact lC (dZ s1 y1 e1 y2 e2 y3 e3 y4 e4) _ _ ⟨rfl,rfl,tV⟩ ⟨by rw[<-jJ];exact fH,h.aF⟩
 clear h;intro cs' aK w ⟨fH,h⟩;obtain⟨y1,e1,y2,e2,y3,e3,y4,e4,rfl,bA,_⟩:=fH.lit;refine bj h ?_;refine br h fH.one ?_;clear h;intro w h;refine bj h ?_;exact⟨⟨_,rfl,fH⟩,h.fr⟩
end
section
variable {m:Int×Bool}{cs:List Value}
theorem ED:h_ prog 41 41 45 6 112=true:=by kernel_rfl
theorem Mf:h_ prog 42 42 103 8 128=true:=by kernel_rfl
theorem Mg:h_ prog 43 43 87 2 16=true:=by kernel_rfl
def T7(M:Mem)(t:Ty)(r:Value):Prop:=∃cs,r= .agg cs.toArray/\cC M t cs
theorem kR.one(h:kR m cs):∀v∈cs,v.oneCell'=true:=by
 cases h;simp[Value.oneCell']
theorem kR.le{M N:Mem}(_:M.Le N)(h:kR m cs):kR m cs:=h
theorem Ea:∀(n:Nat) (t:Ty),t.aj<n->∀{M:Mem} (w0:World) (cs:List Value),M.Le (Wm w0)->cC M t cs->t.aj<=2^32->
 az prog 10 [.agg cs.toArray] w0 fun r w'=>∃M',T7 M' t r/\Gr M w0 M' w':=by
 intro n
 induction n with
 |zero=>intro t h;omega
 |succ n ih=>
 intro t hn M w0 cs hM eo dF;obtain⟨a1,c1,a2,c2,a3,c3,a4,c4,rfl,he,hf,hm,hs,Bh,Bi,Bj,Bl⟩:=eo.lit;have l1:=t.yh;have l2:=t.lB;have l3:=t.qX;have l4:=t.zp;have h:=SH.start hM;refine aL mixed func10 UW ?_;refine au h ?_;clear h;intro b1 w h;refine au h ?_;clear h;intro b2 w h;refine ak h ?_;refine ak h ?_;refine au h ?_;clear h;intro b3 w h;refine br h (cO (vs:=[Value.int .i64 t.kind,.int .i64 t.num,.slice none 0 0,.slice none 0 0,.slice none 0 0,.slice none 0 0]) rfl) ?_;clear h;intro w h;refine ak h ?_;refine bN (X:=Nat×Value×List (List Value)×Mem) (fun x=>[(1,.pointer (some ⟨b1,0,none⟩)),(2,.pointer (some ⟨b2,0,none⟩)),(3,.pointer (some ⟨b3,0,none⟩)),(18,.slice a1 t.elem.length c1),(19,.int .i64 (t.elem.length:Int)),(20,.int .i64 (x.1:Int))])
  (fun x w=>x.1<=t.elem.length/\bC (cC x.2.2.2) (t.elem.take x.1) x.2.2.1/\M.Le x.2.2.2/\SH w0 M [] x.2.2.2 ([.ah b1 28 (bh t a1 c1 a2 c2 a3 c3 a4 c4),.ah b2 45 D9,.ah b3 45 [Value.int .i64 t.kind,.int .i64 t.num,x.2.1,.slice none 0 0,.slice none 0 0,.slice none 0 0],.own x.2.1 6 45 x.2.2.1]) w)
  (fun x=>t.elem.length-x.1) (0,.slice none 0 0,[],M) ⟨rfl,rfl,rfl,rfl,rfl,rfl,tV⟩ ⟨qae _,tV,Mem.Le.refl _,(h.gV 6 45).aF⟩ ?_
 clear h;rintro⟨k,v1,q1,M1⟩ aK w N ⟨hk,dw,aV,h⟩ hN;simp only at hk dw aV h;refine aI (fun aG=> ?_) (fun aY=> ?_)
 .have ad:k<t.elem.length:=by omega
  have u6:=dw.len;rw[qaG,qaY hk]at u6;obtain⟨b,o,ci,rfl,hl,aO,aE⟩:=he.at ad;have aZ:=aE.one;replace aO:=aO.le ((Mem.Le.refl M).trans aV);replace aE:=aE.le ((Mem.Le.refl M).trans aV);obtain⟨x1,d1,x2,d2,x3,d3,x4,d4,rfl,_⟩:=aE.lit;have fu:t.elem[k].aj<t.aj:=Ty.pe (by simp);refine aJ (k) ?_;refine cG h aO ?_;refine au h ?_;clear h;intro b6 w h;refine br h aZ ?_;clear h;intro w h;have yu:=h.F9 (b:=b6) (b':=b3) (v:=v1);refine b_ (b3::cZ v1) h ?_;clear h;intro w h;refine lc h ?_ (hS:=yu);refine aI ?_ (aI ?_ trivial)
  .refine td h ?_;refine aI ?_ trivial;refine fN h (ih t.elem[k] (by omega) w _ h.le aE (by omega)) ?_;clear h;rintro _ M9 w ⟨yf,rfl,h9⟩ cB h;have po:=h9;obtain⟨y1,e1,y2,e2,y3,e3,y4,e4,rfl,_⟩:=h9.lit;refine aI ?_ trivial;refine dX h ?_;clear h;intro er w h;refine aI ?_ trivial;refine eI h ED h.df (de (cC.one h9)) ?_;clear h;intro v' w h;refine aI ?_ trivial;refine sV h ?_ (hv:=h.lU);clear h;intro w h;refine aA (((k+1:Nat):Int)) ?_;exact hN (k+1,v',_,M9) _ _ ⟨rfl,rfl,rfl,rfl,rfl,rfl,tV⟩ ⟨ad,bC.dN (dw.mono fun _ _ _ hx=>hx.le cB) ad po,aV.trans cB,h.aF⟩ (by simp only;omega)
  refine fN h (ih t.elem[k] (by omega) w _ h.le aE (by omega)) ?_;clear h;rintro _ M9 w ⟨yf,rfl,h9⟩ cB h;have po:=h9;obtain⟨y1,e1,y2,e2,y3,e3,y4,e4,rfl,_⟩:=h9.lit;refine aI ?_ (aI ?_ trivial);refine td h ?_;refine aI ?_ trivial;refine dX h ?_;clear h;intro er w h;rotate_left;refine dX h ?_;clear h;intro er w h;refine aI ?_ trivial;refine td h ?_
  all_goals
   refine aI ?_ trivial;refine eI h ED h.df (de (cC.one h9)) ?_;clear h;intro v' w h;refine aI ?_ trivial;refine sV h ?_ (hv:=h.lU);clear h;intro w h;refine aA (((k+1:Nat):Int)) ?_;exact hN (k+1,v',_,M9) _ _ ⟨rfl,rfl,rfl,rfl,rfl,rfl,tV⟩ ⟨ad,bC.dN (dw.mono fun _ _ _ hx=>hx.le cB) ad po,aV.trans cB,h.aF⟩ (by simp only;omega)
 obtain rfl:k=t.elem.length:=by omega
 clear hN;rw[qay]at dw;have oE:=(Mem.Le.refl M).trans aV;have mS:=dw;have nB:=aV;clear dw aV hk;refine ak h ?_;refine bN (X:=Nat×Value×List (List Value)×Mem) (fun x=>[(1,.pointer (some ⟨b1,0,none⟩)),(2,.pointer (some ⟨b2,0,none⟩)),(3,.pointer (some ⟨b3,0,none⟩)),(33,.slice a2 t.fields.length c2),(34,.int .i64 (t.fields.length:Int)),(35,.int .i64 (x.1:Int))])
  (fun x w=>x.1<=t.fields.length/\bC (kO x.2.2.2) (t.fields.take x.1) x.2.2.1/\M1.Le x.2.2.2/\SH w0 M [] x.2.2.2 ([.ah b1 28 (bh t a1 c1 a2 c2 a3 c3 a4 c4),.ah b2 45 D9,.ah b3 45 [Value.int .i64 t.kind,.int .i64 t.num,v1,x.2.1,.slice none 0 0,.slice none 0 0],.own x.2.1 8 103 x.2.2.1,.own v1 6 45 q1]) w)
  (fun x=>t.fields.length-x.1) (0,.slice none 0 0,[],M1) ⟨rfl,rfl,rfl,rfl,rfl,rfl,tV⟩ ⟨qae _,tV,Mem.Le.refl _,(h.gV 8 103).aF⟩ ?_
 clear h;rintro⟨k,v2,q2,M2⟩ aK w N ⟨hk,dw,aV,h⟩ hN;simp only at hk dw aV h;refine aI (fun aG=> ?_) (fun aY=> ?_)
 .have ad:k<t.fields.length:=by omega
  have u6:=dw.len;rw[qaG,qaY hk]at u6;obtain⟨b,o,ci,rfl,hl,aO,aE⟩:=hf.at ad;have aZ:=aE.one;replace aO:=aO.le (oE.trans aV);replace aE:=aE.le (oE.trans aV);have zge:=aE;obtain⟨tc,rfl,aE⟩:=aE;obtain⟨x1,d1,x2,d2,x3,d3,x4,d4,rfl,_⟩:=aE.lit;have fu:t.fields[k].2.2.aj<t.aj:=Ty.sj (by simp);refine aJ (k) ?_;refine cG h aO ?_;refine au h ?_;clear h;intro b6 w h;refine br h aZ ?_;clear h;intro w h;have yu:=h.F9 (b:=b6) (b':=b3) (v:=v2);refine b_ (b3::cZ v2) h ?_;clear h;intro w h;refine bI h ?_ (hS:=yu);refine bI h ?_ (hS:=yu);refine uh h (bh t.fields[k].2.2 x1 d1 x2 d2 x3 d3 x4 d4) ?_ (hS:=yu);refine aI ?_ (aI ?_ trivial)
  .refine td h ?_;refine aI ?_ trivial;refine fN h (ih t.fields[k].2.2 (by omega) w _ h.le aE (by omega)) ?_;clear h;rintro _ M9 w ⟨yf,rfl,h9⟩ cB h;have po:=h9;obtain⟨y1,e1,y2,e2,y3,e3,y4,e4,rfl,_⟩:=h9.lit;refine aI ?_ trivial;refine dX h ?_;clear h;intro er w h;refine aI ?_ trivial;refine eI h Mf h.df (de (kO.one (f:=t.fields[k]) ⟨_,rfl,h9⟩)) ?_;clear h;intro v' w h;refine aI ?_ trivial;refine sV h ?_ (hv:=h.lU);clear h;intro w h;refine aA (((k+1:Nat):Int)) ?_;exact hN (k+1,v',_,M9) _ _ ⟨rfl,rfl,rfl,rfl,rfl,rfl,tV⟩ ⟨ad,bC.dN (dw.mono fun _ _ _ hx=>hx.le cB) ad ⟨_,rfl,po⟩,aV.trans cB,h.aF⟩ (by simp only;omega)
  refine fN h (ih t.fields[k].2.2 (by omega) w _ h.le aE (by omega)) ?_;clear h;rintro _ M9 w ⟨yf,rfl,h9⟩ cB h;have po:=h9;obtain⟨y1,e1,y2,e2,y3,e3,y4,e4,rfl,_⟩:=h9.lit;refine aI ?_ (aI ?_ trivial);refine td h ?_;refine aI ?_ trivial;refine dX h ?_;clear h;intro er w h;rotate_left;refine dX h ?_;clear h;intro er w h;refine aI ?_ trivial;refine td h ?_
  all_goals
   refine aI ?_ trivial;refine eI h Mf h.df (de (kO.one (f:=t.fields[k]) ⟨_,rfl,h9⟩)) ?_;clear h;intro v' w h;refine aI ?_ trivial;refine sV h ?_ (hv:=h.lU);clear h;intro w h;refine aA (((k+1:Nat):Int)) ?_;exact hN (k+1,v',_,M9) _ _ ⟨rfl,rfl,rfl,rfl,rfl,rfl,tV⟩ ⟨ad,bC.dN (dw.mono fun _ _ _ hx=>hx.le cB) ad ⟨_,rfl,po⟩,aV.trans cB,h.aF⟩ (by simp only;omega)
 obtain rfl:k=t.fields.length:=by omega
 clear hN;rw[qay]at dw;have rE:=oE.trans aV;have gH:=dw;have cR:=aV;clear dw aV hk;refine ak h ?_;refine bN (X:=Nat×Value×List (List Value)×Mem) (fun x=>[(1,.pointer (some ⟨b1,0,none⟩)),(2,.pointer (some ⟨b2,0,none⟩)),(3,.pointer (some ⟨b3,0,none⟩)),(54,.slice a3 t.methods.length c3),(55,.int .i64 (t.methods.length:Int)),(56,.int .i64 (x.1:Int))])
  (fun x w=>x.1<=t.methods.length/\bC ((fun _:Mem=>kR) x.2.2.2) (t.methods.take x.1) x.2.2.1/\M2.Le x.2.2.2/\SH w0 M [] x.2.2.2 ([.ah b1 28 (bh t a1 c1 a2 c2 a3 c3 a4 c4),.ah b2 45 D9,.ah b3 45 [Value.int .i64 t.kind,.int .i64 t.num,v1,v2,x.2.1,.slice none 0 0],.own x.2.1 2 87 x.2.2.1,.own v1 6 45 q1,.own v2 8 103 q2]) w)
  (fun x=>t.methods.length-x.1) (0,.slice none 0 0,[],M2) ⟨rfl,rfl,rfl,rfl,rfl,rfl,tV⟩ ⟨qae _,tV,Mem.Le.refl _,(h.gV 2 87).aF⟩ ?_
 clear h;rintro⟨k,v3,q3,M3⟩ aK w N ⟨hk,dw,aV,h⟩ hN;simp only at hk dw aV h;refine aI (fun aG=> ?_) (fun aY=> ?_)
 .have ad:k<t.methods.length:=by omega
  have u6:=dw.len;rw[qaG,qaY hk]at u6;obtain⟨b,o,ci,rfl,hl,aO,aE⟩:=hm.at ad;have aZ:=aE.one;replace aO:=aO.le (rE.trans aV);replace aE:=aE.le (rE.trans aV);obtain rfl:=aE;refine aJ (k) ?_;refine cG h aO ?_;refine au h ?_;clear h;intro b6 w h;refine br h aZ ?_;clear h;intro w h;refine ak h ?_;refine ak h ?_;refine ak h ?_;refine au h ?_;clear h;intro er w h;refine gJ h Mg h.df (de aZ) ?_;clear h;intro v' w h;refine eQ h ?_ (hv:=h.lU);clear h;intro w h;refine aA (((k+1:Nat):Int)) ?_;exact hN (k+1,v',_,M3) _ _ ⟨rfl,rfl,rfl,rfl,rfl,rfl,tV⟩ ⟨ad,dw.dN ad rfl,aV,h.aF⟩ (by simp only;omega)
 obtain rfl:k=t.methods.length:=by omega
 clear hN;rw[qay]at dw;have cS:=rE.trans aV;have AB:=dw;have mV:=aV;clear dw aV hk;refine ak h ?_;refine bN (X:=Nat×Value×List (List Value)×Mem) (fun x=>[(1,.pointer (some ⟨b1,0,none⟩)),(2,.pointer (some ⟨b2,0,none⟩)),(3,.pointer (some ⟨b3,0,none⟩)),(72,.slice a4 t.aD.length c4),(73,.int .i64 (t.aD.length:Int)),(74,.int .i64 (x.1:Int))])
  (fun x w=>x.1<=t.aD.length/\bC (cC x.2.2.2) (t.aD.take x.1) x.2.2.1/\M3.Le x.2.2.2/\SH w0 M [] x.2.2.2 ([.ah b1 28 (bh t a1 c1 a2 c2 a3 c3 a4 c4),.ah b2 45 D9,.ah b3 45 [Value.int .i64 t.kind,.int .i64 t.num,v1,v2,v3,x.2.1],.own x.2.1 6 45 x.2.2.1,.own v1 6 45 q1,.own v2 8 103 q2,.own v3 2 87 q3]) w)
  (fun x=>t.aD.length-x.1) (0,.slice none 0 0,[],M3) ⟨rfl,rfl,rfl,rfl,rfl,rfl,tV⟩ ⟨qae _,tV,Mem.Le.refl _,(h.gV 6 45).aF⟩ ?_
 clear h;rintro⟨k,v4,q4,M4⟩ aK w N ⟨hk,dw,aV,h⟩ hN;simp only at hk dw aV h;refine aI (fun aG=> ?_) (fun aY=> ?_)
 .have ad:k<t.aD.length:=by omega
  have u6:=dw.len;rw[qaG,qaY hk]at u6;obtain⟨b,o,ci,rfl,hl,aO,aE⟩:=hs.at ad;have aZ:=aE.one;replace aO:=aO.le (cS.trans aV);replace aE:=aE.le (cS.trans aV);obtain⟨x1,d1,x2,d2,x3,d3,x4,d4,rfl,_⟩:=aE.lit;have fu:t.aD[k].aj<t.aj:=Ty.nY (by simp);refine aJ (k) ?_;refine cG h aO ?_;refine au h ?_;clear h;intro b6 w h;refine br h aZ ?_;clear h;intro w h;have yu:=h.F9 (b:=b6) (b':=b3) (v:=v4);refine b_ (b3::cZ v4) h ?_;clear h;intro w h;refine lc h ?_ (hS:=yu);refine aI ?_ (aI ?_ trivial)
  .refine td h ?_;refine aI ?_ trivial;refine fN h (ih t.aD[k] (by omega) w _ h.le aE (by omega)) ?_;clear h;rintro _ M9 w ⟨yf,rfl,h9⟩ cB h;have po:=h9;obtain⟨y1,e1,y2,e2,y3,e3,y4,e4,rfl,_⟩:=h9.lit;refine aI ?_ trivial;refine dX h ?_;clear h;intro er w h;refine aI ?_ trivial;refine eI h ED h.df (de (cC.one h9)) ?_;clear h;intro v' w h;refine aI ?_ trivial;refine sV h ?_ (hv:=h.lU);clear h;intro w h;refine aA (((k+1:Nat):Int)) ?_;exact hN (k+1,v',_,M9) _ _ ⟨rfl,rfl,rfl,rfl,rfl,rfl,tV⟩ ⟨ad,bC.dN (dw.mono fun _ _ _ hx=>hx.le cB) ad po,aV.trans cB,h.aF⟩ (by simp only;omega)
  refine fN h (ih t.aD[k] (by omega) w _ h.le aE (by omega)) ?_;clear h;rintro _ M9 w ⟨yf,rfl,h9⟩ cB h;have po:=h9;obtain⟨y1,e1,y2,e2,y3,e3,y4,e4,rfl,_⟩:=h9.lit;refine aI ?_ (aI ?_ trivial);refine td h ?_;refine aI ?_ trivial;refine dX h ?_;clear h;intro er w h;rotate_left;refine dX h ?_;clear h;intro er w h;refine aI ?_ trivial;refine td h ?_
  all_goals
   refine aI ?_ trivial;refine eI h ED h.df (de (cC.one h9)) ?_;clear h;intro v' w h;refine aI ?_ trivial;refine sV h ?_ (hv:=h.lU);clear h;intro w h;refine aA (((k+1:Nat):Int)) ?_;exact hN (k+1,v',_,M9) _ _ ⟨rfl,rfl,rfl,rfl,rfl,rfl,tV⟩ ⟨ad,bC.dN (dw.mono fun _ _ _ hx=>hx.le cB) ad po,aV.trans cB,h.aF⟩ (by simp only;omega)
 obtain rfl:k=t.aD.length:=by omega
 clear hN;rw[qay]at dw;have AV:=cS.trans aV;have Fi:=dw;have C6:=aV;clear dw aV hk;refine bj h ?_;have o1:=h.lU (v:=v1);have o2:=h.lU (v:=v2);have o3:=h.lU (v:=v3);have o4:=h.lU (v:=v4);have ho:∀x∈[Value.int .i64 t.kind,.int .i64 t.num,v1,v2,v3,v4],x.oneCell'=true:=fun x hx=>by simp at hx;rcases hx with rfl|rfl|rfl|rfl|rfl|rfl<;>first|rfl|assumption
 refine br h ho ?_;clear h;intro w h;refine bj h ?_;obtain⟨N1,n1,s1,h⟩:=h.d6 v1;obtain⟨N2,n2,s2,h⟩:=h.d6 v2;obtain⟨N3,n3,s3,h⟩:=h.d6 v3;obtain⟨N4,n4,s4,h⟩:=h.d6 v4;have m3:=n4;have m2:=n3.trans m3;have m1:=n2.trans m2;have m4:=C6.trans (n1.trans m1);refine⟨N4,⟨_,rfl,cC.FV (Sl.fV (s1.mono m1 fun _ _ _ h=>h) ?_) (Sl.fV (s2.mono m2 fun _ _ _ h=>h) ?_) (Sl.fV (s3.mono m3 fun _ _ _ h=>h) AB) (Sl.fV s4 ?_)⟩,h.gr⟩
 .exact mS.mono fun _ _ _ hx=>hx.le (cR.trans (mV.trans m4))
 .exact gH.mono fun _ _ _ hx=>hx.le (mV.trans m4)
 exact Fi.mono fun _ _ _ hx=>hx.le (n1.trans m1)
end
section
variable {W:Wd}{M:Mem}{w0:World}{l:List Int}{v:Value}
theorem UA:h_ prog 38 38 84 10 160=true:=by kernel_rfl
@[reducible]def Cr(d:Dc)(tc:List Value)(v:Value):List Value:=Value.int .i64 d.name::Value.int .i64 d.aC::Value.bool d.bU::(tc++[v])
theorem sm{k:Nat}(h:k<W.length):W[k].of.aj<=Wd.aj W/\W[k].methods.length<=Wd.aj W:=by
 have:=W.facts k h;omega
def T8(M:Mem)(W:Wd)(r:Value):Prop:=∃a c,r=bK W a c/\eK M W a c
theorem GT{a:Option Addr}{c:Nat}(hM:M.Le (Wm w0))(hW:eK M W a c)(hb:W.aj<=2^32):
 az prog 8 [bK W a c] w0 fun r w'=>∃M',T8 M' W r/\Gr M w0 M' w':=by
 have vE:=W.len;have h:=SH.start hM;refine aL mixed func8 c8 ?_;refine bN (X:=Nat×Value×List (List Value)×Mem) (fun x=>[(3,x.2.1),(9,bK W a c),(10,.int .i64 (W.length:Int)),(11,.int .i64 (x.1:Int))])
  (fun x w=>x.1<=W.length/\bC (qO x.2.2.2) (W.take x.1) x.2.2.1/\M.Le x.2.2.2/\SH w0 M [] x.2.2.2 [.own x.2.1 10 84 x.2.2.1] w) (fun x=>W.length-x.1) (0,.slice none 0 0,[],M) ⟨rfl,rfl,rfl,rfl,tV⟩ ⟨qae _,tV,.refl _,h.gV 10 84⟩ ?_
 clear h;rintro⟨k,v,css,M5⟩ aK w N ⟨hk,dw,aV,h⟩ hN;simp only at hk dw aV h;refine aI (fun aG=> ?_) (fun aY=> ?_)
 .have ad:k<W.length:=by omega
  have u6:=dw.len;rw[qaG,qaY hk]at u6;have hdb:=sm ad;obtain⟨b,o,ci,rfl,hl,aO,aE⟩:=hW.el.at ad;have aZ:=aE.one;replace aO:=aO.le aV;replace aE:=aE.le aV;obtain⟨a1,c1,a2,c2,a3,c3,a4,c4,a5,c5,rfl,bA,hm,u9⟩:=aE.lit;refine aJ (k) ?_;refine cG h aO ?_;refine au h ?_;clear h;intro b5 w h;refine br h aZ ?_;clear h;intro w h;refine lq (X:=Nat×List Value×Mem) (fun x=>[(3,v),(5,.pointer (some ⟨b5,0,none⟩)),(6,.pointer (some ⟨x.1,0,none⟩)),(9,bK W (some ⟨b,o,none⟩) c),(10,.int .i64 (W.length:Int)),(11,.int .i64 (k:Int))])
   (fun x w=>cC x.2.2 W[k].of x.2.1/\M5.Le x.2.2/\SH w0 M [] x.2.2 [.ah b5 82 (jz W[k] a1 c1 a2 c2 a3 c3 a4 c4 a5 c5),.ah x.1 84 (Cr W[k] x.2.1 (.slice none 0 0)),.own v 10 84 css] w) ?_ ?_
  .intro N0 lC;refine b_ [] h ?_;clear h;intro w h;refine bI h ?_;refine bI h ?_;refine bI h ?_;refine uh h (bh W[k].of a1 c1 a2 c2 a3 c3 a4 c4) ?_;refine aI ?_ (aI ?_ trivial);refine fN h (Ea _ W[k].of (qam _) w _ h.le bA (by omega)) ?_;clear h;rintro _ M9 w ⟨yf,rfl,h9⟩ cB h;have po:=h9;obtain⟨y1,e1,y2,e2,y3,e3,y4,e4,rfl,_⟩:=h9.lit;refine aI ?_ trivial;refine sU h ?_;clear h;intro b6 w h;rotate_left;refine sU h ?_;clear h;intro b6 w h;refine aI ?_ trivial;refine fN h (Ea _ W[k].of (qam _) w _ h.le bA (by omega)) ?_;clear h;rintro _ M9 w ⟨yf,rfl,h9⟩ cB h;have po:=h9;obtain⟨y1,e1,y2,e2,y3,e3,y4,e4,rfl,_⟩:=h9.lit
   all_goals
    refine aI ?_ trivial;refine pP h (cO (vs:=Cr W[k] (bh W[k].of y1 e1 y2 e2 y3 e3 y4 e4) (.slice none 0 0)) rfl) ?_;clear h;intro w h;exact lC (b6,_,M9) _ _ ⟨rfl,rfl,rfl,rfl,rfl,rfl,tV⟩ ⟨po,cB,h.aF⟩
  clear h;rintro⟨b6,tc,M6⟩ aK w ⟨JY,ck,h⟩;simp only at JY ck h;obtain⟨y1,e1,y2,e2,y3,e3,y4,e4,rfl,_⟩:=JY.lit;replace hm:=hm.mono ck (fun _ _ _ h=>h);refine ak h ?_;refine fB (X:=Nat×Value×List (List Value)) (Y:=Value×List (List Value)) 2 (fun x=>[(3,v),(6,.pointer (some ⟨b6,0,none⟩)),(9,bK W (some ⟨b,o,none⟩) c),(10,.int .i64 (W.length:Int)),(11,.int .i64 (k:Int)),(26,.slice a5 W[k].methods.length c5),(27,.int .i64 (W[k].methods.length:Int)),(28,.int .i64 (x.1:Int))])
   (fun x w=>x.1<=W[k].methods.length/\bC kR (W[k].methods.take x.1) x.2.2/\SH w0 M [] M6 [.ah b6 84 (Cr W[k] (bh W[k].of y1 e1 y2 e2 y3 e3 y4 e4) x.2.1),.own v 10 84 css,.own x.2.1 2 87 x.2.2] w) (fun x=>W[k].methods.length-x.1)
   (fun x=>[(3,v),(6,.pointer (some ⟨b6,0,none⟩)),(9,bK W (some ⟨b,o,none⟩) c),(10,.int .i64 (W.length:Int)),(11,.int .i64 (k:Int))])
   (fun x w=>bC kR W[k].methods x.2/\SH w0 M [] M6 [.ah b6 84 (Cr W[k] (bh W[k].of y1 e1 y2 e2 y3 e3 y4 e4) x.1),.own v 10 84 css,.own x.1 2 87 x.2] w)
   (0,.slice none 0 0,[]) ⟨rfl,rfl,rfl,rfl,rfl,rfl,rfl,rfl,tV⟩ ⟨qae _,tV,(h.gV 2 87).aF⟩ ?_ ?_
  .clear h;rintro⟨j,v1,q1⟩ aK w N1 Z hx qj lC;obtain⟨hj,mS,h⟩:=hx;simp only at hj mS h;refine aI (fun gt=> ?_) (fun zgk=> ?_)
   .have eM:j<W[k].methods.length:=by omega
    have nB:=mS.len;rw[qaG,qaY hj]at nB;obtain⟨b',o',ci,rfl,hl,aO,aE⟩:=hm.at eM;have aZ:=aE.one;obtain rfl:=aE;refine aJ (j) ?_;refine cG h aO ?_;refine au h ?_;clear h;intro b7 w h;refine br h aZ ?_;clear h;intro w h;refine ak h ?_;refine ak h ?_;refine ak h ?_;refine au h ?_;clear h;intro er w h;refine gJ h Mg h.df (de aZ) ?_;clear h;intro v' w h;refine eQ h ?_ (hv:=h.lU);clear h;intro w h;refine aA (((j+1:Nat):Int)) ?_;exact qj (j+1,v',_) _ _ ⟨rfl,rfl,rfl,rfl,rfl,rfl,rfl,rfl,tV⟩ ⟨eM,mS.dN eM rfl,h.aF⟩ (by simp only;omega)
   obtain rfl:j=W[k].methods.length:=by omega
   rw[qay]at mS;exact lC (v1,q1) _ _ ⟨rfl,rfl,rfl,rfl,rfl,tV⟩ ⟨mS,h.aF⟩
  clear h;rintro⟨v1,q1⟩ aK w ⟨mS,h⟩;simp only at mS h;have o1:=h.lU (v:=v1);obtain⟨M7,cF,vn,h⟩:=h.d6 v1;have vo:=Sl.fV vn mS;have hd:qO M7 W[k] (Cr W[k] (bh W[k].of y1 e1 y2 e2 y3 e3 y4 e4) v1):=⟨_,v1,rfl,JY.le cF,vo⟩;refine bj h ?_;refine au h ?_;clear h;intro er w h;refine gJ h UA h.df (de hd.one) ?_;clear h;intro v' w h;refine aA (((k+1:Nat):Int)) ?_;exact hN (k+1,v',_,M7) _ _ ⟨rfl,rfl,rfl,rfl,tV⟩ ⟨ad,bC.dN (dw.mono fun _ _ _ hx=>hx.le (ck.trans cF)) ad hd,aV.trans (ck.trans cF),h.aF⟩ (by simp only;omega)
 obtain rfl:k=W.length:=by omega
 rw[qay]at dw;obtain⟨M7,cF,vn,h'⟩:=h.d6 v;clear h;obtain⟨a',c',rfl,hc,cE⟩:=Sl.fV vn (dw.mono fun _ _ _ hx=>hx.le cF);exact⟨M7,⟨a',c',rfl,hc,cE⟩,h'.gr⟩
theorem zf3{t:Ty}{cs:List Value}(hM:M.Le (Wm w0))(ht:cC M t cs):az prog 5 [.agg cs.toArray] w0 fun r w'=>(∃b,r= .bool b)/\Fr [] w0 w':=by
 obtain⟨x1,d1,x2,d2,x3,d3,x4,d4,rfl,_⟩:=ht.lit;have h:=SH.start hM;refine aL mixed func5 c5 ?_;refine au h ?_;clear h;intro b1 w h;refine ak h ?_;refine aI (fun h1=> ?_) (fun h1=> ?_)
 .exact⟨⟨_,rfl⟩,h.fr⟩
 refine ak h ?_;refine aI (fun h1=> ?_) (fun h1=> ?_)
 .exact⟨⟨_,rfl⟩,h.fr⟩
 refine ak h ?_;refine aI (fun h1=> ?_) (fun h1=> ?_)
 .exact⟨⟨_,rfl⟩,h.fr⟩
 refine ak h ?_;refine aI (fun h1=> ?_) (fun h1=> ?_)
 .exact⟨⟨_,rfl⟩,h.fr⟩
 exact⟨⟨_,rfl⟩,h.fr⟩
def dO(n:Int)(cs:List Value):Prop:=cs=[.int .i64 n]
theorem zaz{n:Int}(hM:M.Le (Wm w0))(hl:Sl M 1 dO v l)(hb:l.length<=2^40):az prog 16 [v,.int .i64 n] w0 fun r w'=>r= .bool (l.contains n)/\Fr [] w0 w':=by
 obtain⟨a,c,rfl,hc,he⟩:=hl;have h:=SH.start hM;refine aL mixed func16 Ho ?_;refine bN (X:=Nat) (fun k=>[(1,.int .i64 n),(7,.slice a l.length c),(8,.int .i64 (l.length:Int)),(9,.int .i64 (k:Int))])
  (fun k w=>k<=l.length/\n∉l.take k/\SH w0 M [] M [] w) (fun k=>l.length-k) 0 ⟨rfl,rfl,rfl,rfl,tV⟩ ⟨qae _,by simp,h⟩ ?_
 clear h;intro k aK w N ⟨hk,hn,h⟩ hN;refine aI (fun aG=> ?_) (fun aY=> ?_)
 .have ad:k<l.length:=by omega
  obtain⟨b,o,ci,rfl,hl,aO,aE⟩:=he.at ad;obtain rfl:=aE;refine aJ (k) ?_;refine aP h (aO 0 _ rfl) ?_;refine aI (fun h1=> ?_) (fun h1=> ?_)
  .exact⟨qaL Value.bool (by simp[<-h1]),h.fr⟩
  refine aA (((k+1:Nat):Int)) ?_;exact hN (k+1) _ _ ⟨rfl,rfl,rfl,rfl,tV⟩ ⟨by omega,by rw[<-dN ad];simp only[qah,qac,not_or];exact⟨hn,fun e=>h1 e.symm⟩,h.aF⟩ (by omega)
 obtain rfl:k=l.length:=by omega
 rw[qay]at hn;exact⟨qaL Value.bool (by simpa using hn),h.fr⟩
theorem Km{l':List Int}{v':Value}(hM:M.Le (Wm w0))(hl:Sl M 1 dO v l)(gR:Sl M 1 dO v' l')(hb:l.length<=2^40):az prog 13 [v,v'] w0 fun r w'=>r= .bool (decide (l=l'))/\Fr [] w0 w':=by
 obtain⟨a,c,rfl,hc,he⟩:=hl;obtain⟨a',c',rfl,gg,dD⟩:=gR;have h:=SH.start hM;refine aL mixed func13 Vh ?_;refine aI (fun h1=> ?_) (fun h1=> ?_);rotate_left 1
 .exact⟨qaL Value.bool (by simp;rintro rfl;exact h1 rfl),h.fr⟩
 refine bN (X:=Nat) (fun k=>[(0,.slice a l.length c),(1,.slice a' l'.length c'),(12,.int .i64 (l.length:Int)),(13,.int .i64 (k:Int))])
  (fun k w=>k<=l.length/\l.take k=l'.take k/\SH w0 M [] M [] w) (fun k=>l.length-k) 0 ⟨rfl,rfl,rfl,rfl,tV⟩ ⟨qae _,by simp,h⟩ ?_
 clear h;intro k aK w N ⟨hk,hn,h⟩ hN;refine aI (fun aG=> ?_) (fun aY=> ?_)
 .have ad:k<l.length:=by omega
  have dE:k<l'.length:=by omega
  obtain⟨b,o,ci,rfl,hl,aO,aE⟩:=he.at ad;obtain rfl:=aE;obtain⟨b',o',ci,rfl,gR,jV,aE⟩:=dD.at dE;obtain rfl:=aE;refine b_ [] h ?_;clear h;intro w h;refine aJ (k) ?_;refine cd h (aO 0 _ rfl) ?_;refine aJ (k) ?_;refine cd h (jV 0 _ rfl) ?_;refine aI (fun h2=> ?_) (fun h2=> ?_);rotate_left 1
  .exact⟨qaL Value.bool (by simp;intro e;exact h2 (by simp[e])),h.fr⟩
  refine aA (((k+1:Nat):Int)) ?_;exact hN (k+1) _ _ ⟨rfl,rfl,rfl,rfl,tV⟩ ⟨by omega,by rw[<-dN ad,<-dN dE,hn,h2],h.aF⟩ (by omega)
 obtain rfl:k=l.length:=by omega
 have e:l.length=l'.length:=by omega
 rw[qay,e,qay]at hn;exact⟨qaL Value.bool (by simp[hn]),h.fr⟩
end
section
variable {w:World}{n:Int}
theorem Aj{M:Mem}{w0:World}{W:Wd}{a:Option Addr}{c:Nat}{f:Int×Bool×Ty}{cs:List Value}(hM:M.Le (Wm w0))(hW:eK M W a c)(hf:kO M f cs)(ho:Ok W f.2.2)
 (he:f.2.1=true->f.2.2.kind=1\/(f.2.2.kind=2/\∀u∈f.2.2.elem,u.kind=1)):
 az prog 86 [bK W a c,.agg cs.toArray] w0 fun r w'=>r= .int .i64 (W.fieldName f)/\Fr [] w0 w':=by
 obtain⟨tc,rfl,bA⟩:=hf;obtain⟨x1,d1,x2,d2,x3,d3,x4,d4,rfl,cE,_⟩:=bA.lit;have h:=SH.start hM;refine aL mixed func86 WT ?_;refine au h ?_;clear h;intro b1 w h;refine ak h ?_;cases hb:f.2.1 with
 |false=>
  refine ak h ?_;exact⟨qaL (Value.int .i64) (by simp[Wd.fieldName,hb]),h.fr⟩
 |true=>
  refine ak h ?_;refine aI (fun h1=> ?_) (fun h1=> ?_)
  .have aT:=ho.el (.inl h1);have hlen:0<f.2.2.elem.length:=qbu.2 aT;obtain⟨b,o,ci,rfl,hl,aO,aE⟩:=cE.at hlen;obtain⟨y1,e1,y2,e2,y3,e3,y4,e4,rfl,_⟩:=aE.lit;have dC:f.2.2.elem[0].kind=1:=by
    rcases he hb with h2|⟨_,h2⟩
    .rw[h2]at h1;exact absurd h1 (by decide)
    exact h2 _ (by simp)
   have hn:=(ho.elem _ (by simp:f.2.2.elem[0]∈_)).num dC;obtain⟨b',o',ci,rfl,gR,jV,jj⟩:=hW.el.at hn.2;rw[Wd.p7 hn]at jj;obtain⟨z1,f1,z2,f2,z3,f3,z4,f4,z5,f5,rfl,_⟩:=jj.lit;refine ak h ?_;refine aJ (0) ?_;refine aP h (aO 1 _ rfl) ?_;refine aJ _ ?_ hn.2 (Wd.ji hn);refine aP h (jV 0 _ rfl) ?_;exact⟨qaL (Value.int .i64) (by rw[OE (d:=default) hlen];simp[Wd.fieldName,hb,h1]),h.fr⟩
  have dC:f.2.2.kind=1:=by
   rcases he hb with h2|⟨h2,_⟩
   .exact h2
   exact absurd h2 h1
  have hn:=ho.num dC;obtain⟨b',o',ci,rfl,gR,jV,jj⟩:=hW.el.at hn.2;rw[Wd.p7 hn]at jj;obtain⟨z1,f1,z2,f2,z3,f3,z4,f4,z5,f5,rfl,_⟩:=jj.lit;refine ak h ?_;refine aJ _ ?_ hn.2 (Wd.ji hn);refine aP h (jV 0 _ rfl) ?_;exact⟨qaL (Value.int .i64) (by simp[Wd.fieldName,hb,h1]),h.fr⟩
theorem HK:az prog 30 [.int .i64 n] w fun r w'=>r= .bool (exported n)/\Fr [] w w':=by
 have fin:∀(b:Bool),exported n=b->(Value.bool b= .bool (exported n)/\Fr [] w w):=fun b h=>⟨by rw[h],Fr.refl w⟩;refine aL mixed func30 V7 ?_;refine aI (fun h1=> ?_) (fun h1=> ?_)
 .refine aI (fun h2=> ?_) (fun h2=> ?_)
  .exact fin _ (by simp[exported,h1,h2])
  refine aI (fun h3=> ?_) (fun h3=> ?_)
  .exact fin _ (by simp[exported,h3])
  refine aI (fun h4=> ?_) (fun h4=> ?_)
  .exact fin _ (by simp[exported,h4])
  exact fin _ (by simp[exported];omega)
 refine aI (fun h3=> ?_) (fun h3=> ?_)
 .omega
 refine aI (fun h4=> ?_) (fun h4=> ?_)
 .omega
 exact fin _ (by simp[exported];omega)
instance (n:Int):Decidable (bL n):=inferInstanceAs (Decidable (_/\_))
theorem oP:az prog 18 [.int .i64 n] w fun r w'=>r= .bool (decide (bL n))/\Fr [] w w':=by
 refine aL mixed func18 VA ?_;refine aI (fun h1=> ?_) (fun h1=> ?_)
 .refine aI (fun h2=> ?_) (fun h2=> ?_)
  .exact⟨qaL Value.bool (by simp[bL, *]),Fr.refl w⟩
  exact⟨qaL Value.bool (by simp[bL, *]),Fr.refl w⟩
 exact⟨qaL Value.bool (qaK (by unfold bL;omega)).symm,Fr.refl w⟩
theorem zdp:az prog 79 [] w fun r w'=>∃b,r= .slice (some ⟨b,0,none⟩) 16 16/\a_ w' b 9 (names.map Value.string)/\Fr [] w w':=by
 refine aL mixed func79 WL ?_;intro w1 b1 jD gc iM;exact⟨b1,rfl,gc,jD⟩
theorem KH(hn:bL n):az prog 31 [.int .i64 n] w fun r w'=>r= .string (bZ n)/\Fr [] w w':=by
 refine aL mixed func31 V8 ?_;refine zdp.mono ?_;rintro _ w1 ⟨b1,rfl,gc,jD⟩;have aG:n.toNat<16:=by have:=hn.1;have:=hn.2;omega
 refine aJ n.toNat ?_ aG (by have:=hn.1;omega);refine qai (.string (bZ n)) (aI (gc.ld _ ?_) ?_)
 .simp only[qb1,qbm,qaE,bZ,qaV];have:names[n.toNat]? =some names[n.toNat]:=qaa _;rw[this];rfl
 exact⟨rfl,jD⟩
theorem Re(n:Int):(bZ n).size<=6:=by
 unfold bZ;by_cases h:n.toNat<16
 .have:∀k<16,(names.getD k ⟨#[]⟩).size<=6:=by decide
  exact this _ h
 rw[qaV,qa3 (by simp[names];omega)];exact qae 6
theorem qB{p:Int}(hp:cN p)(hn:bL n):az prog 12 [.int .i64 p,.int .i64 n] w fun r w'=>r= .string (aM p n)/\Fr [] w w':=by
 refine aL mixed func12 Va ?_;have h:=SH.start (Mem.Le.refl (Wm w));generalize hMd:Wm w=M at h;refine s_call h (HK) ?_;clear h;rintro _ w rfl h;have dF:=Re n;cases he:exported n with
 |true=>
  refine s_call h (KH hn) ?_;clear h;rintro _ w rfl h;exact⟨qaL Value.string (by simp[aM,he]),h.fr⟩
 |false=>
  have hk:∃k:Nat,p=(k:Int)/\k<2/\[Value.string ⟨#[112]⟩,.string ⟨#[113]⟩][k]? =some (.string (dY p)):=by
   rcases hp with rfl|rfl
   .exact⟨0,rfl,by decide,rfl⟩
   exact⟨1,rfl,by decide,rfl⟩
  obtain⟨k,dC,dE,gi⟩:=hk;have rD:(dY p).size=1:=by rcases hp with rfl|rfl<;>rfl
  have wT:(dY p++⟨#[46]⟩).size=2:=by rw[ByteArray.size_append,rD];rfl
  have hid:aM p n=dY p++⟨#[46]⟩++bZ n:=by simp[aM,he]
  have d1:ByteArray.size ⟨#[46]⟩=1:=rfl;refine b_ [] h ?_;clear h;intro w h;refine aI ?_ (aI ?_ trivial)
  .refine dX h ?_;clear h;intro b3 w h;refine aJ k ?_ dE dC;refine bI h ?_ (hv:=by show [Value.string ⟨#[112]⟩,.string ⟨#[113]⟩][0+k*1]? =_;simpa using gi);refine aI (by omega) ?_;refine aI ?_ trivial;refine dg h (KH hn) ?_;clear h;rintro _ w rfl h;refine aI (by omega) ?_;exact⟨qaL Value.string hid.symm,h.fr⟩
  refine dg h (KH hn) ?_;clear h;rintro _ w rfl h;refine aI ?_ trivial;refine dX h ?_;clear h;intro b3 w h;refine aJ k ?_ dE dC;refine bI h ?_ (hv:=by show [Value.string ⟨#[112]⟩,.string ⟨#[113]⟩][0+k*1]? =_;simpa using gi);refine aI (by omega) ?_;refine aI (by omega) ?_;exact⟨qaL Value.string hid.symm,h.fr⟩
end
def RB(r:Value)(p:Prop):Prop:=(r= .bool true/\p)\/r= .bool false
def zK(t:Ty)(e f m n:Bool):Prop:=(e=true\/t.elem=[])/\(f=true\/t.fields=[])/\(m=true\/(t.methods=[]/\t.aD=[]))/\(n=true\/t.num=0)
theorem qE{α:Type}{l:List α}(h:(l.length:Int)=0):l=[]:=qaD (by omega)
theorem At{w0:World}{t:Ty}{b5:Nat}{a1:Option Addr}{c1:Nat}{a2:Option Addr}{c2:Nat}{a3:Option Addr}{c3:Nat}{a4:Option Addr}{c4:Nat}{e f m n:Bool}(hr:Row w0 b5 0 (bh t a1 c1 a2 c2 a3 c3 a4 c4))
 (hc:(e=false/\f=false/\m=false/\n=true)\/(e=true/\f=false/\m=false/\n=false)\/(e=false/\f=true/\m=false/\n=false)\/(e=false/\f=false/\m=true/\n=false)):
 az prog 82 [.bool e,.bool f,.bool m,.bool n,.pointer (some ⟨b5,0,none⟩)] w0 fun r w'=>RB r (zK t e f m n)/\Fr [] w0 w':=by
 have q2:w0.cell? ⟨b5,0+1,none⟩=some (.int .i64 t.num):=hr 1 _ rfl;have q3:w0.cell? ⟨b5,0+2,none⟩=some (.slice a1 t.elem.length c1):=hr 2 _ rfl;have q4:w0.cell? ⟨b5,0+3,none⟩=some (.slice a2 t.fields.length c2):=hr 3 _ rfl;have q5:w0.cell? ⟨b5,0+4,none⟩=some (.slice a3 t.methods.length c3):=hr 4 _ rfl;have q6:w0.cell? ⟨b5,0+5,none⟩=some (.slice a4 t.aD.length c4):=hr 5 _ rfl;clear hr;have no:∀{p:Prop},RB (.bool false) p/\Fr [] w0 w0:=⟨.inr rfl,Fr.refl w0⟩;have yes:∀{p:Prop},p->RB (.bool true) p/\Fr [] w0 w0:=fun hp=>⟨.inl ⟨rfl,hp⟩,Fr.refl w0⟩;refine aL mixed func82 WO ?_;rcases hc with⟨rfl,rfl,rfl,rfl⟩|⟨rfl,rfl,rfl,rfl⟩|⟨rfl,rfl,rfl,rfl⟩|⟨rfl,rfl,rfl,rfl⟩
 .refine qai _ (aI q3 ?_);refine aI (fun h1=> ?_) (fun _=>no);refine qai _ (aI q4 ?_);refine aI (fun h2=> ?_) (fun _=>no);refine qai _ (aI q5 ?_);refine aI (fun h3=> ?_) (fun _=>no);refine qai _ (aI q6 ?_);refine aI (fun h4=> ?_) (fun _=>no);exact yes ⟨.inr (qE h1),.inr (qE h2),.inr ⟨qE h3,qE h4⟩,.inl rfl⟩
 .refine qai _ (aI q4 ?_);refine aI (fun h2=> ?_) (fun _=>no);refine qai _ (aI q5 ?_);refine aI (fun h3=> ?_) (fun _=>no);refine qai _ (aI q6 ?_);refine aI (fun h4=> ?_) (fun _=>no);refine qai _ (aI q2 ?_);refine aI (fun h5=> ?_) (fun _=>no);exact yes ⟨.inl rfl,.inr (qE h2),.inr ⟨qE h3,qE h4⟩,.inr h5⟩
 .refine qai _ (aI q3 ?_);refine aI (fun h1=> ?_) (fun _=>no);refine qai _ (aI q5 ?_);refine aI (fun h3=> ?_) (fun _=>no);refine qai _ (aI q6 ?_);refine aI (fun h4=> ?_) (fun _=>no);refine qai _ (aI q2 ?_);refine aI (fun h5=> ?_) (fun _=>no);exact yes ⟨.inr (qE h1),.inl rfl,.inr ⟨qE h3,qE h4⟩,.inr h5⟩
 refine qai _ (aI q3 ?_);refine aI (fun h1=> ?_) (fun _=>no);refine qai _ (aI q4 ?_);refine aI (fun h2=> ?_) (fun _=>no);refine qai _ (aI q2 ?_);refine aI (fun h5=> ?_) (fun _=>no);exact yes ⟨.inr (qE h1),.inr (qE h2),.inl rfl,.inr h5⟩
inductive cP(W:Wd)(d:Int):Ty->Bool->Prop where
 |basic {t:Ty} {v:Bool} (hk:t.kind=0) (hh:zK t false false false true) (h0:0<=t.num) (h2:t.num<=2):cP W d t v
 |named {t:Ty} {v:Bool} (hk:t.kind=1) (hh:zK t false false false true) (hn:W.has t.num) (hd:d<t.num\/(v=false/\(d<0\/(W.at d).bU=false\/(W.at t.num).bU=false))):cP W d t v
 |to {t e:Ty} {v:Bool} (hk:t.kind=2\/t.kind=3) (hh:zK t true false false false) (he:t.elem=[e]) (hf:cP W d e false):cP W d t v
 |struct {t:Ty} {v:Bool} (hk:t.kind=4) (hh:zK t false true false false) (hf:∀f∈t.fields,cP W d f.2.2 v)
  (hn:∀f∈t.fields,bL f.1/\(f.2.1=true->f.1=0/\(f.2.2.kind=1\/(f.2.2.kind=2/\∃e,f.2.2.elem=[e]/\e.kind=1)))):cP W d t v
 |iface {t:Ty} {v:Bool} (hk:t.kind=5) (hh:zK t false false true false) (hm:∀m∈t.methods,bL m.1/\m.1≠8/\m.2=false)
  (ad:∀e∈t.aD,e.kind=1\/e.kind=5) (he:∀e∈t.aD,cP W d e true):cP W d t v
theorem FX{α:Type}{l:List α}(h:(l.length:Int)=1):∃x,l=[x]:=by
 match l,h with
 |[],h=>simp at h
 |[x],_=>exact⟨x,rfl⟩
 |_::_::_,h=>simp at h;omega
theorem HQ{W:Wd}:∀(n:Nat) (t:Ty),t.aj<n->∀{M:Mem} (w0:World) (cs:List Value) (a:Option Addr) (c:Nat) (d:Int) (v:Bool),M.Le (Wm w0)->eK M W a c->cC M t cs->(d<0\/W.has d)->t.aj<=2^32->
 az prog 35 [bK W a c,.agg cs.toArray,.int .i64 d,.bool v] w0 fun r w'=>RB r (cP W d t v)/\Fr [] w0 w':=by
 intro n
 induction n with
 |zero=>intro t h;omega
 |succ n ih=>
 intro t hn M w0 cs a c d v hM hW eo hd dF;obtain⟨a1,c1,a2,c2,a3,c3,a4,c4,rfl,he,hf,hm,hs,Bh,Bi,Bj,Bl⟩:=eo.lit;have l1:=t.yh;have l2:=t.lB;have l3:=t.qX;have l4:=t.zp;have h:=SH.start hM;refine aL mixed func35 Wa ?_;refine au h ?_;clear h;intro b5 w h;refine ak h ?_;have row:=fun{w:World} (h:SH w0 M [] M [.ah b5 45 (bh t a1 c1 a2 c2 a3 c3 a4 c4)] w)=>(h.fK .here).DS;refine aI (fun k0=> ?_) (fun k0=> ?_)
 .refine s_call h (At (row h) (.inl ⟨rfl,rfl,rfl,rfl⟩)) ?_;clear h;rintro _ w (⟨rfl,hb⟩|rfl) h;rotate_left 1
  .exact⟨.inr rfl,h.fr⟩
  refine ak h ?_;refine aI (fun h1=> ?_) (fun _=>⟨.inr rfl,h.fr⟩);refine ak h ?_;refine aI (fun h2=> ?_) (fun _=>⟨.inr rfl,h.fr⟩);exact⟨.inl ⟨rfl,.basic k0 hb h1 h2⟩,h.fr⟩
 refine aI (fun k1=> ?_) (fun k1=> ?_)
 .refine s_call h (At (row h) (.inl ⟨rfl,rfl,rfl,rfl⟩)) ?_;clear h;rintro _ w (⟨rfl,hb⟩|rfl) h;rotate_left 1
  .exact⟨.inr rfl,h.fr⟩
  refine ak h ?_;refine aI (fun h1=> ?_) (fun _=>⟨.inr rfl,h.fr⟩);refine ak h ?_;refine aI (fun h2=> ?_) (fun _=>⟨.inr rfl,h.fr⟩);have hn:W.has t.num:=⟨h1,by omega⟩;obtain⟨b',o',ci,rfl,gR,jV,jj⟩:=hW.el.at hn.2;rw[Wd.p7 hn]at jj;obtain⟨z1,f1,z2,f2,z3,f3,z4,f4,z5,f5,rfl,_⟩:=jj.lit;have gg:=jV 2 _ rfl;refine ak h ?_;refine aI (fun h3=>⟨.inl ⟨rfl,.named k1 hb hn (.inl h3)⟩,h.fr⟩) (fun h3=> ?_);cases v with
  |true=>exact⟨.inr rfl,h.fr⟩
  |false=>
  refine aI (fun h4=>⟨.inl ⟨rfl,.named k1 hb hn (.inr ⟨rfl,.inl h4⟩)⟩,h.fr⟩) (fun h4=> ?_);have kC:W.has d:=hd.resolve_left (by omega);have rF:∃x,M.cell b' (o'+d.toNat*10+2)=some (.bool x)/\x=(W.at d).bU:=by
   obtain⟨b2,o2,EN,e_,cR,ct,fE⟩:=hW.el.at kC.2;simp only[qao,qbW,qca]at e_;obtain⟨rfl,rfl⟩:=e_;rw[Wd.p7 kC]at fE;obtain⟨y1,e1,y2,e2,y3,e3,y4,e4,y5,e5,rfl,_⟩:=fE.lit;exact⟨_,ct 2 _ rfl,rfl⟩
  obtain⟨x,hx,PY⟩:=rF;refine aJ _ ?_ kC.2 (Wd.ji kC);by_cases ha:(W.at d).bU=false
  .rw[PY,ha]at hx;refine aP h hx ?_;exact⟨.inl ⟨rfl,.named k1 hb hn (.inr ⟨rfl,.inr (.inl ha)⟩)⟩,h.fr⟩
  simp only[Bool.not_eq_false]at ha;rw[PY,ha]at hx;refine aP h hx ?_;refine ak h ?_;refine aJ _ ?_ hn.2 (Wd.ji hn);by_cases aW:(W.at t.num).bU=false
  .rw[aW]at gg;refine aP h gg ?_;exact⟨.inl ⟨rfl,.named k1 hb hn (.inr ⟨rfl,.inr (.inr aW)⟩)⟩,h.fr⟩
  simp only[Bool.not_eq_false]at aW;rw[aW]at gg;refine aP h gg ?_;exact⟨.inr rfl,h.fr⟩
 refine aI (fun k2=> ?_) (fun k2=> ?_)
 .refine s_call h (At (row h) (.inr (.inl ⟨rfl,rfl,rfl,rfl⟩))) ?_;clear h;rintro _ w (⟨rfl,hb⟩|rfl) h;rotate_left 1
  .exact⟨.inr rfl,h.fr⟩
  refine ak h ?_;refine aI (fun h1=> ?_) (fun _=>⟨.inr rfl,h.fr⟩);obtain⟨e,kD⟩:=FX h1;obtain⟨b,o,ci,rfl,hl,aO,aE⟩:=he.at (i:=0) (by rw[kD];simp);have h0:t.elem[0]'(by rw[kD];simp)=e:=by simp[kD]
  rw[h0]at aE;have fu:e.aj<t.aj:=Ty.pe (by simp[kD]);refine ak h ?_;refine aJ (0) ?_;refine cG h aO ?_ hl;refine s_call h (ih e (by omega) w _ _ _ d false h.le hW aE hd (by omega)) ?_;clear h;rintro _ w (⟨rfl,cV⟩|rfl) h
  .exact⟨.inl ⟨rfl,.to (.inl k2) hb kD cV⟩,h.fr⟩
  exact⟨.inr rfl,h.fr⟩
 refine aI (fun k3=> ?_) (fun k3=> ?_)
 .refine s_call h (At (row h) (.inr (.inl ⟨rfl,rfl,rfl,rfl⟩))) ?_;clear h;rintro _ w (⟨rfl,hb⟩|rfl) h;rotate_left 1
  .exact⟨.inr rfl,h.fr⟩
  refine ak h ?_;refine aI (fun h1=> ?_) (fun _=>⟨.inr rfl,h.fr⟩);obtain⟨e,kD⟩:=FX h1;obtain⟨b,o,ci,rfl,hl,aO,aE⟩:=he.at (i:=0) (by rw[kD];simp);have h0:t.elem[0]'(by rw[kD];simp)=e:=by simp[kD]
  rw[h0]at aE;have fu:e.aj<t.aj:=Ty.pe (by simp[kD]);refine ak h ?_;refine aJ (0) ?_;refine cG h aO ?_ hl;refine s_call h (ih e (by omega) w _ _ _ d false h.le hW aE hd (by omega)) ?_;clear h;rintro _ w (⟨rfl,cV⟩|rfl) h
  .exact⟨.inl ⟨rfl,.to (.inr k3) hb kD cV⟩,h.fr⟩
  exact⟨.inr rfl,h.fr⟩
 refine aI (fun k4=> ?_) (fun k4=> ?_)
 .refine ak h ?_;refine bN (X:=Nat) (fun k=>[(0,bK W a c),(2,.int .i64 d),(3,.bool v),(5,.pointer (some ⟨b5,0,none⟩)),(9,.func (.func 82) #[] #[.pointer (some ⟨b5,0,none⟩)]),(104,.slice a2 t.fields.length c2),(105,.int .i64 (t.fields.length:Int)),(106,.int .i64 (k:Int))])
   (fun k w=>k<=t.fields.length/\(∀f∈t.fields.take k,cP W d f.2.2 v/\bL f.1/\(f.2.1=true->f.1=0/\(f.2.2.kind=1\/(f.2.2.kind=2/\∃e,f.2.2.elem=[e]/\e.kind=1))))/\SH w0 M [] M [.ah b5 45 (bh t a1 c1 a2 c2 a3 c3 a4 c4)] w) (fun k=>t.fields.length-k) 0 ⟨rfl,rfl,rfl,rfl,rfl,rfl,rfl,rfl,tV⟩ ⟨qae _,by simp,h⟩ ?_
  clear h;intro k aK w N ⟨hk,cz,h⟩ hN;refine aI (fun aG=> ?_) (fun aY=> ?_)
  .have ad:k<t.fields.length:=by omega
   obtain⟨b,o,ci,rfl,hl,aO,aE⟩:=hf.at ad;have aZ:=aE.one;obtain⟨tc,rfl,aE⟩:=aE;obtain⟨x1,d1,x2,d2,x3,d3,x4,d4,rfl,cE,_⟩:=aE.lit;have fu:t.fields[k].2.2.aj<t.aj:=Ty.sj (by simp);have ek:=dN ad;obtain⟨fl,c_⟩:∃f,f=t.fields[k]:=⟨_,rfl⟩;rw[<-c_]at aZ aO aE cE fu hl ek;have Ai:cP W d fl.2.2 v->bL fl.1->(fl.2.1=true->fl.1=0/\(fl.2.2.kind=1\/(fl.2.2.kind=2/\∃e,fl.2.2.elem=[e]/\e.kind=1)))->
    ∀f∈t.fields.take (k+1),cP W d f.2.2 v/\bL f.1/\(f.2.1=true->f.1=0/\(f.2.2.kind=1\/(f.2.2.kind=2/\∃e,f.2.2.elem=[e]/\e.kind=1))):=by
    intro h1 h2 h3;rw[<-ek];intro m hm;rcases qah.1 hm with hm|hm
    .exact cz m hm
    simp at hm;subst hm;exact⟨h1,h2,h3⟩
   by_cases mh:fl.2.1=true
   .have mT:∀(p:fl.2.2.kind=1\/(fl.2.2.kind=2/\∃e,fl.2.2.elem=[e]/\e.kind=1)) (q:fl.1=0),(fl.2.1=true->fl.1=0/\(fl.2.2.kind=1\/(fl.2.2.kind=2/\∃e,fl.2.2.elem=[e]/\e.kind=1))):=fun p q _=>⟨q,p⟩;rw[mh]at aO aZ;refine aJ (k) ?_;refine cG h aO ?_ hl;refine au h ?_;clear h;intro b6 w h;refine br h aZ ?_;clear h;intro w h;refine ak h ?_;refine aI (fun f1=> ?_) (fun f1=> ?_)
    .refine ak h ?_;refine s_call h (oP) ?_;clear h;rintro _ w rfl h;by_cases q1:bL fl.1;rotate_left 1
     .rw[qaK q1];exact⟨.inr rfl,h.fr⟩
     rw[qaH q1];refine ak h ?_;refine ak h ?_;refine aI (fun q2=> ?_) (fun _=>⟨.inr rfl,h.fr⟩);refine i_ h (bh fl.2.2 _ d1 x2 d2 x3 d3 x4 d4) ?_;refine s_call h (ih fl.2.2 (by omega) w _ _ _ d v h.le hW aE hd (by omega)) ?_;clear h;rintro _ w (⟨rfl,cV⟩|rfl) h;rotate_left 1
     .exact⟨.inr rfl,h.fr⟩
     refine aA (((k+1:Nat):Int)) ?_;exact hN (k+1) _ _ ⟨rfl,rfl,rfl,rfl,rfl,rfl,rfl,rfl,tV⟩ ⟨ad,Ai cV q1 (mT (.inl f1) q2),h.aF⟩ (by omega)
    refine ak h ?_;refine aI (fun f2=> ?_) (fun f2=> ?_);rotate_left 1
    .refine ak h ?_;refine s_call h (oP) ?_;clear h;rintro _ w rfl h;by_cases q1:bL fl.1;rotate_left 1
     .rw[qaK q1];exact⟨.inr rfl,h.fr⟩
     rw[qaH q1];refine ak h ?_;refine ak h ?_;exact aI (fun _=>⟨.inr rfl,h.fr⟩) (fun _=>⟨.inr rfl,h.fr⟩)
    refine ak h ?_;refine aI (fun f3=> ?_) (fun f3=> ?_);rotate_left 1
    .refine ak h ?_;refine s_call h (oP) ?_;clear h;rintro _ w rfl h;by_cases q1:bL fl.1;rotate_left 1
     .rw[qaK q1];exact⟨.inr rfl,h.fr⟩
     rw[qaH q1];refine ak h ?_;refine ak h ?_;exact aI (fun _=>⟨.inr rfl,h.fr⟩) (fun _=>⟨.inr rfl,h.fr⟩)
    obtain⟨e,kD⟩:=FX f3;have h0:fl.2.2.elem[0]'(by rw[kD];simp)=e:=by simp[kD]
    obtain⟨b',o',ci,rfl,gR,jV,jj⟩:=cE.at (i:=0) (by rw[kD];simp);rw[h0]at jj;obtain⟨y1,e1,y2,e2,y3,e3,y4,e4,rfl,_⟩:=jj.lit;refine ak h ?_;refine aJ (0) ?_;refine aP h (jV 0 _ rfl) ?_;refine aI (fun f4=> ?_) (fun f4=> ?_)
    .refine ak h ?_;refine s_call h (oP) ?_;clear h;rintro _ w rfl h;by_cases q1:bL fl.1;rotate_left 1
     .rw[qaK q1];exact⟨.inr rfl,h.fr⟩
     rw[qaH q1];refine ak h ?_;refine ak h ?_;refine aI (fun q2=> ?_) (fun _=>⟨.inr rfl,h.fr⟩);refine i_ h (bh fl.2.2 _ d1 x2 d2 x3 d3 x4 d4) ?_;refine s_call h (ih fl.2.2 (by omega) w _ _ _ d v h.le hW aE hd (by omega)) ?_;clear h;rintro _ w (⟨rfl,cV⟩|rfl) h;rotate_left 1
     .exact⟨.inr rfl,h.fr⟩
     refine aA (((k+1:Nat):Int)) ?_;exact hN (k+1) _ _ ⟨rfl,rfl,rfl,rfl,rfl,rfl,rfl,rfl,tV⟩ ⟨ad,Ai cV q1 (mT (.inr ⟨f2,e,kD,f4⟩) q2),h.aF⟩ (by omega)
    refine ak h ?_;refine s_call h (oP) ?_;clear h;rintro _ w rfl h;by_cases q1:bL fl.1;rotate_left 1
    .rw[qaK q1];exact⟨.inr rfl,h.fr⟩
    rw[qaH q1];refine ak h ?_;refine ak h ?_;exact aI (fun _=>⟨.inr rfl,h.fr⟩) (fun _=>⟨.inr rfl,h.fr⟩)
   have mT:(fl.2.1=true->fl.1=0/\(fl.2.2.kind=1\/(fl.2.2.kind=2/\∃e,fl.2.2.elem=[e]/\e.kind=1))):=fun q=>absurd q mh;rw[qaZ]at mh;rw[mh]at aO aZ;refine aJ (k) ?_;refine cG h aO ?_ hl;refine au h ?_;clear h;intro b6 w h;refine br h aZ ?_;clear h;intro w h;refine ak h ?_;refine aI (fun f1=> ?_) (fun f1=> ?_)
   .refine ak h ?_;refine s_call h (oP) ?_;clear h;rintro _ w rfl h;by_cases q1:bL fl.1;rotate_left 1
    .rw[qaK q1];exact⟨.inr rfl,h.fr⟩
    rw[qaH q1];refine ak h ?_;refine i_ h (bh fl.2.2 _ d1 x2 d2 x3 d3 x4 d4) ?_;refine s_call h (ih fl.2.2 (by omega) w _ _ _ d v h.le hW aE hd (by omega)) ?_;clear h;rintro _ w (⟨rfl,cV⟩|rfl) h;rotate_left 1
    .exact⟨.inr rfl,h.fr⟩
    refine aA (((k+1:Nat):Int)) ?_;exact hN (k+1) _ _ ⟨rfl,rfl,rfl,rfl,rfl,rfl,rfl,rfl,tV⟩ ⟨ad,Ai cV q1 mT,h.aF⟩ (by omega)
   refine ak h ?_;refine aI (fun f2=> ?_) (fun f2=> ?_);rotate_left 1
   .refine ak h ?_;refine s_call h (oP) ?_;clear h;rintro _ w rfl h;by_cases q1:bL fl.1;rotate_left 1
    .rw[qaK q1];exact⟨.inr rfl,h.fr⟩
    rw[qaH q1];refine ak h ?_;refine i_ h (bh fl.2.2 _ d1 x2 d2 x3 d3 x4 d4) ?_;refine s_call h (ih fl.2.2 (by omega) w _ _ _ d v h.le hW aE hd (by omega)) ?_;clear h;rintro _ w (⟨rfl,cV⟩|rfl) h;rotate_left 1
    .exact⟨.inr rfl,h.fr⟩
    refine aA (((k+1:Nat):Int)) ?_;exact hN (k+1) _ _ ⟨rfl,rfl,rfl,rfl,rfl,rfl,rfl,rfl,tV⟩ ⟨ad,Ai cV q1 mT,h.aF⟩ (by omega)
   refine ak h ?_;refine aI (fun f3=> ?_) (fun f3=> ?_);rotate_left 1
   .refine ak h ?_;refine s_call h (oP) ?_;clear h;rintro _ w rfl h;by_cases q1:bL fl.1;rotate_left 1
    .rw[qaK q1];exact⟨.inr rfl,h.fr⟩
    rw[qaH q1];refine ak h ?_;refine i_ h (bh fl.2.2 _ d1 x2 d2 x3 d3 x4 d4) ?_;refine s_call h (ih fl.2.2 (by omega) w _ _ _ d v h.le hW aE hd (by omega)) ?_;clear h;rintro _ w (⟨rfl,cV⟩|rfl) h;rotate_left 1
    .exact⟨.inr rfl,h.fr⟩
    refine aA (((k+1:Nat):Int)) ?_;exact hN (k+1) _ _ ⟨rfl,rfl,rfl,rfl,rfl,rfl,rfl,rfl,tV⟩ ⟨ad,Ai cV q1 mT,h.aF⟩ (by omega)
   obtain⟨e,kD⟩:=FX f3;have h0:fl.2.2.elem[0]'(by rw[kD];simp)=e:=by simp[kD]
   obtain⟨b',o',ci,rfl,gR,jV,jj⟩:=cE.at (i:=0) (by rw[kD];simp);rw[h0]at jj;obtain⟨y1,e1,y2,e2,y3,e3,y4,e4,rfl,_⟩:=jj.lit;refine ak h ?_;refine aJ (0) ?_;refine aP h (jV 0 _ rfl) ?_;refine aI (fun f4=> ?_) (fun f4=> ?_);rotate_left
   all_goals
    refine ak h ?_;refine s_call h (oP) ?_;clear h;rintro _ w rfl h;by_cases q1:bL fl.1;rotate_left 1
    .rw[qaK q1];exact⟨.inr rfl,h.fr⟩
    rw[qaH q1];refine ak h ?_;refine i_ h (bh fl.2.2 _ d1 x2 d2 x3 d3 x4 d4) ?_;refine s_call h (ih fl.2.2 (by omega) w _ _ _ d v h.le hW aE hd (by omega)) ?_;clear h;rintro _ w (⟨rfl,cV⟩|rfl) h;rotate_left 1
    .exact⟨.inr rfl,h.fr⟩
    refine aA (((k+1:Nat):Int)) ?_;exact hN (k+1) _ _ ⟨rfl,rfl,rfl,rfl,rfl,rfl,rfl,rfl,tV⟩ ⟨ad,Ai cV q1 mT,h.aF⟩ (by omega)
  obtain rfl:k=t.fields.length:=by omega
  rw[qay]at cz;refine s_call h (At (row h) (.inr (.inr (.inl ⟨rfl,rfl,rfl,rfl⟩)))) ?_;clear h;rintro _ w (⟨rfl,hb⟩|rfl) h
  .exact⟨.inl ⟨rfl,.struct k4 hb (fun f hf=>(cz f hf).1) (fun f hf=>(cz f hf).2)⟩,h.fr⟩
  exact⟨.inr rfl,h.fr⟩
 refine aI (fun k5=> ?_) (fun k5=> ?_)
 .refine ak h ?_;refine bN (X:=Nat) (fun k=>[(0,bK W a c),(2,.int .i64 d),(5,.pointer (some ⟨b5,0,none⟩)),(9,.func (.func 82) #[] #[.pointer (some ⟨b5,0,none⟩)]),(168,.slice a3 t.methods.length c3),(169,.int .i64 (t.methods.length:Int)),(170,.int .i64 (k:Int))])
   (fun k w=>k<=t.methods.length/\(∀m∈t.methods.take k,bL m.1/\m.1≠8/\m.2=false)/\SH w0 M [] M [.ah b5 45 (bh t a1 c1 a2 c2 a3 c3 a4 c4)] w) (fun k=>t.methods.length-k) 0 ⟨rfl,rfl,rfl,rfl,rfl,rfl,rfl,tV⟩ ⟨qae _,by simp,h⟩ ?_
  clear h;intro k aK w N ⟨hk,cz,h⟩ hN;refine aI (fun aG=> ?_) (fun aY=> ?_)
  .have ad:k<t.methods.length:=by omega
   obtain⟨b,o,ci,rfl,hl,aO,aE⟩:=hm.at ad;have aZ:=aE.one;obtain rfl:=aE;have ek:=dN ad;obtain⟨fl,c_⟩:∃f,f=t.methods[k]:=⟨_,rfl⟩;rw[<-c_]at aZ aO ek;refine aJ (k) ?_;refine cG h aO ?_;refine au h ?_;clear h;intro b6 w h;refine br h aZ ?_;clear h;intro w h;refine ak h ?_;refine s_call h (oP) ?_;clear h;rintro _ w rfl h;by_cases q1:bL fl.1;rotate_left 1
   .rw[qaK q1];exact⟨.inr rfl,h.fr⟩
   rw[qaH q1];refine ak h ?_;refine aI (fun _=>⟨.inr rfl,h.fr⟩) (fun q2=> ?_);cases q3:fl.2;rotate_left 1
   .rw[q3]at h;refine ak h ?_;exact⟨.inr rfl,h.fr⟩
   rw[q3]at h;refine ak h ?_;refine aA (((k+1:Nat):Int)) ?_;refine hN (k+1) _ _ ⟨rfl,rfl,rfl,rfl,rfl,rfl,rfl,tV⟩ ⟨ad,?_,h.aF⟩ (by omega);rw[<-ek];intro m hm;rcases qah.1 hm with hm|hm
   .exact cz m hm
   simp at hm;subst hm;exact⟨q1,q2,q3⟩
  obtain rfl:k=t.methods.length:=by omega
  rw[qay]at cz;refine ak h ?_;refine bN (X:=Nat) (fun k=>[(0,bK W a c),(2,.int .i64 d),(5,.pointer (some ⟨b5,0,none⟩)),(9,.func (.func 82) #[] #[.pointer (some ⟨b5,0,none⟩)]),(189,.slice a4 t.aD.length c4),(190,.int .i64 (t.aD.length:Int)),(191,.int .i64 (k:Int))])
   (fun k w=>k<=t.aD.length/\(∀e∈t.aD.take k,(e.kind=1\/e.kind=5)/\cP W d e true)/\SH w0 M [] M [.ah b5 45 (bh t a1 c1 a2 c2 a3 c3 a4 c4)] w) (fun k=>t.aD.length-k) 0 ⟨rfl,rfl,rfl,rfl,rfl,rfl,rfl,tV⟩ ⟨qae _,by simp,h⟩ ?_
  clear h;intro k aK w N ⟨hk,E_,h⟩ hN;refine aI (fun aG=> ?_) (fun aY=> ?_)
  .have ad:k<t.aD.length:=by omega
   obtain⟨b,o,ci,rfl,hl,aO,aE⟩:=hs.at ad;have aZ:=aE.one;obtain⟨x1,d1,x2,d2,x3,d3,x4,d4,rfl,_⟩:=aE.lit;have fu:t.aD[k].aj<t.aj:=Ty.nY (by simp);have ek:=dN ad;obtain⟨fl,c_⟩:∃f,f=t.aD[k]:=⟨_,rfl⟩;rw[<-c_]at aZ aO aE fu ek;have fin:(fl.kind=1\/fl.kind=5)->cP W d fl true->∀e∈t.aD.take (k+1),(e.kind=1\/e.kind=5)/\cP W d e true:=by
    intro h1 h2;rw[<-ek];intro m hm;rcases qah.1 hm with hm|hm
    .exact E_ m hm
    simp at hm;subst hm;exact⟨h1,h2⟩
   refine aJ (k) ?_;refine cG h aO ?_;refine au h ?_;clear h;intro b6 w h;refine br h aZ ?_;clear h;intro w h;refine ak h ?_;refine aI (fun q1=> ?_) (fun q1=> ?_)
   .refine bj h ?_;refine s_call h (ih fl (by omega) w _ _ _ d true h.le hW aE hd (by omega)) ?_;clear h;rintro _ w (⟨rfl,cV⟩|rfl) h;rotate_left 1
    .exact⟨.inr rfl,h.fr⟩
    refine aA (((k+1:Nat):Int)) ?_;exact hN (k+1) _ _ ⟨rfl,rfl,rfl,rfl,rfl,rfl,rfl,tV⟩ ⟨ad,fin (.inl q1) cV,h.aF⟩ (by omega)
   refine ak h ?_;refine aI (fun q2=> ?_) (fun _=>⟨.inr rfl,h.fr⟩);refine bj h ?_;refine s_call h (ih fl (by omega) w _ _ _ d true h.le hW aE hd (by omega)) ?_;clear h;rintro _ w (⟨rfl,cV⟩|rfl) h;rotate_left 1
   .exact⟨.inr rfl,h.fr⟩
   refine aA (((k+1:Nat):Int)) ?_;exact hN (k+1) _ _ ⟨rfl,rfl,rfl,rfl,rfl,rfl,rfl,tV⟩ ⟨ad,fin (.inr q2) cV,h.aF⟩ (by omega)
  obtain rfl:k=t.aD.length:=by omega
  rw[qay]at E_;refine s_call h (At (row h) (.inr (.inr (.inr ⟨rfl,rfl,rfl,rfl⟩)))) ?_;clear h;rintro _ w (⟨rfl,hb⟩|rfl) h
  .exact⟨.inl ⟨rfl,.iface k5 hb cz (fun e he=>(E_ e he).1) (fun e he=>(E_ e he).2)⟩,h.fr⟩
  exact⟨.inr rfl,h.fr⟩
 exact⟨.inr rfl,h.fr⟩
end Go.Proofs.YtlfcbbcdiecelaaGreatDoor
