/- 'FnSetIsLookups': for every world, type, package and name of bulk at most 2^20 (with the tables) a method is in the library's method set just if its lookup finds it, and both tell the same: the law returns true and the arguments read as they did. Condition: the bulk; the tables as the program's text lays them (the card ties them). -/
import Derived.Test.YtlfcbbcdiecelaaGreatDoorZ19
import Derived.Test.YtlfcbbcdiecelaaGreatDoorZ11
import Derived.Test.YtlfcbbcdiecelaaGreatDoorZK3
namespace Go.Proofs.YtlfcbbcdiecelaaGreatDoor
open Go Go.Proofs.Tryz
set_option maxRecDepth 100000
set_option maxHeartbeats 4000000
set_option linter.all false
section
variable {w:World}
section
variable {W:Wd}{t:Ty}{w0:World}{M:Mem}{a:Option Addr}{c:Nat}{tc:List Value}{p n:Int}
theorem zcX{q m:Int}(hF:ej W t)(hb:W.aj<=2^19)(cL:t.aj<=2^19)(hM:M.Le (Wm w))(cA:eK M W a c)(bA:cC M t tc)(hp:cN q)(hn:bL m):
 az prog 9 [bK W a c,.agg tc.toArray,.bool false,.int .i64 q,.int .i64 m] w fun r w'=>∃M',G3 M' (W.lookup t false q m) r/\Gr M w M' w':=by
 obtain⟨h1,h2,_⟩:=hF.wd hb cL;have g:=hF.gd hb;exact QM g.gw hF.KE hF.aC hM cA bA (hF.gs hb (by omega)) h1.gs (fun _=>xT.of g h1 h2 _) hp hn (ID g.gw h1.gs _)
theorem Qu{l l':List Int}{v v':Value}(hM:M.Le (Wm w))(hl:Sl M 1 dO v l)(gR:Sl M 1 dO v' l')(hb:l.length<=2^40)(he:l=l'):az prog 13 [v,v'] w fun r w'=>r= .bool true/\Fr [] w w':=
 (Km hM hl gR hb).mono fun r w' ⟨h1,h2⟩=>⟨by rw[h1,qaH he],h2⟩
@[reducible]def uH(f:BQ)(a:Option Addr)(c:Nat):List Value:=[.int .i64 f.obj,.bool f.bO,.slice a f.index.length c,.bool f.ind]
theorem zcL(hT:fA M)(hM:M.Le (Wm w0))(cA:eK M W a c)(bA:cC M t tc)(hb:W.aj<=2^19)(cL:t.aj<=2^19):
 az prog 3 [bK W a c,.agg tc.toArray,.int .i64 p,.int .i64 n] w0 fun r w'=>r= .bool true/\Fr [] w0 w':=by
 obtain⟨y1,d1,y2,d2,y3,d3,y4,d4,rfl,_⟩:=bA.lit;have hlen:=W.len;have h:=SH.start hM;refine aL mixed func3 c3 ?_;refine au (cs:=(bh t y1 d1 y2 d2 y3 d3 y4 d4)) h ?_;clear h;intro b5 w h;refine aI (fun g0=> ?_) (fun g1=> ?_)
 .exact absurd g0 (by omega)
 refine bj h ?_;refine s_call h (TV h.le bA) ?_;clear h;rintro _ w (rfl|rfl) h;rotate_left 1
 .exact⟨rfl,h.fr⟩
 refine bj h ?_;refine fk h (No (p:=p) (n:=n) h.le cA bA (by omega) (by omega)) ?_;clear h;rintro _ M1 w (⟨rfl,hp,hn,hF⟩|rfl) bG h;rotate_left 1
 .exact⟨rfl,h.fr⟩
 refine aI (fun n8=> ?_) (fun h8=> ?_)
 .exact⟨rfl,h.fr⟩
 refine bj h ?_;refine fk h (Qg (addr:=false) hF (hT.le h.dG) h.le (cA.fr h.dG) (bA.le h.dG) hb cL hp hn h8) ?_;clear h;rintro _ M2 w ⟨f,⟨af,cf,rfl,iJ,OF⟩,mX⟩ aQ h;refine au h ?_;clear h;intro b9 w h;refine br h (cO (vs:=uH f af cf) rfl) ?_;clear h;intro w h;refine b_ [] h ?_;clear h;intro w h;refine lc h ?_;refine aI ?_ trivial;refine fN h (GT h.le (cA.fr h.dG) (by omega)) ?_;clear h;rintro _ M3 w ⟨a2,c2,rfl,yv⟩ bT h;refine aI ?_ trivial;refine fN h (Ea _ t (qam _) _ _ h.le (bA.le h.dG) (by omega)) ?_;clear h;rintro _ M4 w ⟨Cq,rfl,Dm⟩ fj h;refine aI ?_ trivial;refine fN h (zcX hF hb cL h.le (yv.fr fj) Dm hp hn) ?_;clear h;rintro _ M5 w ⟨_,rfl,ao,co,ai,ci,rfl,_,_,_,_⟩ aV h;refine aI (fun Mb=> ?_) (fun Uy=> ?_)
 .refine bj h ?_;refine fk h (Kg hF (hT.le h.dG) h.le (cA.fr h.dG) (bA.le h.dG) hb cL) ?_;clear h;rintro _ M6 w ⟨l,⟨al,cl,rfl,nt,cE⟩,C5,jH⟩ ck h;refine bN (X:=Nat) (fun i=>[(2,.int .i64 p),(3,.int .i64 n),(9,vp b9),(10,.bool true),(47,.slice al l.length cl),(48,.int .i64 (l.length:Int)),(49,.int .i64 (i:Int))])
   (fun i w=>i<=l.length/\(∀j y,j<i->l[j]? =some y->y.id≠aM p n)/\SH w0 M [] M6 [.ah b9 33 (uH f af cf)] w) (fun i=>l.length-i) 0 ⟨rfl,rfl,rfl,rfl,rfl,rfl,rfl,tV⟩ ⟨qae _,fun j y hj=>absurd hj (qav _),h.aF⟩ ?_
  clear h;rintro i aK w N ⟨hi,bz,h⟩ hN;refine aI (fun aG=> ?_) (fun aY=> ?_);rotate_left 1
  .refine s_call h (LO (hT.le h.dG) h.le) ?_;clear h;rintro _ w rfl h;have kg:f.bO=false:=SO mX jH fun y hy=>by
    obtain⟨j,hj,rfl⟩:=qak hy;exact bz j _ (by omega) (qaa hj)
   have hv:(uH f af cf)[1]? =some (.bool false):=by rw[<-kg];rfl
   refine ak h ?_ (hv:=hv);exact⟨rfl,h.fr⟩
  have eB:i<l.length:=by omega
  have pK:=KG hF hb cL jH (qaf eB);obtain⟨bl,ol,ph,rfl,_,vl,uz,uD,rfl,Av,AD⟩:=cE.at eB;have Ka:=qaa eB;have Kb:=qaf eB;generalize l[i]=y at*;refine aJ (i) ?_;refine cG h vl ?_;refine au h ?_;clear h;intro lw w h;refine br h (cO (vs:=rM y uz uD) rfl) ?_;clear h;intro w h;refine b_ [] h ?_;clear h;intro w h;refine bI h ?_;refine aI ?_ trivial;refine dg h (qB hp hn) ?_;clear h;rintro _ w rfl h;refine aI (fun e1=> ?_) (fun e2=> ?_);rotate_left 1
  .refine aA (((i+1:Nat):Int)) ?_;refine hN (i+1) _ _ ⟨rfl,rfl,rfl,rfl,rfl,rfl,rfl,tV⟩ ⟨eB,fun j z hj hz=> ?_,h.aF⟩ (by omega);by_cases pC:j=i
   .rw[pC,Ka]at hz;cases hz;exact e2
   exact bz j z (by omega) hz
  obtain⟨JD,JE,Py,tX⟩:=SP hF hb cL h8 mX jH Kb e1;have hv:(uH f af cf)[1]? =some (.bool true):=by rw[<-JD];rfl
  refine ak h ?_ (hv:=hv);refine ak h ?_;refine ak h ?_;refine aI (fun o1=> ?_) (fun o2=> ?_);rotate_left 1
  .exact absurd JE o2
  refine ak h ?_;refine ak h ?_;refine s_call h (Qu h.le ((bQ.sl AD Av).mono (.refl _) fun _ _ _ h=>h) (((bQ.sl OF iJ).mono (bT.trans (fj.trans (aV.trans ck))) fun _ _ _ h=>h)) pK tX) ?_;clear h;rintro _ w rfl h;exact⟨rfl,h.fr⟩
 refine bj h ?_;refine fk h (Kg hF (hT.le h.dG) h.le (cA.fr h.dG) (bA.le h.dG) hb cL) ?_;clear h;rintro _ M6 w ⟨l,⟨al,cl,rfl,nt,cE⟩,C5,jH⟩ ck h;refine bN (X:=Nat) (fun i=>[(2,.int .i64 p),(3,.int .i64 n),(9,vp b9),(10,.bool false),(47,.slice al l.length cl),(48,.int .i64 (l.length:Int)),(49,.int .i64 (i:Int))])
  (fun i w=>i<=l.length/\(∀j y,j<i->l[j]? =some y->y.id≠aM p n)/\SH w0 M [] M6 [.ah b9 33 (uH f af cf)] w) (fun i=>l.length-i) 0 ⟨rfl,rfl,rfl,rfl,rfl,rfl,rfl,tV⟩ ⟨qae _,fun j y hj=>absurd hj (qav _),h.aF⟩ ?_
 clear h;rintro i aK w N ⟨hi,bz,h⟩ hN;refine aI (fun aG=> ?_) (fun aY=> ?_);rotate_left 1
 .refine s_call h (LO (hT.le h.dG) h.le) ?_;clear h;rintro _ w rfl h;have kg:f.bO=false:=SO mX jH fun y hy=>by
   obtain⟨j,hj,rfl⟩:=qak hy;exact bz j _ (by omega) (qaa hj)
  have hv:(uH f af cf)[1]? =some (.bool false):=by rw[<-kg];rfl
  refine ak h ?_ (hv:=hv);exact⟨rfl,h.fr⟩
 have eB:i<l.length:=by omega
 have pK:=KG hF hb cL jH (qaf eB);obtain⟨bl,ol,ph,rfl,_,vl,uz,uD,rfl,Av,AD⟩:=cE.at eB;have Ka:=qaa eB;have Kb:=qaf eB;generalize l[i]=y at*;refine aJ (i) ?_;refine cG h vl ?_;refine au h ?_;clear h;intro lw w h;refine br h (cO (vs:=rM y uz uD) rfl) ?_;clear h;intro w h;refine b_ [] h ?_;clear h;intro w h;refine bI h ?_;refine aI ?_ trivial;refine dg h (qB hp hn) ?_;clear h;rintro _ w rfl h;refine aI (fun e1=> ?_) (fun e2=> ?_);rotate_left 1
 .refine aA (((i+1:Nat):Int)) ?_;refine hN (i+1) _ _ ⟨rfl,rfl,rfl,rfl,rfl,rfl,rfl,tV⟩ ⟨eB,fun j z hj hz=> ?_,h.aF⟩ (by omega);by_cases pC:j=i
  .rw[pC,Ka]at hz;cases hz;exact e2
  exact bz j z (by omega) hz
 obtain⟨JD,JE,Py,tX⟩:=SP hF hb cL h8 mX jH Kb e1;have hv:(uH f af cf)[1]? =some (.bool true):=by rw[<-JD];rfl
 refine ak h ?_ (hv:=hv);refine ak h ?_;refine ak h ?_;refine aI (fun o1=> ?_) (fun o2=> ?_);rotate_left 1
 .exact absurd JE o2
 have P5:y.ind=f.ind:=Py.resolve_left (by omega);have dP:y.ind=true\/y.ind=false:=by cases y.ind<;>simp
 rcases dP with oN|oN;have jq:(rM y uz uD)[3]? =some (.bool true):=by rw[<-oN];rfl
 have iz:(uH f af cf)[3]? =some (.bool true):=by rw[<-oN,P5];rfl
 rotate_left;have jq:(rM y uz uD)[3]? =some (.bool false):=by rw[<-oN];rfl
 have iz:(uH f af cf)[3]? =some (.bool false):=by rw[<-oN,P5];rfl
 all_goals
  refine ak h ?_ (hv:=jq);refine ak h ?_ (hv:=iz);refine ak h ?_;refine ak h ?_;refine s_call h (Qu h.le ((bQ.sl AD Av).mono (.refl _) fun _ _ _ h=>h) (((bQ.sl OF iJ).mono (bT.trans (fj.trans (aV.trans ck))) fun _ _ _ h=>h)) pK tX) ?_;clear h;rintro _ w rfl h;exact⟨rfl,h.fr⟩
end
end
section
open Go.ChangeShapes Go.WideShapes Go.ChangeAt Go.RowKit
theorem zfn:∀t∈Tryz.f3.params.toList,t<prog.types.size:=by
 rw[params3];intro t ht;have hm:t∈[23,28,3,3]:=by simpa using ht
 have cz:([23,28,3,3].all fun u=>decide (u<prog.types.size))=true:=by kernel_rfl
 simpa using qaW.1 cz t hm
theorem Xj(H:Type)(enc:TypeId×Value->H)(W:World)(base:Nat)(args:Array Value)(ds gs:List (DataW H))(before:List MemPlace)
 (mZ:∀(j:Nat) t v,Tryz.f3.params[j]? =some t->args[j]? =some v->Value.okWide prog W .any base t v)
 (hW:DataW.Whole enc prog Tryz.f3.params.toList Rows.fnSetIsLookupsSpec.vars false W args.toList ds gs before) (hk:Rows.uptoSmall H (ds++gs)=true) (hL:laidMetH prog Rows.fnSetIsLookupsUptoRow.laid W):
 Calls prog 3 args W fun e W'=>∃v,e= .returned v/\Rows.fnSetIsLookupsSpec.post enc prog Tryz.f3 false true false false W args v W':=by
 have H3:=hW;have aG:=hW.lt;obtain⟨p,q,CE,hV,rfl,_,_⟩:=hW;have hA:DataW.TrodAll enc prog W 0 (fun _=>true) true Tryz.f3.params.toList args.toList ds p:=CE;rw[params3]at hA mZ;obtain⟨v0,vs0,d0,XH,p0,q0,wK,rfl,rfl,h0,r0⟩:=trodAll_cons hA;obtain⟨v1,vs1,d1,XI,p1,q1,zay,rfl,rfl,h1,r1⟩:=trodAll_cons r0;obtain⟨v2,vs2,d2,ds2,p2,q2,zf9,rfl,rfl,h2,r2⟩:=trodAll_cons r1;obtain⟨v3,vs3,d3,ds3,p3,q3,zf_,rfl,rfl,h3,r3⟩:=trodAll_cons r2;obtain⟨rfl,rfl,rfl⟩:=trodAll_nil r3;obtain rfl:args= #[v0,v1,v2,v3]:=by cases args;simp_all
 obtain⟨rfl,rfl⟩:=trodVars_none hV;have fD:Rows.uptoBulk d0+Rows.uptoBulk d1<=1048576:=by
  have h:Rows.uptoBulkAll ([d0,d1,d2,d3]++[]:List (DataW H))<=1048576:=of_decide_eq_true hk;simp only[qaC,Rows.uptoBulkAll]at h;omega
 obtain⟨Uj,t,a,c,tc,rfl,rfl,cA,bA,H_,cL⟩:=Mj (mZ 0 23 v0 rfl rfl) (mZ 1 28 v1 rfl rfl) h0 h1 fD;obtain⟨z2,rfl,rfl,rfl,_⟩:=open_int u3 (mZ 2 3 v2 rfl rfl) h2;obtain⟨z3,rfl,rfl,rfl,_⟩:=open_int u3 (mZ 3 3 v3 rfl rfl) h3;have hc:=zcL (p:=z2) (n:=z3) (w0:=W) (S9 (show laidMetH prog Rows.fnMethodSetUptoRow.laid W from hL)).jt (Mem.Le.refl _) cA bA H_ cL;have Ic:=qa func3 (c:=_) rfl (by kernel_rfl) hc;refine Ic.mono fun e W' ⟨v,he,hv,hf⟩=> ?_;subst he;subst hv;have HX:=Lz CE (w':=W') fun x hx=>hf.same (aG x (qaA _ hx));refine⟨_,rfl,R9 (pa:=p0++(p1++([]++([]++[])))) (pv:=[]) H3 (fun _ _ _=>trodAll_cons_mk (shut_bool u4 _) trodAll_mk0) (fun sp eU=> ?_) (fun _ _=>rfl) rfl hf (ok_one (by kernel_rfl) rfl (okWide_bool_mk u4 _))⟩;exact DataW.TrodAll.respare Ta S_ zfn HX (fun x hx=>eU x (qaA _ hx))
theorem zfN(os:Os){H:Type}(enc:TypeId×Value->H):∃places,DataW.whole enc prog ((xP os).forCall (fun _ _=>0) ⟨#[],Ei,[]⟩).memory Tryz.f3.params.toList Rows.fnSetIsLookupsSpec.vars false Ei.toList 8=some ([.nil,.agg [.lit (.int .i64 0),.lit (.int .i64 0),.nil,.nil,.nil,.nil],.lit (.int .i64 0),.lit (.int .i64 0)],[],places):=
 ⟨[],by kernel_rfl⟩
set_option maxRecDepth 100000 in
theorem zcP(os:Os)(started:os.Started)(H:Type)(enc:TypeId×Value->H)(F:Stop.Interp):
 ReturnsInHanded {} checked os 3 .any ((Rows.OpenSpec.upto Rows.fnSetIsLookupsSpec).preRow enc prog Tryz.f3 Rows.fnSetIsLookupsUptoRow.domain false Rows.fnSetIsLookupsUptoRow.laid) (((Rows.OpenSpec.upto Rows.fnSetIsLookupsSpec).at F).post enc prog Tryz.f3 false true false false):=by
 obtain⟨places,hx⟩:=zfN os enc;refine returnsInHanded_of_row (C:=checked) (s:=Rows.OpenSpec.upto Rows.fnSetIsLookupsSpec) RY started (by kernel_rfl) func3
  ⟨xP os,fun _ _=>0,⟨#[],Ei,[]⟩,World.laidAll_os _ _ _,TK os _,(qcb (base:=0) (TI os)).1,(qcb (TI os)).2,
   OpenSpec.preRow_of_cond 8 hx (by kernel_rfl) (fun k hk=>by cases hk;kernel_rfl) (by kernel_rfl) (TH os _),by
   simp only[Assume.holds];exact⟨by simp,by simp,fun _=>Modest.zero,by simp,by simp⟩⟩ ?_
 intro W base args ds gs before mZ hW _ Ig _ hL _ _;exact Xj H enc W base args ds gs before mZ hW (Ig _ rfl) hL
theorem zeG:Rows.FnSetIsLookupsUptoSaid:=
 OpenClaim.holds_of_cond 3 Tryz.f3 rfl rfl rfl rfl rfl rfl rfl ⟨rfl,rfl,rfl,rfl,rfl⟩ rfl rfl rfl rfl rfl (by as_aux_lemma=>kernel_rfl) func3 jf3
  (of_decide_eq_true (by as_aux_lemma=>kernel_rfl)) (by as_aux_lemma=>unfold Func.isWrapper;first|(rw[if_pos (by decide+kernel)];kernel_rfl)|(rw[if_neg (by decide+kernel)];exact⟨rfl,rfl⟩))
  (fun os started H enc _ F=>by rw[OpenClaim.pre_eq_preRow];exact zcP os started H enc F)
theorem zd7(f:FuncId)(fn:Func)(hf:Tryz.pinned.checked.prog.funcNamed "selectors/laws.FnSetIsLookups" =some f)(fF:Tryz.pinned.checked.prog.funcs[f]? =some fn):
 true=Tryz.pinned.checked.prog.looks []/\∀(j:Nat) t,fn.params[j]? =some t->Tryz.pinned.checked.prog.wantsStandIn t=false:=by
 obtain rfl:f=3:=qaF ((show prog.funcNamed "selectors/laws.FnSetIsLookups" =some 3 by kernel_rfl).symm.trans hf)|>.symm;obtain rfl:fn=Tryz.f3:=(qaF (func3.symm.trans fF)).symm;refine⟨by kernel_rfl,fun j t ht=> ?_⟩;rw[params3]at ht;have hm:t∈[23,28,3,3]:=by simpa using Array.mem_of_getElem? ht
 have cz:([23,28,3,3].all fun u=> !prog.wantsStandIn u)=true:=by kernel_rfl
 exact(show prog.wantsStandIn t=false by simpa using qaW.1 cz t hm)
theorem fnSetIsLookups_holds:Rows.FnSetIsLookupsUptoCardSaid:=
 Claim7.holds_tied_plain_at .later [] _ _ _ _ zeG (fun _ h=>by cases h) (by kernel_rfl) (fun _ h=>by cases h) fnSetIsLookupsUpto_row_tie rfl ⟨rfl,rfl⟩ (by kernel_rfl) rfl zd7 (by kernel_rfl)
end
end Go.Proofs.YtlfcbbcdiecelaaGreatDoor
