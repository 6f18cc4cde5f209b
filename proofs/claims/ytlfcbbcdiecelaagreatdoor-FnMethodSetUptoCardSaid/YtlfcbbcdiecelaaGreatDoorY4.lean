/- 'FnMethodSet': for every world and type of bulk at most 2^20 (arguments and tables together) the library's method set is what the reference says: the law returns true and the arguments read as they did. Condition: the bulk; the tables as the program's text lays them (the card ties them). -/
import Derived.Test.YtlfcbbcdiecelaaGreatDoorZ11
import Derived.Test.YtlfcbbcdiecelaaGreatDoorZ19
import Derived.Test.YtlfcbbcdiecelaaGreatDoorZJ4
namespace Go.Proofs.YtlfcbbcdiecelaaGreatDoor
open Go Go.Proofs.Tryz
set_option maxRecDepth 100000
set_option maxHeartbeats 4000000
set_option linter.all false
section
open Go.ChangeShapes Go.WideShapes Go.ChangeAt Go.RowKit
theorem zfo:∀t∈Tryz.f4.params.toList,t<prog.types.size:=by
 rw[params4];intro t ht;have hm:t∈[23,28]:=by simpa using ht
 have cz:([23,28].all fun u=>decide (u<prog.types.size))=true:=by kernel_rfl
 simpa using qaW.1 cz t hm
theorem Xk(H:Type)(enc:TypeId×Value->H)(W:World)(base:Nat)(args:Array Value)(ds gs:List (DataW H))(before:List MemPlace)
 (mZ:∀(j:Nat) t v,Tryz.f4.params[j]? =some t->args[j]? =some v->Value.okWide prog W .any base t v)
 (hW:DataW.Whole enc prog Tryz.f4.params.toList Rows.fnMethodSetSpec.vars false W args.toList ds gs before) (hk:Rows.uptoSmall H (ds++gs)=true) (hL:laidMetH prog Rows.fnMethodSetUptoRow.laid W):
 Calls prog 4 args W fun e W'=>∃v,e= .returned v/\Rows.fnMethodSetSpec.post enc prog Tryz.f4 false true false false W args v W':=by
 have H3:=hW;have aG:=hW.lt;obtain⟨p,q,CE,hV,rfl,_,_⟩:=hW;have hA:DataW.TrodAll enc prog W 0 (fun _=>true) true Tryz.f4.params.toList args.toList ds p:=CE;rw[params4]at hA mZ;obtain⟨v0,vs0,d0,XH,p0,q0,wK,rfl,rfl,h0,r0⟩:=trodAll_cons hA;obtain⟨v1,vs1,d1,XI,p1,q1,zay,rfl,rfl,h1,r1⟩:=trodAll_cons r0;obtain⟨rfl,rfl,rfl⟩:=trodAll_nil r1;obtain rfl:args= #[v0,v1]:=by cases args;simp_all
 obtain⟨rfl,rfl⟩:=trodVars_none hV;have fD:Rows.uptoBulk d0+Rows.uptoBulk d1<=1048576:=by
  have h:Rows.uptoBulkAll ([d0,d1]++[]:List (DataW H))<=1048576:=of_decide_eq_true hk;simp only[qaC,Rows.uptoBulkAll]at h;omega
 obtain⟨Uj,t,a,c,tc,rfl,rfl,cA,bA,H_,cL⟩:=Mj (mZ 0 23 v0 rfl rfl) (mZ 1 28 v1 rfl rfl) h0 h1 fD;have hc:=zcM (w0:=W) (S9 hL).jt (Mem.Le.refl _) cA bA H_ cL;have Ic:=qa func4 (c:=_) rfl (by kernel_rfl) hc;refine Ic.mono fun e W' ⟨v,he,hv,hf⟩=> ?_;subst he;subst hv;have HX:=Lz CE (w':=W') fun x hx=>hf.same (aG x (qaA _ hx));refine⟨_,rfl,R9 (pa:=p0++(p1++[])) (pv:=[]) H3 (fun _ _ _=>trodAll_cons_mk (shut_bool u4 _) trodAll_mk0) (fun sp eU=> ?_) (fun _ _=>rfl) rfl hf (ok_one (by kernel_rfl) rfl (okWide_bool_mk u4 _))⟩;exact DataW.TrodAll.respare Ta S_ zfo HX (fun x hx=>eU x (qaA _ hx))
theorem zfO(os:Os){H:Type}(enc:TypeId×Value->H):∃places,DataW.whole enc prog ((xP os).forCall (fun _ _=>0) ⟨#[],Eh,[]⟩).memory Tryz.f4.params.toList Rows.fnMethodSetSpec.vars false Eh.toList 8=some ([.nil,.agg [.lit (.int .i64 0),.lit (.int .i64 0),.nil,.nil,.nil,.nil]],[],places):=
 ⟨[],by kernel_rfl⟩
set_option maxRecDepth 100000 in
theorem zcQ(os:Os)(started:os.Started)(H:Type)(enc:TypeId×Value->H)(F:Stop.Interp):
 ReturnsInHanded {} checked os 4 .any ((Rows.OpenSpec.upto Rows.fnMethodSetSpec).preRow enc prog Tryz.f4 Rows.fnMethodSetUptoRow.domain false Rows.fnMethodSetUptoRow.laid) (((Rows.OpenSpec.upto Rows.fnMethodSetSpec).at F).post enc prog Tryz.f4 false true false false):=by
 obtain⟨places,hx⟩:=zfO os enc;refine returnsInHanded_of_row (C:=checked) (s:=Rows.OpenSpec.upto Rows.fnMethodSetSpec) RY started (by kernel_rfl) func4
  ⟨xP os,fun _ _=>0,⟨#[],Eh,[]⟩,World.laidAll_os _ _ _,TK os _,(qcb (base:=0) (TJ os)).1,(qcb (TJ os)).2,
   OpenSpec.preRow_of_cond 8 hx (by kernel_rfl) (fun k hk=>by cases hk;kernel_rfl) (by kernel_rfl) (TH os _),by
   simp only[Assume.holds];exact⟨by simp,by simp,fun _=>Modest.zero,by simp,by simp⟩⟩ ?_
 intro W base args ds gs before mZ hW _ Ig _ hL _ _;exact Xk H enc W base args ds gs before mZ hW (Ig _ rfl) hL
theorem zeH:Rows.FnMethodSetUptoSaid:=
 OpenClaim.holds_of_cond 4 Tryz.f4 rfl rfl rfl rfl rfl rfl rfl ⟨rfl,rfl,rfl,rfl,rfl⟩ rfl rfl rfl rfl rfl (by as_aux_lemma=>kernel_rfl) func4 jf4
  (of_decide_eq_true (by as_aux_lemma=>kernel_rfl)) (by as_aux_lemma=>unfold Func.isWrapper;first|(rw[if_pos (by decide+kernel)];kernel_rfl)|(rw[if_neg (by decide+kernel)];exact⟨rfl,rfl⟩))
  (fun os started H enc _ F=>by rw[OpenClaim.pre_eq_preRow];exact zcQ os started H enc F)
theorem zd8(f:FuncId)(fn:Func)(hf:Tryz.pinned.checked.prog.funcNamed "selectors/laws.FnMethodSet" =some f)(fF:Tryz.pinned.checked.prog.funcs[f]? =some fn):
 true=Tryz.pinned.checked.prog.looks []/\∀(j:Nat) t,fn.params[j]? =some t->Tryz.pinned.checked.prog.wantsStandIn t=false:=by
 obtain rfl:f=4:=qaF ((show prog.funcNamed "selectors/laws.FnMethodSet" =some 4 by kernel_rfl).symm.trans hf)|>.symm;obtain rfl:fn=Tryz.f4:=(qaF (func4.symm.trans fF)).symm;refine⟨by kernel_rfl,fun j t ht=> ?_⟩;rw[params4]at ht;have hm:t∈[23,28]:=by simpa using Array.mem_of_getElem? ht
 have cz:([23,28].all fun u=> !prog.wantsStandIn u)=true:=by kernel_rfl
 exact(show prog.wantsStandIn t=false by simpa using qaW.1 cz t hm)
theorem fnMethodSet_holds:Rows.FnMethodSetUptoCardSaid:=
 Claim7.holds_tied_plain_at .later [] _ _ _ _ zeH (fun _ h=>by cases h) (by kernel_rfl) (fun _ h=>by cases h) fnMethodSetUpto_row_tie rfl ⟨rfl,rfl⟩ (by kernel_rfl) rfl zd8 (by kernel_rfl)
end
end Go.Proofs.YtlfcbbcdiecelaaGreatDoor
