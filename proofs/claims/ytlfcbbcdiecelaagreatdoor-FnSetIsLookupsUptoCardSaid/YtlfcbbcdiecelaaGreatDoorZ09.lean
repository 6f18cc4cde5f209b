import Derived.Test.YtlfcbbcdiecelaaGreatDoorZ02
namespace Go.Proofs.YtlfcbbcdiecelaaGreatDoor
open Go Go.Proofs.Tryz
set_option maxRecDepth 100000
set_option maxHeartbeats 4000000
set_option linter.all false
section
variable {t fuel:Nat}{cs:List Value}
theorem MZ{α β:Type}{R:α->β->Prop}:∀{l:List α} {l':List β},l.length=l'.length->(∀(i:Nat) (x:α) (y:β),l[i]? =some x->l'[i]? =some y->R x y)->bC R l l'
 |[],[],_,_=>trivial
 |[],_::_,h,_=>by cases h
 |_::_,[],h,_=>by cases h
 |x::l,y::l',h,hr=>⟨hr 0 x y rfl rfl,MZ (by simpa using h) fun i a b ha hb=>hr (i+1) a b (by simpa using ha) (by simpa using hb)⟩
theorem M_{α:Type}{Q:Nat->α->Prop}:∀n:Nat,(∀i,i<n->∃a,Q i a)->∃xs:List α,xs.length=n/\∀(i:Nat) (a:α),xs[i]? =some a->Q i a
 |0,_=>⟨[],rfl,fun i a h=>by simp at h⟩
 |n+1,h=>by
  obtain⟨xs,hl,hx⟩:=M_ n fun i hi=>h i (by omega);obtain⟨a,ha⟩:=h n (by omega);refine⟨xs++[a],by simp[hl],fun i b hb=> ?_⟩;rcases qbZ i n with h1|h1|h1
  .rw[qbi (by omega)]at hb;exact hx i b hb
  .rw[h1,<-hl]at hb;simp at hb;rw[h1,<-hb];exact ha
  rw[qa3 (by simp[hl];omega)]at hb;cases hb
section
variable {H:Type}{enc:TypeId×Value->H}{w:World}{sp:Nat->Bool}{hd:Bool}
theorem Na{α:Type}{f:α->Nat}:∀{l:List (DataW H×List MemPlace)} {xs:List α},bC (fun y a=>f a<=Rows.uptoBulk y.1) l xs->(xs.map f).sum<=Rows.uptoBulkAll (l.map (·.1))
 |[],[],_=>by simp
 |y::l,a::xs,h=>by
  have h1:=h.1;have h2:=Na h.2;simp only[qaB,qaT,Rows.uptoBulkAll];omega
theorem BE{α:Type}{k e:Nat}{x:DataW H×List MemPlace}(R:α->List Value->Prop)(f:α->Nat)(ht:prog.underlying t=some (.slice e))(hk:prog.cellsOf e=k)(C2:0<k)
 (h:DataW.trod enc prog w 0 sp hd fuel t cs=some x) (kn:∀n cs' y,n<fuel->DataW.trod enc prog w 0 sp hd n e cs'=some y->∃a:α,R a cs'/\f a<=Rows.uptoBulk y.1):
 ∃v xs,cs=[v]/\Sl (Wm w) k R v xs/\(xs.map f).sum+1<=Rows.uptoBulk x.1:=by
 rcases DataW.trod_slice ht h with⟨rfl,rfl⟩|⟨a,len,cap,elems,rest,n,hn,rfl,rfl,hb,hl,hm,hlen,cE,_,_⟩
 .exact⟨_,[],rfl,Sl.nil _ _ _,by simp[Rows.uptoBulk]⟩
 rw[hk]at cE;have key:∀i,i<len->∃a':α,∃cs' y,elems[i]? =some y/\w.cells? 0 (a.add (i*k)) k=some cs'/\R a' cs'/\f a'<=Rows.uptoBulk y.1:=fun i hi=>by
  have h1:=cE i hi;have h2:elems[i]? =some (elems[i]'(by omega)):=qaa (by omega);rw[h2]at h1;obtain⟨cs',h3,h4⟩:=Option.bind_eq_some_iff.1 h1;obtain⟨a',h5,h6⟩:=kn n cs' _ (by omega) h4;exact⟨a',cs',_,h2,h3,h5,h6⟩
 obtain⟨xs,nL,vF⟩:=M_ len key;refine⟨_,xs,rfl,⟨some a,cap,by rw[nL],by omega,fun i x hi=> ?_⟩,?_⟩
 .obtain⟨cs',y,h1,h2,h3,h4⟩:=vF i x hi;obtain⟨_,nt,kX⟩:=World.cells?_some h2;have eB:0<xs.length:=Nat.lt_of_le_of_lt (qae i) (qab.1 hi).1;obtain⟨ds',y',_,p2,_,_⟩:=vF 0 xs[0] (qaa eB);obtain⟨_,pcl,zd0⟩:=World.cells?_some p2;obtain⟨b,o,spot⟩:=a;have h0:=zd0 0 C2;rw[qaa (by omega)]at h0;have hs:spot=none:=by simpa[Addr.add]using World.cell?_spot h0
  subst hs;refine⟨b,o,cs',rfl,nt,fun j v hj=> ?_,h3⟩;have hjl:=(qab.1 hj).1;have:=kX j (by omega);rw[qb2,qb2,hj]at this;exact this
 have he:bC (fun y a=>f a<=Rows.uptoBulk y.1) elems xs:=MZ (by omega) fun i y x hy hx=>by
  obtain⟨cs',y',h1,h2,h3,h4⟩:=vF i x hx;rw[hy]at h1;cases h1;exact h4
 have:=Na he;simp only[Rows.uptoBulk];omega
theorem u3:prog.underlying 3=some (.int .i64):=by kernel_rfl
theorem u4:prog.underlying 4=some .bool:=by kernel_rfl
theorem Tn:prog.underlying 24=some (.slice 28):=by kernel_rfl
theorem u25:prog.underlying 25=some (.slice 101):=by kernel_rfl
theorem To:prog.underlying 26=some (.slice 86):=by kernel_rfl
noncomputable def strOf(t:TypeId):Array Field:=
 match prog.underlying t with
 |some (.struct fs)=>fs
 |_=> #[]
theorem Tp:prog.underlying 28=some (.struct (strOf 28)):=by kernel_rfl
theorem u86:prog.underlying 86=some (.struct (strOf 86)):=by kernel_rfl
theorem zfB:prog.underlying 101=some (.struct (strOf 101)):=by kernel_rfl
theorem u82:prog.underlying 82=some (.struct (strOf 82)):=by kernel_rfl
theorem n28:(strOf 28).size=6:=by kernel_rfl
theorem n86:(strOf 86).size=2:=by kernel_rfl
theorem n101:(strOf 101).size=3:=by kernel_rfl
theorem n82:(strOf 82).size=5:=by kernel_rfl
theorem s28:(strOf 28).toList.map (fun f=>(f.type,f.offset))=[(3,0),(3,1),(24,2),(25,3),(26,4),(24,5)]:=by kernel_rfl
theorem s86:(strOf 86).toList.map (fun f=>(f.type,f.offset))=[(3,0),(4,1)]:=by kernel_rfl
theorem zez:(strOf 101).toList.map (fun f=>(f.type,f.offset))=[(3,0),(4,1),(28,2)]:=by kernel_rfl
theorem s82:(strOf 82).toList.map (fun f=>(f.type,f.offset))=[(3,0),(3,1),(4,2),(28,3),(26,9)]:=by kernel_rfl
theorem k3:prog.cellsOf 3=1:=by kernel_rfl
theorem k4:prog.cellsOf 4=1:=by kernel_rfl
theorem k24:prog.cellsOf 24=1:=by kernel_rfl
theorem k25:prog.cellsOf 25=1:=by kernel_rfl
theorem Qz:prog.cellsOf 26=1:=by kernel_rfl
theorem Dy:prog.cellsOf 28=6:=by kernel_rfl
theorem Kr:prog.cellsOf 86=2:=by kernel_rfl
theorem Qy:prog.cellsOf 101=8:=by kernel_rfl
theorem QA:prog.cellsOf 82=10:=by kernel_rfl
theorem Gv{n:Nat}{l:List (Nat×Nat)}{x:DataW H×List MemPlace}(hu:prog.underlying t=some (.struct (strOf t)))(hn:(strOf t).size=n)(hs:(strOf t).toList.map (fun f=>(f.type,f.offset))=l)
 (h:DataW.trod enc prog w 0 sp hd fuel t cs=some x):
 ∃(xs:List (DataW H×List MemPlace)) (m:Nat),m<fuel/\x.1= .agg (xs.map (·.1))/\cs.length=prog.cellsOf t/\xs.length=n/\∀(i:Nat) (q:Nat×Nat),l[i]? =some q->DataW.trod enc prog w 0 sp hd m q.1 ((cs.drop q.2).take (prog.cellsOf q.1))=xs[i]? :=by
 obtain⟨xs,m,hm,rfl,hc,hl,hf⟩:=DataW.trod_struct hu h;refine⟨xs,m,by omega,rfl,hc,by rw[hl,hn],fun i q hq=> ?_⟩;rw[<-hs,qaE]at hq;cases uS:(strOf t).toList[i]? with
 |none=>rw[uS]at hq;cases hq
 |some f=>
  rw[uS]at hq;cases hq;exact hf i f (by simpa using uS)
theorem QW{x:DataW H×List MemPlace}(h:DataW.trod enc prog w 0 sp hd fuel 86 cs=some x):∃m:Int×Bool,kR m cs/\2<=Rows.uptoBulk x.1:=by
 obtain⟨xs,m,_,hx,hc,hl,hf⟩:=Gv u86 n86 s86 h;rw[Kr]at hc
 match cs,hc,xs,hl with
 |[c0,c1],_,[y0,y1],_=>
  have g0:=hf 0 _ rfl;have g1:=hf 1 _ rfl;simp only[k3,k4,List.drop_zero,qb_,qbK,qbO,qbz,qbH]at g0 g1;obtain⟨n,e0,_,_⟩:=qcd u3 g0;obtain⟨b,e1,_⟩:=DataW.trod_bool u4 g1;cases e0;cases e1;refine⟨(n,b),rfl,?_⟩;rw[hx];obtain⟨_,_,r0,_⟩:=qcd u3 g0;obtain⟨_,_,r1⟩:=DataW.trod_bool u4 g1;simp only[qaB,qa0,Rows.uptoBulk,Rows.uptoBulkAll,r0,r1];omega
theorem Gw{α:Type}(f:α->Nat):∀l:List α,(l.map fun x=>2*f x).sum=2*(l.map f).sum
 |[]=>rfl
 |x::l=>by simp only[qaB,qaT,Gw f l];omega
theorem Lw{α:Type}(c:Nat):∀l:List α,(l.map fun _=>c).sum=l.length*c
 |[]=>by simp
 |x::l=>by simp only[qaB,qaT,Lw c l,qaO,qbr];omega
theorem Tl:∀(fuel:Nat) (cs:List Value) (x:DataW H×List MemPlace),DataW.trod enc prog w 0 sp hd fuel 28 cs=some x->∃t:Ty,cC (Wm w) t cs/\2*t.aj<=Rows.uptoBulk x.1:=by
 intro fuel
 induction fuel using Nat.strongRecOn with
 |_ fuel ih=>
  intro cs x h;obtain⟨xs,m,hm,hx,hc,hl,hf⟩:=Gv Tp n28 s28 h;rw[Dy]at hc
  match cs,hc,xs,hl with
  |[c0,c1,c2,c3,c4,c5],_,[y0,y1,y2,y3,y4,y5],_=>
   have g0:=hf 0 _ rfl;have g1:=hf 1 _ rfl;have g2:=hf 2 _ rfl;have g3:=hf 3 _ rfl;have g4:=hf 4 _ rfl;have g5:=hf 5 _ rfl;simp only[k3,k24,k25,Qz,List.drop_zero,qb_,qbK,qbO,qbz,qbH]at g0 g1 g2 g3 g4 g5;obtain⟨kd,e0,r0,_⟩:=qcd u3 g0;obtain⟨nm,e1,r1,_⟩:=qcd u3 g1;obtain⟨ve,el,e2,cE,wN⟩:=BE (cC (Wm w)) (fun t=>2*t.aj) Tn Dy (by decide) g2 fun n cs' y hn hy=>ih n (by omega) cs' y hy;obtain⟨vf,fs,e3,tK,on⟩:=BE (kO (Wm w)) (fun f=>2*(1+f.2.2.aj)) u25 Qy (by decide) g3 fun n cs' y hn hy=>by
    obtain⟨zs,m',lL,hz,gg,gR,gh⟩:=Gv zfB n101 zez hy;rw[Qy]at gg
    match cs',gg,zs,gR with
    |b0::b1::tc,gg,[z0,z1,z2],_=>
     have p0:=gh 0 _ rfl;have p1:=gh 1 _ rfl;have p2:=gh 2 _ rfl;simp only[k3,k4,Dy,List.drop_zero,qb_,qbK,qbO,qbz,qbH]at p0 p1 p2;rw[qa2 (by simp at gg;omega)]at p2;obtain⟨nf,q0,s0,_⟩:=qcd u3 p0;obtain⟨bf,q1,s1⟩:=DataW.trod_bool u4 p1;obtain⟨tf,q2,s2⟩:=ih m' (by omega) tc z2 p2;cases q0;cases q1;refine⟨(nf,bf,tf),⟨tc,rfl,q2⟩,?_⟩;rw[hz];simp only[qaB,qa0,Rows.uptoBulk,Rows.uptoBulkAll,s0,s1];omega
   obtain⟨vm,ms,e4,jH,jT⟩:=BE kR (fun _=>2) To Kr (by decide) g4 fun n cs' y hn hy=>QW hy;obtain⟨vs,es,e5,OI,ge⟩:=BE (cC (Wm w)) (fun t=>2*t.aj) Tn Dy (by decide) g5 fun n cs' y hn hy=>ih n (by omega) cs' y hy;cases e0;cases e1;cases e2;cases e3;cases e4;cases e5;refine⟨.mk kd nm el fs ms es,cC.FV (t:= .mk kd nm el fs ms es) cE tK jH OI,?_⟩;rw[Ty.iW,hx];simp only[qaB,qa0,Rows.uptoBulk,Rows.uptoBulkAll,r0,r1];rw[Gw Ty.aj]at wN ge;rw[Gw (fun f:Int×Bool×Ty=>1+f.2.2.aj)]at on;rw[Lw]at jT;show 2*(1+ms.length+(el.map Ty.aj).sum+(fs.map fun f=>1+f.2.2.aj).sum+(es.map Ty.aj).sum)<=_;omega
theorem Xq{x:DataW H×List MemPlace}(h:DataW.trod enc prog w 0 sp hd fuel 82 cs=some x):∃d:Dc,qO (Wm w) d cs/\2*(1+d.methods.length+d.of.aj)<=Rows.uptoBulk x.1:=by
 obtain⟨xs,m,hm,hx,hc,hl,hf⟩:=Gv u82 n82 s82 h;rw[QA]at hc
 match cs,hc,xs,hl with
 |[c0,c1,c2,c3,c4,c5,c6,c7,c8,c9],_,[y0,y1,y2,y3,y4],_=>
  have g0:=hf 0 _ rfl;have g1:=hf 1 _ rfl;have g2:=hf 2 _ rfl;have g3:=hf 3 _ rfl;have g4:=hf 4 _ rfl;simp only[k3,k4,Qz,Dy,List.drop_zero,qb_,qbK,qbO,qbz,qbH]at g0 g1 g2 g3 g4;obtain⟨nm,e0,r0,_⟩:=qcd u3 g0;obtain⟨pk,e1,r1,_⟩:=qcd u3 g1;obtain⟨al,e2,r2⟩:=DataW.trod_bool u4 g2;obtain⟨t,ht,cL⟩:=Tl _ _ _ g3;obtain⟨vm,ms,e4,jH,jT⟩:=BE kR (fun _=>2) To Kr (by decide) g4 fun n cs' y hn hy=>QW hy;cases e0;cases e1;cases e2;cases e4;refine⟨⟨nm,pk,al,t,ms⟩,⟨_,_,rfl,ht,jH⟩,?_⟩;rw[hx];simp only[qaB,qa0,Rows.uptoBulk,Rows.uptoBulkAll,r0,r1,r2];rw[Lw]at jT;omega
end
end
section
open Go.ChangeShapes Go.WideShapes Go.ChangeAt Go.RowKit
variable {w w':World}
theorem RY:ownKnob prog.godebug=none:=by kernel_rfl
theorem Ta:Kids prog (·<prog.types.size):=kids_rows (by kernel_rfl) (by kernel_rfl)
theorem S_:∀t e,t<prog.types.size->prog.underlying t=some (.slice e)->0<prog.cellsOf e:=slices_full_of prog (by kernel_rfl)
theorem Fr.kept(h:Fr [] w w')(may:MemPlace->Prop):w.keptBut w' may:=by
 refine⟨h.os,h.out,fun i hi=> ?_⟩;have:=(World.keptBut_refl w may).2.2 i hi;rw[h.iB i hi (by simp)];exact this
theorem Fr.same(h:Fr [] w w'){p:MemPlace}(hp:p.block<w.heap.size):w.sameAt w' p:=by
 cases p with
 |cell b off=>
  show w'.cell? ⟨b,off,none⟩=w.cell? ⟨b,off,none⟩;unfold World.cell?;rw[h.iB b hp (by simp)]
 |map b=>exact h.iB b hp (by simp)
theorem Fr.X4(h:Fr [] w w'){b off:Nat}(hb:b<w.heap.size):w'.frozen? ⟨b,off,none⟩=w.frozen? ⟨b,off,none⟩:=by
 unfold World.frozen?;rw[h.iB b hb (by simp)]
section
variable {H:Type}{enc:TypeId×Value->H}{P:Program}
theorem Lz{w w':World}{base:Nat}{sp:Nat->Bool}{hd:Bool}:∀{ts:List TypeId} {vs:List Value} {ds:List (DataW H)} {ps:List MemPlace},DataW.TrodAll enc P w base sp hd ts vs ds ps->(∀p∈ps,w.sameAt w' p)->DataW.TrodAll enc P w' base sp hd ts vs ds ps
 |[],[],[],_,h,_=>h
 |_::_,_::_,_::_,_,⟨p,q,⟨n,h1⟩,h2,e⟩,hs=>⟨p,q,⟨n,DataW.trod_carry n _ _ _ h1 fun x hx=>hs x (by rw[e];exact qaA _ hx)⟩,Lz h2 (fun x hx=>hs x (by rw[e];exact qaR _ hx)),e⟩
theorem R9{f:Func}{s:ChangeSpec}{apart fresh handsOn again:Bool}{W W':World}{args:Array Value}{v:Value}{ds gs:List (DataW H)}{before pa pv:List MemPlace}
 (hW:DataW.Whole enc P f.params.toList s.vars apart W args.toList ds gs before)
 (PD:∀(b:Nat) (sp:Nat->Bool) (hd:Bool),DataW.TrodAll enc P W' b sp hd f.resultTypes.toList (v.resultList f.resultTypes.size) (s.fn H (ds++gs)).results [])
 (wK:∀sp:Nat->Bool,(∀p∈before,sp p.block=true)->DataW.TrodAll enc P W' 0 sp true f.params.toList args.toList (s.fn H (ds++gs)).args pa)
 (PR:∀sp:Nat->Bool,(∀p∈before,sp p.block=true)->DataW.TrodVars enc P W' sp s.vars (s.fn H (ds++gs)).vars pv)
 (rD:before=pa++pv) (hf:Fr [] W W')
 (cQ:∀(j:Nat) (t:TypeId) (r:Value),f.resultTypes[j]? =some t->(v.resultList f.resultTypes.size)[j]? =some r->Value.okWide P W' .any 0 t r):
 s.post enc P f apart fresh handsOn again W args v W':=by
 have hold:∀p∈before,(fun b=>decide (b<W.heap.size)) p.block=true:=fun p hp=>by simpa using hW.lt p hp
 have aG:=hW.lt;refine⟨ds,gs,before,[],pa,pv,hW,PD _ _ _,wK _ hold,PR _ hold,World.keptBut_mono (fun p hp=>⟨hp,?_⟩) (hf.kept (·∈before)),fun _=> ?_⟩
 .rw[rD,qah]at hp;exact Or.inr hp
 obtain⟨_,_,_,_,_,hz,hn⟩:=hW;refine⟨cQ,_,_,([]++pa)++pv,⟨[]++pa,pv,trodAll_append (wK _ (fun _ _=>rfl)) (PD _ _ _),PR _ (fun _ _=>rfl),rfl,?_,?_⟩,?_⟩
 .intro b off hp;have ea:MemPlace.cell b off∈before:=by rw[rD];simpa using hp
  rw[hf.X4 (b:=b) (off:=off) (aG _ ea)];exact hz b off ea
 .intro ha;have:=hn ha;rw[rD]at this;simpa using this
 intro p hp _;rw[rD];simpa using hp
end
theorem Mj{H:Type}{enc:TypeId×Value->H}{base:Nat}{v0 v1:Value}{d0 d1:DataW H}{p0 p1:List MemPlace}(o0:Value.okWide prog w .any base 23 v0)(o1:Value.okWide prog w .any base 28 v1)
 (h0:DataW.Trod enc prog w 0 (fun _=>true) true 23 v0 d0 p0) (h1:DataW.Trod enc prog w 0 (fun _=>true) true 28 v1 d1 p1) (hk:Rows.uptoBulk d0+Rows.uptoBulk d1<=1048576):
 ∃(W:Wd) (t:Ty) (a:Option Addr) (c:Nat) (tc:List Value),v0=bK W a c/\v1= .agg tc.toArray/\eK (Wm w) W a c/\cC (Wm w) t tc/\W.aj<=2^19/\t.aj<=2^19:=by
 obtain⟨a0,l0,c0,rfl⟩:=okWide_slice (show prog.underlying 23=some (.slice 82) by kernel_rfl) o0;obtain⟨cs,rfl,_⟩:=okWide_struct Tp o1;obtain⟨n0,h0⟩:=h0;obtain⟨n1,h1⟩:=h1;obtain⟨t,ht,cL⟩:=Tl _ _ _ h1;obtain⟨v,W,e,cu,Ow⟩:=BE (qO (Wm w)) (fun d=>2*d.aj) (show prog.underlying 23=some (.slice 82) by kernel_rfl) QA (by decide) h0 fun n cs' y _ hy=>Xq hy;have e':[Value.slice a0 l0 c0]=[v]:=e;cases e';obtain⟨e1,e2,e3⟩:=cu.pi;subst e1;rw[Gw Dc.aj]at Ow;have zgb:2*Wd.aj W+1<=Rows.uptoBulk d0:=Ow;have zga:2*t.aj<=Rows.uptoBulk d1:=cL;exact⟨W,t,a0,c0,_,rfl,rfl,⟨e2,e3⟩,ht,by omega,by omega⟩
end
end Go.Proofs.YtlfcbbcdiecelaaGreatDoor
