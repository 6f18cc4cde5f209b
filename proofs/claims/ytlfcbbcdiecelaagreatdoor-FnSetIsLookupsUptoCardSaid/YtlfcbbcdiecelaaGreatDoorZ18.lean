import Derived.Test.YtlfcbbcdiecelaaGreatDoorZ16
namespace Go.Proofs.YtlfcbbcdiecelaaGreatDoor
open Go Go.Proofs.Tryz
set_option maxRecDepth 100000
set_option maxHeartbeats 4000000
set_option linter.all false
section
variable {W:Wd}{k nb ob j bb pb tb n n2:Nat}{M N M4 M1 M0 M5 M8:Mem}{pk:Int->Nat}{aR LF oc:List Value}{l lk:List (Nat×Nat×Nat)}{S S1 S5 S7:BS}{vi:Value}{il:List (Sp×Nat)}{pd:List (Nat×List Value)}{u w:World}{D:List Nat}{E0:Ev}{s:Sp}
@[reducible]def wa(W:Wd)(k:Nat):List (List Value):=(List.range k).map fun j=>[.int .i64 (W.start j)]
@[reducible]def fT(l:List (Nat×Nat×Nat)):List aB:=l.map fun x=> .ah x.2.1 218 (zu x.2.2)
def kz(W:Wd)(k:Nat):List Nat:=(List.range k).filter fun j=>(W.at (j:Nat)).bU=false
structure ni(W:Wd)(k:Nat)(M:Mem)(pk:Int->Nat)(aR:List Value)(l:List (Nat×Nat×Nat)):Prop where
 len:aR.length=W.length
 fst:l.map (·.1)=kz W k
 ty:∀x∈l,aR[x.1]? =some (.iface 120 (vp x.2.1))
 no:∀j,j<W.length->j∉kz W k->aR[j]? =some .nilIface
 ob:∀x∈l,Bk M x.2.2 [.int .i64 0,vp (pk (W.at (x.1:Nat)).aC),.string (bZ (W.at (x.1:Nat)).name),.iface 120 (vp x.2.1)]
theorem Ct(W:Wd)(k:Nat):kz W (k+1)=kz W k++(if(W.at (k:Nat)).bU=false then [k]else []):=by
 unfold kz;rw[qbB,List.filter_append]
 congr 1
 by_cases h:(W.at (k:Nat)).bU=false<;>simp[h]
theorem ni.add(h:ni W k M pk aR l)(hk:k<W.length)(ha:(W.at (k:Nat)).bU=false)(hl:M.Le N)
 (hb:Bk N ob [.int .i64 0,vp (pk (W.at (k:Nat)).aC),.string (bZ (W.at (k:Nat)).name),.iface 120 (vp nb)]):ni W (k+1) N pk (aR.set k (.iface 120 (vp nb))) (l++[(k,nb,ob)]):=by
 have e:kz W (k+1)=kz W k++[k]:=by rw[Ct];simp[ha]
 have aG:∀x∈l,x.1≠k:=fun x hx h0=>by
  have:x.1∈kz W k:=by rw[<-h.fst];exact qaj.2 ⟨x,hx,rfl⟩
  unfold kz at this;have:=qaz.1 (List.mem_filter.1 this).1;omega
 refine⟨by rw[qbh];exact h.len,by rw[qaq,h.fst,e];rfl,fun x hx=> ?_,fun j hj hn=> ?_,fun x hx=> ?_⟩
 .rcases qah.1 hx with hx|hx
  .rw[qa7 (Ne.symm (aG x hx))];exact h.ty x hx
  simp only[qac]at hx;subst hx;have:=h.len;simp[this,hk]
 .rw[e]at hn;simp only[qah,qac,not_or]at hn;rw[qa7 (Ne.symm hn.2)];exact h.no j hj hn.1
 rcases qah.1 hx with hx|hx
 .exact(h.ob x hx).le hl
 simp only[qac]at hx;subst hx;exact hb
theorem ni.skip(h:ni W k M pk aR l)(hk:k<W.length)(ha:(W.at (k:Nat)).bU=true):ni W (k+1) M pk aR l:=by
 have e:kz W (k+1)=kz W k:=by rw[Ct];simp[ha]
 exact⟨h.len,by rw[e];exact h.fst,h.ty,by rw[e];exact h.no,h.ob⟩
theorem ni.ne(h:ni W k M pk aR l)(ha:(W.at (j:Nat)).bU=true):∀x∈l,x.1≠j:=fun x hx h0=>by
 have:x.1∈kz W k:=by rw[<-h.fst];exact qaj.2 ⟨x,hx,rfl⟩
 unfold kz at this;have:=(List.mem_filter.1 this).2;rw[h0,ha]at this;simp at this
theorem fq.new(h:wu M pk pb):fq W (BS.mk bb pb tb ob pk aR (List.replicate n .nilIface) (.slice none 0 0) [] []) M:=by
 have key:∀(i:Nat) (v:Value),(List.replicate n Value.nilIface)[i]? =some v->v= .nilIface:=fun i v h=>by
  rw[List.getElem?_replicate]at h;split at h
  .exact(qaF h).symm
  cases h
 exact⟨h,fun i j v h1 _ h3=>absurd (key i v h1) h3,fun i v h1=> .inl (key i v h1),fun s b hb=>by simp at hb,fun p hp=>by simp at hp,by simp⟩
theorem ni.RE(h:ni W k M pk aR l)(i b:Nat):aR[i]?≠some (.iface 125 (vp b)):=fun hi=>by
 by_cases hm:i∈kz W k
 .rw[<-h.fst]at hm;obtain⟨x,hx,rfl⟩:=qaj.1 hm;rw[h.ty x hx]at hi;cases hi
 have aG:=(qab.1 hi).1;rw[h.len]at aG;rw[h.no i aG hm]at hi;cases hi
structure nT(W:Wd)(bb pb tb ob n2:Nat)(pk:Int->Nat)(l:List (Nat×Nat×Nat))(k:Nat)(S:BS)(M:Mem):Prop where
 ids:S.bb=bb/\S.pb=pb/\S.tb=tb/\S.ob=ob/\S.pk=pk
 len:S.aR.length=W.length
 zv:S.oc.length=n2
 ok:fq W S M
 Cu:∀x∈l,S.aR[x.1]? =some (.iface 120 (vp x.2.1))
 no:∀j:Nat,j<k->(W.at (j:Nat)).bU=true->S.aR[j]? =some .nilIface
 al:∀j:Nat,k<=j->j<W.length->(W.at (j:Nat)).bU=true->∃ab,S.aR[j]? =some (.iface 125 (vp ab))/\uq W (S.ev W M) j ab
 is:∀(i b:Nat),S.aR[i]? =some (.iface 125 (vp b))->k<=i/\i<W.length/\(W.at (i:Nat)).bU=true
 inj:∀(i j b:Nat),S.aR[i]? =some (.iface 125 (vp b))->S.aR[j]? =some (.iface 125 (vp b))->i=j
 nil:∀n,n<n2->(∀j:Nat,k<=j->j<W.length->(W.at (j:Nat)).bU=true->¬(W.start j<=n/\n<W.start (j+1)))->S.oc[n]? =some .nilIface
 il:S.il.length+((W.take k).map fun d=>d.of.aj).sum<=W.aj
theorem nT.skip(h:nT W bb pb tb ob n2 pk l (k+1) S M)(ha:(W.at (k:Nat)).bU=false):nT W bb pb tb ob n2 pk l k S M:=by
 refine⟨h.ids,h.len,h.zv,h.ok,h.Cu,fun j hj=>h.no j (by omega),fun j h1 h2 h3=> ?_,fun i b hi=> ?_,h.inj,fun n hn hx=>h.nil n hn fun j h1 h2 h3=>hx j (by omega) h2 h3,?_⟩
 .rcases Nat.eq_or_lt_of_le h1 with h0|h0
  .subst h0;rw[ha]at h3;cases h3
  exact h.al j h0 h2 h3
 .obtain⟨h1,h2⟩:=h.is i b hi;exact⟨by omega,h2⟩
 have:=h.il;rcases qa1 k W.length with hk|hk
 .rw[<-dN hk,qaq,qaN]at this;omega
 rw[qa2 hk];rw[qa2 (by omega)]at this;exact this
theorem nT.form(h:nT W bb pb tb ob n2 pk l k S M):∃aR oc vi il pd,S=BS.mk bb pb tb ob pk aR oc vi il pd:=by
 obtain⟨h1,h2,h3,h4,h5⟩:=h.ids;exact⟨S.aR,S.oc,S.vi,S.il,S.gW,by subst h1 h2 h3 h4 h5;rfl⟩
theorem nT.GK{i:Nat}(h:nT W bb pb tb ob n2 pk l k S M)(iN:ni W W.length M4 pk LF l)(hi:i<W.length)(hk:(W.at (i:Nat)).bU=true->k<=i):∃b,S.aR[i]? =some (.iface (dT W i) (vp b)):=by
 unfold dT;cases ha:(W.at (i:Nat)).bU with
 |true=>
  obtain⟨ab,h1,_⟩:=h.al i (hk ha) hi ha;exact⟨ab,h1⟩
 |false=>
  have hm:i∈l.map (·.1):=by rw[iN.fst];unfold kz;simp[hi,ha]
  obtain⟨x,hx,rfl⟩:=qaj.1 hm;exact⟨_,h.Cu x hx⟩
theorem dU.form{lo hi:Nat}(h:dU W lo hi k (BS.mk bb pb tb ob pk aR oc vi il pd) M S1 M1):∃oc vi il pd,S1=BS.mk bb pb tb ob pk aR oc vi il pd:=by
 obtain⟨h1,h2,h3,h4,h5,h6,_⟩:=h;simp only at h1 h2 h3 h4 h5 h6;exact⟨S1.oc,S1.vi,S1.il,S1.gW,by subst h1 h2 h3 h4 h5 h6;rfl⟩
theorem nT.add{ab:Nat}(h:nT W bb pb tb ob n2 pk l (j+1) S M)(hj:j<W.length)(ha:(W.at (j:Nat)).bU=true)(mt:W.start (j+1)<=n2)
 (aU:dU W (W.start j) (W.start (j+1)) W[j].of.aj S M S1 M1) (cQ:fq W S1 M1) (hl:M1.Le N) (iK:∀i:Nat,S.aR[i]?≠some (.iface 125 (vp ab))) (iI:uq W (S1.ev W N) j ab) (aG:∀x∈l,x.1≠j):
 nT W bb pb tb ob n2 pk l j (S1.DY j (.iface 125 (vp ab))) N:=by
 have Pm:S1.aR[j]? =some .nilIface:=by rw[aU.aR];exact h.no j (qam _) ha
 have hE:=S1.Su (W:=W) (v:= .iface 125 (vp ab)) (Mem.Le.refl N) Pm;have n_:(S.ev W M).Le (S1.ev W N):=(aU.qD hl).ev fun n h1 h2=>h.nil n (by omega) fun i h3 h4 _ hx=>by
  have:=Wd.sZ W (show j+1<=i from h3);omega
 obtain⟨a1,a2,a3,a4,a5⟩:=h.ids;have hlen:S1.aR.length=W.length:=by rw[aU.aR];exact h.len
 refine⟨⟨aU.bb.trans a1,aU.pb.trans a2,aU.tb.trans a3,aU.ob.trans a4,aU.pk.trans a5⟩,by show(S1.aR.set j _).length=_;rw[qbh];exact hlen,aU.len.trans h.zv,cQ.DY hl Pm,fun x hx=> ?_,fun i hi CW=> ?_,fun i h1 h2 h3=> ?_,fun i b hi=> ?_,fun i i' b hi hi'=> ?_,fun n hn hx=> ?_,?_⟩
 .show(S1.aR.set j _)[x.1]? =_;rw[qa7 (Ne.symm (aG x hx)),aU.aR];exact h.Cu x hx
 .show(S1.aR.set j _)[i]? =_;rw[qa7 (by omega),aU.aR];exact h.no i (by omega) CW
 .show∃Ey,(S1.aR.set j _)[i]? =_/\_;rcases Nat.eq_or_lt_of_le h1 with h0|h0
  .subst h0;exact⟨ab,by simp[hlen,h2],iI.le hE⟩
  obtain⟨Ey,h4,h5⟩:=h.al i h0 h2 h3;exact⟨Ey,by rw[qa7 (by omega),aU.aR];exact h4,(h5.le n_).le hE⟩
 .have hi':(S1.aR.set j (.iface 125 (vp ab)))[i]? =some (.iface 125 (vp b)):=hi;by_cases h0:j=i
  .subst h0;exact⟨qad _,hj,ha⟩
  rw[qa7 h0,aU.aR]at hi';obtain⟨h1,h2⟩:=h.is i b hi';exact⟨by omega,h2⟩
 .have sB:(S1.aR.set j (.iface 125 (vp ab)))[i]? =some (.iface 125 (vp b)):=hi;have ru:(S1.aR.set j (.iface 125 (vp ab)))[i']? =some (.iface 125 (vp b)):=hi';rw[qaX,aU.aR]at sB ru;by_cases h0:j=i<;>by_cases qi:j=i'
  .omega
  .subst h0;rw[if_neg qi]at ru;simp only[qcn]at sB;split at sB
   .obtain rfl:ab=b:=by simpa using sB
    exact absurd ru (iK _)
   cases sB
  .subst qi;rw[if_neg h0]at sB;simp only[qcn]at ru;split at ru
   .obtain rfl:ab=b:=by simpa using ru
    exact absurd sB (iK _)
   cases ru
  rw[if_neg h0]at sB;rw[if_neg qi]at ru;exact h.inj i i' b sB ru
 .show S1.oc[n]? =_;rw[aU.oc n (hx j (qad _) hj ha)];exact h.nil n hn fun i h1 h2 h3=>hx i (by omega) h2 h3
 show S1.il.length+_<=_;obtain⟨new,e,gR⟩:=aU.il;have:=h.il;rw[<-dN hj,qaq,qaN]at this;simp only[qaB,qa0,qaT,qbY]at this;rw[e,qar];omega
def kpM(M:Mem):Nat->Nat->Value->Prop:=fun b o x=>M.cell b o=some x
def QK(M:Mem)(bb pb tb n:Nat):Nat->Nat->Value->Prop:=fun b o x=>M.cell b o=some x\/(b=bb/\o=0/\x= .slice (some ⟨pb,0,none⟩) 2 2)\/(b=bb/\o=1/\x= .slice (some ⟨tb,0,none⟩) n n)
theorem Bg{M':Mem}{X Y:List aB}(hn:aR.length=n)(hl:M.Le M')
 (h:SH u M0 D M' (X++((BS.mk bb pb tb ob pk aR oc vi il pd).bM++Y)) w):∀b o x,QK M bb pb tb n b o x->w.cell? ⟨b,o,none⟩=some x:=by
 intro b o x hx;rcases hx with hx|⟨rfl,rfl,rfl⟩|⟨rfl,rfl,rfl⟩
 .exact h.le.cell _ _ _ (hl.cell _ _ _ hx)
 .exact(h.right.fK .here).ld 0 rfl
 subst hn;exact(h.right.fK .here).ld 1 rfl
structure qQ(W:Wd)(bb pb tb ob n2:Nat)(pk:Int->Nat)(aR:List Value)(l:List (Nat×Nat×Nat))(E0:Ev)(k:Nat)(lk:List (Nat×Nat×Nat))(S:BS)(M:Mem):Prop where
 ids:S.bb=bb/\S.pb=pb/\S.tb=tb/\S.ob=ob/\S.pk=pk/\S.aR=aR
 zv:S.oc.length=n2
 ok:fq W S M
 pre:∃r,l=lk++r
 fst:lk.map (·.1)=kz W k
 nm:∀j:Nat,k<=j->j<W.length->(W.at (j:Nat)).bU=false->∀b,aR[j]? =some (.iface 120 (vp b))->rZ W (S.ev W M) j b
 nil:∀n,n<n2->(∀j:Nat,j<W.length->((W.at (j:Nat)).bU=true\/k<=j)->¬(W.start j<=n/\n<W.start (j+1)))->S.oc[n]? =some .nilIface
 le:E0.Le (S.ev W M)
 il:S.il.length+((W.take k).map fun d=>d.of.aj).sum<=2*W.aj
theorem qQ.form(h:qQ W bb pb tb ob n2 pk aR l E0 k lk S M):∃oc vi il pd,S=BS.mk bb pb tb ob pk aR oc vi il pd:=by
 obtain⟨h1,h2,h3,h4,h5,h6⟩:=h.ids;exact⟨S.oc,S.vi,S.il,S.gW,by subst h1 h2 h3 h4 h5 h6;rfl⟩
theorem qQ.skip(h:qQ W bb pb tb ob n2 pk aR l E0 (k+1) lk S M)(ha:(W.at (k:Nat)).bU=true):qQ W bb pb tb ob n2 pk aR l E0 k lk S M:=by
 refine⟨h.ids,h.zv,h.ok,h.pre,h.fst.trans (by rw[Ct];simp[ha]),fun j h1 h2 h3=> ?_,fun n hn hx=>h.nil n hn fun j h1 h2=>hx j h1 (h2.imp_right fun h=>by omega),h.le,?_⟩
 .rcases Nat.eq_or_lt_of_le h1 with h0|h0
  .subst h0;rw[ha]at h3;cases h3
  exact h.nm j h0 h2 h3
 have:=h.il;rcases qa1 k W.length with hk|hk
 .rw[<-dN hk,qaq,qaN]at this;omega
 rw[qa2 hk];rw[qa2 (by omega)]at this;exact this
theorem qQ.add{eH:Nat}(h:qQ W bb pb tb ob n2 pk aR l E0 (k+1) (lk++[(k,nb,eH)]) S M)(hk:k<W.length)(ha:(W.at (k:Nat)).bU=false)
 (aU:dU W (W.start k) (W.start (k+1)) W[k].of.aj S M S1 N) (cQ:fq W S1 N) (mt:W.start (k+1)<=n2) (bA:aR[k]? =some (.iface 120 (vp nb))) (nF:rZ W (S1.ev W N) k nb):
 qQ W bb pb tb ob n2 pk aR l E0 k lk S1 N:=by
 have n_:(S.ev W M).Le (S1.ev W N):=aU.ev fun n h1 h2=>h.nil n (by omega) fun i h3 h4 hx=>by
  rcases qbZ i k with h5|h5|h5
  .have:=Wd.sZ W (show i+1<=k from h5);omega
  .subst h5;rcases h4 with h4|h4
   .rw[ha]at h4;cases h4
   omega
  have:=Wd.sZ W (show k+1<=i from h5);omega
 obtain⟨a1,a2,a3,a4,a5,a6⟩:=h.ids;refine⟨⟨aU.bb.trans a1,aU.pb.trans a2,aU.tb.trans a3,aU.ob.trans a4,aU.pk.trans a5,aU.aR.trans a6⟩,aU.len.trans h.zv,cQ,?_,?_,fun j h1 h2 h3 b hb=> ?_,fun n hn hx=> ?_,h.le.trans n_,?_⟩
 .obtain⟨r,hr⟩:=h.pre;exact⟨(k,nb,eH)::r,by rw[hr];simp⟩
 .have h1:=h.fst;rw[Ct,qaq]at h1;simp only[ha,qcn,qaB,qa0]at h1;exact(List.append_inj h1 (by have:=qaL List.length h1;simp at this;simpa using this)).1
 .rcases Nat.eq_or_lt_of_le h1 with h0|h0
  .subst h0;rw[bA]at hb;obtain rfl:nb=b:=by simpa using hb
   exact nF
  exact(h.nm j h0 h2 h3 b hb).le n_
 .rw[aU.oc n (hx k hk (.inr (qad _)))];exact h.nil n hn fun j h1 h2=>hx j h1 (h2.imp_right fun h=>by omega)
 obtain⟨new,e,gR⟩:=aU.il;have:=h.il;rw[<-dN hk,qaq,qaN]at this;simp only[qaB,qa0,qaT,qbY]at this;rw[e,qar];omega
@[reducible]def vS(ob st:Nat)(vm:Value):List Value:=[.pointer none,vp ob,.bool true,.int .i32 0,.int .u32 0,.int .u32 (st:Int),.nilIface,.nilIface,.bool false,vm]
structure G0(W:Wd)(at_:Nat)(p:Int)(pk:Int->Nat)(ms:List (Int×Bool))(S:BS)(M:Mem)(i:Nat)(S':BS)(M':Mem)(ml:List (ByteArray×Nat)):Prop where
 st:dU W at_ (at_+i) 0 S M S' M'
 ok:fq W S' M'
 len:ml.length=i
 all:∀(k:Nat) (q:ByteArray×Nat) (m:Int×Bool),ml[k]? =some q->ms[k]? =some m->q.1=bZ m.1/\fY M' pk p m.1 m.2 q.2/\S'.oc[at_+k]? =some (.iface 128 (vp q.2))
theorem zdB{A:List aB}(h:SH u M0 D M (A++fT l) w):(l.map fun x=>x.2.1).Nodup:=by
 have hp:=h.right.pd;rw[qbl]at hp;rw[List.Nodup,qbl];exact hp.imp fun{x y} ha he=>ha x.2.1 (by simp[aB.bX]) (by simp[aB.bX,he])
theorem fq.A_(h:fq W S M){s':Sp}{b:Nat}(h1:(s,b)∈S.il)(h2:(s',b)∈S.il):s=s':=by
 obtain⟨i,hi,e1⟩:=qak h1;obtain⟨j,hj,e2⟩:=qak h2;have h3:(S.il.map (·.2))[i]'(by simpa using hi)=(S.il.map (·.2))[j]'(by simpa using hj):=by simp[e1,e2]
 have:=(qbw h.Dx).1 h3;subst this;rw[e1]at e2;exact(Prod.mk.inj e2).1
theorem Xp{S6:BS}{M6:Mem}(iN:ni W W.length M4 pk LF l)(cK:nT W bb pb tb ob n2 pk l 0 S5 M5)(cD:qQ W bb pb tb ob n2 pk aR l (S5.ev W M5) 0 [] S6 M6)
 (h5:S5.aR=aR) (h7:S7.aR=aR) (hE:(S6.ev W M6).Le (S7.ev W M8)) (cQ:fq W S7 M8) (hT:fA M8):Ctx W (S7.ev W M8):=by
 refine⟨hT,cQ.pk.b,fun j b h1 h2 h3=> ?_,fun j b h1 h2 h3=> ?_,fun s b h1=>⟨(cQ.ifs s b h1).1,(cQ.ifs s b h1).2.1⟩,fun s s' b h1 h2=>cQ.A_ h1 h2⟩
 .have wH:S7.aR[j]? =some (.iface (dT W j) (vp b)):=h3;have ht:dT W j=120:=by unfold dT;rw[if_neg (by simp[h2])]
  rw[ht,h7]at wH;exact(cD.nm j (qae _) h1 h2 b wH).le hE
 have wH:S7.aR[j]? =some (.iface (dT W j) (vp b)):=h3;have ht:dT W j=125:=by unfold dT;rw[if_pos h2]
 rw[ht,h7]at wH;obtain⟨ab,h4,h6⟩:=cK.al j (qae _) h1 h2;rw[h5,wH]at h4;obtain rfl:b=ab:=by simpa using h4
 exact(h6.le cD.le).le hE
theorem UV(iN:ni W W.length M4 pk LF l)(pE:(l.map fun x=>x.2.1).Nodup)(cK:nT W bb pb tb ob n2 pk l 0 S5 M5)(h5:S5.aR=aR)(h7:S7.aR=aR)
 (hc:Ctx W (S7.ev W M8)) (cQ:fq W S7 M8) (dS:∀s b,(s,b)∈S7.il->r_ W (S7.ev W M8) s b):eZ W (S7.ev W M8):=by
 refine⟨hc,dS,fun n hn=> ?_,fun n b b' h1 h2=> ?_,fun n m b h1 h2 h3 h4=> ?_,fun n t t' b b' h1 h2=> ?_,fun n m t b h1 h2=> ?_⟩
 .obtain⟨b,h⟩:=cK.GK iN hn fun _=>qae _;exact⟨b,by show S7.aR[n]? =_;rw[h7,<-h5];exact h⟩
 .have iH:S7.aR[n]? =some (.iface (dT W n) (vp b)):=h1;have mO:S7.aR[n]? =some (.iface (dT W n) (vp b')):=h2;rw[iH]at mO;simpa using mO
 .have wH:S7.aR[n]? =some (.iface (dT W n) (vp b)):=h3;have NV:S7.aR[m]? =some (.iface (dT W m) (vp b)):=h4;rw[h7,<-h5]at wH NV;have key:∀{n:Nat},(W.at (n:Nat)).bU=false->S5.aR[n]? =some (.iface (dT W n) (vp b))->∃x∈l,x.1=n/\x.2.1=b:=fun{n} ha hx=>by
   have hn:n<W.length:=by rw[<-cK.len];exact(qab.1 hx).1
   have hm:n∈l.map (·.1):=by rw[iN.fst];unfold kz;simp[hn,ha]
   obtain⟨x,nL,rfl⟩:=qaj.1 hm;rw[cK.Cu x nL]at hx;simp only[qao,Value.iface.injEq,qbM,qbW,qca]at hx;exact⟨x,nL,rfl,hx.2⟩
  obtain⟨x,hx,rfl,hxb⟩:=key h1 wH;obtain⟨y,hy,rfl,hyb⟩:=key h2 NV;obtain⟨i,hi,rfl⟩:=qak hx;obtain⟨j,hj,rfl⟩:=qak hy;have h5:(l.map fun x=>x.2.1)[i]'(by simpa using hi)=(l.map fun x=>x.2.1)[j]'(by simpa using hj):=by simp[hxb,hyb]
  have:=(qbw pE).1 h5;subst this;rfl
 .have iH:S7.oc[n]? =some (.iface t (vp b)):=h1;have mO:S7.oc[n]? =some (.iface t' (vp b')):=h2;rw[iH]at mO;simpa using mO
 exact cQ.inj n m _ h1 h2 (by simp)
theorem BV.rk(h:BV W s):∃n,g_ W n s:=by
 obtain⟨d,v,hf⟩:=h.gs.form;exact⟨_,d,(hf.Qc h.kind).1,qam _⟩
def TW(W:Wd)(t:Ty)(r:Value)(M:Mem):Prop:=∃(S:BS) (v:Value),r= .tuple #[vp S.bb,v]/\eZ W (S.ev W M)/\Den W (S.ev W M) (W.operand t) v/\Bk M S.bb S.bc/\Bk M S.tb S.aR/\Bk M S.ob S.oc/\S.oc.length=W.start W.length+t.size/\fq W S M
theorem Hk{w0:World}{a:Option Addr}{c:Nat}{t:Ty}{tc:List Value}(hW:GW W)(hF:ej W t)(hT:fA M)(hM:M.Le (Wm w0))(cA:eK M W a c)(bA:cC M t tc)(lD:W.aj<=2^19)(cL:t.aj<=2^19):
 az prog 20 [bK W a c,.agg tc.toArray] w0 fun r w'=>∃M',TW W t r M'/\Gr M w0 M' w':=by
 obtain⟨y1,d1,y2,d2,y3,d3,y4,d4,rfl,rK,_⟩:=bA.lit;have h:=SH.start hM;refine aL mixed func20 VF ?_;refine au (cs:=(bh t y1 d1 y2 d2 y3 d3 y4 d4)) h ?_;clear h;intro b3 w h;refine sX h F_ ?_;clear h;intro p0 w h;refine sX h F_ ?_;clear h;intro p1 w h;refine au (cs:=[vp p0,vp p1]) h ?_;clear h;intro pb w h;refine au (cs:=[.slice (some ⟨pb,0,none⟩) 2 2,.slice none 0 0,.slice none 0 0,.slice none 0 0]) h ?_;clear h;intro bb w h;obtain⟨M1,bG,hp0,h⟩:=h.dA p0;obtain⟨M2,aQ,jI,h⟩:=h.dA p1;obtain⟨M3,bT,iO,h⟩:=h.dA pb;refine fB (X:=Nat×Value) (Y:=Value) 0 (fun y=>[(0,bK W a c),(3,vp b3),(5,.nilIface),(6,vp bb),(7,.int .i64 ((W.start y.1:Nat):Int)),(8,y.2),(29,.slice a W.length c),(30,.int .i64 (W.length:Int)),(31,.int .i64 (y.1:Int))])
  (fun y w=>y.1<=W.length/\SH w0 M [] M3 (.own y.2 1 3 (wa W y.1):: .ah bb 79 [.slice (some ⟨pb,0,none⟩) 2 2,.slice none 0 0,.slice none 0 0,.slice none 0 0]::[.ah b3 28 (bh t y1 d1 y2 d2 y3 d3 y4 d4)]) w) (fun y=>W.length-y.1)
  (fun y=>[(0,bK W a c),(3,vp b3),(5,.nilIface),(6,vp bb),(7,.int .i64 ((W.start W.length:Nat):Int)),(8,y)])
  (fun y w=>SH w0 M [] M3 (.own y 1 3 (wa W W.length):: .ah bb 79 [.slice (some ⟨pb,0,none⟩) 2 2,.slice none 0 0,.slice none 0 0,.slice none 0 0]::[.ah b3 28 (bh t y1 d1 y2 d2 y3 d3 y4 d4)]) w)
  (0,.slice none 0 0) ⟨rfl,rfl,rfl,rfl,rfl,rfl,rfl,rfl,rfl,tV⟩ ⟨qae _,h.gV 1 3⟩ ?_ ?_
 .clear h;rintro⟨k,v⟩ aK w N Z hx hN hZ;obtain⟨hk,h⟩:=hx;simp only at hk h;refine aI (fun aG=> ?_) (fun aY=> ?_);rotate_left 1
  .obtain rfl:k=W.length:=by omega
   exact hZ v _ _ ⟨rfl,rfl,rfl,rfl,rfl,rfl,tV⟩ h
  have iL:k<W.length:=by omega
  obtain⟨b,o,ci,rfl,hl,aO,aE⟩:=cA.el.at iL;have aZ:=aE.one;obtain⟨a1,c1,a2,c2,a3,c3,a4,c4,a5,c5,rfl,gT,hm,u9⟩:=aE.lit;obtain⟨f1,f2,f3,f4,f5⟩:=W.facts k iL;have qr:M.Le M3:=bG.trans (aQ.trans bT);refine aJ (k) ?_;refine cG h (aO.le qr) ?_;refine au h ?_;clear h;intro er w h;refine br h aZ ?_;clear h;intro w h;refine au (cs:=[.int .i64 (W.start k)]) h ?_;clear h;intro Aa w h;refine gJ h f_ h.df (de (cO (vs:=[.int .i64 (W.start k)]) rfl)) ?_ (hb:=by simp only[qat,qaw,qb0];omega);clear h;intro v' w h;refine b_ [] h ?_;clear h;intro w h;refine bI h ?_;refine uh h (bh W[k].of a1 c1 a2 c2 a3 c3 a4 c4) ?_;refine aI ?_ trivial;refine dg h (Cp _ W[k].of (qam _) w _ h.le (gT.le qr) (by omega)) ?_;clear h;rintro _ w rfl h;refine aA (((W[k].methods.length+W[k].of.size:Nat):Int)) ?_;refine aA ((W.start (k+1):Nat):Int) ?_ (by show((W.start k:Nat):Int)+((W[k].methods.length+W[k].of.size:Nat):Int)=_;omega);refine aA (((k+1:Nat):Int)) ?_;have JL:wa W k++[[.int .i64 (W.start k)]]=wa W (k+1):=by simp[wa,qbB]
  rw[JL]at h;exact hN (k+1,v') _ _ ⟨rfl,rfl,rfl,rfl,rfl,rfl,rfl,rfl,rfl,tV⟩ ⟨iL,h.aF⟩ (by simp only;omega)
 clear h;rintro v8 aK w h;obtain⟨M3a,zbr,JM,h⟩:=h.d6 v8;obtain⟨xU,O8,qk,h⟩:=h.dA b3;replace JM:=JM.mono O8 fun _ _ _ h=>h;obtain⟨a8,c8,PQ,hc8,OH⟩:=JM;have IK:(wa W W.length).length=W.length:=by simp[wa]
 rw[IK]at PQ hc8;obtain⟨n2,mt⟩:∃x,x=W.start W.length+t.size:=⟨_,rfl⟩;have zgw:=W.v_ W.length;have zgB:t.size<=t.aj:=Ty.size_le _ _ (qam _);have hlW:W.length<=W.aj:=by
  rcases Nat.eq_zero_or_pos W.length with h0|h0
  .omega
  exact(W.facts 0 h0).2.2.2.2
 have C9:M3.Le xU:=zbr.trans O8;have qr:M.Le xU:=(bG.trans (aQ.trans bT)).trans C9;refine cG h qk.rw ?_;refine s_call h (Cp _ t (qam _) w _ h.le (bA.le qr) (by omega)) ?_;clear h;rintro _ w rfl h;refine aA (((n2:Nat):Int)) ?_;refine qai n2 (aI ⟨rfl,by omega,by omega⟩ ?_);refine au (cs:=(List.replicate n2 .nilIface)) h ?_;clear h;intro ob w h;refine eQ h ?_;clear h;intro w h;refine qai W.length (aI ⟨rfl,by omega,by omega⟩ ?_);refine au (cs:=(List.replicate W.length .nilIface)) h ?_;clear h;intro tb w h;refine eQ h ?_;clear h;intro w h;obtain⟨pk,dW⟩:∃pk:Int->Nat,pk=fun p=>if p=0 then p0 else p1:=⟨_,rfl⟩;have Pw:wu xU pk pb:=by
  subst dW;refine⟨fun p hp=> ?_,fun p hp=> ?_⟩
  .rcases hp with rfl|rfl
   .exact(iO.le C9).at 0 rfl
   exact(iO.le C9).at 1 rfl
  rcases hp with rfl|rfl
  .exact⟨_,(hp0.le (aQ.trans (bT.trans C9)))⟩
  exact⟨_,(jI.le (bT.trans C9))⟩
 refine fB (X:=Nat×Mem×List Value×List (Nat×Nat×Nat)) (Y:=Mem×List Value×List (Nat×Nat×Nat)) 2 (fun y=>[(0,bK W a c),(3,vp b3),(5,.nilIface),(6,vp bb),(7,.int .i64 ((W.start W.length:Nat):Int)),(8,.slice a8 W.length c8),(63,.slice a W.length c),(64,.int .i64 (W.length:Int)),(65,.int .i64 (y.1:Int))])
  (fun y w=>y.1<=W.length/\xU.Le y.2.1/\ni W y.1 y.2.1 pk y.2.2.1 y.2.2.2/\SH w0 M [] y.2.1 ((BS.mk bb pb tb ob pk y.2.2.1 (List.replicate n2 .nilIface) (.slice none 0 0) [] []).bM++fT y.2.2.2) w) (fun y=>W.length-y.1)
  (fun y=>[(0,bK W a c),(3,vp b3),(5,.nilIface),(6,vp bb),(7,.int .i64 ((W.start W.length:Nat):Int)),(8,.slice a8 W.length c8)])
  (fun y w=>xU.Le y.1/\ni W W.length y.1 pk y.2.1 y.2.2/\SH w0 M [] y.1 ((BS.mk bb pb tb ob pk y.2.1 (List.replicate n2 .nilIface) (.slice none 0 0) [] []).bM++fT y.2.2) w)
  (0,xU,List.replicate W.length .nilIface,[]) ⟨rfl,rfl,rfl,rfl,rfl,PQ,rfl,rfl,rfl,tV⟩ ⟨qae _,.refl _,?_,?_⟩ ?_ ?_
 .refine⟨by simp,by simp[kz],by simp,fun j hj _=>by simp[hj],by simp⟩
 .simp only[BS.bM,BS.bc,List.length_replicate,fT,qa0,qbk,qa_];exact(h.gV 1 134).aF
 .clear h;rintro⟨k,M4,aR,l⟩ aK w N Z hx hN hZ;obtain⟨hk,fj,iN,h⟩:=hx;simp only at hk fj iN h;refine aI (fun aG=> ?_) (fun aY=> ?_);rotate_left 1
  .obtain rfl:k=W.length:=by omega
   exact hZ (M4,aR,l) _ _ ⟨rfl,rfl,rfl,rfl,rfl,rfl,tV⟩ ⟨fj,iN,h⟩
  have iL:k<W.length:=by omega
  obtain⟨b,o,ci,rfl,hl,aO,aE⟩:=cA.el.at iL;have aZ:=aE.one;obtain⟨a1,c1,a2,c2,a3,c3,a4,c4,a5,c5,rfl,gT,hm,u9⟩:=aE.lit;obtain⟨f1,f2,f3,f4,f5⟩:=W.facts k iL;refine aJ (k) ?_;refine cG h (aO.le (qr.trans fj)) ?_;refine au h ?_;clear h;intro lw w h;refine br h aZ ?_;clear h;intro w h;cases ha:W[k].bU with
  |true=>
   refine ak h ?_ (v:= .bool true) (hv:=by rw[<-ha];rfl);refine aA (((k+1:Nat):Int)) ?_;exact hN (k+1,M4,aR,l) _ _ ⟨rfl,rfl,rfl,rfl,rfl,rfl,rfl,rfl,rfl,tV⟩ ⟨iL,fj,iN.skip iL (by rw[Wd.pc iL];exact ha),h.tail⟩ (by simp only;omega)
  |false=>
   refine ak h ?_ (v:= .bool false) (hv:=by rw[<-ha];rfl);have nI:=hF.aC W[k] (by simp);have cD:=hF.name W[k] (by simp);have AT:=Pw.le fj;refine b_ [tb] h ?_;clear h;intro w h;refine bI (b:=bb) h ?_ (hS:=h.Bo);refine bI (b:=bb) h ?_ (hS:=h.Bo);refine bI h ?_ (hS:=h.Bo);refine aJ W[k].aC.toNat ?_ (by rcases nI with h|h<;>rw[h]<;>decide) (by rcases nI with h|h<;>rw[h]<;>rfl);refine cd h (v:=vp (pk W[k].aC)) (by simpa using AT.c _ nI) ?_ (hS:=h.xA tb (hc:=AT.c _ nI));refine bI h ?_ (hS:=h.Bo);refine aI ?_ trivial;refine dg h (sN cD.1) ?_;clear h;rintro _ w rfl h;refine aI ?_ trivial;refine zdU h Rl ?_;clear h;intro eH w h;refine aI ?_ trivial;refine K9 [.ah eH 220 _] _ h zdv (by intro x hx;simp[cp,aB.bX]at hx;subst hx;simp) ?_;clear h;rintro _ M5 A5 w5 ⟨nb,rfl,rfl,rfl⟩ _ _ h;refine aJ k ?_ (by have:=iN.len;simp only;omega);have gl:k<aR.length:=by rw[iN.len];exact iL
   refine aI ?_ trivial;refine sV (b:=tb) (cs:=aR) h ?_ (hs:=by rw[qbm,qb1];exact fQ.of gl);clear h;intro w h;refine aA (((k+1:Nat):Int)) ?_;obtain⟨M6,ck,AO,h⟩:=h.dA eH;have zbH:ni W (k+1) M6 pk (aR.set k (.iface 120 (vp nb))) (l++[(k,nb,eH)]):=iN.add iL (by rw[Wd.pc iL];exact ha) ck (by rw[Wd.pc iL];exact AO);refine hN (k+1,M6,aR.set k (.iface 120 (vp nb)),l++[(k,nb,eH)]) _ _ ⟨rfl,rfl,rfl,rfl,rfl,rfl,rfl,rfl,rfl,tV⟩ ⟨iL,fj.trans ck,zbH,?_⟩ (by simp only;omega);have h2:SH w0 M [] M6 (.ah nb 218 (zu eH)::((BS.mk bb pb tb ob pk (aR.set k (.iface 120 (vp nb))) (List.replicate n2 .nilIface) (.slice none 0 0) [] []).bM++fT l)) w:=by
    simp only[BS.bM,BS.bc,qbh];exact h.del
   simp only;rw[show fT (l++[(k,nb,eH)])=fT l++[aB.ah nb 218 (zu eH)]from qaq];exact h2.perm (by rw[<-qap];exact(List.perm_append_singleton _ _).symm)
 clear h;rintro⟨M4,aR,l⟩ aK w ⟨fj,iN,h⟩;simp only at fj iN h;have hL:=hF.later;have AT:=Pw.le fj;have pE:(l.map fun x=>x.2.1).Nodup:=zdB h;have Ou:((W.take W.length).map fun d=>d.of.aj).sum<=W.aj:=by
  rw[qay];exact s5 W (fun d=>d.of.aj) Dc.aj fun x _=>by unfold Dc.aj;omega
 have H6:nT W bb pb tb ob n2 pk l W.length (BS.mk bb pb tb ob pk aR (List.replicate n2 .nilIface) (.slice none 0 0) [] []) M4:=
  ⟨⟨rfl,rfl,rfl,rfl,rfl⟩,iN.len,by simp,fq.new AT,
   iN.ty,fun j hj ha=>iN.no j hj (fun hm=>by unfold kz at hm;simp[ha]at hm),fun j h1 h2=>absurd h1 (by omega),fun i b hi=>absurd hi (iN.RE i b),fun i j b hi _=>absurd hi (iN.RE i b),fun n hn _=>by simp[hn],by simpa using Ou⟩
 refine aA (((W.length:Int)-1)) ?_;refine fB (X:=Nat×BS×Mem) (Y:=BS×Mem) 4 (fun y=>[(0,bK W a c),(3,vp b3),(5,.nilIface),(6,vp bb),(7,.int .i64 ((W.start W.length:Nat):Int)),(8,.slice a8 W.length c8),(13,.int .i64 ((y.1:Int)-1))])
  (fun y w=>y.1<=W.length/\M4.Le y.2.2/\nT W bb pb tb ob n2 pk l y.1 y.2.1 y.2.2/\SH w0 M [] y.2.2 (y.2.1.bM++fT l) w) (fun y=>y.1)
  (fun y=>[(0,bK W a c),(3,vp b3),(5,.nilIface),(6,vp bb),(7,.int .i64 ((W.start W.length:Nat):Int)),(8,.slice a8 W.length c8)])
  (fun y w=>M4.Le y.2/\nT W bb pb tb ob n2 pk l 0 y.1 y.2/\SH w0 M [] y.2 (y.1.bM++fT l) w)
  (W.length,BS.mk bb pb tb ob pk aR (List.replicate n2 .nilIface) (.slice none 0 0) [] [],M4) ⟨rfl,rfl,rfl,rfl,rfl,rfl,rfl,tV⟩ ⟨qad _,.refl _,H6,h⟩ ?_ ?_
 .clear h H6;rintro⟨k,S,Mk⟩ aK w N Z hx hN hZ;obtain⟨hk,d_,cK,h⟩:=hx;simp only at hk d_ cK h;obtain⟨aR,oc,vi,il,pd,rfl⟩:=cK.form;refine aI (fun aG=> ?_) (fun aY=> ?_);rotate_left 1
  .obtain rfl:k=0:=by omega
   exact hZ (BS.mk bb pb tb ob pk aR oc vi il pd,Mk) _ _ ⟨rfl,rfl,rfl,rfl,rfl,rfl,tV⟩ ⟨d_,cK,h⟩
  obtain⟨j,rfl⟩:∃j,k=j+1:=⟨k-1,by omega⟩;have jm:j<W.length:=by omega
  obtain⟨b,o,ci,rfl,hl,aO,aE⟩:=cA.el.at jm;have aZ:=aE.one;obtain⟨a1,c1,a2,c2,a3,c3,a4,c4,a5,c5,rfl,gT,hm,u9⟩:=aE.lit;obtain⟨f1,f2,f3,f4,f5⟩:=W.facts j jm;have w8:M.Le Mk:=(qr.trans fj).trans d_;have kV:W.at (j:Nat)=W[j]:=Wd.pc jm;refine aJ (j) ?_;refine cG h (aO.le w8) ?_;refine au h ?_;clear h;intro uB w h;refine br h aZ ?_;clear h;intro w h;cases gE:W[j].bU with
  |false=>
   refine ak h ?_ (v:= .bool false) (hv:=by rw[<-gE];rfl);refine aA (((j:Int)-1)) ?_;exact hN (j,BS.mk bb pb tb ob pk aR oc vi il pd,Mk) _ _ ⟨rfl,rfl,rfl,rfl,rfl,rfl,rfl,tV⟩ ⟨by omega,d_,cK.skip (by rw[kV];exact gE),h.tail⟩ (by simp only;omega)
  |true=>
   refine ak h ?_ (v:= .bool true) (hv:=by rw[<-gE];rfl);obtain⟨b8,o8,Hz,rfl,zbp,JI,Io⟩:=OH.at (i:=j) (by rw[IK];exact jm);have CI:Mk.cell b8 (o8+j*1)=some (.int .i64 (W.start j)):=by
    refine(fj.trans d_).cell _ _ _ ?_;have h1:Hz=[.int .i64 (W.start j)]:=by rw[Io];simp[wa]
    have:=JI 0 (.int .i64 (W.start j)) (by rw[h1];rfl);simpa using this
   have nI:=hF.aC W[j] (by simp);have cD:=hF.name W[j] (by simp);have Dl:=AT.le d_;have iZ:W[j].methods=[]:=hF.tj W[j] (by simp) gE;have eU:W.spot (j:Nat)=⟨W[j].of,W.start j,W[j].aC⟩:=by unfold Wd.spot;rw[kV,iZ];simp
   have qp:W.has (j:Nat):=Wd.wL jm;have JU:W.start (j+1)=W.start j+W[j].of.size:=by rw[f2,iZ];simp
   have Db:W.start (j+1)<=n2:=by rw[mt];have:=Wd.sZ W (show j+1<=W.length from jm);omega
   have nG:∀n,W.start j<=n->n<W.start (j+1)->oc[n]? =some .nilIface:=fun n h1 h2=>cK.nil n (by omega) fun i h3 h4 _ hx=>by
    have:=Wd.sZ W (show j+1<=i from h3);omega
   have oC:wv W (j:Nat) ⟨W[j].of,W.start j,W[j].aC⟩ (BS.mk bb pb tb ob pk aR oc vi il pd) Mk:=by
    refine⟨eU▸hW.spot _ qp,eU▸hF.valid j jm,hT.le w8,cK.ok,fun i hi hr=> ?_,fun n h1 h2=>nG n h1 (by rw[JU];exact h2),by have:=cK.il;simp only at this⊢;omega⟩;have hd:(W.at (i:Nat)).bU=true->(j:Int)<i:=fun CW=>by
     rcases hr with h0|h0|h0|h0
     .exact h0
     .omega
     .rw[kV,gE]at h0;cases h0
     rw[CW]at h0;cases h0
    exact cK.GK iN hi fun CW=>by have:=hd CW;omega
   have jF:=Kp hW _ (W.spot (j:Nat)) (qam _) (hF.form j jm);rw[eU]at jF;refine Ge (QK Mk bb pb tb W.length) (cp (BS.mk bb pb tb ob pk aR oc vi il pd).bM) h (fun w' h=>Bg (X:=[_]) cK.len (.refl _) h) ?_;clear h;intro w h;have kj:uB∉cp (BS.mk bb pb tb ob pk aR oc vi il pd).bM:=(h.perm (L':=[aB.ah uB 82 (jz W[j] a1 c1 a2 c2 a3 c3 a4 c4 a5 c5)]++fT l++(BS.mk bb pb tb ob pk aR oc vi il pd).bM) (by rw[qap];exact List.Perm.cons _ qbD)).KS (e:= .ah uB 82 (jz W[j] a1 c1 a2 c2 a3 c3 a4 c4 a5 c5)) (by simp) (by simp[aB.bX]);refine FW (b:=bb) (o:=1) (v:= .slice (some ⟨tb,0,none⟩) aR.length aR.length) h ?_ (Or.inr (Or.inr ⟨rfl,rfl,by rw[cK.len]⟩));refine FW (b:=bb) (o:=0) (v:= .slice (some ⟨pb,0,none⟩) 2 2) h ?_ (Or.inr (Or.inl ⟨rfl,rfl,rfl⟩));refine k_ld h ?_ kj (v:= .int .i64 W[j].aC);refine aJ W[j].aC.toNat ?_ (by rcases nI with h|h<;>rw[h]<;>decide) (by rcases nI with h|h<;>rw[h]<;>rfl);refine Dz h (v:=vp (pk W[j].aC)) (by simpa using Dl.c _ nI) ?_ (Or.inr (Or.inl (by simpa using Dl.c _ nI)));refine k_ld h ?_ kj (v:= .int .i64 W[j].name);refine k_ld h ?_ kj (v:= .int .i64 W[j].aC);refine uh h (bh W[j].of a1 c1 a2 c2 a3 c3 a4 c4) ?_ (hS:=kj);refine aJ j ?_;refine Dz h CI ?_ (Or.inr (Or.inl CI));refine aI ?_ trivial;refine QB h (sN cD.1) (fun w' h=>Bg (X:=[_]) cK.len (.refl _) h) ?_;clear h;rintro _ w rfl h;refine aI ?_ trivial;refine zcE h Rl (fun w' h=>Bg (X:=[_]) cK.len (.refl _) h) ?_;clear h;intro eH w _ _ h;refine aI ?_ trivial;refine DO (BS.mk bb pb tb ob pk aR oc vi il pd).bM ([.ah eH 220 [.int .i64 0,vp (pk W[j].aC),.string (bZ W[j].name),.nilIface],.ah uB 82 (jz W[j] a1 c1 a2 c2 a3 c3 a4 c4 a5 c5)]++fT l) (SH.perm (L:=[.ah eH 220 [.int .i64 0,vp (pk W[j].aC),.string (bZ W[j].name),.nilIface],.ah uB 82 (jz W[j] a1 c1 a2 c2 a3 c3 a4 c4 a5 c5)]++((BS.mk bb pb tb ob pk aR oc vi il pd).bM++fT l)) h (qbc _ _ _)) (jF oC (cA.fr w8) (gT.le w8)) (fun b hb=>qag _ hb) (fun r M' A' w' hr hl h=> ?_) ?_
   .obtain⟨S',rfl,aU,_,_⟩:=hr;obtain⟨kK,li,k9,lg,rfl⟩:=aU.form;exact Bg (X:=[]) cK.len hl h
   clear h jF;rintro r M1 A1 w ⟨S1,rfl,eE,vb,mR⟩ bG A6 h;obtain⟨kK,li,k9,lg,rfl⟩:=eE.form;rw[<-eU]at mR;have n_:=eE.ev (fun n h1 h2=>nG n h1 (by rw[JU];exact h2));have zaP:=mR.chain hL (fun hk=>(hL _ qp hk).2) (fun hk ha b' hb=>by
    obtain⟨h1,h2⟩:=hL _ qp hk;have e:(((W.at (j:Nat)).of.num.toNat:Nat):Int)=(W.at (j:Nat)).of.num:=by have:=h2.1;omega
    obtain⟨ab,h3,h4⟩:=cK.al (W.at (j:Nat)).of.num.toNat (by omega) h2.2 (by rw[e];exact ha);have aW:aR[(W.at (j:Nat)).of.num.toNat]? =some (.iface (dT W (W.at (j:Nat)).of.num.toNat) (vp b')):=hb;rw[h3]at aW;simp only[qao,Value.iface.injEq,qbM,qbW,qca]at aW;have h5:=h4.le n_;rw[aW.2]at h5;exact h5)
   obtain⟨n1,y,sr,AA⟩:=zaP;obtain⟨tt,l6,rfl,oH⟩:=mR.iface;refine aI ?_ trivial;refine DO [.ah eH 220 [.int .i64 0,vp (pk W[j].aC),.string (bZ W[j].name),.nilIface]] ((BS.mk bb pb tb ob pk aR kK li k9 lg).bM++(.ah uB 82 (jz W[j] a1 c1 a2 c2 a3 c3 a4 c4 a5 c5)::fT l)) (SH.perm (L:=(BS.mk bb pb tb ob pk aR kK li k9 lg).bM++(.ah eH 220 [.int .i64 0,vp (pk W[j].aC),.string (bZ W[j].name),.nilIface]::(.ah uB 82 (jz W[j] a1 c1 a2 c2 a3 c3 a4 c4 a5 c5)::fT l))) h qbU) (zds sr) (fun b hb=>by simp[cp,aB.bX]at hb;subst hb;exact qal) (fun r M' A' w' hr hl h=> ?_) ?_
   .obtain⟨ab,rfl,rfl,rfl⟩:=hr;exact Bg (X:=[_,_]) cK.len bG h
   clear h;rintro _ M2 A2 w2 ⟨ab,rfl,rfl,rfl⟩ _ _ h;have gl:j<aR.length:=by rw[cK.len];exact jm
   have iK:∀i:Nat,aR[i]?≠some (.iface 125 (vp ab)):=fun i hi=>by
    obtain⟨h1,h2,h3⟩:=cK.is i ab hi;obtain⟨Ey,h4,h5⟩:=cK.al i h1 h2 h3;rw[hi]at h4;obtain rfl:ab=Ey:=by simpa using h4
    obtain⟨_,_,_,_,h6,_⟩:=h5;exact h.ne (e:= .ah ab 281 [vp eH,vp ab,.iface tt (vp l6),y]) (by simp) (bG.cell _ _ _ (h6.at 0 rfl)) (fun _=>rfl) rfl
   refine aJ j ?_ gl;refine aI ?_ trivial;refine zcF (b:=tb) (cs:=aR) h (fun w' h=> ?_) ?_ (by simp[cp,aB.bX]) (hs:=by rw[qbm,qb1];exact fQ.of gl)
   .have h2:SH w0 M [] M2 ([.ah ab 281 [vp eH,vp ab,.iface tt (vp l6),y],.ah eH 220 [.int .i64 0,vp (pk W[j].aC),.string (bZ W[j].name),.iface 125 (vp ab)]]++((BS.mk bb pb tb ob pk (aR.set j (.iface 125 (vp ab))) kK li k9 lg).bM++(.ah uB 82 (jz W[j] a1 c1 a2 c2 a3 c3 a4 c4 a5 c5)::fT l))) w':=by
     simp only[BS.bM,BS.bc,qbh];exact h
    exact Bg (X:=[_,_]) (by rw[qbh];exact cK.len) bG h2
   clear h;intro w h;refine aA (((j:Int)-1)) ?_;obtain⟨wn,qr,AO,h⟩:=h.dA eH;obtain⟨xV,O9,d8,h⟩:=h.dA ab;have aV:=qr.trans O9;have ig:((BS.mk bb pb tb ob pk aR kK li k9 lg).ev W M2).Le ((BS.mk bb pb tb ob pk aR kK li k9 lg).ev W xV):=⟨aV,rfl,fun _ _ h=>h,fun _ _ _ h=>h,fun _ _ h=>h⟩;have zav:uq W ((BS.mk bb pb tb ob pk aR kK li k9 lg).ev W xV) j ab:=⟨eH,_,y,n1,d8,by unfold ux;rw[kV];exact AO.le O9,mR.le ig,AA.le ig,sr.le aV⟩;have zaB:=cK.add jm (by rw[kV];exact gE) Db (eE.jd (lo':=W.start j) (hi':=W.start (j+1)) (k':=W[j].of.aj) (qad _) (by rw[JU];exact qad _) (qad _)) vb aV iK zav (iN.ne (by rw[kV];exact gE));refine hN (j,BS.mk bb pb tb ob pk (aR.set j (.iface 125 (vp ab))) kK li k9 lg,xV) _ _ ⟨rfl,rfl,rfl,rfl,rfl,rfl,rfl,tV⟩ ⟨by omega,d_.trans (bG.trans aV),zaB,?_⟩ (by simp only;omega);have h2:SH w0 M [] xV ((BS.mk bb pb tb ob pk (aR.set j (.iface 125 (vp ab))) kK li k9 lg).bM++(.ah uB 82 (jz W[j] a1 c1 a2 c2 a3 c3 a4 c4 a5 c5)::fT l)) w:=by
    simp only[BS.bM,BS.bc,qbh];exact h
   exact(h2.perm qbU).tail
 clear h H6;rintro⟨S,M5⟩ aK w ⟨aV,cK,h⟩;simp only at aV cK h;obtain⟨dh,DG,Eg,Ba,DP,rfl⟩:=cK.form;have I5:qQ W bb pb tb ob n2 pk dh l ((BS.mk bb pb tb ob pk dh DG Eg Ba DP).ev W M5) W.length l (BS.mk bb pb tb ob pk dh DG Eg Ba DP) M5:=
  ⟨⟨rfl,rfl,rfl,rfl,rfl,rfl⟩,cK.zv,cK.ok,⟨[],by simp⟩,iN.fst,fun j h1 h2=>absurd h1 (by omega),fun n hn hx=>cK.nil n hn fun j _ h2 h3=>hx j h2 (.inl h3),.refl _,by
   have:=cK.il;simp only[qbO,qa0,qbY]at this;show Ba.length+_<=_;omega⟩
 refine aA (((W.length:Int)-1)) ?_;refine fB (X:=Nat×List (Nat×Nat×Nat)×BS×Mem) (Y:=BS×Mem) 6 (fun y=>[(0,bK W a c),(3,vp b3),(5,.nilIface),(6,vp bb),(7,.int .i64 ((W.start W.length:Nat):Int)),(8,.slice a8 W.length c8),(15,.int .i64 ((y.1:Int)-1))])
  (fun y w=>y.1<=W.length/\M5.Le y.2.2.2/\qQ W bb pb tb ob n2 pk dh l ((BS.mk bb pb tb ob pk dh DG Eg Ba DP).ev W M5) y.1 y.2.1 y.2.2.1 y.2.2.2/\SH w0 M [] y.2.2.2 (y.2.2.1.bM++fT y.2.1) w) (fun y=>y.1)
  (fun y=>[(0,bK W a c),(3,vp b3),(5,.nilIface),(6,vp bb),(7,.int .i64 ((W.start W.length:Nat):Int))])
  (fun y w=>M5.Le y.2/\qQ W bb pb tb ob n2 pk dh l ((BS.mk bb pb tb ob pk dh DG Eg Ba DP).ev W M5) 0 [] y.1 y.2/\SH w0 M [] y.2 y.1.bM w)
  (W.length,l,BS.mk bb pb tb ob pk dh DG Eg Ba DP,M5) ⟨rfl,rfl,rfl,rfl,rfl,rfl,rfl,tV⟩ ⟨qad _,.refl _,I5,h⟩ ?_ ?_
 .clear h I5;rintro⟨k,lk,S,Mk⟩ aK w N Z hx hN hZ;obtain⟨hk,d_,cD,h⟩:=hx;simp only at hk d_ cD h;obtain⟨oc,vi,il,pd,rfl⟩:=cD.form;refine aI (fun aG=> ?_) (fun aY=> ?_);rotate_left 1
  .obtain rfl:k=0:=by omega
   obtain rfl:lk=[]:=List.map_eq_nil_iff.1 (cD.fst.trans rfl);exact hZ (BS.mk bb pb tb ob pk dh oc vi il pd,Mk) _ _ ⟨rfl,rfl,rfl,rfl,rfl,tV⟩ ⟨d_,cD,by simpa using h⟩
  obtain⟨j,rfl⟩:∃j,k=j+1:=⟨k-1,by omega⟩;have jm:j<W.length:=by omega
  obtain⟨b,o,ci,rfl,hl,aO,aE⟩:=cA.el.at jm;have aZ:=aE.one;obtain⟨a1,c1,a2,c2,a3,c3,a4,c4,a5,c5,rfl,gT,hm,u9⟩:=aE.lit;obtain⟨f1,f2,f3,f4,f5⟩:=W.facts j jm;have w8:M.Le Mk:=((qr.trans fj).trans aV).trans d_;have kV:W.at (j:Nat)=W[j]:=Wd.pc jm;refine aJ (j) ?_;refine cG h (aO.le w8) ?_;refine au h ?_;clear h;intro gO w h;refine br h aZ ?_;clear h;intro w h;cases gE:W[j].bU with
  |true=>
   refine ak h ?_ (v:= .bool true) (hv:=by rw[<-gE];rfl);refine aA (((j:Int)-1)) ?_;exact hN (j,lk,BS.mk bb pb tb ob pk dh oc vi il pd,Mk) _ _ ⟨rfl,rfl,rfl,rfl,rfl,rfl,rfl,tV⟩ ⟨by omega,d_,cD.skip (by rw[kV];exact gE),h.tail⟩ (by simp only;omega)
  |false=>
   refine ak h ?_ (v:= .bool false) (hv:=by rw[<-gE];rfl);have hde:kz W (j+1)=kz W j++[j]:=by rw[Ct];simp[kV,gE]
   obtain⟨lj,lr,rfl,hlj,Pe⟩:=List.map_eq_append_iff.1 (cD.fst.trans hde);obtain⟨⟨j',nb,eH⟩,rfl,eM⟩:=List.map_eq_singleton_iff.1 Pe;have ki:j'=j:=eM;clear Pe eM;subst ki;have gk:(j',nb,eH)∈l:=by
    obtain⟨r,hr⟩:=cD.pre;rw[hr];simp
   have J0:=cK.Cu _ gk;simp only at J0;have pF:=(iN.ob _ gk).le (aV.trans d_);simp only[kV]at pF;have nI:=hF.aC W[j'] (by simp);have gl:j'<dh.length:=by rw[cK.len];exact jm
   have Dl:=AT.le (aV.trans d_);obtain⟨xp,hxp⟩:=Dl.b _ nI;have Ik:=hF.decl j' jm;refine ak h ?_;refine aJ j' ?_ gl;refine ak (b:=tb) (cs:=dh) (v:= .iface 120 (vp nb)) h ?_ (hv:=by simpa using J0);have hx:SH w0 M [] Mk (.ah gO 82 (jz W[j'] a1 c1 a2 c2 a3 c3 a4 c4 a5 c5)::((BS.mk bb pb tb ob pk dh oc vi il pd).bM++(fT lj++[aB.ah nb 218 (zu eH)]))) w:=by
    rw[<-show fT (lj++[(j',nb,eH)])=fT lj++[aB.ah nb 218 (zu eH)] by simp[fT]];exact h
   replace h:SH w0 M [] Mk (.ah nb 218 (zu eH):: .ah gO 82 (jz W[j'] a1 c1 a2 c2 a3 c3 a4 c4 a5 c5)::((BS.mk bb pb tb ob pk dh oc vi il pd).bM++fT lj)) w:=hx.perm (by
    rw[<-qap,<-qa_];exact List.perm_append_singleton _ _)
   clear hx;refine ak h ?_;have On:j'<W.length->∃b8 o8,a8=some ⟨b8,o8,none⟩/\Mk.cell b8 (o8+j'*1)=some (.int .i64 (W.start j')):=fun _=>by
    obtain⟨b8,o8,Hz,e8,zbp,JI,Io⟩:=OH.at (i:=j') (by rw[IK];exact jm);refine⟨b8,o8,e8,(fj.trans (aV.trans d_)).cell _ _ _ ?_⟩;have h1:Hz=[.int .i64 (W.start j')]:=by rw[Io];simp[wa]
    have:=JI 0 (.int .i64 (W.start j')) (by rw[h1];rfl);simpa using this
   obtain⟨b8,o8,rfl,CI⟩:=On jm;clear On;have Fs:W.start (j'+1)<=n2:=by rw[mt];have:=Wd.sZ W (show j'+1<=W.length from jm);omega
   have nG:∀n,W.start j'<=n->n<W.start (j'+1)->oc[n]? =some .nilIface:=fun n h1 h2=>cD.nil n (by omega) fun i h3 h4 hx=>by
    rcases qbZ i j' with h5|h5|h5
    .have:=Wd.sZ W (show i+1<=j' from h5);omega
    .subst h5;rcases h4 with h4|h4
     .rw[kV,gE]at h4;cases h4
     omega
    have:=Wd.sZ W (show j'+1<=i from h5);omega
   refine fB (X:=Nat×List Value×Mem×Value×List (ByteArray×Nat)) (Y:=List Value×Mem×Value×List (ByteArray×Nat)) 8 (fun y=>[(0,bK W (some ⟨b,o,none⟩) c),(3,vp b3),(5,.nilIface),(6,vp bb),(7,.int .i64 ((W.start W.length:Nat):Int)),(8,.slice (some ⟨b8,o8,none⟩) W.length c8),(15,.int .i64 (j':Int)),(16,vp gO),(17,vp nb),(160,.slice a5 W[j'].methods.length c5),(161,.int .i64 (W[j'].methods.length:Int)),(162,.int .i64 (y.1:Int))])
    (fun y w=>y.1<=W[j'].methods.length/\G0 W (W.start j') W[j'].aC pk W[j'].methods (BS.mk bb pb tb ob pk dh oc vi il pd) Mk y.1 (BS.mk bb pb tb ob pk dh y.2.1 vi il pd) y.2.2.1 y.2.2.2.2/\SH w0 M [] y.2.2.1 (.ah nb 218 (vS eH (if y.1=0 then 0 else 7) y.2.2.2.1):: .own y.2.2.2.1 1 128 (y.2.2.2.2.map fun p=>[vp p.2]):: .ah gO 82 (jz W[j'] a1 c1 a2 c2 a3 c3 a4 c4 a5 c5)::((BS.mk bb pb tb ob pk dh y.2.1 vi il pd).bM++fT lj)) w) (fun y=>W[j'].methods.length-y.1)
    (fun y=>[(0,bK W (some ⟨b,o,none⟩) c),(3,vp b3),(5,.nilIface),(6,vp bb),(7,.int .i64 ((W.start W.length:Nat):Int)),(8,.slice (some ⟨b8,o8,none⟩) W.length c8),(15,.int .i64 (j':Int)),(16,vp gO),(17,vp nb)])
    (fun y w=>∃st:Nat,(st=0\/st=7)/\G0 W (W.start j') W[j'].aC pk W[j'].methods (BS.mk bb pb tb ob pk dh oc vi il pd) Mk W[j'].methods.length (BS.mk bb pb tb ob pk dh y.1 vi il pd) y.2.1 y.2.2.2/\SH w0 M [] y.2.1 (.ah nb 218 (vS eH st y.2.2.1):: .own y.2.2.1 1 128 (y.2.2.2.map fun p=>[vp p.2]):: .ah gO 82 (jz W[j'] a1 c1 a2 c2 a3 c3 a4 c4 a5 c5)::((BS.mk bb pb tb ob pk dh y.1 vi il pd).bM++fT lj)) w)
    (0,oc,Mk,.slice none 0 0,[]) ⟨rfl,rfl,rfl,rfl,rfl,rfl,by simp,rfl,rfl,rfl,rfl,rfl,tV⟩ ⟨qae _,⟨dU.refl _ _ _ _ _ _,cD.ok,rfl,by simp⟩,?_⟩ ?_ ?_
   .exact(h.gV 1 128).perm (List.Perm.swap _ _ _)
   .clear h;rintro⟨i,k_,M',vm,ml⟩ aK w N' Z' hx hNi hZi;obtain⟨hi,iy,h⟩:=hx;simp only at hi iy h;refine aI (fun aG=> ?_) (fun aY=> ?_);rotate_left 1
    .obtain rfl:i=W[j'].methods.length:=by omega
     exact hZi (k_,M',vm,ml) _ _ ⟨rfl,rfl,rfl,rfl,rfl,rfl,rfl,rfl,rfl,tV⟩ ⟨_,by split<;>simp,iy,h⟩
    have hi':i<W[j'].methods.length:=by omega
    obtain⟨b2,o2,gD,rfl,cR,ct,rj⟩:=hm.at hi';obtain⟨⟨mn,mp⟩,AM⟩:∃x,x=W[j'].methods[i]:=⟨_,rfl⟩;rw[<-AM]at rj;cases rj;have zby:(mn,mp)∈(W.at (j':Nat)).methods:=by rw[kV,AM];simp
    obtain⟨iM,yS⟩:=Ik.name _ zby;have zbP:=Dl.le iy.st.le;refine aJ (i) ?_;refine cG h (ct.le (w8.trans iy.st.le)) ?_ rfl;refine au (cs:=[.int .i64 0,.bool false]) h ?_;clear h;intro x_ w h;refine br h (cO rfl) ?_;clear h;intro w h;refine ak h ?_;refine bj h ?_;replace h:=h.tail;refine du [] _ h (fun _=>zc6 h.le ((h.fK (.there (.there (.there .here)))).ld 0 rfl) zbP nI iM) ?_;have nK:=h.le;clear h;rintro _ M1 A1 w1 ⟨fb,rfl,fF,uR,rfl⟩ bG A6 h;have zbA:W[j'].methods.length<=W.start (j'+1)-W.start j':=by omega
    have rB:k_[W.start j'+i]? =some .nilIface:=by rw[iy.st.oc _ (by omega)];exact nG _ (by omega) (by omega)
    have Oi:W.start j'+i<k_.length:=(qab.1 rB).1;obtain⟨sg,rb,rt,kk,dQ,_,_,_⟩:=id fF;have yU:=iy.ok.put (t:=128) rB bG nK uR dQ.own;refine aJ j' ?_ jm;refine aP h (((iy.st.le.trans bG)).cell _ _ _ CI) ?_;refine aA ((W.start j'+i:Nat):Int) ?_;refine du [.ah bb 79 [.slice (some ⟨pb,0,none⟩) 2 2,.slice (some ⟨tb,0,none⟩) dh.length dh.length,.slice (some ⟨ob,0,none⟩) k_.length k_.length,vi],.ah ob 70 k_] (.ah nb 218 (vS eH (if i=0 then 0 else 7) vm):: .own vm 1 128 (ml.map fun p=>[vp p.2]):: .ah gO 82 (jz W[j'] a1 c1 a2 c2 a3 c3 a4 c4 (some ⟨b2,o2,none⟩) c5):: .ah tb 65 dh:: .own vi 1 134 (il.map fun p=>[vp p.2])::((pd.map fun p=> .part p.1 247 p.2 6)++fT lj)) h.qI (Gf rfl Oi) ?_;clear h;rintro _ wn A3 w3 ⟨rfl,rfl,rfl⟩ _ JT h;replace h:SH w0 M [] wn (.ah nb 218 (vS eH (if i=0 then 0 else 7) vm):: .own vm 1 128 (ml.map fun p=>[vp p.2]):: .ah gO 82 (jz W[j'] a1 c1 a2 c2 a3 c3 a4 c4 (some ⟨b2,o2,none⟩) c5)::((BS.mk bb pb tb ob pk dh (k_.set (W.start j'+i) (.iface 128 (vp fb))) vi il pd).bM++fT lj)) w3:=by
     simp only[BS.bM,BS.bc,qbh];exact h.qI
    have Pa:=iy.st.le.trans bG;have rp:∀p∈ml,∃k m,W[j'].methods[k]? =some m/\k<i/\p.1=bZ m.1/\fY M' pk W[j'].aC m.1 m.2 p.2:=fun p hp=>by
     obtain⟨k,dC,rfl⟩:=qak hp;have O2:k<i:=by rw[<-iy.len];exact dC
     obtain⟨h1,h2,_⟩:=iy.all k _ W[j'].methods[k] (qaa dC) (qaa (by omega));exact⟨k,_,qaa (by omega),O2,h1,h2⟩
    refine du [.ah nb 218 (vS eH (if i=0 then 0 else 7) vm),.own vm 1 128 (ml.map fun p=>[vp p.2])] (.ah gO 82 (jz W[j'] a1 c1 a2 c2 a3 c3 a4 c4 (some ⟨b2,o2,none⟩) c5)::((BS.mk bb pb tb ob pk dh (k_.set (W.start j'+i) (.iface 128 (vp fb))) vi il pd).bM++fT lj)) h
     (Un (fsg:= .nilIface) (x:= .nilIface) (name:=bZ mn) (pb:=pk W[j'].aC) (by split<;>simp) ((pF.le Pa).at 1 rfl) ⟨_,_,hxp.le Pa⟩ (dQ.at 1 rfl) (dQ.at 2 rfl) (fun p hp=> ?_) (fun p hp h0=> ?_) (fun h0=>yS ((Rd iM).1 h0)) (by rw[iy.len];omega)) ?_
    .obtain⟨k,m,_,_,h3,Gm,rb',rt',kk',h4,_⟩:=rp p hp;rw[h3];exact(h4.le bG).at 2 rfl
    .obtain⟨k,m,h1,h2,h3,_⟩:=rp p hp;rw[h3]at h0;have eD:m∈(W.at (j':Nat)).methods:=by rw[kV];exact qax h1
     have:=ud (Ik.name _ eD).1 iM h0;refine Ik.once i (mn,mp) (by rw[kV,qaa hi',AM]) ?_;rw[<-this,kV];exact qaj.2 ⟨m,qbT.2 ⟨k,by rw[qbG,if_pos h2];exact h1⟩,rfl⟩
    clear h;rintro _ xV A4 w4 ⟨BN,rfl,rfl,rfl⟩ _ _ h;refine aA (((i+1:Nat):Int)) ?_;have tT:∀(n:Nat) (v:Value),k_[n]? =some v->v≠.nilIface->(k_.set (W.start j'+i) (.iface 128 (vp fb)))[n]? =some v:=fun n v h1 h2=>by
     rw[qa7]
     .exact h1
     rintro rfl;rw[rB]at h1;exact h2 (qaF h1).symm
    have zbB:G0 W (W.start j') W[j'].aC pk W[j'].methods (BS.mk bb pb tb ob pk dh oc vi il pd) Mk (i+1) (BS.mk bb pb tb ob pk dh (k_.set (W.start j'+i) (.iface 128 (vp fb))) vi il pd) xV (ml++[(bZ mn,fb)]):=by
     refine⟨(iy.st.jd (qad _) (by omega) (qad _)).GE (dU.put (S:=BS.mk bb pb tb ob pk dh k_ vi il pd) (v:= .iface 128 (vp fb)) bG (qbx _ _) (by omega)),yU,by rw[qar,iy.len];rfl,fun k q m h1 h2=> ?_⟩;rcases BF iy.len h1 with⟨O2,h1⟩|⟨rfl,rfl⟩
     .obtain⟨h3,h4,h5⟩:=iy.all k q m h1 h2;exact⟨h3,h4.le bG,tT _ _ h5 (by simp)⟩
     rw[qaa hi',<-AM]at h2;cases h2;exact⟨rfl,fF,by simp[Oi]⟩
    exact hNi (i+1,k_.set (W.start j'+i) (.iface 128 (vp fb)),xV,BN,ml++[(bZ mn,fb)]) _ _ ⟨rfl,rfl,rfl,rfl,rfl,rfl,rfl,rfl,rfl,rfl,rfl,rfl,tV⟩ ⟨hi',zbB,h⟩ (by simp only;omega)
   clear h;rintro⟨k_,M',vm,ml⟩ aK w ⟨st,aU,iy,h⟩;simp only at iy h;have qp:W.has (j':Nat):=Wd.wL jm;have eU:W.spot (j':Nat)=⟨W[j'].of,W.start j'+W[j'].methods.length,W[j'].aC⟩:=by unfold Wd.spot;rw[kV];simp
   have IP:M.Le M':=w8.trans iy.st.le;have Pl:∀n,W.start j'+W[j'].methods.length<=n->n<W.start (j'+1)->k_[n]? =some .nilIface:=fun n h1 h2=>by
    rw[iy.st.oc n (by omega)];exact nG n (by omega) h2
   have JZ:∀i:Nat,i<W.length->∃b,dh[i]? =some (.iface (dT W i) (vp b)):=fun i hi=>cK.GK iN hi fun _=>qae _;have zgm:il.length<=2*W.aj:=by have:=cD.il;simp only at this;omega
   have oC:wv W (j':Nat) ⟨W[j'].of,W.start j'+W[j'].methods.length,W[j'].aC⟩ (BS.mk bb pb tb ob pk dh k_ vi il pd) M':=
    ⟨eU▸hW.spot _ qp,eU▸hF.valid j' jm,hT.le IP,iy.ok,fun i hi _=>JZ i hi,fun n h1 h2=>Pl n h1 (by rw[f2];simp only at h2;omega),by simp only;omega⟩
   have jF:=Kp hW _ (W.spot (j':Nat)) (qam _) (hF.form j' jm);rw[eU]at jF;have Om:=iy.st.le.cell _ _ _ CI;refine Ge (kpM M') (nb::cp (BS.mk bb pb tb ob pk dh k_ vi il pd).bM) h (fun w' h b o x hx=>h.le.cell _ _ _ hx) ?_;clear h;intro w h;have kj:gO∉nb::cp (BS.mk bb pb tb ob pk dh k_ vi il pd).bM:=fun hm=>by
    rcases qan.1 hm with rfl|hm
    .have:=h.pd;simp[jv,aB.bX]at this
    obtain⟨x,hx,wO⟩:=xv.1 hm;have:=h.pd;simp only[qau]at this;exact this.2.2.1 x (qaA _ hx) gO (by simp[aB.bX]) wO
   refine k_ld h ?_ kj (v:= .int .i64 W[j'].aC);refine uh h (bh W[j'].of a1 c1 a2 c2 a3 c3 a4 c4) ?_ (hS:=kj);refine aJ j' ?_ jm;refine Dz h Om ?_ (Or.inr Om);refine k_ld h ?_ kj (v:= .slice a5 W[j'].methods.length c5);refine aA ((W.start j'+W[j'].methods.length:Nat):Int) ?_;refine aI ?_ trivial;refine DO (BS.mk bb pb tb ob pk dh k_ vi il pd).bM ([.ah nb 218 (vS eH st vm),.own vm 1 128 (ml.map fun p=>[vp p.2]),.ah gO 82 (jz W[j'] a1 c1 a2 c2 a3 c3 a4 c4 a5 c5)]++fT lj) (SH.perm (L:=[.ah nb 218 (vS eH st vm),.own vm 1 128 (ml.map fun p=>[vp p.2]),.ah gO 82 (jz W[j'] a1 c1 a2 c2 a3 c3 a4 c4 a5 c5)]++((BS.mk bb pb tb ob pk dh k_ vi il pd).bM++fT lj)) h (qbc _ _ _)) (jF oC (cA.fr IP) (gT.le IP)) (fun b hb=>qag _ hb) (fun r M1 A' w' hr hl h b o v hx=>h.le.cell _ _ _ (hl.cell _ _ _ hx)) ?_;clear h jF;rintro r M1 A1 w ⟨S1,rfl,eE,vb,mR⟩ IN A6 h;obtain⟨kK,li,k9,lg,rfl⟩:=eE.form;rw[<-eU]at mR;obtain⟨tt,l6,rfl,oH⟩:=mR.iface;have n_:(((BS.mk bb pb tb ob pk dh oc vi il pd).ev W Mk).Le ((BS.mk bb pb tb ob pk dh kK li k9 lg).ev W M1)):=(iy.st.ev fun n h1 h2=>nG n h1 (by omega)).trans (eE.ev fun n h1 h2=>Pl n h1 (by rw[f2];simp only at h2;omega));have hU:=Tu (w0:=w) hL h.le mR (fun hk=>(hL _ qp hk).2) (fun hk ha b' hb=>by
    obtain⟨h1,h2⟩:=hL _ qp hk;have e:(((W.at (j':Nat)).of.num.toNat:Nat):Int)=(W.at (j':Nat)).of.num:=by have:=h2.1;omega
    obtain⟨ab,h3,h4⟩:=cK.al (W.at (j':Nat)).of.num.toNat (qae _) h2.2 (by rw[e];exact ha);have aW:dh[(W.at (j':Nat)).of.num.toNat]? =some (.iface (dT W (W.at (j':Nat)).of.num.toNat) (vp b')):=hb;simp only at h3;rw[h3]at aW;simp only[qao,Value.iface.injEq,qbM,qbW,qca]at aW;have h5:=(h4.le cD.le).le n_;rw[aW.2]at h5;exact h5) (fun hk b' hb=>by
    obtain⟨h1,h2⟩:=pR hL (s:=W.spot (j':Nat)) (fun hk=>(hL _ qp hk).2) hk;have e:(((W.plain (W.spot (j':Nat))).of.num.toNat:Nat):Int)=(W.plain (W.spot (j':Nat))).of.num:=by have:=h1.1;omega
    have aG:=zd_ hL qp hk;have aW:dh[(W.plain (W.spot (j':Nat))).of.num.toNat]? =some (.iface (dT W (W.plain (W.spot (j':Nat))).of.num.toNat) (vp b')):=hb;have ht:dT W (W.plain (W.spot (j':Nat))).of.num.toNat=120:=by unfold dT;rw[e,h2];rfl
    rw[ht]at aW;exact(cD.nm _ (by omega) h1.2 (by rw[e];exact h2) b' aW).le n_)
   obtain⟨fU,H2,CH⟩:=hU;refine aI ?_ trivial;refine qai fU (qai _ (aI H2 ?_));refine QB h CH (fun w' h b o v hx=>h.le.cell _ _ _ (IN.cell _ _ _ hx)) ?_;clear h CH;intro u w nu h;obtain⟨tu,bu,rfl,_⟩:=nu.iface;have rA:(W.under (W.spot (j':Nat))).of.kind≠1:=Ec hL fun hk=>(hL _ qp hk).2;replace h:SH w0 M [] M1 (.ah nb 218 (vS eH st vm)::((BS.mk bb pb tb ob pk dh kK li k9 lg).bM++(.own vm 1 128 (ml.map fun p=>[vp p.2]):: .ah gO 82 (jz W[j'] a1 c1 a2 c2 a3 c3 a4 c4 a5 c5)::fT lj))) w:=SH.perm (L:=(BS.mk bb pb tb ob pk dh kK li k9 lg).bM++(.ah nb 218 (vS eH st vm)::(.own vm 1 128 (ml.map fun p=>[vp p.2]):: .ah gO 82 (jz W[j'] a1 c1 a2 c2 a3 c3 a4 c4 a5 c5)::fT lj))) h qbU;refine aI ?_ trivial;refine zcD h (zeP (s:=(st:Int)) (nu.plain rA) rfl rfl (h.fK .here) rfl rfl (by omega)) (fun w' h b o v hx=>h.le.cell _ _ _ (IN.cell _ _ _ hx)) qal ?_;clear h;rintro _ w rfl h;refine aA (((j':Int)-1)) ?_;obtain⟨M2',zbq,nE,h⟩:=h.dA nb;replace h:=SH.perm (L:=(BS.mk bb pb tb ob pk dh kK li k9 lg).bM++(.own vm 1 128 (ml.map fun p=>[vp p.2])::(.ah gO 82 (jz W[j'] a1 c1 a2 c2 a3 c3 a4 c4 a5 c5)::fT lj))) h qbU;obtain⟨wn,qr,JN,h⟩:=h.d6 vm;replace h:=(SH.perm (L:=(BS.mk bb pb tb ob pk dh kK li k9 lg).bM++(.ah gO 82 (jz W[j'] a1 c1 a2 c2 a3 c3 a4 c4 a5 c5)::fT lj)) h qbU).tail;have Fy:=zbq.trans qr;have PM:dU W (W.start j') (W.start (j'+1)) W[j'].of.aj (BS.mk bb pb tb ob pk dh oc vi il pd) Mk (BS.mk bb pb tb ob pk dh kK li k9 lg) wn:=by
    have h1:=(iy.st.jd (lo':=W.start j') (hi':=W.start (j'+1)) (k':=0) (qad _) (by omega) (qad _)).GE (eE.jd (lo':=W.start j') (hi':=W.start (j'+1)) (k':=W[j'].of.aj) (by simp only;omega) (by rw[f2];simp only;omega) (qad _));rw[qbm]at h1;exact h1.qD Fy
   have ig:((BS.mk bb pb tb ob pk dh kK li k9 lg).ev W M1).Le ((BS.mk bb pb tb ob pk dh kK li k9 lg).ev W wn):=⟨Fy,rfl,fun _ _ h=>h,fun _ _ _ h=>h,fun _ _ h=>h⟩;have pt:Mk.Le wn:=PM.le;have nF:rZ W ((BS.mk bb pb tb ob pk dh kK li k9 lg).ev W wn) j' nb:=by
    refine⟨eH,_,vm,ml.map (·.2),nE.le qr,by unfold ux;rw[kV];exact pF.le pt,nu.le ig,by rw[qbE];exact JN,by rw[qat,kV];exact iy.len,fun i x m h1 h2=> ?_⟩;rw[qaE]at h1;cases hq:ml[i]? with
    |none=>rw[hq]at h1;cases h1
    |some q=>
     rw[hq]at h1;cases h1;rw[kV]at h2⊢;have rx:i<W[j'].methods.length:=(qab.1 h2).1;obtain⟨_,h3,h4⟩:=iy.all i q m hq h2;refine⟨h3.le (IN.trans Fy),?_⟩;show kK[W.start j'+i]? =_;have:=eE.oc (W.start j'+i) (by simp only;omega);rw[this];exact h4
   have nH:=cD.add jm (by rw[kV];exact gE) PM (vb.mono Fy) (by omega) J0 nF;exact hN (j',lj,BS.mk bb pb tb ob pk dh kK li k9 lg,wn) _ _ ⟨rfl,rfl,rfl,rfl,rfl,rfl,rfl,tV⟩ ⟨by omega,d_.trans pt,nH,h⟩ (by simp only;omega)
 clear h I5;rintro⟨S,M6⟩ aK w ⟨ck,cD,h⟩;simp only at ck cD h;obtain⟨KY,LM,Bb,K_,rfl⟩:=cD.form;have O7:xU.Le M6:=(fj.trans aV).trans ck;have FA:M.Le M6:=qr.trans O7;refine cG h (qk.le O7).rw ?_;have JZ:∀i:Nat,i<W.length->∃b,dh[i]? =some (.iface (dT W i) (vp b)):=fun i hi=>cK.GK iN hi fun _=>qae _;have oC:wv W (-1) (W.operand t) (BS.mk bb pb tb ob pk dh KY LM Bb K_) M6:=by
  refine⟨hF.gs lD (by omega),hF.GQ,hT.le FA,cD.ok,fun i hi _=>JZ i hi,fun n h1 h2=>cD.nil n ?_ fun i h3 _ hx=> ?_,?_⟩
  .rw[mt];exact h2
  .have:=Wd.sZ W (show i+1<=W.length from h3);have iH:W.start W.length<=n:=h1;omega
  have:=cD.il;simp only[qbO,qa0,qbY]at this;show Bb.length+t.aj<=_;omega
 have jF:=Kp hW _ (W.operand t) (qam _) hF.EX;refine du (BS.mk bb pb tb ob pk dh KY LM Bb K_).bM [] (by rw[qaC];exact h) (jF oC (cA.fr FA) (bA.le FA)) ?_;clear h jF;rintro r M7 A7 w ⟨S1,rfl,FL,zbL,OB⟩ cF zgy h;obtain⟨uf,vi7,fM,rP,rfl⟩:=FL.form;rw[qaC]at h;obtain⟨tt,l6,rfl,oH⟩:=OB.iface;obtain⟨qU,eA,J5,OA,_⟩:=h.DH (v:=vi7);rw[qat]at J5 OA;simp only at J5 OA;subst J5;refine ak h ?_;obtain⟨M8a,zbs,zaH,h⟩:=h.dA bb;obtain⟨M8b,O_,zb9,h⟩:=h.dA tb;obtain⟨M8c,zzzq,zbI,h⟩:=h.dA ob;obtain⟨M8,Fz,zcf,h⟩:=h.d6 (.slice qU fM.length eA);have mW:M7.Le M8:=zbs.trans (O_.trans (zzzq.trans Fz));have zap:((BS.mk bb pb tb ob pk dh KY LM Bb K_).ev W M6).Le ((BS.mk bb pb tb ob pk dh uf (.slice qU fM.length eA) fM rP).ev W M8):=by
  refine(FL.qD mW).ev fun n h1 h2=>oC.nil n h1 h2
 have AP:=zbL.mono mW;have Fg:=Xp iN cK cD rfl rfl zap AP (hT.le (FA.trans (cF.trans mW)));have sM:∀n,o7 W ((BS.mk bb pb tb ob pk dh uf (.slice qU fM.length eA) fM rP).ev W M8) n rP:=fun n=>⟨fun s b h1 _=>(AP.ifs s b h1).2.2,AP.Bv⟩;obtain⟨E,hE⟩:∃E,E=(BS.mk bb pb tb ob pk dh uf (.slice qU fM.length eA) fM rP).ev W M8:=⟨_,rfl⟩;have zgn:fM.length<=2^41:=by
  obtain⟨new,e,gR⟩:=FL.il;have h1:=cD.il;simp only[qbO,qa0,qbY]at h1;have h2:fM.length=Bb.length+new.length:=by rw[show fM=Bb++new from e,qar]
  have h3:new.length<=t.aj:=gR;omega
 obtain⟨ai8,ci8,J6,zaT,za4⟩:=zcf;rw[qat]at J6 zaT;obtain⟨_,rfl⟩:=(Value.slice.inj J6).2;obtain rfl:=(Value.slice.inj J6).1;refine fB (X:=Nat×Mem×List (Nat×List Value)) (Y:=Mem) 10 (fun y=>[(6,vp bb),(21,.iface tt (vp l6)),(214,.slice qU fM.length eA),(215,.int .i64 (fM.length:Int)),(216,.int .i64 (y.1:Int))])
  (fun y w=>y.1<=fM.length/\M8.Le y.2.1/\(∀n,o7 W (E.at_ y.2.1) n y.2.2)/\(∀p∈fM.take y.1,r_ W (E.at_ y.2.1) p.1 p.2)/\SH w0 M [] y.2.1 (fI y.2.2) w) (fun y=>fM.length-y.1)
  (fun y=>[(6,vp bb),(21,.iface tt (vp l6))]) (fun y w=>M8.Le y/\(∀p∈fM,r_ W (E.at_ y) p.1 p.2)/\Gr M w0 y w) (0,M8,rP) ⟨rfl,rfl,rfl,rfl,rfl,tV⟩ ⟨qae _,.refl _,by rw[hE];exact sM,by simp,h⟩ ?_ ?_
 .clear h;rintro⟨k,Mk,Pn⟩ aK w N Z ⟨hk,d_,aU,wS,hh⟩ hN hZ;simp only at hk d_ aU wS hh;refine aI (fun aG=> ?_) (fun aY=> ?_);rotate_left 1
  .obtain rfl:k=fM.length:=by omega
   exact hZ Mk _ _ ⟨rfl,rfl,tV⟩ ⟨d_,by rw[qay]at wS;exact wS,hh.gr⟩
  have ad:k<fM.length:=by omega
  obtain⟨b2,o2,gD,rfl,cR,ct,gH⟩:=za4.at (i:=k) (by simpa using ad);have h:=hh;clear hh;obtain⟨⟨sk,bk⟩,hp⟩:∃x,fM[k]=x:=⟨_,rfl⟩;have kX:Mk.cell b2 (o2+k*1)=some (vp bk):=by
   have h1:gD=[vp bk]:=by
    have h0:gD=_:=gH;rw[h0,qaU,hp]
   have:=ct 0 (vp bk) (by rw[h1];rfl);exact d_.cell _ _ _ (by simpa using this)
  have gk:(sk,bk)∈fM:=by rw[<-hp];exact qaf ad
  obtain⟨n,my⟩:=(AP.ifs sk bk gk).2.1.rk;have zaY:Ctx W (E.at_ M8):=by rw[hE];exact Fg
  have su:=zaY.le d_;refine aJ (k) ?_;refine aP h kX ?_;refine du (fI Pn) [] (by rw[qaC];exact h) (Xh hW hL (fun i hi=>hF.form i hi) my su (by rw[hE];exact gk) (aU n)) ?_;clear h;rintro _ M' A' w' ⟨P',rfl,rfl,tS,dS⟩ wZ _ h;rw[qaC]at h;refine aA (((k+1:Nat):Int)) ?_;refine hN (k+1,M',P') _ _ ⟨rfl,rfl,rfl,rfl,rfl,tV⟩ ⟨ad,d_.trans wZ,fun n=>(aU n).post su wZ tS,fun p ea=> ?_,h⟩ (by simp only;omega);simp only at ea⊢;rw[<-dN ad]at ea;rcases qah.1 ea with ea|ea
  .exact(wS p ea).le (Ev.tA wZ)
  simp only[qac]at ea;subst ea;rw[hp];exact dS
 clear h;rintro M9 aK w ⟨cB,wS,ny⟩;have zar:((BS.mk bb pb tb ob pk dh uf (.slice qU fM.length eA) fM rP).ev W M8).Le ((BS.mk bb pb tb ob pk dh uf (.slice qU fM.length eA) fM rP).ev W M9):=⟨cB,rfl,fun _ _ h=>h,fun _ _ _ h=>h,fun _ _ h=>h⟩;have zaX:Ctx W ((BS.mk bb pb tb ob pk dh uf (.slice qU fM.length eA) fM rP).ev W M9):=Ctx.le (E:=(BS.mk bb pb tb ob pk dh uf (.slice qU fM.length eA) fM rP).ev W M8) cB Fg;have zaq:((BS.mk bb pb tb ob pk dh uf (.slice qU fM.length eA) fM rP).ev W M7).Le ((BS.mk bb pb tb ob pk dh uf (.slice qU fM.length eA) fM rP).ev W M8):=⟨mW,rfl,fun _ _ h=>h,fun _ _ _ h=>h,fun _ _ h=>h⟩;refine⟨M9,⟨BS.mk bb pb tb ob pk dh uf (.slice qU fM.length eA) fM rP,_,rfl,UV iN pE cK rfl rfl zaX (AP.mono cB) (fun s b hb=> ?_),(OB.le zaq).le zar,zaH.le ((O_.trans (zzzq.trans Fz)).trans cB),zb9.le ((zzzq.trans Fz).trans cB),zbI.le (Fz.trans cB),?_,AP.mono cB⟩,ny⟩
 .have:=wS (s,b) hb;rw[hE]at this;exact this
 rw[<-mt];exact FL.len.trans cD.zv
end
end Go.Proofs.YtlfcbbcdiecelaaGreatDoor
