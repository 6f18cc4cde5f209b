import Derived.Test.YtlfcbbcdiecelaaGreatDoorZ10
namespace Go.Proofs.YtlfcbbcdiecelaaGreatDoor
open Go Go.Proofs.Tryz
set_option maxRecDepth 100000
set_option maxHeartbeats 4000000
set_option linter.all false
section
variable {s:ByteArray}
theorem u9s:prog.underlying 9=some .string:=by kernel_rfl
theorem oO{e:Env}{w:World}{x i:Operand}{k:Nat}{K:Value->World->Prop}(hx:ev e x= .string s)(hi:ev e i= .int .i64 (k:Int))(hk:k<s.size)(hK:K (.int .u8 (s[k]'hk).toNat) w):bB prog (.gen (.index 9 x i) 5) e w K:=by
 refine .inl ⟨_,w,?_,hK⟩;have h2:((k:Nat):Int)<(s.size:Int):=by omega
 simp[execOp,hx,hi,run_index_string w 9 s .i64 (k:Int) u9s,h2]
section
variable {w0:World}{M:Mem}
theorem Xs{c:Nat}(h0:0<s.size)(hc:((s[0]'h0).toNat:Nat)=c)(NT:c<128):az prog 174 [.string s] w0 fun r w'=>r= .tuple #[.int .i32 (c:Int),.int .i64 1]/\Fr [] w0 w':=by
 have h:=SH.start (Mem.nil_le (Wm w0));refine aL mixed func174 Cj ?_;refine aI (fun hx=> ?_) (fun _=> ?_)
 .rw[hx]at h0;exact absurd h0 (Nat.lt_irrefl 0)
 refine oO (k:=0) rfl rfl h0 ?_;rw[hc];refine aI (fun l1=> ?_) (fun l2=> ?_);rotate_left 1
 .omega
 refine oO (k:=0) rfl rfl h0 ?_;rw[hc];refine⟨(c:Int),?_,?_⟩
 .rw[IntKind.wrap_i32];omega
 exact⟨rfl,h.fr⟩
theorem ze0(h5:M.cell 5 195=some (.int .u8 2))(h6:Rw M 6 0 [.int .u8 128,.int .u8 191])(hM:M.Le (Wm w0)):az prog 209 [.string ⟨#[195,169]⟩] w0 fun r w'=>r= .tuple #[.int .i32 233,.int .i64 2]/\Fr [] w0 w':=by
 have h:=SH.start hM;refine aL mixed func209 EM ?_;refine aI (fun l1=> ?_) (fun l2=> ?_)
 .exact absurd l1 (by decide)
 refine oO (k:=0) rfl rfl (by decide) ?_;refine aJ (195) ?_;refine aP h h5 ?_;refine aI (fun g1=> ?_) (fun g2=> ?_)
 .exact absurd g1 (by decide)
 refine⟨2,by decide,?_⟩;refine⟨by decide,0,by decide,?_⟩;refine aJ (0) ?_;refine cG h h6 ?_;refine au h ?_;clear h;intro b9 w h;refine br h (cO (vs:=[.int .u8 128,.int .u8 191]) rfl) ?_;clear h;intro w h;refine aI (fun n1=> ?_) (fun n2=> ?_)
 .exact absurd n1 (by decide)
 refine oO (k:=1) rfl rfl (by decide) ?_;refine ak h ?_;refine aI (fun m1=> ?_) (fun m2=> ?_)
 .exact absurd m1 (by decide)
 refine ak h ?_;refine aI (fun q1=> ?_) (fun q2=> ?_)
 .exact absurd q1 (by decide)
 refine aI (fun z1=> ?_) (fun z2=> ?_);rotate_left 1
 .exact absurd z2 (by decide)
 refine⟨3,by decide,?_⟩;refine⟨by decide,192,by decide,?_⟩;refine⟨41,by decide,?_⟩;exact⟨qaL (fun z:Int=>Value.tuple #[.int .i32 z,.int .i64 2]) (show bits .or .i32 192 41=233 by decide),h.fr⟩
theorem ze1(h5:M.cell 5 195=some (.int .u8 2))(h6:Rw M 6 0 [.int .u8 128,.int .u8 191])(hM:M.Le (Wm w0)):az prog 209 [.string ⟨#[195,137]⟩] w0 fun r w'=>r= .tuple #[.int .i32 201,.int .i64 2]/\Fr [] w0 w':=by
 have h:=SH.start hM;refine aL mixed func209 EM ?_;refine aI (fun l1=> ?_) (fun l2=> ?_)
 .exact absurd l1 (by decide)
 refine oO (k:=0) rfl rfl (by decide) ?_;refine aJ (195) ?_;refine aP h h5 ?_;refine aI (fun g1=> ?_) (fun g2=> ?_)
 .exact absurd g1 (by decide)
 refine⟨2,by decide,?_⟩;refine⟨by decide,0,by decide,?_⟩;refine aJ (0) ?_;refine cG h h6 ?_;refine au h ?_;clear h;intro b9 w h;refine br h (cO (vs:=[.int .u8 128,.int .u8 191]) rfl) ?_;clear h;intro w h;refine aI (fun n1=> ?_) (fun n2=> ?_)
 .exact absurd n1 (by decide)
 refine oO (k:=1) rfl rfl (by decide) ?_;refine ak h ?_;refine aI (fun m1=> ?_) (fun m2=> ?_)
 .exact absurd m1 (by decide)
 refine ak h ?_;refine aI (fun q1=> ?_) (fun q2=> ?_)
 .exact absurd q1 (by decide)
 refine aI (fun z1=> ?_) (fun z2=> ?_);rotate_left 1
 .exact absurd z2 (by decide)
 refine⟨3,by decide,?_⟩;refine⟨by decide,192,by decide,?_⟩;refine⟨9,by decide,?_⟩;exact⟨qaL (fun z:Int=>Value.tuple #[.int .i32 z,.int .i64 2]) (show bits .or .i32 192 9=201 by decide),h.fr⟩
theorem zeZ(h5:M.cell 5 199=some (.int .u8 2))(h6:Rw M 6 0 [.int .u8 128,.int .u8 191])(hM:M.Le (Wm w0)):az prog 209 [.string ⟨#[199,133]⟩] w0 fun r w'=>r= .tuple #[.int .i32 453,.int .i64 2]/\Fr [] w0 w':=by
 have h:=SH.start hM;refine aL mixed func209 EM ?_;refine aI (fun l1=> ?_) (fun l2=> ?_)
 .exact absurd l1 (by decide)
 refine oO (k:=0) rfl rfl (by decide) ?_;refine aJ (199) ?_;refine aP h h5 ?_;refine aI (fun g1=> ?_) (fun g2=> ?_)
 .exact absurd g1 (by decide)
 refine⟨2,by decide,?_⟩;refine⟨by decide,0,by decide,?_⟩;refine aJ (0) ?_;refine cG h h6 ?_;refine au h ?_;clear h;intro b9 w h;refine br h (cO (vs:=[.int .u8 128,.int .u8 191]) rfl) ?_;clear h;intro w h;refine aI (fun n1=> ?_) (fun n2=> ?_)
 .exact absurd n1 (by decide)
 refine oO (k:=1) rfl rfl (by decide) ?_;refine ak h ?_;refine aI (fun m1=> ?_) (fun m2=> ?_)
 .exact absurd m1 (by decide)
 refine ak h ?_;refine aI (fun q1=> ?_) (fun q2=> ?_)
 .exact absurd q1 (by decide)
 refine aI (fun z1=> ?_) (fun z2=> ?_);rotate_left 1
 .exact absurd z2 (by decide)
 refine⟨7,by decide,?_⟩;refine⟨by decide,448,by decide,?_⟩;refine⟨5,by decide,?_⟩;exact⟨qaL (fun z:Int=>Value.tuple #[.int .i32 z,.int .i64 2]) (show bits .or .i32 448 5=453 by decide),h.fr⟩
theorem ze2(h5:M.cell 5 228=some (.int .u8 3))(h6:Rw M 6 0 [.int .u8 128,.int .u8 191])(hM:M.Le (Wm w0)):az prog 209 [.string ⟨#[228,184,150]⟩] w0 fun r w'=>r= .tuple #[.int .i32 19990,.int .i64 3]/\Fr [] w0 w':=by
 have h:=SH.start hM;refine aL mixed func209 EM ?_;refine aI (fun l1=> ?_) (fun l2=> ?_)
 .exact absurd l1 (by decide)
 refine oO (k:=0) rfl rfl (by decide) ?_;refine aJ (228) ?_;refine aP h h5 ?_;refine aI (fun g1=> ?_) (fun g2=> ?_)
 .exact absurd g1 (by decide)
 refine⟨3,by decide,?_⟩;refine⟨by decide,0,by decide,?_⟩;refine aJ (0) ?_;refine cG h h6 ?_;refine au h ?_;clear h;intro b9 w h;refine br h (cO (vs:=[.int .u8 128,.int .u8 191]) rfl) ?_;clear h;intro w h;refine aI (fun n1=> ?_) (fun n2=> ?_)
 .exact absurd n1 (by decide)
 refine oO (k:=1) rfl rfl (by decide) ?_;refine ak h ?_;refine aI (fun m1=> ?_) (fun m2=> ?_)
 .exact absurd m1 (by decide)
 refine ak h ?_;refine aI (fun q1=> ?_) (fun q2=> ?_)
 .exact absurd q1 (by decide)
 refine aI (fun z1=> ?_) (fun z2=> ?_)
 .exact absurd z1 (by decide)
 refine oO (k:=2) rfl rfl (by decide) ?_;refine aI (fun y1=> ?_) (fun y2=> ?_)
 .exact absurd y1 (by decide)
 refine aI (fun x1=> ?_) (fun x2=> ?_)
 .exact absurd x1 (by decide)
 refine aI (fun u1=> ?_) (fun u2=> ?_);rotate_left 1
 .exact absurd u2 (by decide)
 refine⟨4,by decide,?_⟩;refine⟨by decide,16384,by decide,?_⟩;refine⟨56,by decide,?_⟩;refine⟨by decide,3584,by decide,?_⟩;refine⟨22,by decide,?_⟩;exact⟨qaL (fun z:Int=>Value.tuple #[.int .i32 z,.int .i64 3]) (show bits .or .i32 (bits .or .i32 16384 3584) 22=19990 by decide),h.fr⟩
theorem Xu(h5:M.cell 5 (195)=some (.int .u8 2))(h6:Rw M 6 0 [.int .u8 128,.int .u8 191])(hM:M.Le (Wm w0)):az prog 174 [.string ⟨#[195,169]⟩] w0 fun r w'=>r= .tuple #[.int .i32 233,.int .i64 2]/\Fr [] w0 w':=by
 have h:=SH.start hM;refine aL mixed func174 Cj ?_;refine aI (fun hx=>absurd hx (by decide)) (fun _=> ?_);refine oO (k:=0) rfl rfl (by decide) ?_;refine aI (fun l1=> ?_) (fun l2=> ?_)
 .exact absurd l1 (by decide)
 refine s_call h (ze0 h5 h6 h.le) ?_;clear h;rintro _ w rfl h;exact⟨rfl,h.fr⟩
theorem Xv(h5:M.cell 5 (195)=some (.int .u8 2))(h6:Rw M 6 0 [.int .u8 128,.int .u8 191])(hM:M.Le (Wm w0)):az prog 174 [.string ⟨#[195,137]⟩] w0 fun r w'=>r= .tuple #[.int .i32 201,.int .i64 2]/\Fr [] w0 w':=by
 have h:=SH.start hM;refine aL mixed func174 Cj ?_;refine aI (fun hx=>absurd hx (by decide)) (fun _=> ?_);refine oO (k:=0) rfl rfl (by decide) ?_;refine aI (fun l1=> ?_) (fun l2=> ?_)
 .exact absurd l1 (by decide)
 refine s_call h (ze1 h5 h6 h.le) ?_;clear h;rintro _ w rfl h;exact⟨rfl,h.fr⟩
theorem Xt(h5:M.cell 5 (199)=some (.int .u8 2))(h6:Rw M 6 0 [.int .u8 128,.int .u8 191])(hM:M.Le (Wm w0)):az prog 174 [.string ⟨#[199,133]⟩] w0 fun r w'=>r= .tuple #[.int .i32 453,.int .i64 2]/\Fr [] w0 w':=by
 have h:=SH.start hM;refine aL mixed func174 Cj ?_;refine aI (fun hx=>absurd hx (by decide)) (fun _=> ?_);refine oO (k:=0) rfl rfl (by decide) ?_;refine aI (fun l1=> ?_) (fun l2=> ?_)
 .exact absurd l1 (by decide)
 refine s_call h (zeZ h5 h6 h.le) ?_;clear h;rintro _ w rfl h;exact⟨rfl,h.fr⟩
theorem Xw(h5:M.cell 5 (228)=some (.int .u8 3))(h6:Rw M 6 0 [.int .u8 128,.int .u8 191])(hM:M.Le (Wm w0)):az prog 174 [.string ⟨#[228,184,150]⟩] w0 fun r w'=>r= .tuple #[.int .i32 19990,.int .i64 3]/\Fr [] w0 w':=by
 have h:=SH.start hM;refine aL mixed func174 Cj ?_;refine aI (fun hx=>absurd hx (by decide)) (fun _=> ?_);refine oO (k:=0) rfl rfl (by decide) ?_;refine aI (fun l1=> ?_) (fun l2=> ?_)
 .exact absurd l1 (by decide)
 refine s_call h (ze2 h5 h6 h.le) ?_;clear h;rintro _ w rfl h;exact⟨rfl,h.fr⟩
end
end
section
open Go.Lib
variable {z:Int}{r R o c Tb oT:Nat}{b:Bool}{s:ByteArray}
theorem GU(h0:0<=z)(h1:z<=4294967295):IntKind.u32.wrap z=z:=by
 simp[IntKind.wrap,IntKind.bits,IntKind.signed];omega
theorem TQ(h0:0<=z)(h1:z<=65535):IntKind.u16.wrap z=z:=by
 simp[IntKind.wrap,IntKind.bits,IntKind.signed];omega
theorem wu8(h0:0<=z)(h1:z<=255):IntKind.u8.wrap z=z:=by
 simp[IntKind.wrap,IntKind.bits,IntKind.signed];omega
theorem zfZ(h0:0<=z)(h1:z<=18446744073709551615):IntKind.u64.wrap z=z:=by
 simp[IntKind.wrap,IntKind.bits,IntKind.signed];omega
section
variable {w0:World}{M:Mem}
theorem LK{v:Int}(hr:r<=255)(hc:M.cell 0 r=some (.int .u8 v))(hb:decide (bits .and .u8 v 96=32)=b)(hM:M.Le (Wm w0)):az prog 175 [.int .i32 (r:Int)] w0 fun q w'=>q= .bool b/\Fr [] w0 w':=by
 have h:=SH.start hM;refine aL mixed func175 MC ?_;refine⟨(r:Int),GU (by omega) (by omega),?_⟩;refine aI (fun l1=> ?_) (fun l2=> ?_);rotate_left 1
 .omega
 refine⟨(r:Int),wu8 (by omega) (by omega),?_⟩;refine aJ (r) ?_;have gg:M.cell 0 (0+r*1)=some (.int .u8 v):=by rw[qbm,qb1];exact hc
 refine aP h gg ?_;refine aI (fun e1=> ?_) (fun e1=> ?_)
 .exact⟨qaL Value.bool (by rw[<-hb];exact(qaH e1).symm),h.fr⟩
 exact⟨qaL Value.bool (by rw[<-hb];exact(qaK e1).symm),h.fr⟩
theorem zcy{n:Nat}{T:Nat->Nat×Nat×Nat}(h18:18<n)(dF:n<=100000)(hr:255<r)(rF:r<65536)
 (hT:∀i,i<n->M.cell R (o+i*3)=some (.int .u16 (T i).1)/\M.cell R (o+i*3+1)=some (.int .u16 (T i).2.1)/\M.cell R (o+i*3+2)=some (.int .u16 (T i).2.2))
 (bz:∀i,i<n->(T i).1<=r->r<=(T i).2.1->1<(T i).2.2/\(r-(T i).1)%(T i).2.2≠0) (hM:M.Le (Wm w0)):
 az prog 231 [.slice (some ⟨R,o,none⟩) n c,.int .u16 (r:Int)] w0 fun q w'=>q= .bool false/\Fr [] w0 w':=by
 have h:=SH.start hM;refine aL mixed func231 VQ ?_;refine aI (fun l1=> ?_) (fun l2=> ?_)
 .omega
 refine aI (fun l3=> ?_) (fun l4=> ?_)
 .omega
 refine bN (X:=Nat×Nat) (fun x=>[(0,.slice (some ⟨R,o,none⟩) n c),(1,.int .u16 (r:Int)),(7,.int .i64 (x.1:Int)),(8,.int .i64 (x.2:Int))])
  (fun x w=>x.1<=x.2/\x.2<=n/\SH w0 M [] M [] w) (fun x=>x.2-x.1) (0,n) ⟨rfl,rfl,rfl,rfl,tV⟩ ⟨qae _,qad _,h⟩ ?_
 clear h;rintro⟨lo,hi⟩ aK w N ⟨hlh,hhn,h⟩ hN;simp only at hlh hhn h;refine aI (fun aG=> ?_) (fun aY=> ?_);rotate_left 1
 .exact⟨rfl,h.fr⟩
 refine aA (((lo+hi:Nat):Int)) ?_;refine⟨((lo+hi:Nat):Int),zfZ (by omega) (by omega),?_⟩;obtain⟨m,hm⟩:∃m,m=(lo+hi)/2:=⟨_,rfl⟩;refine⟨by decide,((m:Nat):Int),?_,?_⟩
 .show Int.fdiv ((lo+hi:Nat):Int) 2=_;rw[Int.fdiv_eq_ediv_of_nonneg _ (by decide)];omega
 refine⟨((m:Nat):Int),TF (by omega) (by omega),?_⟩;have fv:m<n:=by simp only at aG;omega
 simp only at aG;obtain⟨q0,q1,q2⟩:=hT m fv;have cD:=bz m fv;generalize T m=tm at*;obtain⟨tl,th,ts⟩:=tm;simp only at q0 q1 q2 cD;refine aJ (m) ?_;refine aP h q0 ?_;refine aI (fun c1=> ?_) (fun c2=> ?_)
 .refine aP h q1 ?_;refine aI (fun c3=> ?_) (fun c4=> ?_)
  .have mt:=cD (by omega) (by omega);refine b_ [] h ?_;clear h;intro w h;refine cd h q2 ?_;refine aI (fun k1=> ?_) (fun k2=> ?_)
   .omega
   refine cd h q0 ?_;refine⟨((r-tl:Nat):Int),?_,?_⟩
   .rw[TQ (by omega) (by omega)];omega
   refine cd h q2 ?_;refine aI (by omega) ⟨(((r-tl)%ts:Nat):Int),?_,?_⟩
   .rw[<-Int.ofNat_tmod]
   refine aI (fun z1=> ?_) (fun z2=> ?_)
   .exact absurd (by omega) mt.2
   exact⟨rfl,h.fr⟩
  refine aP h q0 ?_;refine aI (fun d1=> ?_) (fun d2=> ?_)
  .exact hN (lo,m) _ _ ⟨rfl,rfl,rfl,rfl,tV⟩ ⟨by simp only;omega,by simp only;omega,h⟩ (by simp only;omega)
  refine aA (((m+1:Nat):Int)) ?_;exact hN (m+1,hi) _ _ ⟨rfl,rfl,rfl,rfl,tV⟩ ⟨by simp only;omega,by simp only;omega,h⟩ (by simp only;omega)
 refine aP h q0 ?_;refine aI (fun d1=> ?_) (fun d2=> ?_)
 .exact hN (lo,m) _ _ ⟨rfl,rfl,rfl,rfl,tV⟩ ⟨by simp only;omega,by simp only;omega,h⟩ (by simp only;omega)
 refine aA (((m+1:Nat):Int)) ?_;exact hN (m+1,hi) _ _ ⟨rfl,rfl,rfl,rfl,tV⟩ ⟨by simp only;omega,by simp only;omega,h⟩ (by simp only;omega)
structure G6(M:Mem)(Tb oT R o c:Nat):Prop where
 ptr:M.cell 1 0=some (.pointer (some ⟨Tb,oT,none⟩))
 r16:M.cell Tb oT=some (.slice (some ⟨R,o,none⟩) upperT.r16.size c)
 cap:upperT.r16.size<=c
 off:M.cell Tb (oT+2)=some (.int .i64 (upperT.off:Int))
 rows:∀i,i<upperT.r16.size->M.cell R (o+i*3)=some (.int .u16 (upperT.r16.getD i (0,0,0)).1)/\M.cell R (o+i*3+1)=some (.int .u16 (upperT.r16.getD i (0,0,0)).2.1)/\M.cell R (o+i*3+2)=some (.int .u16 (upperT.r16.getD i (0,0,0)).2.2)
theorem Tz:100<upperT.r16.size/\upperT.r16.size<=1000/\upperT.off=3:=by decide+kernel
theorem zfG:(upperT.r16.getD (upperT.r16.size-1) (0,0,0)).2.1=65338:=by decide+kernel
theorem zfH:∀r∈[453,19990],((List.range upperT.r16.size).all fun i=> !(decide ((upperT.r16.getD i (0,0,0)).1<=r)&&decide (r<=(upperT.r16.getD i (0,0,0)).2.1))||(decide (1<(upperT.r16.getD i (0,0,0)).2.2)&&decide ((r-(upperT.r16.getD i (0,0,0)).1)%(upperT.r16.getD i (0,0,0)).2.2≠0)))=true:=by decide+kernel
theorem XR(hU:G6 M Tb oT R o c)(hr:r∈[453,19990])(hM:M.Le (Wm w0)):az prog 210 [.pointer (some ⟨Tb,oT,none⟩),.int .i32 (r:Int)] w0 fun q w'=>q= .bool false/\Fr [] w0 w':=by
 have h:=SH.start hM;have xf:255<r/\r<65338:=by
  rcases qan.1 hr with rfl|hr
  .decide
  rw[qac.1 hr];decide
 obtain⟨z1,z2,z3⟩:=Tz;have ua:=zfG;have bz:=zfH r hr;obtain⟨hp,HW,wQ,xe,FI⟩:=hU;rw[z3]at xe;obtain⟨n,hn⟩:∃n,n=upperT.r16.size:=⟨_,rfl⟩;obtain⟨T,hT⟩:∃T:Nat->Nat×Nat×Nat,T=fun i=>upperT.r16.getD i (0,0,0):=⟨_,rfl⟩;have Oc:∀i,upperT.r16.getD i (0,0,0)=T i:=fun i=>by rw[hT]
 rw[<-hn]at z1 z2 HW wQ FI ua bz;simp only[Oc]at FI ua bz;clear hT Oc hn z3;have IL:=(FI (n-1) (by omega)).2.1;have zaM:∀w,M.Le (Wm w)->az prog 231 [.slice (some ⟨R,o+3*3,none⟩) (n-3) (c-3),.int .u16 (r:Int)] w fun q w'=>q= .bool false/\Fr [] w w':=fun w hw=>by
  refine zcy (T:=fun i=>T (3+i)) (by omega) (by omega) xf.1 (by omega) (fun i hi=> ?_) (fun i hi g1 g2=> ?_) hw
  .have:=FI (3+i) (by omega);rw[show o+(3+i)*3=o+3*3+i*3 by omega]at this;exact this
  have:=qaW.1 bz (3+i) (qaz.2 (by omega));rw[qaH g1,qaH g2]at this;simpa using this
 refine aL mixed func210 VH ?_;refine aP h HW ?_;refine aP h xe ?_;refine aI (fun l1=> ?_) (fun l2=> ?_);rotate_left 1
 .omega
 refine⟨(r:Int),GU (by omega) (by omega),?_⟩;refine aA (((n-1:Nat):Int)) ?_;refine aJ ((n-1)) ?_;refine aP h IL ?_;refine⟨((T (n-1)).2.1:Int),GU (by omega) (by omega),?_⟩;refine aI (fun l3=> ?_) (fun l4=> ?_);rotate_left 1
 .omega
 refine⟨3,n,⟨rfl,rfl,by omega,by omega⟩,?_⟩;rw[if_neg (show ¬c=3 by omega)];rw[show(some (⟨R,o,none⟩:Addr)).map (fun x=>x.add (3*3))=some ⟨R,o+3*3,none⟩ by simp[qb2]];refine⟨(r:Int),TQ (by omega) (by omega),?_⟩;refine s_call h (zaM _ h.le) ?_;clear h;rintro _ w rfl h;exact⟨rfl,h.fr⟩
theorem Tx(hU:G6 M Tb oT R o c)(hr:r∈[453,19990])(hM:M.Le (Wm w0)):az prog 175 [.int .i32 (r:Int)] w0 fun q w'=>q= .bool false/\Fr [] w0 w':=by
 have h:=SH.start hM;have xf:255<r/\r<65338:=by
  rcases qan.1 hr with rfl|hr
  .decide
  rw[qac.1 hr];decide
 refine aL mixed func175 MC ?_;refine⟨(r:Int),GU (by omega) (by omega),?_⟩;refine aI (fun l1=> ?_) (fun l2=> ?_)
 .omega
 refine aP h hU.ptr ?_;refine s_call h (XR hU hr h.le) ?_;clear h;rintro _ w rfl h;exact⟨rfl,h.fr⟩
structure BX(M:Mem):Prop where
 pr:∀c,c<256->M.cell 0 c=some (.int .u8 (propertiesTab.getD c 0))
 f2:∀c∈[195,199],M.cell 5 c=some (.int .u8 2)
 f3:M.cell 5 228=some (.int .u8 3)
 ac:Rw M 6 0 [.int .u8 128,.int .u8 191]
 up:∃Tb oT R o c,G6 M Tb oT R o c
theorem Cy{r k:Int}(c1:∀w,M.Le (Wm w)->az prog 174 [.string s] w fun q w'=>q= .tuple #[.int .i32 r,.int .i64 k]/\Fr [] w w')
 (c2:∀w,M.Le (Wm w)->az prog 175 [.int .i32 r] w fun q w'=>q= .bool b/\Fr [] w w') (hM:M.Le (Wm w0)):az prog 123 [.string s] w0 fun q w'=>q= .bool b/\Fr [] w0 w':=by
 have h:=SH.start hM;refine aL mixed func123 Vb ?_;refine s_call h (c1 _ h.le) ?_;clear h;rintro _ w rfl h;refine s_call h (c2 _ h.le) ?_;clear h;rintro _ w rfl h;exact⟨rfl,h.fr⟩
theorem BX.low(h:BX M)(h0:0<s.size)(hc:((s[0]'h0).toNat:Nat)=c)(NT:c<128)(hb:decide (bits .and .u8 (propertiesTab.getD c 0) 96=32)=b)(hM:M.Le (Wm w0)):
 az prog 123 [.string s] w0 fun q w'=>q= .bool b/\Fr [] w0 w':=
 Cy (r:=(c:Int)) (k:=1) (fun w hw=>Xs h0 hc NT) (fun w hw=>LK (by omega) (h.pr c (by omega)) hb hw) hM
theorem BX.jt(h:BX M):fA M:=fun w hw n hn=>by
 obtain⟨Tb,oT,R,o,c,hU⟩:=h.up;have h0:=hn.1;have h1:=hn.2;have key:∀i:Nat,i<16->az prog 123 [.string (bZ (i:Int))] w fun r w'=>r= .bool (exported (i:Int))/\Fr [] w w':=fun i hi=>by
  match i,hi with
  |0,_=>exact h.low (c:=97) (by decide) (by decide) (by decide) (by decide+kernel) hw
  |1,_=>exact h.low (c:=98) (by decide) (by decide) (by decide) (by decide+kernel) hw
  |2,_=>exact h.low (c:=99) (by decide) (by decide) (by decide) (by decide+kernel) hw
  |3,_=>exact h.low (c:=120) (by decide) (by decide) (by decide) (by decide+kernel) hw
  |4,_=>exact h.low (c:=65) (by decide) (by decide) (by decide) (by decide+kernel) hw
  |5,_=>exact h.low (c:=66) (by decide) (by decide) (by decide) (by decide+kernel) hw
  |6,_=>exact h.low (c:=67) (by decide) (by decide) (by decide) (by decide+kernel) hw
  |7,_=>exact h.low (c:=88) (by decide) (by decide) (by decide) (by decide+kernel) hw
  |8,_=>exact h.low (c:=95) (by decide) (by decide) (by decide) (by decide+kernel) hw
  |9,_=>exact Cy (fun w hw=>Xu (h.f2 195 (by decide)) h.ac hw) (fun w hw=>LK (r:=233) (by decide) (h.pr 233 (by decide)) (by decide+kernel) hw) hw
  |10,_=>exact Cy (fun w hw=>Xv (h.f2 195 (by decide)) h.ac hw) (fun w hw=>LK (r:=201) (by decide) (h.pr 201 (by decide)) (by decide+kernel) hw) hw
  |11,_=>exact Cy (fun w hw=>Xt (h.f2 199 (by decide)) h.ac hw) (fun w hw=>Tx (r:=453) hU (by decide) hw) hw
  |12,_=>exact Cy (fun w hw=>Xw h.f3 h.ac hw) (fun w hw=>Tx (r:=19990) hU (by decide) hw) hw
  |13,_=>exact h.low (c:=84) (by decide) (by decide) (by decide) (by decide+kernel) hw
  |14,_=>exact h.low (c:=83) (by decide) (by decide) (by decide) (by decide+kernel) hw
  |15,_=>exact h.low (c:=69) (by decide) (by decide) (by decide) (by decide+kernel) hw
  |j+16,hj=>omega
 have:=key n.toNat (by omega)
 rwa [show((n.toNat:Nat):Int)=n by omega]at this
end
end
section
open Go.Shelf Go.Lib
def Gg:Ren:=⟨fun k=>k,fun k=>if k=138 then 431 else if k=139 then 432 else if k=119 then 405 else if k=49 then 411 else if k=51 then 212 else if k=141 then 407 else if k=193 then 433 else if k=194 then 434 else if k=196 then 436 else if k=198 then 438 else if k=201 then 441 else k,fun k=>if k=3 then 5 else if k=4 then 6 else k⟩
theorem zfD:U8Types prog Gg:=by constructor<;>kernel_rfl
theorem zfC:U8Extra prog Gg:=by constructor<;>kernel_rfl
theorem zel:RTypes prog Gg:=by constructor<;>kernel_rfl
theorem zek:RExtra prog Gg:=by constructor<;>kernel_rfl
theorem Ul:(Rows.laid_unicode_utf8_acceptRanges:DataW Unit)=acceptData:=by kernel_rfl
theorem zec:(Rows.laid_unicode_properties:DataW Unit)=tabData .u8 propertiesTab:=by kernel_rfl
theorem zfi:firstT 195=2/\firstT 199=2/\firstT 228=3/\accLo 0=128/\accHi 0=191:=by decide
theorem S9{W:World}(h:laidMetH prog Rows.fnMethodSetUptoRow.laid W):BX (Wm W):=by
 rw[MakeChecks.laidMetH_plain _ _ _ (by kernel_rfl)]at h;have r1:VarReads prog W "unicode/utf8.acceptRanges" acceptData:=Ul▸laidMet.reads h (n:= "unicode/utf8.acceptRanges") (d:=Rows.laid_unicode_utf8_acceptRanges) (by simp[Rows.fnMethodSetUptoRow]);have r2:VarReads prog W "unicode.properties" (tabData .u8 propertiesTab):=zec▸laidMet.reads h (n:= "unicode.properties") (d:=Rows.laid_unicode_properties) (by simp[Rows.fnMethodSetUptoRow]);have r3:VarReads prog W "unicode/utf8.first" firstData:=Pinned.utf8First_eq▸laidMet.reads h (n:= "unicode/utf8.first") (d:=Rows.laid_unicode_utf8_first) (by simp[Rows.fnMethodSetUptoRow]);have r4:VarReads prog W "unicode.Upper" (rtabData upperT):=Pinned.upper_eq▸laidMet.reads h (n:= "unicode.Upper") (d:=Rows.laid_unicode_Upper) (by simp[Rows.fnMethodSetUptoRow]);obtain⟨f1,f2⟩:=utf8Tabs_of_readsT zfD zfC r3 r1;obtain⟨Tb,oT,hp,a16,a32,T6,o16,Ho,R32,o32,MD,k0,k1,k2,h1,h2,t1,t2,hc⟩:=rvar_of_readsT zel zek (g:=1) (by kernel_rfl) (by kernel_rfl) r4;obtain⟨z1,z2,z3,z4,z5⟩:=zfi;refine⟨fun c hc=> ?_,fun c hc=> ?_,?_,fun i v hi=> ?_,Tb,oT,T6,o16,Ho,hp,?_,hc,k2,t1⟩
 .obtain⟨g,t,cs,fuel,p,hg,bA,zce,hd⟩:=r2;obtain rfl:=qaF ((show prog.globalNamed "unicode.properties" =some 0 by kernel_rfl).symm.trans hg);obtain rfl:=qaF ((show(prog.globals[0]?).map (·.type)=some 405 by kernel_rfl).symm.trans bA);have d9:=cells_of_tab (e:=5) (n:=256) (by kernel_rfl) (by kernel_rfl) (by kernel_rfl) (by kernel_rfl) hd;show W.cell? ⟨0,c,none⟩=_;rw[World.var?_cell hg zce c,<-qbv,d9];have hl:=propertiesTab_length;rw[qaE,qaa (by omega),qaV,qaa (by omega)];rfl
 .rcases qan.1 hc with rfl|hc
  .have:=f1 195 (by decide);rw[z1]at this;exact this
  have:=f1 199 (by decide);rw[z2]at this;rw[qac.1 hc];exact this
 .have:=f1 228 (by decide);rw[z3]at this;exact this
 .have:=f2 0 (by decide);rw[z4,z5]at this
  match i,hi with
  |0,hi=>cases hi;exact this.1
  |1,hi=>cases hi;exact this.2
 rw[<-h1 (by have:=Tz.1;omega)];exact k0
end
section
variable {w0:World}{M:Mem}
theorem zfx(hM:M.Le (Wm w0)):az prog 97 [.int .i64 2] w0 fun r w'=>∃M' b i nm,r=vp b/\Bk M' b [.int .i64 2,.int .i64 i,.string nm]/\Gr M w0 M' w':=by
 have h:=SH.start hM;refine aL mixed func97 Hs ?_;refine au h ?_;clear h;intro b5 w h;replace h:=h.tail;refine au h ?_;clear h;intro b7 w h;replace h:=h.tail;refine au (cs:=[.int .i64 2,.int .i64 2,.string ⟨#[105,110,116]⟩]) h ?_;clear h;intro b9 w h;refine au h ?_;clear h;intro fJ w h;replace h:=h.tail;refine au h ?_;clear h;intro dv w h;replace h:=h.tail;refine au h ?_;clear h;intro x8 w h;replace h:=h.tail;refine au h ?_;clear h;intro x9 w h;replace h:=h.tail;refine au h ?_;clear h;intro x_ w h;replace h:=h.tail;refine au h ?_;clear h;intro l_ w h;replace h:=h.tail;refine au h ?_;clear h;intro B0 w h;replace h:=h.tail;refine au h ?_;clear h;intro B3 w h;replace h:=h.tail;refine au h ?_;clear h;intro B4 w h;replace h:=h.tail;refine au h ?_;clear h;intro B5 w h;replace h:=h.tail;refine au h ?_;clear h;intro B6 w h;replace h:=h.tail;refine au h ?_;clear h;intro B7 w h;replace h:=h.tail;refine au h ?_;clear h;intro z_ w h;replace h:=h.tail;refine au h ?_;clear h;intro Aa w h;replace h:=h.tail;refine au h ?_;clear h;intro wy w h;replace h:=h.tail;refine au h ?_;clear h;intro B8 w h;replace h:=h.tail;refine au h ?_;clear h;intro B9 w h;replace h:=h.tail;refine au h ?_;clear h;intro B_ w h;replace h:=h.tail;refine au h ?_;clear h;intro Ca w h;replace h:=h.tail;refine au h ?_;clear h;intro Cb w h;replace h:=h.tail;refine au h ?_;clear h;intro Cc w h;replace h:=h.tail;refine au h ?_;clear h;intro Cd w h;replace h:=h.tail;refine au h ?_;clear h;intro Ce w h;replace h:=h.tail;refine au (cs:=[vp b5,vp b7,vp b9,vp fJ,vp dv,vp x8,vp x9,vp x_,vp l_,vp B0,vp B3,vp B4,vp B5,vp B6,vp B7,vp z_,vp Aa,vp wy,vp B8,vp B9,vp B_,vp Ca,vp Cb,vp Cc,vp Cd,vp Ce]) h ?_;clear h;intro Mp w h;refine aJ 2 ?_;refine ak (v:=vp b9) h ?_;exact qbd (h.dA b9) fun M' hx=>⟨M',b9,_,_,rfl,hx.2.1,hx.2.2.gr⟩
theorem zfy(hM:M.Le (Wm w0)):az prog 97 [.int .i64 17] w0 fun r w'=>∃M' b i nm,r=vp b/\Bk M' b [.int .i64 17,.int .i64 i,.string nm]/\Gr M w0 M' w':=by
 have h:=SH.start hM;refine aL mixed func97 Hs ?_;refine au h ?_;clear h;intro b5 w h;replace h:=h.tail;refine au h ?_;clear h;intro b7 w h;replace h:=h.tail;refine au h ?_;clear h;intro b9 w h;replace h:=h.tail;refine au h ?_;clear h;intro fJ w h;replace h:=h.tail;refine au h ?_;clear h;intro dv w h;replace h:=h.tail;refine au h ?_;clear h;intro x8 w h;replace h:=h.tail;refine au h ?_;clear h;intro x9 w h;replace h:=h.tail;refine au h ?_;clear h;intro x_ w h;replace h:=h.tail;refine au h ?_;clear h;intro l_ w h;replace h:=h.tail;refine au h ?_;clear h;intro B0 w h;replace h:=h.tail;refine au h ?_;clear h;intro B3 w h;replace h:=h.tail;refine au h ?_;clear h;intro B4 w h;replace h:=h.tail;refine au h ?_;clear h;intro B5 w h;replace h:=h.tail;refine au h ?_;clear h;intro B6 w h;replace h:=h.tail;refine au h ?_;clear h;intro B7 w h;replace h:=h.tail;refine au h ?_;clear h;intro z_ w h;replace h:=h.tail;refine au h ?_;clear h;intro Aa w h;replace h:=h.tail;refine au (cs:=[.int .i64 17,.int .i64 32,.string ⟨#[115,116,114,105,110,103]⟩]) h ?_;clear h;intro wy w h;refine au h ?_;clear h;intro B8 w h;replace h:=h.tail;refine au h ?_;clear h;intro B9 w h;replace h:=h.tail;refine au h ?_;clear h;intro B_ w h;replace h:=h.tail;refine au h ?_;clear h;intro Ca w h;replace h:=h.tail;refine au h ?_;clear h;intro Cb w h;replace h:=h.tail;refine au h ?_;clear h;intro Cc w h;replace h:=h.tail;refine au h ?_;clear h;intro Cd w h;replace h:=h.tail;refine au h ?_;clear h;intro Ce w h;replace h:=h.tail;refine au (cs:=[vp b5,vp b7,vp b9,vp fJ,vp dv,vp x8,vp x9,vp x_,vp l_,vp B0,vp B3,vp B4,vp B5,vp B6,vp B7,vp z_,vp Aa,vp wy,vp B8,vp B9,vp B_,vp Ca,vp Cb,vp Cc,vp Cd,vp Ce]) h ?_;clear h;intro Mp w h;refine aJ 17 ?_;refine ak (v:=vp wy) h ?_;exact qbd (h.dA wy) fun M' hx=>⟨M',wy,_,_,rfl,hx.2.1,hx.2.2.gr⟩
theorem zfw(hM:M.Le (Wm w0)):az prog 97 [.int .i64 1] w0 fun r w'=>∃M' b i nm,r=vp b/\Bk M' b [.int .i64 1,.int .i64 i,.string nm]/\Gr M w0 M' w':=by
 have h:=SH.start hM;refine aL mixed func97 Hs ?_;refine au h ?_;clear h;intro b5 w h;replace h:=h.tail;refine au (cs:=[.int .i64 1,.int .i64 1,.string ⟨#[98,111,111,108]⟩]) h ?_;clear h;intro b7 w h;refine au h ?_;clear h;intro b9 w h;replace h:=h.tail;refine au h ?_;clear h;intro fJ w h;replace h:=h.tail;refine au h ?_;clear h;intro dv w h;replace h:=h.tail;refine au h ?_;clear h;intro x8 w h;replace h:=h.tail;refine au h ?_;clear h;intro x9 w h;replace h:=h.tail;refine au h ?_;clear h;intro x_ w h;replace h:=h.tail;refine au h ?_;clear h;intro l_ w h;replace h:=h.tail;refine au h ?_;clear h;intro B0 w h;replace h:=h.tail;refine au h ?_;clear h;intro B3 w h;replace h:=h.tail;refine au h ?_;clear h;intro B4 w h;replace h:=h.tail;refine au h ?_;clear h;intro B5 w h;replace h:=h.tail;refine au h ?_;clear h;intro B6 w h;replace h:=h.tail;refine au h ?_;clear h;intro B7 w h;replace h:=h.tail;refine au h ?_;clear h;intro z_ w h;replace h:=h.tail;refine au h ?_;clear h;intro Aa w h;replace h:=h.tail;refine au h ?_;clear h;intro wy w h;replace h:=h.tail;refine au h ?_;clear h;intro B8 w h;replace h:=h.tail;refine au h ?_;clear h;intro B9 w h;replace h:=h.tail;refine au h ?_;clear h;intro B_ w h;replace h:=h.tail;refine au h ?_;clear h;intro Ca w h;replace h:=h.tail;refine au h ?_;clear h;intro Cb w h;replace h:=h.tail;refine au h ?_;clear h;intro Cc w h;replace h:=h.tail;refine au h ?_;clear h;intro Cd w h;replace h:=h.tail;refine au h ?_;clear h;intro Ce w h;replace h:=h.tail;refine au (cs:=[vp b5,vp b7,vp b9,vp fJ,vp dv,vp x8,vp x9,vp x_,vp l_,vp B0,vp B3,vp B4,vp B5,vp B6,vp B7,vp z_,vp Aa,vp wy,vp B8,vp B9,vp B_,vp Ca,vp Cb,vp Cc,vp Cd,vp Ce]) h ?_;clear h;intro Mp w h;refine aJ 1 ?_;refine ak (v:=vp b7) h ?_;exact qbd (h.dA b7) fun M' hx=>⟨M',b7,_,_,rfl,hx.2.1,hx.2.2.gr⟩
end
end Go.Proofs.YtlfcbbcdiecelaaGreatDoor
