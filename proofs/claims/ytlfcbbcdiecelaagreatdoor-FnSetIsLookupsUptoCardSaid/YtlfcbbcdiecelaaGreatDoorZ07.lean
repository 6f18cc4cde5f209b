import Derived.Test.YtlfcbbcdiecelaaGreatDoorZ02
import Derived.Test.YtlfcbbcdiecelaaGreatDoorZ03
namespace Go.Proofs.YtlfcbbcdiecelaaGreatDoor
open Go Go.Proofs.Tryz
set_option maxRecDepth 100000
set_option maxHeartbeats 4000000
set_option linter.all false
section
open Go.MapKept
variable {P:Program}{w:World}{eW kt et:TypeId}{d:TypeDesc}{b bJ:Nat}{es:Array MapEntry}{key z val:Value}{i:TypeInfo}{ok:Bool}{L':List aB}{x kx:Operand}{e:Env}
def bt(es:Array MapEntry):List (Value×Value):=es.toList.map fun e=>(e.key,e.val)
theorem zer(hm:P.underlying eW=some (.map kt et))(hd:P.underlying kt=some d)(hi:P.info? et=some i)(hz:i.zero=some z)
 (hb:w.heap[b]? =some (.map es bJ)) (fh:∀p∈bt es,IsKey d p.1) (hk:IsKey d key):
 (∃v,(key,v)∈bt es/\(Instr.lookup eW (.map (some b)) key ok).run P w= .ok (if ok then .tuple #[v,.bool true]else v) w)\/
 ((∀p∈bt es,p.1≠key)/\(Instr.lookup eW (.map (some b)) key ok).run P w= .ok (if ok then .tuple #[z,.bool false]else z) w):=by
 have yN:∀x∈es.toList,IsKey d x.key:=fun x hx=>fh (x.key,x.val) (qaj.2 ⟨x,hx,rfl⟩);have zh:=xI (P:=P) (w:=w) hi hz;rcases findNow_spec hk es.toList 0 yN with⟨h1,h2⟩|⟨j,e,h1,h2,h3⟩
 .right;refine⟨fun p hp=> ?_,?_⟩
  .obtain⟨x,hx,rfl⟩:=qaj.1 hp;exact h2 x hx
  simp[Instr.lookup,qas hm,Go.MapKept.run_getObj_map hb,run_checkKey hd hk,run_findKey hd h1,zh]
 left;refine⟨e.val,qaj.2 ⟨e,qax h2,by rw[h3]⟩,?_⟩;simp[Instr.lookup,qas hm,Go.MapKept.run_getObj_map hb,run_checkKey hd hk,run_findKey hd h1]
theorem j7.push(h:j7 es bJ):j7 (es.push {key,val,born:=bJ}) (bJ+1):=by
 obtain⟨h1,h2⟩:=h;refine⟨fun x hx=> ?_,?_⟩
 .simp only[qb9,qah,qac]at hx;rcases hx with hx|rfl
  .exact Nat.lt_succ_of_lt (h1 x hx)
  exact qam _
 simp only[qb9,qaq,qaB,qa0];refine qbL.2 ⟨h2,by simp,?_⟩;intro a ha b hb;simp only[qac]at hb;subst hb;obtain⟨x,hx,rfl⟩:=qaj.1 ha;exact Nat.ne_of_lt (h1 x hx)
theorem j7.modify(h:j7 es bJ)(j:Nat)(key val:Value):j7 (es.modify j fun e=>{e with key,val:=val}) bJ:=by
 have hl:(es.modify j fun e=>{e with key,val:=val}).toList.map (·.born)=es.toList.map (·.born):=by
  apply qbe;intro i;simp only[qaE,qbv,qb3];by_cases dc:j=i
  .subst dc;cases he:es[j]? with
   |none=>simp
   |some e=>simp
  simp[dc]
 obtain⟨h1,h2⟩:=h;refine⟨fun x hx=> ?_,by rw[hl];exact h2⟩;have:x.born∈(es.modify j fun e=>{e with key,val:=val}).toList.map (·.born):=qaj.2 ⟨x,hx,rfl⟩;rw[hl]at this;obtain⟨y,hy,he⟩:=qaj.1 this;rw[<-he];exact h1 y hy
structure mM(Kv:List (Value×Value))(key val:Value)(Kw:List (Value×Value)):Prop where
 mem:∀k v,(k,v)∈Kw↔(k=key/\v=val)\/(k≠key/\(k,v)∈Kv)
 nd:(Kv.map (·.1)).Nodup->(Kw.map (·.1)).Nodup
 len:Kw.length<=Kv.length+1
theorem zey(hm:P.underlying eW=some (.map kt et))(hd:P.underlying kt=some d)
 (hb:w.heap[b]? =some (.map es bJ)) (fh:∀p∈bt es,IsKey d p.1) (hk:IsKey d key) (hn:((bt es).map (·.1)).Nodup) (dP:j7 es bJ):
 ∃bP pf,(Instr.mapUpdate eW (.map (some b)) key val).run P w= .ok () {w with heap:=w.heap.setIfInBounds b (.map bP pf)}/\mM (bt es) key val (bt bP)/\j7 bP pf:=by
 have yN:∀x∈es.toList,IsKey d x.key:=fun x hx=>fh (x.key,x.val) (qaj.2 ⟨x,hx,rfl⟩);rcases findNow_spec hk es.toList 0 yN with⟨h1,h2⟩|⟨j,e,h1,h2,h3⟩
 .refine⟨es.push {key,val,born:=bJ},bJ+1,by simp[Instr.mapUpdate,qas hm,Go.MapKept.run_getObj_map hb,run_checkKey hd hk,run_findKey hd h1,run_setObj_map _ hb],⟨?_,?_,?_⟩,dP.push⟩
  .intro k v;simp only[bt,qb9,qaq,qaB,qa0,qah,qac,qby];constructor
   .rintro(h|⟨rfl,rfl⟩)
    .refine .inr ⟨fun ek=> ?_,h⟩;obtain⟨x,hx,xk⟩:=qaj.1 h;simp only[qby]at xk;exact h2 x hx (by rw[xk.1,ek])
    exact .inl ⟨rfl,rfl⟩
   rintro(⟨rfl,rfl⟩|⟨_,h⟩)
   .exact .inr ⟨rfl,rfl⟩
   exact .inl h
  .intro hn;simp only[bt,qb9,qaq,qaB,qa0,qbE]at hn⊢;refine qbL.2 ⟨hn,by simp,?_⟩;intro a ha c hc;simp only[qac]at hc;subst hc;obtain⟨x,hx,rfl⟩:=qaj.1 ha;exact h2 x hx
  simp[bt]
 have hj:es[j]? =some e:=by simpa using h2
 refine⟨es.modify j fun e=>{e with key,val:=val},bJ,by simp[Instr.mapUpdate,qas hm,Go.MapKept.run_getObj_map hb,run_checkKey hd hk,run_findKey hd h1,hj,h3,run_keyThatStays hk,run_setObj_map _ hb],?_,dP.modify _ _ _⟩;have hl:bt (es.modify j fun e=>{e with key,val:=val})=(bt es).set j (key,val):=by
  apply qbe;intro i;simp only[bt,qaE,qbv,qb3,qaX,qat];by_cases dc:j=i
  .subst dc;have aG:j<es.toList.length:=(qab.1 h2).1;have IS:j<es.size:=by simpa using aG
   simp[hj,IS]
  simp[dc]
 have oy:(bt es)[j]? =some (key,e.val):=by simp[bt,hj,h3]
 rw[hl];have IH:((bt es).set j (key,val)).map (·.1)=(bt es).map (·.1):=by
  apply qbe;intro i;rw[qaE,qaE,qaX];by_cases dc:j=i
  .subst dc;have aG:=(qab.1 oy).1;rw[oy];simp[aG]
  simp[dc]
 have aG:j<(bt es).length:=(qab.1 oy).1;have J1:∀i v,(bt es)[i]? =some (key,v)->i=j:=by
  intro i v hi;have hi':=(qab.1 hi).1;refine(qbw (h₀:=by simpa using hi') (h₁:=by simpa using aG) hn).1 ?_;have a1:(bt es)[i]=(key,v):=(qab.1 hi).2;have a2:(bt es)[j]=(key,e.val):=(qab.1 oy).2;simp[a1,a2]
 refine⟨fun k v=> ?_,fun _=>by rw[IH];exact hn,by simp⟩;rw[qbT];constructor
 .rintro⟨i,hi⟩;rw[qaX]at hi;by_cases dc:j=i
  .subst dc;simp[aG]at hi;exact .inl ⟨hi.1.symm,hi.2.symm⟩
  rw[if_neg dc]at hi;refine .inr ⟨fun ek=>dc ?_,qax hi⟩;rw[ek]at hi;exact(J1 i v hi).symm
 rintro(⟨rfl,rfl⟩|⟨aT,hm⟩)
 .exact⟨j,by simp[aG]⟩
 obtain⟨i,hi⟩:=qbT.1 hm;refine⟨i,?_⟩;rw[qaX,if_neg]
 .exact hi
 rintro rfl;rw[oy]at hi;cases hi;exact aT rfl
section
variable {u:World}{M0:Mem}{D:List Nat}{M:Mem}{L:List aB}{w:World}{P:Program}
theorem SH.zo(h:SH u M0 D M L w)(hp:Pk L (.map b es) L'):∃bJ,w.heap[b]? =some (.map es bJ)/\j7 es bJ:=h.ok _ hp.mem
theorem SH.Lm{w':World}{bP:Array MapEntry}(h:SH u M0 D M L w)(hu:Up L (.map b es) (.map b bP) L')(hf:Fr [b] w w')(hb:wo w' b bP)(hM:M.Le (Wm w')):SH u M0 D M L' w':=by
 obtain⟨L1,h1,h2⟩:=hu.pk;have h0:=h.pk h1;exact SH.LH h2 (h0.s6 (e':= .map b bP) hf hb (fun b' aW=> .inl aW) hM (fun b' o hm=>h.off _ h1.mem b' o hm) fun _ hg=>hg.elim)
theorem iE.KU(h:iE w b)(hb:w.heap[b]? =some (.map es bJ)):False:=by
 obtain⟨c,t,h⟩:=h;rw[h]at hb;cases hb
theorem vX{ty:TypeId}{K:Value->World->Prop}(h:SH u M0 D M L w)(hx:ev e x= .map (some b))(ou:ev e kx=key)
 (hm:P.underlying eW=some (.map kt et)) (hd:P.underlying kt=some d) (hi:P.info? et=some i) (hz:i.zero=some z) (fh:∀p∈bt es,IsKey d p.1) (hk:IsKey d key)
 (k1:∀v,(key,v)∈bt es->K (if ok then .tuple #[v,.bool true]else v) w) (k2:(∀p∈bt es,p.1≠key)->K (if ok then .tuple #[z,.bool false]else z) w)
 (hp:Pk L (.map b es) L':=by repeat(first|exact Pk.here|apply Pk.there)):bB P (.gen (.lookup eW x kx ok) ty) e w K:=by
 obtain⟨bJ,hb,_⟩:=h.zo hp;rcases zer (ok:=ok) hm hd hi hz hb fh hk with⟨v,hv,hr⟩|⟨hn,hr⟩
 .exact .inl ⟨_,w,by simp[execOp,hx,ou,hr],k1 v hv⟩
 exact .inl ⟨_,w,by simp[execOp,hx,ou,hr],k2 hn⟩
theorem jN{vx:Operand}{ty:TypeId}{K:Value->World->Prop}(h:SH u M0 D M L w)(hx:ev e x= .map (some b))(ou:ev e kx=key)(Du:ev e vx=val)
 (hm:P.underlying eW=some (.map kt et)) (hd:P.underlying kt=some d) (fh:∀p∈bt es,IsKey d p.1) (hk:IsKey d key) (hn:((bt es).map (·.1)).Nodup)
 (k:∀bP w',mM (bt es) key val (bt bP)->SH u M0 D M (.map b bP::L') w'->K undef w')
 (hp:Pk L (.map b es) L':=by repeat(first|exact Pk.here|apply Pk.there)):bB P (.gen (.mapUpdate eW x kx vx) ty) e w K:=by
 obtain⟨bJ,hb,dP⟩:=h.zo hp;obtain⟨bP,pf,hr,hu,CL⟩:=zey (val:=val) hm hd hb fh hk hn dP;have h0:=h.pk hp;have aG:b<w.heap.size:=(qaM.1 hb).1;have hM:M.Le (Wm {w with heap:=w.heap.setIfInBounds b (.map bP pf)}):=h.le.fr (Fr.set w b _) fun b' aW=>by
  simp only[qac]at aW;subst aW;exact⟨fun o=>h.off _ hp.mem b' o rfl,fun ho=>((h.le.own _ ho).KU hb).elim⟩
 have hk:=k bP _ hu (h0.Lm .here (Fr.set w b _) ⟨pf,by simp[aG],CL⟩ hM);exact Or.inr ⟨_,by simp[execOp,hx,ou,Du,hr],hk⟩
end
end
def YM:ap:=ap.mk (O [Jc 2 (.int .i32 0),Ji 3 0] (.seq (O [J 4 0,D 5 (.fC .neq (T 4) (C (.string ⟨#[]⟩))),J 6 5,Jm 7 6 true 0,Jg 8 6 true (.gen (.index 9 (T 7) (Ci 0)) 5),Jg 9 6 true (.dL .lss (T 8) (C (.int .u8 128))),Jy 10 6 9 false] (.cond (T 10) (O [J 11 0,D 12 (.gen (.index 9 (T 11) (Ci 0)) 5),D 13 (.eA .i32 (T 12)),J 2 13,Ji 3 1] .ret) (.ops [J 15 0,Ja 16 209 [T 15],J 14 16,Je 17 14 0,Je 18 14 1,J 2 17,J 3 18]))) .ret)) [.t 2,.t 3]
theorem Cj:aN prog 1 Tryz.f174=some YM:=by kernel_rfl
def YN:ap:=ap.mk (O [Jc 2 (.bool false)] (.seq (O [J 3 0,D 4 (.eA .u32 (T 3)),D 5 (.dL .leq (T 4) (C (.int .u32 255)))] (.cond (T 5) (O [J 6 0,D 7 (.eA .u8 (T 6)),D 8 (.vH (Operand.global 0) (T 7) 256 1),Jl 9 8,D 10 (.dL .and (T 9) (C (.int .u8 96))),D 11 (.dL .eql (T 10) (C (.int .u8 32))),J 2 11] .ret) .skip)) (O [D 12 (.ld (Operand.global 1)),J 13 0,Ja 14 210 [T 12,T 13],J 2 14] .ret))) [.t 2]
theorem MC:aN prog 1 Tryz.f175=some YN:=by kernel_rfl
def YZ:ap:=ap.mk (O [Jc 2 (.int .i32 0),Ji 3 0] (O [J 13 0,D 14 (.lens (T 13)),J 4 14] (.seq (O [J 15 4,Jk 16 .lss 15 1] (.cond (T 16) (O [Jc 2 (.int .i32 65533),Ji 3 0] .ret) .skip)) (O [J 17 0,D 18 (.gen (.index 9 (T 17) (Ci 0)) 5),J 5 18] (O [J 19 5,D 20 (.vH (Operand.global 5) (T 19) 256 1),Jl 21 20,J 6 21] (.seq (O [J 22 6,D 23 (.dL .geq (T 22) (C (.int .u8 240)))] (.cond (T 23) (O [J 24 6,D 25 (.eA .i32 (T 24)),D 26 (.dL .shl (T 25) (C (.int .u64 31))),D 27 (.dL .shr (T 26) (C (.int .u64 31))),J 7 27] (O [J 28 0,D 29 (.gen (.index 9 (T 28) (Ci 0)) 5),D 30 (.eA .i32 (T 29)),J 31 7,Jb 32 .andNot 30 31,J 33 7,D 34 (.dL .and (C (.int .i32 65533)) (T 33)),Jb 35 .or 32 34,J 2 35,Ji 3 1] .ret)) .skip)) (O [J 36 6,D 37 (.dL .and (T 36) (C (.int .u8 7))),D 38 (.eA .i64 (T 37)),J 8 38] (O [J 39 6,D 40 (.dL .shr (T 39) (C (.int .u64 4))),D 41 (.vH (Operand.global 6) (T 40) 16 2),Jr 42 41 2,D 9 (.new 431 [.int .u8 0,.int .u8 0]),Jv 9 42 2] (.seq (O [J 43 4,J 44 8,Jb 45 .lss 43 44] (.cond (T 45) (O [Jc 2 (.int .i32 65533),Ji 3 1] .ret) .skip)) (O [J 46 0,D 47 (.gen (.index 9 (T 46) (Ci 1)) 5),J 10 47] (.seq (O [J 48 10,Jf 49 9 0,Jl 50 49,Jb 51 .lss 48 50,J 52 51,Jh 53 52 false 9 1,Jd 54 52 false 53,Jm 55 52 false 10,Jq 56 52 false .lss 54 55,Jw 57 52 true 56] (.cond (T 57) (O [Jc 2 (.int .i32 65533),Ji 3 1] .ret) .skip)) (.seq (O [J 58 8,Jk 59 .leq 58 2] (.cond (T 59) (O [J 60 5,D 61 (.dL .and (T 60) (C (.int .u8 31))),D 62 (.eA .i32 (T 61)),D 63 (.dL .shl (T 62) (C (.int .u64 6))),J 64 10,D 65 (.dL .and (T 64) (C (.int .u8 63))),D 66 (.eA .i32 (T 65)),Jb 67 .or 63 66,J 2 67,Ji 3 2] .ret) .skip)) (O [J 68 0,D 69 (.gen (.index 9 (T 68) (Ci 2)) 5),J 11 69] (.seq (O [J 70 11,D 71 (.dL .lss (T 70) (C (.int .u8 128))),J 72 71,Jm 73 72 false 11,Jg 74 72 false (.dL .lss (C (.int .u8 191)) (T 73)),Jw 75 72 true 74] (.cond (T 75) (O [Jc 2 (.int .i32 65533),Ji 3 1] .ret) .skip)) (.seq (O [J 76 8,Jk 77 .leq 76 3] (.cond (T 77) (O [J 78 5,D 79 (.dL .and (T 78) (C (.int .u8 15))),D 80 (.eA .i32 (T 79)),D 81 (.dL .shl (T 80) (C (.int .u64 12))),J 82 10,D 83 (.dL .and (T 82) (C (.int .u8 63))),D 84 (.eA .i32 (T 83)),D 85 (.dL .shl (T 84) (C (.int .u64 6))),Jb 86 .or 81 85,J 87 11,D 88 (.dL .and (T 87) (C (.int .u8 63))),D 89 (.eA .i32 (T 88)),Jb 90 .or 86 89,J 2 90,Ji 3 3] .ret) .skip)) (O [J 91 0,D 92 (.gen (.index 9 (T 91) (Ci 3)) 5),J 12 92] (.seq (O [J 93 12,D 94 (.dL .lss (T 93) (C (.int .u8 128))),J 95 94,Jm 96 95 false 12,Jg 97 95 false (.dL .lss (C (.int .u8 191)) (T 96)),Jw 98 95 true 97] (.cond (T 98) (O [Jc 2 (.int .i32 65533),Ji 3 1] .ret) .skip)) (O [J 99 5,D 100 (.dL .and (T 99) (C (.int .u8 7))),D 101 (.eA .i32 (T 100)),D 102 (.dL .shl (T 101) (C (.int .u64 18))),J 103 10,D 104 (.dL .and (T 103) (C (.int .u8 63))),D 105 (.eA .i32 (T 104)),D 106 (.dL .shl (T 105) (C (.int .u64 12))),Jb 107 .or 102 106,J 108 11,D 109 (.dL .and (T 108) (C (.int .u8 63))),D 110 (.eA .i32 (T 109)),D 111 (.dL .shl (T 110) (C (.int .u64 6))),Jb 112 .or 107 111,J 113 12,D 114 (.dL .and (T 113) (C (.int .u8 63))),D 115 (.eA .i32 (T 114)),Jb 116 .or 112 115,J 2 116,Ji 3 4] .ret)))))))))))))))))) [.t 2,.t 3]
theorem EM:aN prog 1 Tryz.f209=some YZ:=by kernel_rfl
def Y0:ap:=ap.mk (O [Jc 4 (.bool false)] (O [J 8 0,Jn 9 8,Jf 10 9 0,Jl 11 10,J 5 11] (.seq (O [J 12 0,Jn 13 12,Jf 14 13 2,Jl 15 14,J 6 15] (O [J 16 5,Jz 17 16,J 18 6,Jb 19 .gtr 17 18,J 20 19,Jm 21 20 true 1,Jg 22 20 true (.eA .u32 (T 21)),Jm 23 20 true 5,Jm 24 20 true 5,Jg 25 20 true (.len (T 24)),Js 26 20 true .sub 25 1,Jg 27 20 true (.ix (T 23) (T 26) 3),Jh 28 20 true 27 1,Jd 29 20 true 28,Jg 30 20 true (.eA .u32 (T 29)),Jq 31 20 true .leq 22 30,Jy 32 20 31 false] (.cond (T 32) (O [J 33 5,J 34 6,D 35 (.vZ (T 33) (T 34) none 3),J 36 1,D 37 (.eA .u16 (T 36)),Ja 38 231 [T 35,T 37],J 4 38] .ret) .skip))) (O [J 39 0,Jn 40 39,Jf 41 40 1,Jl 42 41,J 7 42] (.seq (O [J 43 7,Jz 44 43,Jk 45 .gtr 44 0,J 46 45,Jm 47 46 true 1,Jm 48 46 true 7,Jg 49 46 true (.ix (T 48) (Ci 0) 3),Jh 50 46 true 49 0,Jd 51 46 true 50,Jg 52 46 true (.eA .i32 (T 51)),Jq 53 46 true .geq 47 52,Jy 54 46 53 false] (.cond (T 54) (O [J 55 7,J 56 1,D 57 (.eA .u32 (T 56)),Ja 58 232 [T 55,T 57],J 4 58] .ret) .skip)) (O [Jc 4 (.bool false)] .ret)))))) [.t 4]
theorem VH:aN prog 2 Tryz.f210=some Y0:=by kernel_rfl
def Y7:ap:=ap.mk (O [Jc 4 (.bool false)] (.seq (O [J 11 0,Jz 12 11,Jk 13 .leq 12 18,J 14 13,Jm 15 14 false 1,Jg 16 14 false (.dL .leq (T 15) (C (.int .u16 255))),Jw 17 14 true 16] (.cond (T 17) (.seq (O [J 18 0,Jz 19 18,Ji 20 0] (.block 0 (.loop (O [Jb 21 .lss 20 19] (.seq (.cond (T 21) .skip (.exit 0)) (.seq (.block 1 (O [J 22 20,J 5 22] (O [J 23 0,J 24 5,Jx 25 23 24 3,J 6 25] (.seq (O [J 26 1,J 27 6,Jn 28 27,Jf 29 28 0,Jl 30 29,Jb 31 .lss 26 30] (.cond (T 31) (O [Jc 4 (.bool false)] .ret) .skip)) (O [J 32 1,J 33 6,Jn 34 33,Jf 35 34 1,Jl 36 35,Jb 37 .leq 32 36] (.cond (T 37) (.seq (.draw (Q4 (J 38 6) (Jn 39 38) (Jf 40 39 2) (Jl 41 40) (Q8 (D 42 (.dL .eql (T 41) (C (.int .u16 1)))) (J 43 42) (Jm 44 43 false 1) (Jm 45 43 false 6) (Jg 46 43 false (.eP (T 45))) (Jh 47 43 false 46 0) (Jd 48 43 false 47) (Jq 49 43 false .sub 44 48) (Q8 (Jm 50 43 false 6) (Jg 51 43 false (.eP (T 50))) (Jh 52 43 false 51 2) (Jd 53 43 false 52) (Jq 54 43 false .rem 49 53) (Jg 55 43 false (.dL .eql (T 54) (C (.int .u16 0)))) (Jw 56 43 true 55) (J 4 56) .done)))) .ret) .skip)))))) (.ops [Jk 57 .add 20 1,J 20 57]))))))) (O [Jc 4 (.bool false)] .ret)) .skip)) (O [Ji 7 0] (O [J 58 0,Jz 59 58,J 8 59] (.seq (.block 2 (.loop (.seq (O [J 60 7,J 61 8,Jb 62 .lss 60 61] (.cond (T 62) .skip (.exit 2))) (.block 3 (O [J 63 7,J 64 8,Jb 65 .add 63 64,D 66 (.eA .u64 (T 65)),D 67 (.dL .shr (T 66) (C (.int .u64 1))),D 68 (.eA .i64 (T 67)),J 9 68] (O [J 69 0,J 70 9,Jx 71 69 70 3,J 10 71] (.seq (O [J 72 10,Jn 73 72,Jf 74 73 0,Jl 75 74,J 76 1,Jb 77 .leq 75 76,J 78 77,Jm 79 78 true 1,Jm 80 78 true 10,Jg 81 78 true (.eP (T 80)),Jh 82 78 true 81 1,Jd 83 78 true 82,Jq 84 78 true .leq 79 83,Jy 85 78 84 false] (.cond (T 85) (.seq (.draw (Q4 (J 86 10) (Jn 87 86) (Jf 88 87 2) (Jl 89 88) (Q8 (D 90 (.dL .eql (T 89) (C (.int .u16 1)))) (J 91 90) (Jm 92 91 false 1) (Jm 93 91 false 10) (Jg 94 91 false (.eP (T 93))) (Jh 95 91 false 94 0) (Jd 96 91 false 95) (Jq 97 91 false .sub 92 96) (Q8 (Jm 98 91 false 10) (Jg 99 91 false (.eP (T 98))) (Jh 100 91 false 99 2) (Jd 101 91 false 100) (Jq 102 91 false .rem 97 101) (Jg 103 91 false (.dL .eql (T 102) (C (.int .u16 0)))) (Jw 104 91 true 103) (J 4 104) .done)))) .ret) .skip)) (O [J 105 1,J 106 10,Jn 107 106,Jf 108 107 0,Jl 109 108,Jb 110 .lss 105 109] (.cond (T 110) (.ops [J 111 9,J 8 111]) (.ops [J 112 9,Jk 113 .add 112 1,J 7 113])))))))))) (O [Jc 4 (.bool false)] .ret)))))) [.t 4]
theorem VQ:aN prog 2 Tryz.f231=some Y7:=by kernel_rfl
section
open Go.MapKept
variable {P:Program}{w:World}{kt eW et te ty:TypeId}{k key z val:Value}{b bJ:Nat}{es:Array MapEntry}{i j:TypeInfo}{ok:Bool}{e:Env}{x kx:Operand}{L':List aB}
structure KL(P:Program)(w:World)(kt:TypeId)(K:Value->Prop):Prop where
 Cl:∀v em,K v->(Instr.checkKey em 10000 kt v).run P w= .ok () w
 kind:∃d,P.underlying kt=some d/\∀a b,K a->K b->Instr.sameNow d a b=none
 eq:∀a b,K a->K b->∃r,(Op.equal kt a b).run P w= .ok r w/\(r=true↔a=b)
 bits:∀v,K v->Instr.sameBits 10000 v v=true
theorem KL.Mn{K:Value->Prop}(L:KL P w kt K)(hk:K k):∀(l:List MapEntry) (i:Nat),(∀x∈l,K x.key)->
 ((Instr.findAsking kt k l i).run P w= .ok none w/\∀x∈l,x.key≠k)\/∃j e,(Instr.findAsking kt k l i).run P w= .ok (some (i+j,e.val)) w/\l[j]? =some e/\e.key=k
 |[],_,_=> .inl ⟨rfl,by simp⟩
 |e::es,i,h=>by
  obtain⟨r,hr,wY⟩:=L.eq k e.key hk (h e (.head _));cases r with
  |true=>exact .inr ⟨0,e,by simp[Instr.findAsking,hr],rfl,(wY.1 rfl).symm⟩
  |false=>
   have aT:e.key≠k:=fun q=>by have:=wY.2 q.symm;cases this
   rcases L.Mn hk es (i+1) (fun x hx=>h x (.tail _ hx))with⟨h1,h2⟩|⟨j,e',h1,h2,h3⟩
   .exact .inl ⟨by simp[Instr.findAsking,hr,h1],fun x hx=>by
     cases hx with
     |head=>exact aT
     |tail _ hx=>exact h2 x hx⟩
   exact .inr ⟨j+1,e',by simp[Instr.findAsking,hr,h1];omega,by simpa using h2,h3⟩
theorem KL.find{K:Value->Prop}(L:KL P w kt K)(hk:K k)(l:List MapEntry)(h:∀x∈l,K x.key):
 ((Instr.findKey kt k l).run P w= .ok none w/\∀x∈l,x.key≠k)\/∃(j:Nat) (e:MapEntry),(Instr.findKey kt k l).run P w= .ok (some (j,e.val)) w/\l[j]? =some e/\e.key=k:=by
 obtain⟨d,hd,hs⟩:=L.kind;cases l with
 |nil=>exact .inl ⟨run_findKey hd rfl,by simp⟩
 |cons x r=>
  have hn:Instr.findNow d k (x::r) 0=none:=by simp[Instr.findNow,hs k x.key hk (h x (.head _))]
  have e:(Instr.findKey kt k (x::r)).run P w=(Instr.findAsking kt k (x::r) 0).run P w:=by simp[Instr.findKey,qas hd,hn]
  rw[e];rcases L.Mn hk (x::r) 0 h with h1|⟨j,e,h1,h2⟩
  .exact .inl h1
  exact .inr ⟨j,e,by simpa using h1,h2⟩
theorem KL.lookup{K:Value->Prop}(L:KL P w kt K)(hm:P.underlying eW=some (.map kt et))(hi:P.info? et=some i)(hz:i.zero=some z)
 (hb:w.heap[b]? =some (.map es bJ)) (fh:∀p∈bt es,K p.1) (hk:K key):
 (∃v,(key,v)∈bt es/\(Instr.lookup eW (.map (some b)) key ok).run P w= .ok (if ok then .tuple #[v,.bool true]else v) w)\/
 ((∀p∈bt es,p.1≠key)/\(Instr.lookup eW (.map (some b)) key ok).run P w= .ok (if ok then .tuple #[z,.bool false]else z) w):=by
 have yN:∀x∈es.toList,K x.key:=fun x hx=>fh (x.key,x.val) (qaj.2 ⟨x,hx,rfl⟩);have zh:=xI (P:=P) (w:=w) hi hz;rcases L.find hk es.toList yN with⟨h1,h2⟩|⟨j,e,h1,h2,h3⟩
 .right;refine⟨fun p hp=> ?_,?_⟩
  .obtain⟨x,hx,rfl⟩:=qaj.1 hp;exact h2 x hx
  simp[Instr.lookup,qas hm,Go.MapKept.run_getObj_map hb,L.Cl _ _ hk,h1,zh]
 left;refine⟨e.val,qaj.2 ⟨e,qax h2,by rw[h3]⟩,?_⟩;simp[Instr.lookup,qas hm,Go.MapKept.run_getObj_map hb,L.Cl _ _ hk,h1]
theorem KL.zcU{K:Value->Prop}(L:KL P w kt K)(hm:P.underlying eW=some (.map kt et))(hi:P.info? et=some i)(hz:i.zero=some z)(hk:K key):
 (Instr.lookup eW (.map none) key ok).run P w= .ok (if ok then .tuple #[z,.bool false]else z) w:=by
 have zh:=xI (P:=P) (w:=w) hi hz;have hf:(Instr.findKey kt key []).run P w= .ok none w:=by
  rcases L.find hk [] (by simp)with⟨h1,_⟩|⟨j,e,_,h2,_⟩
  .exact h1
  simp at h2
 simp[Instr.lookup,qas hm,L.Cl _ _ hk,hf,zh]
theorem mM.push{bJ:Nat}(h2:∀x∈es.toList,x.key≠key):mM (bt es) key val (bt (es.push {key,val,born:=bJ})):=by
 refine⟨?_,?_,?_⟩
 .intro k v;simp only[bt,qb9,qaq,qaB,qa0,qah,qac,qby];constructor
  .rintro(h|⟨rfl,rfl⟩)
   .refine .inr ⟨fun ek=> ?_,h⟩;obtain⟨x,hx,xk⟩:=qaj.1 h;simp only[qby]at xk;exact h2 x hx (by rw[xk.1,ek])
   exact .inl ⟨rfl,rfl⟩
  rintro(⟨rfl,rfl⟩|⟨_,h⟩)
  .exact .inr ⟨rfl,rfl⟩
  exact .inl h
 .intro hn;simp only[bt,qb9,qaq,qaB,qa0,qbE]at hn⊢;refine qbL.2 ⟨hn,by simp,?_⟩;intro a ha c hc;simp only[qac]at hc;subst hc;obtain⟨x,hx,rfl⟩:=qaj.1 ha;exact h2 x hx
 simp[bt]
theorem mM.modify{j:Nat}{e:MapEntry}(h2:es.toList[j]? =some e)(h3:e.key=key)(hn:((bt es).map (·.1)).Nodup):mM (bt es) key val (bt (es.modify j fun e=>{e with key,val:=val})):=by
 have hj:es[j]? =some e:=by simpa using h2
 have hl:bt (es.modify j fun e=>{e with key,val:=val})=(bt es).set j (key,val):=by
  apply qbe;intro i;simp only[bt,qaE,qbv,qb3,qaX,qat];by_cases dc:j=i
  .subst dc;have aG:j<es.toList.length:=(qab.1 h2).1;have IS:j<es.size:=by simpa using aG
   simp[hj,IS]
  simp[dc]
 have oy:(bt es)[j]? =some (key,e.val):=by simp[bt,hj,h3]
 rw[hl];have IH:((bt es).set j (key,val)).map (·.1)=(bt es).map (·.1):=by
  apply qbe;intro i;rw[qaE,qaE,qaX];by_cases dc:j=i
  .subst dc;have aG:=(qab.1 oy).1;rw[oy];simp[aG]
  simp[dc]
 have aG:j<(bt es).length:=(qab.1 oy).1;have J1:∀i v,(bt es)[i]? =some (key,v)->i=j:=by
  intro i v hi;have hi':=(qab.1 hi).1;refine(qbw (h₀:=by simpa using hi') (h₁:=by simpa using aG) hn).1 ?_;have a1:(bt es)[i]=(key,v):=(qab.1 hi).2;have a2:(bt es)[j]=(key,e.val):=(qab.1 oy).2;simp[a1,a2]
 refine⟨fun k v=> ?_,fun _=>by rw[IH];exact hn,by simp⟩;rw[qbT];constructor
 .rintro⟨i,hi⟩;rw[qaX]at hi;by_cases dc:j=i
  .subst dc;simp[aG]at hi;exact .inl ⟨hi.1.symm,hi.2.symm⟩
  rw[if_neg dc]at hi;refine .inr ⟨fun ek=>dc ?_,qax hi⟩;rw[ek]at hi;exact(J1 i v hi).symm
 rintro(⟨rfl,rfl⟩|⟨aT,hm⟩)
 .exact⟨j,by simp[aG]⟩
 obtain⟨i,hi⟩:=qbT.1 hm;refine⟨i,?_⟩;rw[qaX,if_neg]
 .exact hi
 rintro rfl;rw[oy]at hi;cases hi;exact aT rfl
theorem KL.update{K:Value->Prop}(L:KL P w kt K)(hm:P.underlying eW=some (.map kt et))
 (hb:w.heap[b]? =some (.map es bJ)) (fh:∀p∈bt es,K p.1) (hk:K key) (hn:((bt es).map (·.1)).Nodup) (dP:j7 es bJ):
 ∃bP pf,(Instr.mapUpdate eW (.map (some b)) key val).run P w= .ok () {w with heap:=w.heap.setIfInBounds b (.map bP pf)}/\mM (bt es) key val (bt bP)/\j7 bP pf:=by
 have yN:∀x∈es.toList,K x.key:=fun x hx=>fh (x.key,x.val) (qaj.2 ⟨x,hx,rfl⟩);rcases L.find hk es.toList yN with⟨h1,h2⟩|⟨j,e,h1,h2,h3⟩
 .exact⟨es.push {key,val,born:=bJ},bJ+1,by simp[Instr.mapUpdate,qas hm,Go.MapKept.run_getObj_map hb,L.Cl _ _ hk,h1,run_setObj_map _ hb],mM.push h2,dP.push⟩
 have hj:es[j]? =some e:=by simpa using h2
 exact⟨es.modify j fun e=>{e with key,val:=val},bJ,by simp[Instr.mapUpdate,qas hm,Go.MapKept.run_getObj_map hb,L.Cl _ _ hk,h1,hj,h3,Instr.keyThatStays,L.bits _ hk,run_setObj_map _ hb],mM.modify h2 h3 hn,dP.modify _ _ _⟩
def zO(w:World)(v:Value):Prop:=∃b,v= .pointer (some ⟨b,0,none⟩)/\iE w b
def Em(P:Program)(w:World)(v:Value):Prop:=∃t b,v= .iface t (.pointer (some ⟨b,0,none⟩))/\iE w b/\nO P t=true
theorem Nf(hp:P.underlying kt=some (.pointer te))(oG:P.info? te=some j)(dF:Nat.beq j.size 0=false){a:Nat}(ha:iE w a)(hb:iE w b):
 ∃r,(∀d,(Op.equalIn (d+1) kt (.pointer (some ⟨a,0,none⟩)) (.pointer (some ⟨b,0,none⟩))).run P w= .ok r w)/\(r=true↔(Value.pointer (some ⟨a,0,none⟩))= .pointer (some ⟨b,0,none⟩)):=
 Li (KB:=fun r=>(r=true↔(Value.pointer (some ⟨a,0,none⟩))= .pointer (some ⟨b,0,none⟩))) hp oG dF ⟨.inr ⟨ha,hb⟩,fun h=>by simp[h],fun h=>by simpa using h⟩
theorem QJ(hp:P.underlying kt=some (.pointer te))(oG:P.info? te=some j)(dF:Nat.beq j.size 0=false):KL P w kt (zO w):=by
 refine⟨?_,⟨_,hp,?_⟩,?_,?_⟩
 .rintro _ em ⟨b,rfl,hb⟩;show(Instr.checkKey em (9999+1) kt _).run P w=_;unfold Instr.checkKey;simp[qas hp]
 .rintro _ _ ⟨a,rfl,_⟩ ⟨b,rfl,_⟩;rfl
 .rintro _ _ ⟨a,rfl,ha⟩ ⟨b,rfl,hb⟩;obtain⟨r,h1,h2⟩:=Nf hp oG dF ha hb;exact⟨r,h1 9999,h2⟩
 rintro _ ⟨b,rfl,_⟩;simp[Instr.sameBits]
theorem zcK{ms:Array (String×TypeId)}(hi:P.underlying kt=some (.interface ms)):KL P w kt (Em P w):=by
 refine⟨?_,⟨_,hi,?_⟩,?_,?_⟩
 .rintro _ em ⟨t,b,rfl,hb,hc⟩;obtain⟨i,el,j,uY,CN,oK,cE,dF⟩:=Lb hc;show(Instr.checkKey em (9999+1) kt _).run P w=_;unfold Instr.checkKey;have h2:(Instr.checkKey em (9998+1) t (.pointer (some ⟨b,0,none⟩))).run P w= .ok () w:=by
   unfold Instr.checkKey;simp[qas oK]
  simp[qas hi,Bz uY,CN,h2]
 .rintro _ _ ⟨t,a,rfl,_⟩ ⟨t',b,rfl,_⟩;rfl
 .rintro _ _ ⟨t,a,rfl,ha,hc⟩ ⟨t',b,rfl,hb,gg⟩;by_cases ht:t=t'
  .subst ht;obtain⟨i,el,j,uY,CN,oK,cE,dF⟩:=Lb hc;obtain⟨r,h1,h2⟩:=Nf oK cE dF ha hb;exact⟨r,yj (Se hi uY CN h1),by rw[h2];simp⟩
  exact⟨false,yj (Ng hi ht),by simp[ht]⟩
 rintro _ ⟨t,b,rfl,_⟩;simp[Instr.sameBits]
section
variable {u:World}{M0:Mem}{D:List Nat}{M:Mem}{L:List aB}{w:World}{P:Program}
theorem Gj{K:Value->Prop}{ty:TypeId}{Q:Value->World->Prop}(h:SH u M0 D M L w)(kl:KL P w kt K)(hx:ev e x= .map (some b))(ou:ev e kx=key)
 (hm:P.underlying eW=some (.map kt et)) (hi:P.info? et=some i) (hz:i.zero=some z) (fh:∀p∈bt es,K p.1) (hk:K key)
 (k1:∀v,(key,v)∈bt es->Q (if ok then .tuple #[v,.bool true]else v) w) (k2:(∀p∈bt es,p.1≠key)->Q (if ok then .tuple #[z,.bool false]else z) w)
 (hp:Pk L (.map b es) L':=by repeat(first|exact Pk.here|apply Pk.there)):bB P (.gen (.lookup eW x kx ok) ty) e w Q:=by
 obtain⟨bJ,hb,_⟩:=h.zo hp;rcases kl.lookup (ok:=ok) hm hi hz hb fh hk with⟨v,hv,hr⟩|⟨hn,hr⟩
 .exact .inl ⟨_,w,by simp[execOp,hx,ou,hr],k1 v hv⟩
 exact .inl ⟨_,w,by simp[execOp,hx,ou,hr],k2 hn⟩
theorem zeD{K:Value->Prop}{Q:Value->World->Prop}(kl:KL P w kt K)(hx:ev e x= .map none)(ou:ev e kx=key)
 (hm:P.underlying eW=some (.map kt et)) (hi:P.info? et=some i) (hz:i.zero=some z) (hk:K key) (k:Q (if ok then .tuple #[z,.bool false]else z) w):bB P (.gen (.lookup eW x kx ok) ty) e w Q:=
 .inl ⟨_,w,by simp[execOp,hx,ou,kl.zcU (ok:=ok) hm hi hz hk],k⟩
theorem Sm{K:Value->Prop}{vx:Operand}{ty:TypeId}{Q:Value->World->Prop}(h:SH u M0 D M L w)(kl:KL P w kt K)(hx:ev e x= .map (some b))(ou:ev e kx=key)(Du:ev e vx=val)
 (hm:P.underlying eW=some (.map kt et)) (fh:∀p∈bt es,K p.1) (hk:K key) (hn:((bt es).map (·.1)).Nodup)
 (k:∀bP w',mM (bt es) key val (bt bP)->SH u M0 D M (.map b bP::L') w'->Q undef w')
 (hp:Pk L (.map b es) L':=by repeat(first|exact Pk.here|apply Pk.there)):bB P (.gen (.mapUpdate eW x kx vx) ty) e w Q:=by
 obtain⟨bJ,hb,dP⟩:=h.zo hp;obtain⟨bP,pf,hr,hu,CL⟩:=kl.update (val:=val) hm hb fh hk hn dP;have h0:=h.pk hp;have aG:b<w.heap.size:=(qaM.1 hb).1;have hM:M.Le (Wm {w with heap:=w.heap.setIfInBounds b (.map bP pf)}):=h.le.fr (Fr.set w b _) fun b' aW=>by
  simp only[qac]at aW;subst aW;exact⟨fun o=>h.off _ hp.mem b' o rfl,fun ho=>((h.le.own _ ho).KU hb).elim⟩
 have hk:=k bP _ hu (h0.Lm .here (Fr.set w b _) ⟨pf,by simp[aG],CL⟩ hM);exact Or.inr ⟨_,by simp[execOp,hx,ou,Du,hr],hk⟩
end
end
section
open Go.MapKept Go.ChangeMaps
variable {r b bJ:Nat}{o:Obj}{e:Env}{eW kt et ty:TypeId}{es:Array MapEntry}{x it:Operand}{seen:Array Nat}
theorem zc9{w:World}(hr:w.heap[r]? =some o)(hn:∀c t p,o≠.cells c t p):¬iE w r:=fun⟨c,t,h⟩=>by rw[hr]at h;exact hn _ _ _ (qaF h)
theorem zfv(w:World):Fr [] w w.drew:=⟨qad _,fun _ _ _=>rfl,rfl,rfl,rfl,qcf _⟩
section
variable {u:World}{M0:Mem}{D:List Nat}{M:Mem}{L:List aB}{w:World}{P:Program}
theorem SH.swap{e e':aB}(h:SH u M0 D M (e::L) w)(he:e'.holds w)(hf:e'.bX=e.bX)(hc:∀b o,e'.jf b o->e.jf b o)(hg:∀b,e'.yq b->e.yq b):SH u M0 D M (e'::L) w:=by
 have h0:=h.s6 (e':=e') ((Fr.refl w).nil) he (fun b hb=> .inl (hf▸hb)) h.le (fun b o hm=>h.off e qal b o (hc b o hm)) (fun b hb hm=>h.mF e qal b (hg b hb) hm);exact h0
theorem DV{ty:TypeId}{Q:Value->World->Prop}{L':List aB}(h:SH u M0 D M L w)(hx:ev e x= .map (some b))(hm:P.underlying eW=some (.map kt et))
 (k:∀r bJ w',j7 es bJ->SH u M0 D M (.raw r (.mapIter (some b) bJ #[] bJ):: .raw b (.map es bJ)::L') w'->Q (.pointer (some ⟨r,0,none⟩)) w')
 (hp:Pk L (.map b es) L':=by repeat(first|exact Pk.here|apply Pk.there)):bB P (.gen (.range eW x) ty) e w Q:=by
 obtain⟨bJ,hb,dP⟩:=h.zo hp;have h1:SH u M0 D M (.raw b (.map es bJ)::L') w:=(h.pk hp).swap (e':= .raw b (.map es bJ)) hb rfl (fun b o h=>h) (fun b h=>h);have mA:=run_range_map (P:=P) w eW kt et b es bJ hm hb;refine .inl ⟨.pointer (some ⟨w.heap.size,0,none⟩),w.alloc (.mapIter (some b) bJ #[] bJ),by simp[execOp,hx,mA],k _ bJ _ dP ?_⟩;exact h1.add (e:= .raw w.heap.size (.mapIter (some b) bJ #[] bJ)) (Fr.alloc w _) (heap_alloc_new w _) (by simp[aB.bX])
theorem Lk{Q:Value->World->Prop}(h:SH u M0 D M L w)(hx:ev e x= .map none)(hm:P.underlying eW=some (.map kt et))
 (k:∀r w',SH u M0 D M (.raw r (.mapIter none 0 #[] 0)::L) w'->Q (.pointer (some ⟨r,0,none⟩)) w'):bB P (.gen (.range eW x) ty) e w Q:=by
 have mA:=run_range_nilMap (P:=P) w eW kt et hm;refine .inl ⟨.pointer (some ⟨w.heap.size,0,none⟩),w.alloc (.mapIter none 0 #[] 0),by simp[execOp,hx,mA],k _ _ ?_⟩;exact h.add (e:= .raw w.heap.size (.mapIter none 0 #[] 0)) (Fr.alloc w _) (heap_alloc_new w _) (by simp[aB.bX])
theorem SH.Ee(hb:j7 es bJ)(h:SH u M0 D M (.raw r o:: .raw b (.map es bJ)::L) w):SH u M0 D M (.map b es::L) w:=
 h.tail.swap (e':= .map b es) ⟨bJ,h.ok (.raw b _) (by simp),hb⟩ rfl (fun b o h=>h) (fun b h=>h)
theorem DU{c0:Nat}{Q:Value->World->Prop}(h:SH u M0 D M (.raw r (.mapIter (some b) bJ seen c0):: .raw b (.map es bJ)::L) w)(hit:ev e it= .pointer (some ⟨r,0,none⟩))(dP:j7 es bJ)(hc:bJ<=c0)
 (k1:(∀x∈es.toList,seen.contains x.born=true)->Q (.tuple #[.bool false]) w)
 (k2:∀en w',en∈es.toList->seen.contains en.born=false->(leftOf es (seen.push en.born)).size<(leftOf es seen).size->SH u M0 D M (.raw r (.mapIter (some b) bJ (seen.push en.born) bJ):: .raw b (.map es bJ)::L) w'->Q (.tuple #[.bool true,en.key,en.val]) w'):bB P (.gen (.next it false) ty) e w Q:=by
 have hr:w.heap[r]? =some (.mapIter (some b) bJ seen c0):=h.ok (.raw r _) (by simp);have hb:w.heap[b]? =some (.map es bJ):=h.ok (.raw b _) (by simp);rcases run_next_at (P:=P) w ty r b bJ c0 seen es bJ hr hb dP.1 hc with⟨h1,h2⟩|⟨en,he,w1,hw,h2⟩
 .exact .inl ⟨.tuple #[.bool false],w,by simp[execOp,hit,h2],k1 (all_seen es seen h1)⟩
 refine .inl ⟨.tuple #[.bool true,en.key,en.val],setBlock w1 r (.mapIter (some b) bJ (seen.push en.born) bJ),by simp[execOp,hit,h2],k2 en _ (mem_left he).1 (mem_left he).2 (left_shrinks es seen en he) ?_⟩;have aG:r<w.heap.size:=(qaM.1 hr).1;have jD:Fr [] w w1:=by
  rcases hw with rfl|rfl
  .exact Fr.refl _
  exact zfv w
 have h':=h.lu jD;have gt:r<w1.heap.size:=qb4 aG jD.size;have yW:w1.heap[r]? =some (.mapIter (some b) bJ seen c0):=h'.ok (.raw r _) (by simp);have hM:M.Le (Wm (setBlock w1 r (.mapIter (some b) bJ (seen.push en.born) bJ))):=h'.le.fr (Fr.set w1 r _) fun b' aW=>by
  simp only[qac]at aW;subst aW;exact⟨fun o=>h'.off _ qal b' o rfl,fun ho=>absurd (h'.le.own _ ho) (zc9 yW (fun _ _ _ h=>by cases h))⟩
 exact h'.s6 (e':= .raw r (.mapIter (some b) bJ (seen.push en.born) bJ)) (Fr.set w1 r _) (by simp[aB.holds,setBlock,gt]) (fun b hb=> .inl hb) hM (fun b o hm=>h'.off _ qal b o hm) (fun _ hg=>hg.elim)
theorem Lj{Q:Value->World->Prop}(h:SH u M0 D M (.raw r (.mapIter none 0 #[] 0)::L) w)(hit:ev e it= .pointer (some ⟨r,0,none⟩))(k:Q (.tuple #[.bool false]) w):bB P (.gen (.next it false) ty) e w Q:=by
 have hr:w.heap[r]? =some (.mapIter none 0 #[] 0):=h.ok (.raw r _) (by simp);have h2:(Instr.next (.pointer (some ⟨r,0,none⟩)) false ty).run P w= .ok (.tuple #[.bool false]) w:=by
  simp only[Instr.next,getObj,qbj,Sem.run,hr,Result.andThen];rfl
 exact .inl ⟨.tuple #[.bool false],w,by simp[execOp,hit,h2],k⟩
theorem DT{en:MapEntry}{Q:Value->World->Prop}(h:SH u M0 D M (.raw r (.mapIter (some b) bJ (seen.push en.born) bJ):: .raw b (.map es bJ)::L) w)(hit:ev e it= .pointer (some ⟨r,0,none⟩))(dP:j7 es bJ)(he:en∈es.toList)
 (k:Q (.tuple #[en.key,en.val]) w):bB P (.gen (.entry it) ty) e w Q:=by
 have hr:w.heap[r]? =some (.mapIter (some b) bJ (seen.push en.born) bJ):=h.ok (.raw r _) (by simp);have hb:w.heap[b]? =some (.map es bJ):=h.ok (.raw b _) (by simp);have h2:=run_entry_at (P:=P) w r b bJ seen es bJ en hr hb he dP.2;exact .inl ⟨.tuple #[en.key,en.val],w,by simp[execOp,hit,h2],k⟩
end
end
end Go.Proofs.YtlfcbbcdiecelaaGreatDoor
