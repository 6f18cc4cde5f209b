import Derived.Test.YtlfcbbcdiecelaaGreatDoorZ00
namespace Go.Proofs.YtlfcbbcdiecelaaGreatDoor
open Go Go.Proofs.Tryz
set_option maxRecDepth 100000
set_option maxHeartbeats 4000000
set_option linter.all false
section
variable {a:Act}{b o len cap k n h id:Nat}{s:Sem Value}{v z u:Value}{w' w w1 w2 w0:World}{t T el te t' type:TypeId}{i j:TypeInfo}{d:TypeDesc}{vs cs cs' args:List Value}{f:FuncId}{fields:Array Field}{kd:IntKind}{op:BinOp}{x y:Operand}{neg r:Bool}{ms:Array (String×TypeId)}{ps:List (Nat×Operand)}{dst:Option Tmp}{pos:String}{after:Array Edge}{guard:Option (Nat×Bool)}{c:Call}{hi:Option Operand}{P:Program}{S S' L:List Nat}{ops:Array Oper}
abbrev Env:=Nat->Value
@[reducible]def iS(e:Env)(d:Nat)(v:Value):Env:=fun i=>match Nat.beq i d with
 |true=>v
 |false=>e i
@[reducible]def put(e:Env):Option Nat->Value->Env
 |none,_=>e
 |some d,v=>iS e d v
@[reducible]def ev(e:Env):Operand->Value
 | .tmp t=>e t
 | .const v=>v
 | .global g=> .pointer (some ⟨g,0,none⟩)
 | .func f=> .func (.func f) #[] #[]
@[reducible]def mc(e:Env):List Operand->List Value
 |[]=>[]
 |x::r=>ev e x::mc e r
theorem Nh(e:Env)(l:List Operand):mc e l=l.map (ev e):=by
 induction l with
 |nil=>rfl
 |cons x r ih=>simp[mc,ih]
def vK:IntKind->Nat
 | .i8=>0| .i16=>1| .i32=>2| .i64=>3| .u8=>4| .u16=>5| .u32=>6| .u64=>7
theorem zcI{a b:IntKind}(h:Nat.beq (vK a) (vK b)=true):a=b:=by
 cases a<;>cases b<;>first|rfl|(simp[vK]at h)
def Row(w:World)(b o:Nat)(vs:List Value):Prop:=∀i v,vs[i]? =some v->w.cell? ⟨b,o+i,none⟩=some v
def a_(w:World)(b:Nat)(t:TypeId)(cs:List Value):Prop:=w.heap[b]? =some (.cells cs.toArray t (0,0))
def iE(w:World)(b:Nat):Prop:=∃c t,w.heap[b]? =some (.cells c t (0,0))
@[irreducible]def az(P:Program)(f:FuncId)(args:List Value)(w:World)(K:Value->World->Prop):Prop:=
 match(callFunc f args.toArray).run P w with
 | .ok (.value v) w'=>K v w'
 | .ok (.enter g vs) w'=>Calls P g vs w' fun en eX=>∃v,en= .returned v/\K v eX
 |_=>False
@[irreducible]def fZ(P:Program)(t:TypeId)(v:Value)(m:String)(f:FuncId)(rc:Value):Prop:=
 ∀w,(method (P.types.size+Made.depth) t v m).run P w= .ok (f,rc) w
@[irreducible]def ll(P:Program)(t tx ty:TypeId)(s x:Value)(w:World)(K:Value->World->Prop):Prop:=
 ∃v w',(Builtin.append_ #[t,tx] ty #[s,x]).run P w= .ok v w'/\K v w'
inductive p6 where
 |mv (x:Operand)
 |pick (c a b:Operand)
 |fa (x:Operand) (off:Nat)
 |eP (x:Operand)
 |ld (a:Operand)
 |jr (a:Operand) (n:Nat)
 |st (a x:Operand)
 |D5 (a x:Operand) (n:Nat)
 |ix (x i:Operand) (size:Nat)
 |vH (x i:Operand) (len size:Nat)
 |dL (op:BinOp) (x y:Operand)
 |fC (op:BinOp) (x y:Operand)
 |dM (neg:Bool) (x y:Operand)
 |fR (neg:Bool) (x y:Operand)
 |qV (neg:Bool) (x y:Operand)
 |ya (neg:Bool) (x y:Operand)
 |qW (neg:Bool) (x y:Operand)
 |Ac (neg:Bool) (x y:Operand)
 |not (x:Operand)
 |ext (x:Operand) (i:Nat)
 |ta (x:Operand) (t:TypeId) (ok:Bool) (zero:Value)
 |dy (t:TypeId) (x:Operand)
 |call (f:FuncId) (args:List Operand)
 |gP (f:Operand) (args:List Operand)
 |inv (r:Operand) (m:String) (args:List Operand)
 |len (x:Operand)
 |lens (x:Operand)
 |FZ (x:Operand)
 |app (s x:Operand) (t tx ty:TypeId)
 |new (t:TypeId) (cs:List Value)
 |box (t:TypeId) (x:Operand)
 |bs (t:TypeId) (n size:Nat) (parts:List Operand)
 |bW (zero:List Value) (parts:List (Nat×Nat×Operand))
 |eS (x:Operand) (off n:Nat) (agg:Bool)
 |oQ
 |zq (fn:FuncId) (captured:List Operand)
 |eA (k:IntKind) (x:Operand)
 |j6 (x:Operand) (hi mx:Option Operand)
 |vZ (x lo:Operand) (hi:Option Operand) (size:Nat)
 |xw (n:Operand) (z:Value) (bytes:Nat) (t:TypeId)
 |no
 |gen (op:Op) (type:TypeId)
def ez:Value->List Value
 | .agg cs=>cs.toList
 |v=>[v]
def xn(size:Nat):List Value->Option (List Value)
 |[]=>some []
 |v::r=>bif Nat.beq (ez v).length size then(xn size r).map (ez v++·)else none
def gU:List Value->Nat->List Value->List Value
 |cs,_,[]=>cs
 |cs,o,v::r=>gU (cs.set o v) (o+1) r
def Bs(e:Env):List Value->List (Nat×Nat×Operand)->Option (List Value)
 |cs,[]=>some cs
 |cs,(o,n,x)::r=>bif Nat.beq (ez (ev e x)).length n then(bif Nat.ble (o+n) cs.length then Bs e (gU cs o (ez (ev e x))) r else none)else none
def sR{α:Type}(K:α->Prop):Option α->Prop
 |none=>False
 |some a=>K a
def Bd(op:BinOp)(k:IntKind)(a b:Int)(K:Value->Prop):Prop:=
 match op with
 | .add=>∃z,k.wrap (a+b)=z/\K (.int k z)
 | .sub=>∃z,k.wrap (a-b)=z/\K (.int k z)
 | .mul=>∃z,k.wrap (a*b)=z/\K (.int k z)
 | .eql=>(a=b->K (.bool true))/\(a≠b->K (.bool false))
 | .neq=>(a=b->K (.bool false))/\(a≠b->K (.bool true))
 | .lss=>(a<b->K (.bool true))/\(b<=a->K (.bool false))
 | .leq=>(a<=b->K (.bool true))/\(b<a->K (.bool false))
 | .gtr=>(b<a->K (.bool true))/\(a<=b->K (.bool false))
 | .geq=>(b<=a->K (.bool true))/\(a<b->K (.bool false))
 | .and=>K (.int k (bits .and k a b))
 | .or=>K (.int k (bits .or k a b))
 | .xor=>K (.int k (bits .xor k a b))
 | .quo=>b≠0/\∃z,k.wrap (a.tdiv b)=z/\K (.int k z)
 | .rem=>b≠0/\∃z,a.tmod b=z/\K (.int k z)
 | .shl=>0<=b/\∃z,k.wrap (a*2^(min b.toNat k.bits))=z/\K (.int k z)
 | .shr=>0<=b/\∃z,a.fdiv (2^(min b.toNat k.bits))=z/\K (.int k z)
 |_=>False
def BC(op:BinOp)(k:IntKind)(a b:Int)(K:Value->Prop):Prop:=
 match op with
 | .shl=>0<=b/\∃z,k.wrap (a*2^(min b.toNat k.bits))=z/\K (.int k z)
 | .shr=>0<=b/\∃z,a.fdiv (2^(min b.toNat k.bits))=z/\K (.int k z)
 |_=>False
def BH(op:BinOp)(a b:ByteArray)(K:Value->Prop):Prop:=
 match op with
 | .add=>a.size+b.size<=9223372036854775807/\K (.string (a++b))
 | .eql=>(a=b->K (.bool true))/\(a≠b->K (.bool false))
 | .neq=>(a=b->K (.bool false))/\(a≠b->K (.bool true))
 | .lss=>(Op.bytesLess a.toList b.toList=true->K (.bool true))/\(Op.bytesLess a.toList b.toList=false->K (.bool false))
 | .geq=>(Op.bytesLess a.toList b.toList=true->K (.bool false))/\(Op.bytesLess a.toList b.toList=false->K (.bool true))
 | .gtr=>(Op.bytesLess a.toList b.toList=false/\a≠b->K (.bool true))/\(Op.bytesLess a.toList b.toList=true\/a=b->K (.bool false))
 |_=>False
def Bw(w:World)(a b:Option Addr)(K:Bool->Prop):Prop:=
 match a,b with
 |none,none=>K true
 |none,some _=>K false
 |some _,none=>K false
 |some a,some b=>(a.block=b.block\/(iE w a.block/\iE w b.block))/\(a=b->K true)/\(a≠b->K false)
def nO(P:Program)(t:TypeId):Bool:=
 match P.info? t,P.underlying t with
 |some i,some (.pointer el)=>i.comparable&&(match P.info? el with|some j=> !(Nat.beq j.size 0)|none=>false)
 |_,_=>false
def ic(n b:Bool):Bool:=bif n then !b else b
def se(e:Env)(x:Option Operand)(XE k:Nat):Prop:=
 match x with
 |none=>k=XE
 |some x=>match ev e x with
  | .int _ n=>n=(k:Int)
  |_=>False
@[reducible]def bB(P:Program)(s:p6)(e:Env)(w:World)(K:Value->World->Prop):Prop:=
 match s with
 | .mv x=>K (ev e x) w
 | .pick c a b=>match ev e c with
  | .bool t=>bif t then K (ev e a) w else K (ev e b) w
  |_=>False
 | .fa x off=>match ev e x with
  | .pointer (some ⟨b,o,none⟩)=>K (.pointer (some ⟨b,o+off,none⟩)) w
  |_=>False
 | .eP x=>match ev e x with
  | .pointer (some a)=>K (.pointer (some a)) w
  | .iface t v=>K (.iface t v) w
  | .func (.func f) a b=>K (.func (.func f) a b) w
  |_=>False
 | .ld a=>match ev e a with
  | .pointer (some p)=>∃v,w.cell? p=some v/\K v w
  |_=>False
 | .jr a n=>match ev e a with
  | .pointer (some ⟨b,o,none⟩)=>∃vs:List Value,(vs.length=n/\Row w b o vs)/\K (.agg vs.toArray) w
  |_=>False
 | .st a x=>match ev e a with
  | .pointer (some ⟨b,o,none⟩)=>∃t cs,(a_ w b t cs/\o<cs.length/\(ev e x).oneCell'=true)/\K undef {w with heap:=w.heap.setIfInBounds b (.cells (cs.set o (ev e x)).toArray t (0,0))}
  |_=>False
 | .D5 a x n=>match ev e a with
  | .pointer (some ⟨b,o,none⟩)=>∃t cs,(a_ w b t cs/\o+n<=cs.length/\(ez (ev e x)).length=n/\(∀v∈ez (ev e x),v.oneCell'=true))/\
   K undef {w with heap:=w.heap.setIfInBounds b (.cells (gU cs o (ez (ev e x))).toArray t (0,0))}
  |_=>False
 | .ix x i size=>match ev e x,ev e i with
  | .slice (some ⟨b,o,none⟩) len _,.int _ n=>∃k:Nat,(n=(k:Int)/\k<len)/\K (.pointer (some ⟨b,o+k*size,none⟩)) w
  |_,_=>False
 | .vH x i len size=>match ev e x,ev e i with
  | .pointer (some ⟨b,o,none⟩),.int _ n=>∃k:Nat,(n=(k:Int)/\k<len)/\K (.pointer (some ⟨b,o+k*size,none⟩)) w
  |_,_=>False
 | .dL op x y=>match ev e x,ev e y with
  | .int k a,.int k' b=>bif Nat.beq (vK k) (vK k')then Bd op k a b (K · w)else BC op k a b (K · w)
  |_,_=>False
 | .fC op x y=>match ev e x,ev e y with
  | .string a,.string b=>BH op a b (K · w)
  |_,_=>False
 | .dM neg x y=>match ev e x,ev e y with
  | .pointer a,.pointer b=>Bw w a b fun r=>K (.bool (ic neg r)) w
  |_,_=>False
 | .fR neg x y=>match ev e x,ev e y with
  | .nilIface,.iface _ _=>K (.bool (ic neg false)) w
  | .iface _ _,.nilIface=>K (.bool (ic neg false)) w
  | .nilIface,.nilIface=>(match x,y with| .const _,_=>True|_,.const _=>True|_,_=>False)/\K (.bool (ic neg true)) w
  | .iface t u,.iface t' u'=>bif Nat.beq t t' then nO P t=true/\(match u,u' with
   | .pointer a,.pointer b=>Bw w a b fun r=>K (.bool (ic neg r)) w
   |_,_=>False)else K (.bool (ic neg false)) w
  |_,_=>False
 | .qV neg x y=>match ev e x,ev e y with
  | .bool a,.bool b=>K (.bool (ic neg (a==b))) w
  |_,_=>False
 | .ya neg x y=>match ev e x,ev e y with
  | .slice none _ _,.slice none _ _=>K (.bool (ic neg true)) w
  | .slice (some _) _ _,.slice none _ _=>K (.bool (ic neg false)) w
  |_,_=>False
 | .qW neg x y=>match ev e x,ev e y with
  | .map none,.map none=>K (.bool (ic neg true)) w
  | .map (some _),.map none=>K (.bool (ic neg false)) w
  |_,_=>False
 | .Ac neg x y=>match ev e x,ev e y with
  | .nilFunc,.nilFunc=>K (.bool (ic neg true)) w
  | .func _ _ _,.nilFunc=>K (.bool (ic neg false)) w
  |_,_=>False
 | .not x=>match ev e x with
  | .bool b=>K (.bool (!b)) w
  |_=>False
 | .ext x i=>match ev e x with
  | .tuple vs=>sR (K · w) (vs.toList[i]?)
  |_=>False
 | .ta x t ok zero=>match ev e x with
  | .iface u v=>bif Nat.beq u t then K (bif ok then .tuple #[v,.bool true]else v) w else(bif ok then K (.tuple #[zero,.bool false]) w else False)
  | .nilIface=>bif ok then K (.tuple #[zero,.bool false]) w else False
  |_=>False
 | .dy t x=>K (.iface t (ev e x)) w
 | .call f args=>az P f (mc e args) w K
 | .gP f args=>match ev e f with
  | .func (.func g) first captured=>az P g (first.toList++mc e args++captured.toList) w K
  |_=>False
 | .inv r m args=>match ev e r with
  | .iface t v=>∃f rc,fZ P t v m f rc/\az P f (rc::mc e args) w K
  |_=>False
 | .len x=>match ev e x with
  | .slice _ n _=>K (.int .i64 n) w
  |_=>False
 | .lens x=>match ev e x with
  | .string s=>K (.int .i64 s.size) w
  |_=>False
 | .FZ x=>match ev e x with
  | .map none=>K (.int .i64 0) w
  | .map (some r)=>∃es bJ,w.heap[r]? =some (.map es bJ)/\K (.int .i64 es.size) w
  |_=>False
 | .app s x t tx ty=>ll P t tx ty (ev e s) (ev e x) w K
 | .new t cs=>K (.pointer (some ⟨w.heap.size,0,none⟩)) (w.alloc (.cells cs.toArray t))
 | .box t x=>K (.pointer (some ⟨w.heap.size,0,none⟩)) (w.alloc (.cells (ez (ev e x)).toArray t))
 | .bs t n size parts=>sR (fun cs=>K (.slice (some ⟨w.heap.size,0,none⟩) n n) (w.alloc (.cells cs.toArray t))) (xn size (mc e parts))
 | .bW zero parts=>sR (fun cs=>K (.agg cs.toArray) w) (Bs e zero parts)
 | .eS x off n agg=>match ev e x with
  | .agg cs=>bif agg then K (.agg (((cs.toList.drop off).take n).toArray)) w else sR (K · w) (cs.toList[off]?)
  |_=>False
 | .oQ=>K (.map (some w.heap.size)) (w.alloc (.map #[] 0))
 | .zq fn captured=>K (.func (.func fn) #[] (mc e captured).toArray) w
 | .eA k x=>match ev e x with
  | .int _ n=>∃z,k.wrap n=z/\K (.int k z) w
  |_=>False
 | .j6 x hi mx=>match ev e x with
  | .slice a len cap=>∃h m:Nat,(se e mx cap m/\se e hi len h/\h<=m/\m<=cap)/\K (.slice a h m) w
  |_=>False
 | .vZ x lo hi size=>match ev e x,ev e lo with
  | .slice a len cap,.int _ n=>∃l h:Nat,(n=(l:Int)/\se e hi len h/\l<=h/\h<=cap)/\K (.slice (if cap=l then a else a.map (·.add (l*size))) (h-l) (cap-l)) w
  |_,_=>False
 | .xw x z bytes t=>match ev e x with
  | .int .i64 n=>∃k:Nat,(n=(k:Int)/\k*bytes<=140737488355328/\k<=140737488355328)/\K (.slice (some ⟨w.heap.size,0,none⟩) k k) (w.alloc (.cells (List.replicate k z).toArray t))
  |_=>False
 | .no=>False
 | .gen op type=>(∃v w',(execOp (ev e) ⟨none,op,type, "",#[],none⟩).run P w= .ok (.value v) w'/\K v w')\/(∃w',(execOp (ev e) ⟨none,op,type, "",#[],none⟩).run P w= .ok .skip w'/\K undef w')
def rN:TypeDesc->Bool
 | .struct _| .array _ _=>true
 |_=>false
def partsOf(P:Program)(fields:Array Field):List (Nat×Operand)->Option (List (Nat×Nat×Operand))
 |[]=>some []
 |(i,x)::r=>match fields.toList[i]? with
  |some f=>match P.info? f.type with
   |some j=>(partsOf P fields r).map ((f.offset,j.size,x)::·)
   |none=>none
  |none=>none
def zj:Nat->List (Nat×Operand)->Option (List Operand)
 |_,[]=>some []
 |k,(i,x)::r=>bif Nat.beq i k then(zj (k+1) r).map (x::·)else none
def db(P:Program)(o:Oper):p6:=
 match o.op with
 | .move x=> .mv x
 | .assign x=> .mv x
 | .pick c a b=> .pick c a b
 | .alloc t=>match P.info? t with
  |some i=>match i.zero with
   |some z=> .new t z.cells.toList
   |none=> .gen o.op o.type
  |none=> .gen o.op o.type
 | .box t x=> .box t x
 | .build t parts=>match P.underlying t,P.info? t with
  |some (.struct fields),some i=>match i.zero,partsOf P fields parts.toList with
   |some z,some l=>bif (fields.toList.mapM fun f=>(P.info? f.type).map fun i=>(f.offset,i.size)).isSome then .bW z.cells.toList l else .gen o.op o.type
   |_,_=> .gen o.op o.type
  |_,_=> .gen o.op o.type
 | .buildSlice t n parts=>match P.underlying t with
  |some (.slice el)=>match P.info? el with
   |some j=>match zj 0 parts.toList with
    |some xs=>bif Nat.beq xs.length n&&Nat.ble (n*j.size) 16777216&&j.zero.isSome then .bs el n j.size xs else .gen o.op o.type
    |none=> .gen o.op o.type
   |none=> .gen o.op o.type
  |_=> .gen o.op o.type
 | .load t a=>match P.info? t,P.underlying t with
  |some i,some d=>bif rN d then .jr a i.size else .ld a
  |_,_=> .gen o.op o.type
 | .store t a x=>match P.info? t,P.underlying t with
  |some i,some d=>bif rN d then .D5 a x i.size else(bif Nat.beq i.size 1 then .st a x else .gen o.op o.type)
  |_,_=> .gen o.op o.type
 | .nilCheck x=> .eP x
 | .binOp op t x y _=>match P.underlying t with
  |some (.int _)=> .dL op x y
  |some .string=> .fC op x y
  |some .bool=>match op with
   | .eql=> .qV false x y
   | .neq=> .qV true x y
   |_=> .gen o.op o.type
  |some (.pointer el)=>match P.info? el with
   |some j=>bif Nat.beq j.size 0 then .gen o.op o.type else(match op with
    | .eql=> .dM false x y
    | .neq=> .dM true x y
    |_=> .gen o.op o.type)
   |none=> .gen o.op o.type
  |some (.interface _)=>match op with
   | .eql=> .fR false x y
   | .neq=> .fR true x y
   |_=> .gen o.op o.type
  |some (.slice _)=>match op with
   | .eql=> .ya false x y
   | .neq=> .ya true x y
   |_=> .gen o.op o.type
  |some (.map _ _)=>match op with
   | .eql=> .qW false x y
   | .neq=> .qW true x y
   |_=> .gen o.op o.type
  |some (.func _ _ _)=>match op with
   | .eql=> .Ac false x y
   | .neq=> .Ac true x y
   |_=> .gen o.op o.type
  |_=> .gen o.op o.type
 | .unOp .not _ x=> .not x
 | .makeInterface t x=>match P.underlying t with
  |some (.interface _)=> .gen o.op o.type
  |some _=> .dy t x
  |none=> .gen o.op o.type
 | .makeFunc (.func f) first captured=>bif first.toList.isEmpty then .zq f captured.toList else .gen o.op o.type
 | .makeMap _ none=> .oQ
 | .fieldAddr s x f=>match P.underlying s with
  |some (.struct fields)=>match fields.toList[f]? with
   |some fd=>match P.info? fd.type with
    |some j=>bif Nat.beq j.size 0 then .gen o.op o.type else .fa x fd.offset
    |none=> .gen o.op o.type
   |none=> .gen o.op o.type
  |_=> .gen o.op o.type
 | .field s x f=>match P.underlying s with
  |some (.struct fields)=>match fields.toList[f]? with
   |some fd=>match P.info? fd.type,P.underlying fd.type with
    |some j,some d=> .eS x fd.offset j.size (rN d)
    |_,_=> .gen o.op o.type
   |none=> .gen o.op o.type
  |_=> .gen o.op o.type
 | .indexAddr t x i=>match P.underlying t with
  |some (.slice el)=>match P.info? el with
   |some j=> .ix x i j.size
   |none=> .gen o.op o.type
  |some (.array n el)=>match P.info? el with
   |some j=> .vH x i n j.size
   |none=> .gen o.op o.type
  |_=> .gen o.op o.type
 | .typeAssert x _ t ok=>match P.underlying t,P.info? t with
  |some (.interface _),_=> .gen o.op o.type
  |some _,some i=>match i.zero with
   |some z=> .ta x t ok z
   |none=> .gen o.op o.type
  |_,_=> .gen o.op o.type
 | .extract x i=> .ext x i
 | .call {callee:= .value (.func f),args,.. }=> .call f args.toList
 | .call {callee:= .value x,args,.. }=> .gP x args.toList
 | .call {callee:= .invoke r m,args,.. }=> .inv r m args.toList
 | .call {callee:= .builtin .len,args,argTypes}=>match args.toList,argTypes.toList with
  |[x],[t]=>match P.underlying t with
   |some .string=> .lens x
   |some (.slice _)=> .len x
   |some (.map _ _)=> .FZ x
   |_=> .gen o.op o.type
  |_,_=> .gen o.op o.type
 | .call {callee:= .builtin .append,args,argTypes}=>match args.toList,argTypes.toList with
  |[s,x],[t,tx]=> .app s x t tx o.type
  |_,_=> .gen o.op o.type
 | .panic _=> .no
 | .convert src dst x=>match P.underlying src,P.underlying dst with
  |some (.int _),some (.int k)=> .eA k x
  |_,_=> .gen o.op o.type
 | .slice t x none hi mx=>match P.underlying t with
  |some (.slice el)=>bif (P.info? el).isSome&& !(hi.isNone&&mx.isSome)then .j6 x hi mx else .gen o.op o.type
  |_=> .gen o.op o.type
 | .slice t x (some lo) hi none=>match P.underlying t with
  |some (.slice el)=>match P.info? el with
   |some j=> .vZ x lo hi j.size
   |none=> .gen o.op o.type
  |_=> .gen o.op o.type
 | .makeSlice t (.tmp a) (.tmp b)=>bif Nat.beq a b then(match P.underlying t with
  |some (.slice el)=>match P.info? el with
   |some j=>match j.zero with
    |some z=>bif Nat.beq j.size 1&&z.oneCell' then .xw (.tmp a) z j.bytes el else .gen o.op o.type
    |none=> .gen o.op o.type
   |none=> .gen o.op o.type
  |_=> .gen o.op o.type)else .gen o.op o.type
 |_=> .gen o.op o.type
def fz(P:Program)(r:Sem Next)(w:World)(K:Value->World->Prop):Prop:=
 match r.run P w with
 | .ok (.value v) w'=>K v w'
 | .ok .skip w'=>K undef w'
 | .ok (.enter f vs) w'=>Calls P f vs w' fun en eX=>∃v,en= .returned v/\K v eX
 |_=>False
section
variable {P:Program}{w:World}{K:Value->World->Prop}{e:Env}
theorem di(hs:s.run P w= .ok v w')(hk:K v w'):
 fz P (do pure (.value (<-s))) w K:=by
 simp[fz,hs];exact hk
theorem NR{s:Sem Unit}(hs:s.run P w= .ok () w')(hk:K undef w'):
 fz P (do s;pure .skip) w K:=by
 simp[fz,hs];exact hk
theorem Bz(h:P.info? t=some i):(typeInfo t).run P w= .ok i w:=by
 simp[typeInfo,h]
theorem nP(h:P.info? t=some i):(sizeOf t).run P w= .ok i.size w:=by
 simp[sizeOf,Bz h]
theorem xI(h:P.info? t=some i)(hz:i.zero=some z):(zeroValue t).run P w= .ok z w:=by
 simp[zeroValue,Bz h,hz]
theorem Gh(h:P.underlying t=some d):(isAgg t).run P w= .ok (rN d) w:=by
 unfold isAgg;rw[qbj,qas h w];cases d<;>rfl
theorem Hu(v:Value):v.cells=(ez v).toArray:=by
 cases v<;>rfl
theorem Sf{p:Addr}(hd:P.underlying t=some d)(ha:rN d=false)(hc:w.cell? p=some v):
 (Instr.loadAt t (.pointer (some p))).run P w= .ok v w:=by
 simp[Instr.loadAt,Instr.sureAddr,loadVar,Gh hd,ha,hc]
theorem xZ(b o n:Nat):(⟨b,o,none⟩:Addr).add n=⟨b,o+n,none⟩:=qb2 b o n
theorem Sg(hi:P.info? t=some i)(hd:P.underlying t=some d)(ha:rN d=true)
 (hl:vs.length=i.size) (hr:Row w b o vs):
 (Instr.loadAt t (.pointer (some ⟨b,o,none⟩))).run P w= .ok (.agg vs.toArray) w:=by
 have h:=run_loadCells_list (P:=P) w ⟨b,o,none⟩ vs (fun j v hv=>by rw[xZ];exact hr j v hv);rw[hl]at h;simp[Instr.loadAt,Instr.sureAddr,loadVar,Gh hd,ha,nP hi,h]
theorem Cg(h:a_ w b t cs):w.cell? ⟨b,o,none⟩=cs[o]? :=by
 simp[World.cell?,a_]at*;simp[h]
theorem sa(h:a_ w b t cs):w.frozen? ⟨b,o,none⟩=false:=by
 unfold a_ at h;simp[World.frozen?,h]
theorem DX(h:a_ w b t cs):
 w.setCell ⟨b,o,none⟩ v={w with heap:=w.heap.setIfInBounds b (.cells (cs.set o v).toArray t (0,0))}:=by
 unfold a_ at h;unfold World.setCell
 congr 1
 have hb:b<w.heap.size:=by
  rcases qa1 b w.heap.size with h'|h'
  .exact h'
  simp[qbJ h']at h
 apply Array.ext_getElem?;intro j;rw[qb3,Array.getElem?_setIfInBounds];by_cases hj:b=j
 .subst hj;have h2:w.heap[b]= .cells cs.toArray t (0,0):=by rw[qbN hb]at h;exact qaF h
  simp[hb,h2]
 simp[hj]
theorem Mw{cs':List Value}(h:a_ w b t cs):
 a_ {w with heap:=w.heap.setIfInBounds b (.cells cs'.toArray t (0,0))} b t cs':=by
 unfold a_ at*;have hb:b<w.heap.size:=by
  rcases qa1 b w.heap.size with h'|h'
  .exact h'
  simp[qbJ h']at h
 simp[hb]
theorem Si(h:a_ w b t cs)(ho:o<cs.length)(hv:v.oneCell'=true):
 (store ⟨b,o,none⟩ v).run P w= .ok () {w with heap:=w.heap.setIfInBounds b (.cells (cs.set o v).toArray t (0,0))}:=by
 rw[run_store P w _ v .plain hv,Cg h,sa h,DX h];simp[ho]
theorem RR(h:v.oneCell'=true):v.cells= #[v]:=by
 cases v<;>first|rfl|(simp[Value.oneCell']at h)
theorem zew(hi:P.info? T=some i)(hs:i.size=1)(h:a_ w b t cs)(ho:o<cs.length)
 (hv:v.oneCell'=true):
 (Instr.storeAt T (.pointer (some ⟨b,o,none⟩)) v).run P w= .ok () {w with heap:=w.heap.setIfInBounds b (.cells (cs.set o v).toArray t (0,0))}:=by
 have h0:(⟨b,o,none⟩:Addr).add 0=⟨b,o,none⟩:=by simp[xZ]
 simp[Instr.storeAt,Instr.sureAddr,storeVar,nP hi,hs,RR hv,storeCells,h0,Si h ho hv]
theorem Sh{b o:Nat}{t:TypeId}:∀(vs:List Value) (k:Nat) (cs:List Value) (w:World),a_ w b t cs->o+k+vs.length<=cs.length->(∀v∈vs,v.oneCell'=true)->
 (storeCells ⟨b,o,none⟩ vs k).run P w= .ok () {w with heap:=w.heap.setIfInBounds b (.cells (gU cs (o+k) vs).toArray t (0,0))}
 |[],k,cs,w,h,_,_=>by
  have hb:b<w.heap.size:=by
   unfold a_ at h;rcases qa1 b w.heap.size with h'|h'
   .exact h'
   simp[qbJ h']at h
  simp only[storeCells,qbX,gU]
  congr 1
  have:w.heap.setIfInBounds b (.cells cs.toArray t (0,0))=w.heap:=by
   apply Array.ext_getElem?;intro j;rw[Array.getElem?_setIfInBounds];by_cases hj:b=j
   .subst hj;unfold a_ at h;have h2:w.heap[b]= .cells cs.toArray t (0,0):=by rw[qbN hb]at h;exact qaF h
    simp[hb,h2]
   simp[hj]
  rw[this]
 |v::vs,k,cs,w,h,hl,hv=>by
  simp only[storeCells,qbj,xZ];rw[Si h (by simp at hl;omega) (hv v (by simp))];simp only[qa4];rw[Sh vs (k+1) (cs.set (o+k) v) _ (Mw h) (by simp at hl⊢;omega) (fun u hu=>hv u (by simp[hu]))];rw[show o+(k+1)=o+k+1 from rfl];simp[gU]
theorem zex(hi:P.info? T=some i)(h:a_ w b t cs)(ho:o+i.size<=cs.length)
 (hl:(ez v).length=i.size) (hv:∀u∈ez v,u.oneCell'=true):
 (Instr.storeAt T (.pointer (some ⟨b,o,none⟩)) v).run P w= .ok () {w with heap:=w.heap.setIfInBounds b (.cells (gU cs o (ez v)).toArray t (0,0))}:=by
 have hc:=Hu v;have h0:=Sh (P:=P) (b:=b) (o:=o) (t:=t) (ez v) 0 cs w h (by omega) hv;simp only[qa6]at h0;simp[Instr.storeAt,Instr.sureAddr,storeVar,nP hi,hc,hl,h0]
theorem zeo{s f:Nat}{fd:Field}(hs:P.underlying s=some (.struct fields))(hf:fields.toList[f]? =some fd)
 (hj:P.info? fd.type=some j) (hn:Nat.beq j.size 0=false):
 (Instr.fieldAt s (.pointer (some ⟨b,o,none⟩)) f).run P w= .ok (.pointer (some ⟨b,o+fd.offset,none⟩)) w:=by
 have gh:fields[f]? =some fd:=by simpa using hf
 have hz:j.size≠0:=by intro h;simp[h]at hn
 simp[Instr.fieldAt,qas hs,gh,Instr.sureAddr,fieldPlace,nP hj,hz,xZ]
theorem zep(ht:P.underlying t=some (.slice el))(hj:P.info? el=some j)(hk:k<len):
 (Instr.indexAt t (.slice (some ⟨b,o,none⟩) len cap) (.int kd k)).run P w= .ok (.pointer (some ⟨b,o+k*j.size,none⟩)) w:=by
 simp[Instr.indexAt,asIntOf,qas ht,hk,nP hj,xZ]
theorem zeq(ht:P.underlying t=some (.array n el))(hj:P.info? el=some j)(hk:k<n):
 (Instr.indexAt t (.pointer (some ⟨b,o,none⟩)) (.int kd k)).run P w= .ok (.pointer (some ⟨b,o+k*j.size,none⟩)) w:=by
 simp[Instr.indexAt,asIntOf,qas ht,hk,nP hj,xZ,Instr.sureAddr]
end
section
variable {P:Program}{w:World}{K:Value->World->Prop}{e:Env}
theorem zaj{k k':IntKind}{a b:Int}(hx:ev e x= .int k a)(hy:ev e y= .int k' b)(h:BC op k a b (K · w)):
 fz P (do pure (.value (<-(do eqGuard op t x y (ev e x) (ev e y);binOp op t (ev e x) (ev e y))))) w K:=by
 rw[hx,hy,eqGuard_at_int];cases op<;>simp only[BC]at h
 case shl=>obtain⟨h0,z,rfl,h⟩:=h;exact di (by simp[binOp,Op.shift,show ¬b<0 by omega]) h
 case shr=>obtain⟨h0,z,rfl,h⟩:=h;exact di (by simp[binOp,Op.shift,show ¬b<0 by omega]) h
theorem zac{k:IntKind}{a b:Int}(hx:ev e x= .int k a)(hy:ev e y= .int k b)(h:Bd op k a b (K · w)):
 fz P (do pure (.value (<-(do eqGuard op t x y (ev e x) (ev e y);binOp op t (ev e x) (ev e y))))) w K:=by
 rw[hx,hy,eqGuard_at_int];cases op<;>simp only[Bd]at h
 case add=>obtain⟨z,rfl,h⟩:=h;exact di (by simp[binOp,Op.intArith]) h
 case sub=>obtain⟨z,rfl,h⟩:=h;exact di (by simp[binOp,Op.intArith]) h
 case mul=>obtain⟨z,rfl,h⟩:=h;exact di (by simp[binOp,Op.intArith]) h
 case and=>exact di (by simp[binOp,intBits_and]) h
 case or=>exact di (by simp[binOp,intBits_or]) h
 case xor=>exact di (by simp[binOp,intBits_xor]) h
 case quo=>obtain⟨h0,z,rfl,h⟩:=h;exact di (by simp[binOp,Op.intDiv,h0]) h
 case rem=>obtain⟨h0,z,rfl,h⟩:=h;exact di (by simp[binOp,Op.intDiv,h0]) h
 case shl=>obtain⟨h0,z,rfl,h⟩:=h;exact di (by simp[binOp,Op.shift,show ¬b<0 by omega]) h
 case shr=>obtain⟨h0,z,rfl,h⟩:=h;exact di (by simp[binOp,Op.shift,show ¬b<0 by omega]) h
 case eql=>
  by_cases q:a=b
  .exact di (by simp[binOp,Op.intCmp,q]) (h.1 q)
  exact di (by simp[binOp,Op.intCmp,q]) (h.2 q)
 case neq=>
  by_cases q:a=b
  .exact di (by simp[binOp,Op.intCmp,q]) (h.1 q)
  exact di (by simp[binOp,Op.intCmp,q]) (h.2 q)
 case lss=>
  by_cases q:a<b
  .exact di (by simp[binOp,Op.intCmp,q]) (h.1 q)
  exact di (by simp[binOp,Op.intCmp,q]) (h.2 (by omega))
 case leq=>
  by_cases q:a<=b
  .exact di (by simp[binOp,Op.intCmp,q]) (h.1 q)
  exact di (by simp[binOp,Op.intCmp,q]) (h.2 (by omega))
 case gtr=>
  by_cases q:b<a
  .exact di (by simp[binOp,Op.intCmp,q]) (h.1 q)
  exact di (by simp[binOp,Op.intCmp,q]) (h.2 (by omega))
 case geq=>
  by_cases q:b<=a
  .exact di (by simp[binOp,Op.intCmp,q]) (h.1 q)
  exact di (by simp[binOp,Op.intCmp,q]) (h.2 (by omega))
theorem Hl{a b:ByteArray}:(a.toList==b.toList)=decide (a=b):=by
 rw[Bool.eq_iff_iff];simp only[beq_iff_eq,qbp];constructor
 .intro h;rw[ByteArray.toList_eq,ByteArray.toList_eq]at h;exact ByteArray.ext (Array.toList_inj.1 h)
 intro h;rw[h]
theorem zad{a b:ByteArray}(hx:ev e x= .string a)(hy:ev e y= .string b)(h:BH op a b (K · w)):
 fz P (do pure (.value (<-(do eqGuard op t x y (ev e x) (ev e y);binOp op t (ev e x) (ev e y))))) w K:=by
 rw[hx,hy,eqGuard_at_string];cases op<;>simp only[BH]at h
 case add=>
  refine di ?_ h.2;have h1:¬(9223372036854775807<((a.size+b.size:Nat):Int)):=by omega
  have h2:¬(9223372036854775807<(a.size:Int)+(b.size:Int)):=by omega
  simp[binOp,Op.stringOp,h2]
 case eql=>
  by_cases q:a=b
  .exact di (by simp[binOp,Op.stringOp,q]) (h.1 q)
  exact di (by simp[binOp,Op.stringOp,Hl,q]) (h.2 q)
 case neq=>
  by_cases q:a=b
  .exact di (by simp[binOp,Op.stringOp,q]) (h.1 q)
  exact di (by simp[binOp,Op.stringOp,Hl,q]) (h.2 q)
 case lss=>
  cases q:Op.bytesLess a.toList b.toList
  .exact di (by simp[binOp,Op.stringOp,q]) (h.2 q)
  exact di (by simp[binOp,Op.stringOp,q]) (h.1 q)
 case geq=>
  cases q:Op.bytesLess a.toList b.toList
  .exact di (by simp[binOp,Op.stringOp,q]) (h.2 q)
  exact di (by simp[binOp,Op.stringOp,q]) (h.1 q)
 case gtr=>
  by_cases q2:a=b
  .exact di (by simp[binOp,Op.stringOp,q2]) (h.2 (.inr q2))
  cases q:Op.bytesLess a.toList b.toList
  .exact di (by simp[binOp,Op.stringOp,q,Hl,q2]) (h.1 ⟨q,q2⟩)
  exact di (by simp[binOp,Op.stringOp,q]) (h.2 (.inl q))
theorem Li{tp:TypeId}{a b:Option Addr}{KB:Bool->Prop}(hp:P.underlying tp=some (.pointer te))(oG:P.info? te=some j)(dF:Nat.beq j.size 0=false)
 (h:Bw w a b KB):∃r,(∀d,(Op.equalIn (d+1) tp (.pointer a) (.pointer b)).run P w= .ok r w)/\KB r:=by
 have hz:j.size≠0:=by intro h;simp[h]at dF
 unfold Bw at h;split at h
 .exact⟨true,fun d=>by simp[Op.equalIn,qas hp],h⟩
 .exact⟨false,fun d=>by simp[Op.equalIn,qas hp],h⟩
 .exact⟨false,fun d=>by simp[Op.equalIn,qas hp],h⟩
 rename_i a b;obtain⟨hb,hk⟩:=h;by_cases d8:a=b
 .refine⟨true,fun d=> ?_,hk.1 d8⟩;subst d8;simp[Op.equalIn,qas hp,nP oG,run_sameAddr_same]
 refine⟨false,fun d=> ?_,hk.2 d8⟩;rcases hb with hb|⟨⟨ca,ta,ha⟩,cb,tb,hb⟩
 .have:(sameAddr a b).run P w= .ok false w:=by
   simp[sameAddr,hb,d8]
  simp[Op.equalIn,qas hp,nP oG,hz,this]
 simp[Op.equalIn,qas hp,nP oG,hz,run_sameAddr_other w d8 ha hb]
theorem NM{a b:Option Addr}(jn:op=(bif neg then .neq else .eql))(hp:P.underlying t=some (.pointer te))(oG:P.info? te=some j)(dF:Nat.beq j.size 0=false)
 (hx:ev e x= .pointer a) (hy:ev e y= .pointer b) (h:Bw w a b fun r=>K (.bool (ic neg r)) w):
 fz P (do pure (.value (<-(do eqGuard op t x y (ev e x) (ev e y);binOp op t (ev e x) (ev e y))))) w K:=by
 obtain⟨r,hr,hk⟩:=Li (P:=P) hp oG dF h;rw[hx,hy,eqGuard_at_pointer];refine di (v:= .bool (ic neg r)) ?_ hk;have h1:(Op.equal t (.pointer a) (.pointer b)).run P w= .ok r w:=hr 9999;subst jn;cases neg<;>simp[binOp,h1,ic]
theorem Se{ti tn:TypeId}{a b:Option Addr}(hi:P.underlying ti=some (.interface ms))(uY:P.info? tn=some i)(uO:i.comparable=true)
 (h:∀d,(Op.equalIn (d+1) tn (.pointer a) (.pointer b)).run P w= .ok r w) (d:Nat):
 (Op.equalIn (d+2) ti (.iface tn (.pointer a)) (.iface tn (.pointer b))).run P w= .ok r w:=by
 have h1:=h d;rw[show d+2=(d+1)+1 from rfl];generalize hx:Op.equalIn (d+1)=q at h1⊢;rw[Op.equalIn];simp[qas hi,Bz uY,uO,hx,h1]
theorem yj(h:∀d,(Op.equalIn (d+2) t u v).run P w= .ok r w):(Op.equal t u v).run P w= .ok r w:=h 9998
theorem Cf(jn:op=(bif neg then .neq else .eql))(hu:match u with| .iface _ _=>True| .nilIface=>True|_=>False)
 (h:(Op.equal t u v).run P w= .ok r w):(binOp op t u v).run P w= .ok (.bool (ic neg r)) w:=by
 subst jn;cases u<;>first|exact hu.elim|skip
 all_goals cases neg<;>simp[binOp,h,ic]
theorem qh{r:Value}(h1:(eqGuard op t x y u v).run P w= .ok () w)(h2:(binOp op t u v).run P w= .ok r w)(h3:K r w):
 fz P (do pure (.value (<-(do eqGuard op t x y u v;binOp op t u v)))) w K:=di (by simp[h1,h2]) h3
theorem XP(hi:P.underlying t=some (.interface ms))(d:Nat):
 (Op.equalIn (d+2) t .nilIface (.iface t' u)).run P w= .ok false w:=by
 rw[Op.equalIn];simp[qas hi]
theorem XO(hi:P.underlying t=some (.interface ms))(d:Nat):
 (Op.equalIn (d+2) t (.iface t' u) .nilIface).run P w= .ok false w:=by
 rw[Op.equalIn];simp[qas hi]
theorem XQ(hi:P.underlying t=some (.interface ms))(d:Nat):
 (Op.equalIn (d+2) t .nilIface .nilIface).run P w= .ok true w:=by
 rw[Op.equalIn];simp[qas hi]
theorem Ng{t1 t2:TypeId}(hi:P.underlying t=some (.interface ms))(aT:t1≠t2)(d:Nat):
 (Op.equalIn (d+2) t (.iface t1 u) (.iface t2 v)).run P w= .ok false w:=by
 rw[Op.equalIn];simp[qas hi,aT]
theorem Lb(h:nO P t=true):∃i el j,P.info? t=some i/\i.comparable=true/\P.underlying t=some (.pointer el)/\P.info? el=some j/\Nat.beq j.size 0=false:=by
 unfold nO at h;split at h
 .rename_i i el uY oK;simp only[qbn]at h;obtain⟨h1,h2⟩:=h;split at h2
  .rename_i j cE;exact⟨i,el,j,uY,h1,oK,cE,by simpa using h2⟩
  simp at h2
 simp at h
theorem NI(jn:op=(bif neg then .neq else .eql))(hi:P.underlying t=some (.interface ms))
 (h:bB P (.fR neg x y) e w K):
 fz P (do pure (.value (<-(do eqGuard op t x y (ev e x) (ev e y);binOp op t (ev e x) (ev e y))))) w K:=by
 simp only[bB]at h;split at h
 .rename_i t' u hx hy;rw[hx,hy];exact qh (by rw[eqGuard_nil_iface];rfl) (Cf jn trivial (yj (XP hi))) h
 .rename_i t' u hx hy;rw[hx,hy];exact qh (by rw[eqGuard_at_iface];rfl) (Cf jn trivial (yj (XO hi))) h
 .rename_i hx hy;rw[hx,hy];refine qh ?_ (Cf jn trivial (yj (XQ hi))) h.2;have h1:=h.1;split at h1
  .rw[eqGuard_nil_constL];rfl
  .rw[eqGuard_nil_constR];rfl
  exact h1.elim
 .rename_i t1 u1 t2 u2 hx hy;rw[hx,hy];cases hb:Nat.beq t1 t2 with
  |false=>
   have aT:t1≠t2:=by intro h;simp[h]at hb
   simp only[hb,qbq]at h;exact qh (by rw[eqGuard_at_iface];rfl) (Cf jn trivial (yj (Ng hi aT))) h
  |true=>
   have heq:t1=t2:=qaI hb;subst heq;simp only[hb,qbf]at h;obtain⟨hc,h⟩:=h;split at h
   .obtain⟨i,el,j,uY,CN,oK,cE,dF⟩:=Lb hc;obtain⟨r,hr,hk⟩:=Li (P:=P) oK cE dF h;exact qh (by rw[eqGuard_at_iface];rfl) (Cf jn trivial (yj (Se hi uY CN hr))) hk
   exact h.elim
 exact h.elim
end
section
variable {P:Program}{w:World}{K:Value->World->Prop}{e:Env}
theorem NO{args:Array Value}(h:az P f args.toList w K):fz P (callFunc f args) w K:=by
 unfold az at h;unfold fz;simp only[Array.toArray_toList]at h;split at h
 .rename_i hr;rw[hr];exact h
 .rename_i hr;rw[hr];exact h
 exact h.elim
theorem NP{r r':Sem Next}(h:r.run P w=r'.run P w)(g:fz P r' w K):fz P r w K:=by
 unfold fz at*;rw[h];exact g
theorem RT:∀(vs cs:List Value) (o:Nat) (k:Nat),(vs.zipIdx k).foldl (fun(cs:Array Value) (p:Value×Nat)=>cs.setIfInBounds (o+p.2) p.1) cs.toArray=(gU cs (o+k) vs).toArray
 |[],_,_,_=>by simp[gU]
 |v::vs,cs,o,k=>by
  simp only[List.zipIdx_cons,qbo,gU,List.setIfInBounds_toArray];rw[RT vs (cs.set (o+k) v) o (k+1)];rfl
theorem Nm(place:Nat->Option (Nat×Nat))(cells:List Value)(i off size:Nat)(v:Value)(rest:List (Nat×Value))(hp:place i=some (off,size))(hs:(ez v).length=size)(hl:off+size<=cells.length):
 Instr.fill place cells.toArray ((i,v)::rest)=Instr.fill place (gU cells off (ez v)).toArray rest:=by
 rw[Instr.fill];have hc:=Hu v;have hz:v.cells.size=size:=by rw[hc];simpa using hs
 have h2:¬(off+size>cells.toArray.size):=by simp;omega
 simp only[hp,hz,ne_eq,qci,decide_false,Bool.false_or];rw[if_neg (by simpa using h2)]
 congr 1
 rw[hc];have:=RT (ez v) cells off 0;simp only[qa6]at this;rw[<-this];simp
theorem vT{α:Type}{K:α->Prop}{x:Option α}(h:sR K x):∃a,x=some a/\K a:=by
 cases x with
 |none=>exact h.elim
 |some a=>exact⟨a,rfl,h⟩
theorem R3{fields:Array Field}{places:List (Nat×Nat)}(jJ:∀(i:Nat) fd j,fields.toList[i]? =some fd->P.info? fd.type=some j->places[i]? =some (fd.offset,j.size)):
 ∀(ps:List (Nat×Operand)) (l:List (Nat×Nat×Operand)) (cs cs':List Value),partsOf P fields ps=some l->Bs e cs l=some cs'->
  Instr.fill (places.toArray[·]?) cs.toArray (ps.map fun p=>(p.1,ev e p.2))=some cs'.toArray
 |[],l,cs,cs',h,h2=>by
  simp only[partsOf,qao]at h;subst h;simp only[Bs,qao]at h2;subst h2;simp[Instr.fill]
 |(i,x)::ps,l,cs,cs',h,h2=>by
  simp only[partsOf]at h;split at h
  .rename_i fd hf;split at h
   .rename_i j hj;cases hr:partsOf P fields ps with
    |none=>simp[hr]at h
    |some l'=>
     simp only[hr,qbP,qao]at h;subst h;simp only[Bs]at h2;cases hb:Nat.beq (ez (ev e x)).length j.size with
     |false=>simp[hb]at h2
     |true=>
      cases cV:Nat.ble (fd.offset+j.size) cs.length with
      |false=>simp[hb,cV]at h2
      |true=>
       simp only[hb,cV,qbf]at h2;have zbQ:=jJ i fd j hf hj;rw[qaB,Nm _ cs i fd.offset j.size (ev e x) _ (by simpa using zbQ) (qaI hb) (qbQ cV)];exact R3 jJ ps l' _ cs' hr h2
   simp at h
  simp at h
def placesOf(P:Program):List Field->Option (List (Nat×Nat))
 |fs=>fs.mapM fun f=>(P.info? f.type).map fun i=>(f.offset,i.size)
theorem R6:∀(fs:List Field) (places:List (Nat×Nat)),fs.mapM (fun f=>(P.info? f.type).map fun i=>(f.offset,i.size))=some places->
 ∀(i:Nat) fd j,fs[i]? =some fd->P.info? fd.type=some j->places[i]? =some (fd.offset,j.size)
 |[],_,_,_,_,_,hi,_=>by simp at hi
 |f::fs,places,h,i,fd,j,hi,hj=>by
  simp only[List.mapM_cons,Option.bind_eq_bind,Option.pure_def]at h;cases hf:P.info? f.type with
  |none=>simp[hf]at h
  |some i0=>
   cases hr:fs.mapM (fun f=>(P.info? f.type).map fun i=>(f.offset,i.size))with
   |none=>simp[hf,hr]at h
   |some rest=>
    simp[hf,hr]at h;subst h;cases i with
    |zero=>simp at hi;subst hi;rw[hf]at hj;cases hj;rfl
    |succ i=>simp at hi⊢;exact R6 fs rest hr i fd j hi hj
theorem zem{places:List (Nat×Nat)}{l:List (Nat×Nat×Operand)}
 (ht:P.underlying t=some (.struct fields)) (hi:P.info? t=some i) (hz:i.zero=some z) (jJ:placesOf P fields.toList=some places)
 (hp:partsOf P fields ps=some l) (ho:Bs e z.cells.toList l=some cs):
 (Instr.build t (ps.map fun p=>(p.1,ev e p.2)).toArray).run P w= .ok (.agg cs.toArray) w:=by
 refine run_build w t _ cs.toArray ?_;unfold placesOf at jJ;unfold Program.built;simp only[hi,ht,hz,jJ];have:=R3 (e:=e) (P:=P) (fields:=fields) (R6 _ places jJ) ps l z.cells.toList cs hp ho;simpa using this
theorem Qi:∀(ps:List (Nat×Operand)) (k:Nat) (xs:List Operand),zj k ps=some xs->ps=(xs.zipIdx k).map fun p=>(p.2,p.1)
 |[],k,xs,h=>by simp[zj]at h;subst h;rfl
 |(i,x)::ps,k,xs,h=>by
  simp only[zj]at h;cases hb:Nat.beq i k with
  |false=>simp[hb]at h
  |true=>
   cases hr:zj (k+1) ps with
   |none=>simp[hb,hr]at h
   |some xs'=>
    simp[hb,hr]at h;subst h;have:=qaI hb;subst this;simp[List.zipIdx_cons,Qi ps (i+1) xs' hr]
theorem K4(pre ks post:List Value)(vs:List Value)(h:ks.length=vs.length):gU (pre++ks++post) pre.length vs=pre++vs++post:=by
 induction vs generalizing pre ks with
 |nil=>simp at h;subst h;simp[gU]
 |cons v vs ih=>
  cases ks with
  |nil=>simp at h
  |cons m ks=>
   simp at h;simp only[gU];have:(pre++m::ks++post).set pre.length v=(pre++[v])++ks++post:=by simp
   rw[this];have:=ih (pre++[v]) ks h;simp only[qar,qaw]at this;rw[this];simp
theorem Nn(size:Nat):∀(xs:List Operand) (k:Nat) (cs:List Value) (pre post:List Value),xn size (mc e xs)=some cs->pre.length=k*size->post.length=xs.length*size->
 Instr.fill (fun i=>some (i*size,size)) (pre++post).toArray ((xs.zipIdx k).map fun p=>(p.2,ev e p.1))=some (pre++cs).toArray
 |[],k,cs,pre,post,h,_,hp=>by
  simp[mc,xn]at h;subst h;simp at hp;subst hp;simp[Instr.fill]
 |x::xs,k,cs,pre,post,h,hk,hp=>by
  simp only[mc,xn]at h;cases hb:Nat.beq (ez (ev e x)).length size with
  |false=>simp[hb]at h
  |true=>
   have hs:=qaI hb;cases hr:xn size (mc e xs)with
   |none=>simp[hb,hr]at h
   |some cs'=>
    simp[hb,hr]at h;subst h;have xa:post=post.take size++post.drop size:=(qbR size post).symm;have hlen:(post.take size).length=size:=by
     simp only[qaO,qbr]at hp;simp;omega
    simp only[List.zipIdx_cons,qaB];rw[Nm _ _ k (k*size) size (ev e x) _ rfl hs (by simp[hk,hp,qbr])];have:gU (pre++post) (k*size) (ez (ev e x))=(pre++ez (ev e x))++post.drop size:=by
     rw[xa,<-qap,<-hk,K4 pre (post.take size) (post.drop size) _ (by rw[hlen,hs])];simp
    rw[this,Nn size xs (k+1) cs' (pre++ez (ev e x)) (post.drop size) hr (by simp[hk,hs,qbr]) (by simp[hp,qbr])];simp
theorem zen{xs:List Operand}(ht:P.underlying t=some (.slice el))(hj:P.info? el=some j)(hz:j.zero.isSome=true)
 (jG:zj 0 ps=some xs) (hn:xs.length=n) (hb:n*j.size<=16777216) (hc:xn j.size (mc e xs)=some cs):
 (Instr.buildSlice t n (ps.map fun p=>(p.1,ev e p.2)).toArray).run P w= .ok (.slice (some ⟨w.heap.size,0,none⟩) n n) (w.alloc (.cells cs.toArray el)):=by
 obtain⟨z,hz⟩:=Option.isSome_iff_exists.1 hz;have rD:=Qi ps 0 xs jG;have IW:(ps.map fun p=>(p.1,ev e p.2))=(xs.zipIdx 0).map fun p=>(p.2,ev e p.1):=by
  rw[rD];simp
 have OM:∀zs:List Value,zs.length=n*j.size->Instr.fill (fun i=>some (i*j.size,j.size)) zs.toArray (ps.map fun p=>(p.1,ev e p.2))=some cs.toArray:=by
  intro zs hl;rw[IW];have:=Nn (e:=e) j.size xs 0 cs [] zs hc (by simp) (by rw[hl,hn]);simpa using this
 have cV:¬(16777216<n*j.size):=by omega
 by_cases h0:n*j.size=0
 .have:=OM ((Array.range (n*j.size)).map (fun i=>(#[]:Array Value)[i%0]!)).toList (by simp);simp only[Array.toArray_toList]at this;simp[Instr.buildSlice,qas ht,nP hj,h0]at this⊢;simp[this,newRow]
 have:=OM ((Array.range (n*j.size)).map (fun i=>z.cells[i%z.cells.size]!)).toList (by simp);simp only[Array.toArray_toList]at this;simp[Instr.buildSlice,qas ht,nP hj,h0,cV,xI hj hz,this,newRow]
end
section
variable {P:Program}{w:World}{K:Value->World->Prop}{e:Env}
theorem Mm(ps:Array (Nat×Operand)):(ps.map fun(i,x)=>(i,ev e x))=(ps.toList.map fun p=>(p.1,ev e p.2)).toArray:=by
 apply qcm;simp
theorem Ml(ps:Array Operand):(ps.map (ev e))=(mc e ps.toList).toArray:=by
 apply qcm;simp[Nh]
theorem dq{op:Op}(h:bB P (.gen op type) e w K):fz P (execOp (ev e) ⟨dst,op,type,pos,after,guard⟩) w K:=by
 have hx:execOp (ev e) ⟨dst,op,type,pos,after,guard⟩=execOp (ev e) ⟨none,op,type, "",#[],none⟩:=rfl;rw[hx];rcases h with⟨v,w',hr,hk⟩|⟨w',hr,hk⟩
 .unfold fz;rw[hr];exact hk
 unfold fz;rw[hr];exact hk
theorem Ah(h:∀d,(Op.equalIn (d+1) t u v).run P w= .ok r w):(Op.equal t u v).run P w= .ok r w:=h 9999
theorem NK(jn:op=(bif neg then .neq else .eql))(ht:P.underlying t=some (.slice el))
 (h:bB P (.ya neg x y) e w K):
 fz P (do pure (.value (<-(do eqGuard op t x y (ev e x) (ev e y);binOp op t (ev e x) (ev e y))))) w K:=by
 have wC:∀(a:Option Addr) (n m:Nat) (v:Value) (r:Bool),(Op.equal t (.slice a n m) v).run P w= .ok r w->(binOp op t (.slice a n m) v).run P w= .ok (.bool (ic neg r)) w:=by
  intro a n m v r h1;subst jn;cases neg<;>simp[binOp,h1,ic]
 simp only[bB]at h;split at h
 .rename_i hx hy;rw[hx,hy];exact qh (by rw[eqGuard_at_slice];rfl) (wC _ _ _ _ _ (Ah fun d=>by rw[Op.equalIn];simp[qas ht])) h
 .rename_i hx hy;rw[hx,hy];exact qh (by rw[eqGuard_at_slice];rfl) (wC _ _ _ _ _ (Ah fun d=>by rw[Op.equalIn];simp[qas ht])) h
 exact h.elim
theorem NL{k:TypeId}(jn:op=(bif neg then .neq else .eql))(ht:P.underlying t=some (.map k el))
 (h:bB P (.qW neg x y) e w K):
 fz P (do pure (.value (<-(do eqGuard op t x y (ev e x) (ev e y);binOp op t (ev e x) (ev e y))))) w K:=by
 have wC:∀(a:Option Nat) (v:Value) (r:Bool),(Op.equal t (.map a) v).run P w= .ok r w->(binOp op t (.map a) v).run P w= .ok (.bool (ic neg r)) w:=by
  intro a v r h1;subst jn;cases neg<;>simp[binOp,h1,ic]
 simp only[bB]at h;split at h
 .rename_i hx hy;rw[hx,hy];exact qh (by rw[eqGuard_at_map];rfl) (wC _ _ _ (Ah fun d=>by rw[Op.equalIn];simp[qas ht])) h
 .rename_i hx hy;rw[hx,hy];exact qh (by rw[eqGuard_at_map];rfl) (wC _ _ _ (Ah fun d=>by rw[Op.equalIn];simp[qas ht])) h
 exact h.elim
theorem NJ{a b:Array TypeId}{c:Bool}(jn:op=(bif neg then .neq else .eql))(ht:P.underlying t=some (.func a b c))
 (h:bB P (.Ac neg x y) e w K):
 fz P (do pure (.value (<-(do eqGuard op t x y (ev e x) (ev e y);binOp op t (ev e x) (ev e y))))) w K:=by
 have wC:∀(u v:Value) (r:Bool),(match u with| .nilFunc=>True| .func _ _ _=>True|_=>False)->(Op.equal t u v).run P w= .ok r w->(binOp op t u v).run P w= .ok (.bool (ic neg r)) w:=by
  intro u v r hu h1;subst jn;cases u<;>first|exact hu.elim|skip
  all_goals cases neg<;>simp[binOp,h1,ic]
 simp only[bB]at h;split at h
 .rename_i hx hy;rw[hx,hy];exact qh (by rw[eqGuard_at_nilFunc];rfl) (wC _ _ _ trivial (Ah fun d=>by rw[Op.equalIn];simp[qas ht])) h
 .rename_i hx hy;rw[hx,hy];exact qh (by rw[eqGuard_at_func];rfl) (wC _ _ _ trivial (Ah fun d=>by rw[Op.equalIn];simp[qas ht])) h
 exact h.elim
theorem NQ{first captured:List Value}(hc:c.callee= .value x)(hx:ev e x= .func (.func f) first.toArray captured.toArray)
 (h:az P f (first++mc e c.args.toList++captured) w K):
 fz P (do let d<-resolve (ev e) c type;invoke d.target d.args) w K:=by
 have mA:(do let d<-resolve (ev e) c type;invoke d.target d.args:Sem Next).run P w=(callFunc f (first++mc e c.args.toList++captured).toArray).run P w:=by
  simp[resolve,hc,Deferred.ofValue,hx,invoke,Ml]
 refine NP mA (NO ?_);simpa using h
theorem zaf{r:Operand}{m:String}(hc:c.callee= .invoke r m)(h:bB P (.inv r m c.args.toList) e w K):
 fz P (do let d<-resolve (ev e) c type;invoke d.target d.args) w K:=by
 simp only[bB]at h;split at h
 .rename_i t v hr;obtain⟨f,rc,hm,h⟩:=h;unfold fZ at hm;have mA:(do let d<-resolve (ev e) c type;invoke d.target d.args:Sem Next).run P w=(callFunc f (rc::mc e c.args.toList).toArray).run P w:=by
   simp[resolve,hc,hr,invoke,Ml,callMethod,hm]
  exact NP mA (NO (by simpa using h))
 exact h.elim
theorem EZ(hc:c.callee= .builtin .len)(ha:c.args.toList=[x])(cK:c.argTypes.toList=[t])
 (h1:(Builtin.len_ #[t] type #[ev e x]).run P w= .ok v w) (h2:K v w):
 fz P (do let d<-resolve (ev e) c type;invoke d.target d.args) w K:=by
 have wK:c.args= #[x]:=by apply qcm;simpa using ha
 have H7:c.argTypes= #[t]:=by apply qcm;simpa using cK
 unfold fz;simp[resolve,hc,wK,H7,invoke,builtin,h1];exact h2
theorem zai(hc:c.callee= .builtin .len)(ha:c.args.toList=[x])(cK:c.argTypes.toList=[t])
 (ht:P.underlying t=some .string) (h:bB P (.lens x) e w K):
 fz P (do let d<-resolve (ev e) c type;invoke d.target d.args) w K:=by
 simp only[bB]at h;split at h
 .rename_i s hx;exact EZ hc ha cK (by simp[Builtin.len_,qas ht,hx,goInt]) h
 exact h.elim
theorem zag(hc:c.callee= .builtin .len)(ha:c.args.toList=[x])(cK:c.argTypes.toList=[t])
 (ht:P.underlying t=some (.slice el)) (h:bB P (.len x) e w K):
 fz P (do let d<-resolve (ev e) c type;invoke d.target d.args) w K:=by
 simp only[bB]at h;split at h
 .exact EZ hc ha cK (by simp[Builtin.len_,qas ht, *,goInt]) h
 exact h.elim
theorem zah{k:TypeId}(hc:c.callee= .builtin .len)(ha:c.args.toList=[x])(cK:c.argTypes.toList=[t])
 (ht:P.underlying t=some (.map k el)) (h:bB P (.FZ x) e w K):
 fz P (do let d<-resolve (ev e) c type;invoke d.target d.args) w K:=by
 simp only[bB]at h;split at h
 .exact EZ hc ha cK (by simp[Builtin.len_,qas ht, *,goInt]) h
 .rename_i r hx;obtain⟨es,bJ,hm,hk⟩:=h;refine EZ hc ha cK (v:= .int .i64 es.size) ?_ hk;simp[Builtin.len_,qas ht,hx,goInt,getObj,Sem.run,hm]
 exact h.elim
theorem zab{s:Operand}{tx:TypeId}(hc:c.callee= .builtin .append)(ha:c.args.toList=[s,x])(cK:c.argTypes.toList=[t,tx])(h:ll P t tx type (ev e s) (ev e x) w K):
 fz P (do let d<-resolve (ev e) c type;invoke d.target d.args) w K:=by
 have wK:c.args= #[s,x]:=by apply qcm;simpa using ha
 have H7:c.argTypes= #[t,tx]:=by apply qcm;simpa using cK
 unfold ll at h;obtain⟨v,w',h1,h2⟩:=h;unfold fz;simp[resolve,hc,wK,H7,invoke,builtin,h1];exact h2
theorem zae(h:bB P (db P ⟨dst,.call c,type,pos,after,guard⟩) e w K):
 fz P (execOp (ev e) ⟨dst,.call c,type,pos,after,guard⟩) w K:=by
 obtain⟨callee,args,argTypes⟩:=c;cases callee
 case value x=>
  cases x
  case func f=>
   simp only[db,bB]at h;exact NQ (first:=[]) (captured:=[]) (x:= .func f) rfl rfl (by simpa using h)
  all_goals
   simp only[db,bB]at h
   first
    |done
    |exact h.elim
    |(
     split at h
     .rename_i g first captured hx
      exact NQ (first:=first.toList) (captured:=captured.toList) rfl (by simpa using hx) h
     exact h.elim)
 case invoke r m=>
  simp only[db]at h;exact zaf (type:=type) rfl h
 case builtin b=>
  cases b
  case len=>
   simp only[db]at h;split at h
   .rename_i x t ha cK;split at h
    .exact zai rfl ha cK ‹_› h
    .exact zag rfl ha cK ‹_› h
    .exact zah rfl ha cK ‹_› h
    exact dq h
   exact dq h
  case append=>
   simp only[db]at h;split at h
   .rename_i s x t tx ha cK;exact zab rfl ha cK h
   exact dq h
  all_goals exact dq h
theorem Hj{d:Nat}(h:se e (some x) d k):∃kd,ev e x= .int kd (k:Int):=by
 simp only[se]at h;split at h
 .rename_i kd n hx;subst h;exact⟨kd,hx⟩
 exact h.elim
theorem By{y:Nat}{code:BoundsCode}(hx:v= .int kd (k:Int))(h:k<=y):
 (Instr.sliceBound v y code).run P w= .ok k w:=by
 subst hx;simp[Instr.sliceBound,asIntOf,h]
theorem zeu{mx:Option Operand}{a:Option Addr}{m:Nat}(ht:P.underlying t=some (.slice el))(dF:∃j,P.info? el=some j)
 (h1:se e mx cap m) (h2:se e hi len h) (h3:h<=m) (h4:m<=cap) (aT:hi=none->mx=none):
 (Instr.sliceAt t (.slice a len cap) none (hi.map (ev e)) (mx.map (ev e))).run P w= .ok (.slice a h m) w:=by
 obtain⟨j,hj⟩:=dF;have hz:(a.map fun p=>p.add (0*j.size))=a:=by cases a<;>simp[Addr.add]
 have hb:(Instr.sliceBounds true len cap none (hi.map (ev e)) (mx.map (ev e))).run P w= .ok (0,h,m) w:=by
  cases hi with
  |none=>
   have:=aT rfl;subst this;simp only[se]at h1 h2;subst h1;subst h2;simp[Instr.sliceBounds]
  |some x=>
   obtain⟨kd,hx⟩:=Hj h2;cases mx with
   |none=>
    simp only[se]at h1;subst h1;simp[Instr.sliceBounds,By hx h3]
   |some y=>
    obtain⟨kd',hy⟩:=Hj h1;simp[Instr.sliceBounds,By hy h4,By hx h3]
 have hm:(if m=0 then a else a.map fun p=>p.add (0*j.size))=a:=by rw[hz];simp
 simp only[Instr.sliceAt,Instr.slice,qbj,qas ht,qa4,hb,nP hj,qbX,hm];simp
theorem zev{lo:Operand}{a:Option Addr}{l:Nat}(ht:P.underlying t=some (.slice el))(hj:P.info? el=some j)
 (hl:ev e lo= .int kd (l:Int)) (h2:se e hi len h) (h3:l<=h) (h4:h<=cap):
 (Instr.sliceAt t (.slice a len cap) (some (ev e lo)) (hi.map (ev e)) none).run P w= .ok (.slice (if cap=l then a else a.map (·.add (l*j.size))) (h-l) (cap-l)) w:=by
 have hb:(Instr.sliceBounds true len cap (some (ev e lo)) (hi.map (ev e)) none).run P w= .ok (l,h,cap) w:=by
  cases hi with
  |none=>
   simp only[se]at h2;subst h2;simp[Instr.sliceBounds,By hl h3]
  |some x=>
   obtain⟨kd',hx⟩:=Hj h2;simp[Instr.sliceBounds,By hx h4,By hl h3]
 simp only[Instr.sliceAt,Instr.slice,qbj,qas ht,qa4,hb,nP hj,qbX]
theorem zet(ht:P.underlying t=some (.slice el))(hj:P.info? el=some j)(hz:j.zero=some z)(hs:j.size=1)(hv:z.oneCell'=true)
 (h1:k*j.bytes<=140737488355328) (h2:k<=140737488355328):
 (Instr.makeSlice t (.int .i64 k) (.int .i64 k)).run P w= .ok (.slice (some ⟨w.heap.size,0,none⟩) k k) (w.alloc (.cells (List.replicate k z).toArray el)):=by
 have h:=run_make (P:=P) w t el j z ht hj hz .i64 .i64 (k:Int) (k:Int) (by omega) (by omega) (by
  have:(j.bytes:Int)*(k:Int)=((k*j.bytes:Nat):Int):=by rw[Nat.mul_comm];simp
  rw[this];omega) (by omega)
 rw[h];simp only[Int.toNat_natCast,hs,qb1]
 congr 3
 apply qcm;apply qbe;intro n;simp only[madeCells,RR hv];by_cases hn:n<k
 .simp[hn,Nat.mod_one]
 simp[hn]
theorem E1(o:Oper)(h:bB P (db P o) e w K):fz P (execOp (ev e) o) w K:=by
 obtain⟨dst,op,type,pos,after,guard⟩:=o;cases op
 case move x=>simp only[db,bB]at h;exact h
 case assign x=>simp only[db,bB]at h;exact h
 case pick c a b=>
  simp only[db,bB]at h;split at h
  .rename_i t hc;simp only[execOp,hc,asBool];cases t<;>exact h
  exact h.elim
 case alloc t=>
  simp only[db]at h;split at h
  .rename_i i hi;split at h
   .rename_i z hz;simp only[bB]at h;refine di ?_ h;simp[Instr.alloc,xI hi hz,newVar,newRow]
   exact dq h
  exact dq h
 case box t x=>
  simp only[db,bB]at h;refine di ?_ h;simp[Instr.box,newVar,newRow,Hu]
 case build t parts=>
  simp only[db]at h;split at h
  .rename_i fields i ht hi;split at h
   .rename_i z l hz hl;cases hb:(fields.toList.mapM fun f=>(P.info? f.type).map fun i=>(f.offset,i.size))with
    |none=>simp only[hb,Option.isSome_none,qbq]at h;exact dq h
    |some places=>
     simp only[hb,Option.isSome_some,qbf,bB]at h;obtain⟨cs,hc,hk⟩:=vT h;refine di ?_ hk;rw[Mm];exact zem ht hi hz hb hl hc
   exact dq h
  exact dq h
 case buildSlice t n parts=>
  simp only[db]at h;split at h
  .rename_i el ht;split at h
   .rename_i j hj;split at h
    .rename_i xs jG;cases hb:(Nat.beq xs.length n&&Nat.ble (n*j.size) 16777216&&j.zero.isSome)with
     |false=>simp only[hb,qbq]at h;exact dq h
     |true=>
      simp only[hb,qbf,bB]at h;simp only[qbn]at hb;obtain⟨cs,hc,hk⟩:=vT h;refine di ?_ hk;rw[Mm];exact zen ht hj hb.2 jG (qaI hb.1.1) (qbQ hb.1.2) hc
    exact dq h
   exact dq h
  exact dq h
 case load t a=>
  simp only[db]at h;split at h
  .rename_i i d hi hd;cases hb:rN d with
   |false=>
    simp only[hb,qbq,bB]at h;split at h
    .rename_i p ha;obtain⟨v,hc,hk⟩:=h;refine di ?_ hk;rw[ha];exact Sf hd hb hc
    exact h.elim
   |true=>
    simp only[hb,qbf,bB]at h;split at h
    .rename_i b o ha;obtain⟨vs,⟨hl,hr⟩,hk⟩:=h;refine di ?_ hk;rw[ha];exact Sg hi hd hb hl hr
    exact h.elim
  exact dq h
 case store t a x=>
  simp only[db]at h;split at h
  .rename_i i d hi hd;cases hb:rN d with
   |false=>
    simp only[hb,qbq]at h;cases hs:Nat.beq i.size 1 with
    |false=>simp only[hs,qbq]at h;exact dq h
    |true=>
     simp only[hs,qbf,bB]at h;split at h
     .rename_i b o ha;obtain⟨t',cs,⟨hblk,ho,hv⟩,hk⟩:=h;refine NR ?_ hk;rw[ha];exact zew hi (qaI hs) hblk ho hv
     exact h.elim
   |true=>
    simp only[hb,qbf,bB]at h;split at h
    .rename_i b o ha;obtain⟨t',cs,⟨hblk,ho,hl,hv⟩,hk⟩:=h;refine NR ?_ hk;rw[ha];exact zex hi hblk ho hl hv
    exact h.elim
  exact dq h
 case nilCheck x=>
  simp only[db,bB]at h;simp only[execOp];split at h
  .rename_i a hx;rw[hx];exact h
  .rename_i t v hx;rw[hx];exact h
  .rename_i f a b hx;rw[hx];exact h
  exact h.elim
 case binOp op t x y yt=>
  simp only[db]at h;split at h
  .simp only[bB]at h;split at h
   .rename_i k a k' b hx hy;cases hb:Nat.beq (vK k) (vK k')with
    |false=>simp only[hb,qbq]at h;exact zaj hx hy h
    |true=>
     have:=zcI hb;subst this;simp only[hb,qbf]at h;exact zac hx hy h
   exact h.elim
  .simp only[bB]at h;split at h
   .rename_i a b hx hy;exact zad hx hy h
   exact h.elim
  .split at h
   .simp only[bB]at h;split at h
    .rename_i a b hx hy;simp only[execOp];rw[hx,hy];exact qh (by rw[eqGuard_at_bool];rfl) (by simp[binOp,Op.equal,Op.maxDepth,ic];rw[show(10000:Nat)=9999+1 from rfl,Op.equalIn];simp[qas ‹P.underlying t=some TypeDesc.bool›]) h
    exact h.elim
   .simp only[bB]at h;split at h
    .rename_i a b hx hy;simp only[execOp];rw[hx,hy];exact qh (by rw[eqGuard_at_bool];rfl) (by simp[binOp,Op.equal,Op.maxDepth,ic];rw[show(10000:Nat)=9999+1 from rfl,Op.equalIn];simp[qas ‹P.underlying t=some TypeDesc.bool›]) h
    exact h.elim
   exact dq h
  .rename_i el ht;split at h
   .rename_i j hj;cases hz:Nat.beq j.size 0 with
    |true=>simp only[hz,qbf]at h;exact dq h
    |false=>
     simp only[hz,qbq]at h;split at h
     .simp only[bB]at h;split at h
      .rename_i a b hx hy;exact NM (neg:=false) rfl ht hj hz hx hy h
      exact h.elim
     .simp only[bB]at h;split at h
      .rename_i a b hx hy;exact NM (neg:=true) rfl ht hj hz hx hy h
      exact h.elim
     exact dq h
   exact dq h
  .rename_i ms ht;split at h
   .exact NI (neg:=false) rfl ht h
   .exact NI (neg:=true) rfl ht h
   exact dq h
  .rename_i el ht;split at h
   .exact NK (neg:=false) rfl ht h
   .exact NK (neg:=true) rfl ht h
   exact dq h
  .rename_i k el ht;split at h
   .exact NL (neg:=false) rfl ht h
   .exact NL (neg:=true) rfl ht h
   exact dq h
  .rename_i x1 x2 x3 ht;split at h
   .exact NJ (neg:=false) rfl ht h
   .exact NJ (neg:=true) rfl ht h
   exact dq h
  exact dq h
 case unOp op t x=>
  cases op
  case not=>
   simp only[db,bB]at h;split at h
   .rename_i b hx;refine di ?_ h;simp[hx,Op.unary]
   exact h.elim
  all_goals exact dq h
 case makeInterface t x=>
  simp only[db]at h;split at h
  .exact dq h
  .rename_i d aT ht;simp only[bB]at h;refine di ?_ h;simp only[Instr.makeInterface,qbj,qas ht,qa4];cases d<;>first|exact absurd rfl (aT _)|rfl
  exact dq h
 case makeFunc fn first captured=>
  cases fn
  case func f=>
   simp only[db]at h;cases hb:first.toList.isEmpty with
   |false=>simp only[hb,qbq]at h;exact dq h
   |true=>
    simp only[hb,qbf,bB]at h;have hf:first= #[]:=by
     apply qcm;simpa using hb
    subst hf;refine di ?_ h;simp[Instr.makeFunc,Nh,<-List.map_toArray]
  all_goals exact dq h
 case makeMap t r=>
  cases r
  case none=>
   simp only[db,bB]at h;refine di ?_ h;simp[Instr.makeMap]
  case some r=>exact dq h
 case fieldAddr s x f=>
  simp only[db]at h;split at h
  .rename_i fields hs;split at h
   .rename_i fd hf;split at h
    .rename_i j hj;cases hz:Nat.beq j.size 0 with
     |true=>simp only[hz,qbf]at h;exact dq h
     |false=>
      simp only[hz,qbq,bB]at h;split at h
      .rename_i b o hx;refine di ?_ h;rw[hx];exact zeo hs hf hj hz
      exact h.elim
    exact dq h
   exact dq h
  exact dq h
 case field s x f=>
  simp only[db]at h;split at h
  .rename_i fields hs;split at h
   .rename_i fd hf;split at h
    .rename_i j d hj hd;have gh:fields[f]? =some fd:=by simpa using hf
     simp only[bB]at h;split at h
     .rename_i cs hx;cases hb:rN d with
      |true=>
       simp only[hb,qbf]at h;refine di ?_ h;simp only[Instr.field,qbj,qas hs,qa4,gh,hx,asAgg,qbX,part,Gh hd,hb,qcn,nP hj]
       congr 2
       apply qcm;simp[List.extract_eq_take_drop]
      |false=>
       simp only[hb,qbq]at h;obtain⟨v,hv,hk⟩:=vT h;refine di ?_ hk;have iQ:cs[fd.offset]? =some v:=by simpa using hv
       simp[Instr.field,qas hs,gh,hx,asAgg,part,Gh hd,hb,iQ]
     exact h.elim
    exact dq h
   exact dq h
  exact dq h
 case indexAddr t x i=>
  simp only[db]at h;split at h
  .rename_i el ht;split at h
   .rename_i j hj;simp only[bB]at h;split at h
    .rename_i b o len cap kd n hx hi;obtain⟨k,⟨rfl,hk⟩,h⟩:=h;refine di ?_ h;rw[hx,hi];exact zep ht hj hk
    exact h.elim
   exact dq h
  .rename_i n el ht;split at h
   .rename_i j hj;simp only[bB]at h;split at h
    .rename_i b o kd n hx hi;obtain⟨k,⟨rfl,hk⟩,h⟩:=h;refine di ?_ h;rw[hx,hi];exact zeq ht hj hk
    exact h.elim
   exact dq h
  exact dq h
 case typeAssert x xt t ok=>
  simp only[db]at h;split at h
  .exact dq h
  .rename_i d i aT ht hi;split at h
   .rename_i z hz;simp only[bB]at h;have key:∀v,(Instr.typeAssert (.iface t v) xt t ok).run P w= .ok (bif ok then .tuple #[v,.bool true]else v) w:=by
     intro v;simp only[Instr.typeAssert,qbj,qas ht,qa4];cases d<;>first|exact absurd rfl (aT _)|(cases ok<;>simp)
    have zcG:∀u v,u≠t->ok=true->(Instr.typeAssert (.iface u v) xt t ok).run P w= .ok (.tuple #[z,.bool false]) w:=by
     intro u v hu cQ;subst cQ;simp only[Instr.typeAssert,qbj,qas ht,qa4];cases d<;>first|exact absurd rfl (aT _)|simp[hu,xI hi hz]
    have zcH:ok=true->(Instr.typeAssert .nilIface xt t ok).run P w= .ok (.tuple #[z,.bool false]) w:=by
     intro cQ;subst cQ;simp only[Instr.typeAssert,qbj,qas ht,qa4];cases d<;>first|exact absurd rfl (aT _)|simp[xI hi hz]
    split at h
    .rename_i u v hx;cases hb:Nat.beq u t with
     |true=>
      have:=qaI hb;subst this;simp only[hb,qbf]at h;refine di ?_ h;rw[hx];exact key v
     |false=>
      have hu:u≠t:=by intro h;simp[h]at hb
      simp only[hb,qbq]at h;cases ok with
      |false=>simp at h
      |true=>
       simp only[qbf]at h;refine di ?_ h;rw[hx];exact zcG u v hu rfl
    .rename_i hx;cases ok with
     |false=>simp at h
     |true=>
      simp only[qbf]at h;refine di ?_ h;rw[hx];exact zcH rfl
    exact h.elim
   exact dq h
  exact dq h
 case extract x i=>
  simp only[db,bB]at h;split at h
  .rename_i vs hx;obtain⟨v,hv,hk⟩:=vT h;have iQ:vs[i]? =some v:=by simpa using hv
   refine di ?_ hk;simp[Instr.extract,hx,iQ]
  exact h.elim
 case panic x=>simp only[db,bB]at h
 case call c=>exact zae h
 case convert src dst x=>
  simp only[db]at h;split at h
  .rename_i k0 k hs hd;simp only[bB]at h;split at h
   .rename_i k1 n hx;obtain⟨z,rfl,h⟩:=h;refine di ?_ h;simp[convert,hx,qas hs,qas hd,Conv.intToInt]
   exact h.elim
  exact dq h
 case slice t x lo hi mx=>
  cases lo with
  |none=>
   simp only[db]at h;split at h
   .rename_i el ht;cases hb:((P.info? el).isSome&& !(hi.isNone&&mx.isSome))with
    |false=>simp only[hb,qbq]at h;exact dq h
    |true=>
     simp only[hb,qbf,bB]at h;simp only[qbn]at hb;split at h
     .rename_i a len cap hx;obtain⟨hh,m,⟨h1,h2,h3,h4⟩,hk⟩:=h;refine di ?_ hk;rw[hx];exact zeu ht (Option.isSome_iff_exists.1 hb.1) h1 h2 h3 h4 (fun q=>by cases hi<;>cases mx<;>simp_all)
     exact h.elim
   exact dq h
  |some lo=>
   cases mx with
   |some m=>exact dq h
   |none=>
    simp only[db]at h;split at h
    .rename_i el ht;split at h
     .rename_i j hj;simp only[bB]at h;split at h
      .rename_i a len cap k n hx mq;obtain⟨l,hh,⟨rfl,h2,h3,h4⟩,hk⟩:=h;refine di ?_ hk;rw[hx];exact zev ht hj mq h2 h3 h4
      exact h.elim
     exact dq h
    exact dq h
 case makeSlice t a b=>
  cases a<;>cases b<;>first|exact dq h|skip
  rename_i a b;simp only[db]at h;cases d8:Nat.beq a b with
  |false=>simp only[d8,qbq]at h;exact dq h
  |true=>
   have:=qaI d8;subst this;simp only[d8,qbf]at h;split at h
   .rename_i el ht;split at h
    .rename_i j hj;split at h
     .rename_i z hz;cases hb:(Nat.beq j.size 1&&z.oneCell')with
      |false=>simp only[hb,qbq]at h;exact dq h
      |true=>
       simp only[hb,qbf,bB]at h;simp only[qbn]at hb;split at h
       .rename_i n hx;obtain⟨k,⟨rfl,h1,h2⟩,hk⟩:=h;refine di ?_ hk;rw[hx];exact zet ht hj hz (qaI hb.1) hb.2 h1 h2
       exact h.elim
     exact dq h
    exact dq h
   exact dq h
 all_goals exact dq h
end
theorem Hc{α:Type}:∀(a:Ask α) (w:World),w.drawn<=(w.ask a).2.drawn
 | .done _,w=>qad _
 | .ask zgK range k,w=>by
  unfold World.ask;simp only;split
  .exact Hc _ _
  exact qaQ (qcf _) (Hc (k _) {w with drawn:=w.drawn+1})
theorem zfe(w:World)(c:Sys):w.drawn<=(w.sys c).2.drawn:=by
 unfold World.sys;have h:=Hc (Kernel.perform c w.os) w;split
 .exact qad _
 rename_i r os w' hx hy;rw[hy]at h;exact h
theorem zfL{p:Program}{at_:Addr}{u:TypeId}{k:Addr}{b:Bool}{l:List Addr}(h:w.viewStore p at_ u k v b= .ok (w',l)):w'.drawn=w.drawn:=by
 unfold World.viewStore at h;simp only[bind,Except.bind,pure,Except.pure,throw,throwThe,MonadExceptOf.throw]at h
 repeat' split at h
 all_goals first|(cases h;done)|(simp only[Except.ok.injEq,qby]at h;rw[<-h.1])
theorem Sc{α:Type}:∀(s:Sem α) {w w':World} {a:α},s.run P w= .ok a w'->w.drawn<=w'.drawn:=by
 intro s
 induction s with
 |pure a=>intro w w' x h;simp only[Sem.run,Result.ok.injEq]at h;rw[h.2];exact qad _
 |load m a k ih=>
  intro w w' x h;simp only[Sem.run]at h;split at h
  .exact ih _ h
  split at h
  .exact ih _ h
  cases h
 |store m a v k ih=>
  intro w w' x h;have key:(match w.cell? a with
   |some _=>if w.frozen? a then .halt (.unsupported (.unsafePointer "a write to bytes that a string shares")) w else k.run P (w.setCell a v)
   |none=>match w.farStore P a v (m== .atomic)with
    | .ok (w,_)=>k.run P w
    | .error h=> .halt h w)=Result.ok x w'->w.drawn<=w'.drawn:=by
   intro h;split at h
   .split at h
    .cases h
    have h2:=ih h;exact h2
   split at h
   .rename_i w1 l hx;have:=ih h;unfold World.farStore at hx;split at hx
    .split at hx
     .rename_i r hr;cases hx;rw[zfL hr]at this;exact this
     cases hx
    cases hx
   cases h
  cases v<;>simp only[Sem.run]at h<;>first|(cases h;done)|exact key h
 |new o k ih=>intro w w' x h;simp only[Sem.run]at h;have h2:=ih _ h;exact h2
 |shape r k ih=>intro w w' x h;simp only[Sem.run]at h;exact ih _ h
 |freeze a n k ih=>
  intro w w' x h;simp only[Sem.run]at h;have:=ih h;unfold World.freeze at this;split at this<;>exact this
 |frozen a k ih=>intro w w' x h;simp only[Sem.run]at h;exact ih _ h
 |getObj r k ih=>
  intro w w' x h;simp only[Sem.run]at h;split at h
  .cases h
  .exact ih _ h
  cases h
 |setObj r o k ih=>
  intro w w' x h;simp only[Sem.run]at h;split at h
  .cases h
  .have h2:=ih h;exact h2
  cases h
 |choose q k ih=>
  intro w w' x h;simp only[Sem.run]at h;split at h
  .exact ih _ h
  have:=ih _ h;exact qaQ (qcf _) this
 |sys c k ih=>intro w w' x h;simp only[Sem.run]at h;exact qaQ (zfe w c) (ih _ h)
 |program k ih=>intro w w' x h;simp only[Sem.run]at h;exact ih _ h
 |mark m k ih=>intro w w' x h;simp only[Sem.run]at h;exact ih h
 |halt h=>intro w w' x h;simp only[Sem.run]at h;cases h
structure Fr(S:List Nat)(w w':World):Prop where
 size:w.heap.size<=w'.heap.size
 iB:∀b,b<w.heap.size->b∉S->w'.heap[b]? =w.heap[b]?
 os:w'.os=w.os
 tape:w'.tape=w.tape
 out:w'.output=w.output
 drawn:w.drawn<=w'.drawn
theorem Fr.refl(w:World):Fr [] w w:=⟨qad _,fun _ _ _=>rfl,rfl,rfl,rfl,qad _⟩
theorem Fr.jd(h:Fr S w w')(hs:∀b,b∈S->b∈S'):Fr S' w w':=
 ⟨h.size,fun b hb hn=>h.iB b hb fun hm=>hn (hs b hm),h.os,h.tape,h.out,h.drawn⟩
theorem Fr.nil(h:Fr [] w w'):Fr S w w':=h.jd (by simp)
theorem Fr.trans'(h:Fr S w w1)(h':Fr S' w1 w2)(hs:∀b,b∈S'->b∈S\/w.heap.size<=b):Fr S w w2:=
 ⟨qaQ h.size h'.size,fun b hb hn=>by
  rw[h'.iB b (qb4 hb h.size) fun hm=>by rcases hs b hm with h1|h1;exact hn h1;omega];exact h.iB b hb hn,h'.os.trans h.os,h'.tape.trans h.tape,h'.out.trans h.out,qaQ h.drawn h'.drawn⟩
theorem Fr.trans(h:Fr S w w1)(h':Fr S w1 w2):Fr S w w2:=h.trans' h' fun _ hb=> .inl hb
theorem Fr.D7(h:Fr S w w1)(h':Fr [] w1 w2):Fr S w w2:=h.trans' h' (by simp)
theorem Fr.alloc(w:World)(o:Obj):Fr [] w (w.alloc o):=
 ⟨by simp,fun b hb _=>by rw[heap_alloc_old w o];exact hb,rfl,rfl,rfl,qad _⟩
theorem Fr.bump(w:World):Fr [] w {w with drawn:=w.drawn+1}:=⟨qad _,fun _ _ _=>rfl,rfl,rfl,rfl,qcf _⟩
theorem Fr.set(w:World)(b:Nat)(o:Obj):Fr [b] w {w with heap:=w.heap.setIfInBounds b o}:=
 ⟨by simp,fun k hk hn=>by
  rw[Array.getElem?_setIfInBounds];simp at hn;rw[if_neg (fun h=>hn h.symm)],rfl,rfl,rfl,qad _⟩
theorem a_.lt(h:a_ w b t cs):b<w.heap.size:=by
 unfold a_ at h;rcases qa1 b w.heap.size with h'|h'
 .exact h'
 simp[qbJ h']at h
theorem a_.fr(h:a_ w b t cs)(hf:Fr S w w')(hb:b∉S):a_ w' b t cs:=by
 have:=hf.iB b h.lt hb;unfold a_ at*;rw[this];exact h
theorem a_.CA(h:a_ w b t cs)(hf:Fr [] w w'):a_ w' b t cs:=h.fr hf (by simp)
theorem a_.own(h:a_ w b t cs):iE w b:=⟨_,_,h⟩
theorem a_.new(w:World)(t:TypeId)(cs:List Value):a_ (w.alloc (.cells cs.toArray t)) w.heap.size t cs:=heap_alloc_new w _
theorem a_.set{cs':List Value}(h:a_ w b t cs):a_ {w with heap:=w.heap.setIfInBounds b (.cells cs'.toArray t (0,0))} b t cs':=Mw h
theorem a_.ld(h:a_ w b t cs)(i:Nat)(hv:cs[i]? =some v):w.cell? ⟨b,i,none⟩=some v:=by
 rw[Cg h];exact hv
theorem a_.row(h:a_ w b t cs)(o:Nat)(vs:List Value)(hv:∀i v,vs[i]? =some v->cs[o+i]? =some v):Row w b o vs:=
 fun i v hi=>h.ld (o+i) (hv i v hi)
theorem a_.DS(h:a_ w b t cs):Row w b 0 cs:=h.row 0 cs fun i v hi=>by simpa using hi
theorem a_.inj(h:a_ w b t cs)(h':a_ w b t' cs'):t=t'/\cs=cs':=by
 unfold a_ at*;rw[h]at h';simp at h';exact⟨h'.2,h'.1⟩
theorem tB(h:w.cell? ⟨b,o,none⟩=some v)(hf:Fr S w w')(hb:b∉S):w'.cell? ⟨b,o,none⟩=some v:=by
 have aG:b<w.heap.size:=qbV w _ h;have:=hf.iB b aG hb;unfold World.cell? at*;simp only at*;rw[this];exact h
theorem Row.fr(h:Row w b o vs)(hf:Fr S w w')(hb:b∉S):Row w' b o vs:=fun i v hi=>tB (h i v hi) hf hb
theorem Row.CA(h:Row w b o vs)(hf:Fr [] w w'):Row w' b o vs:=h.fr hf (by simp)
theorem Row.lt(h:Row w b o vs)(aT:vs≠[]):b<w.heap.size:=by
 cases vs with
 |nil=>exact absurd rfl aT
 |cons v vs=>exact qbV w _ (h 0 v rfl)
def j7(es:Array MapEntry)(bJ:Nat):Prop:=(∀x∈es.toList,x.born<bJ)/\(es.toList.map (·.born)).Nodup
def wo(w:World)(b:Nat)(es:Array MapEntry):Prop:=∃bJ,w.heap[b]? =some (.map es bJ)/\j7 es bJ
@[reducible]def xO(P:Program)(s:p6)(e:Env)(w:World)(K:Value->World->Prop):Prop:=
 match s with
 | .st a x=>match ev e a with
  | .pointer (some ⟨b,o,none⟩)=>∃t cs,(a_ w b t cs/\o<cs.length/\(ev e x).oneCell'=true)/\∀w1,Fr [b] w w1->a_ w1 b t (cs.set o (ev e x))->K undef w1
  |_=>False
 | .D5 a x n=>match ev e a with
  | .pointer (some ⟨b,o,none⟩)=>∃t cs,(a_ w b t cs/\o+n<=cs.length/\(ez (ev e x)).length=n/\(∀v∈ez (ev e x),v.oneCell'=true))/\
   ∀w1,Fr [b] w w1->a_ w1 b t (gU cs o (ez (ev e x)))->K undef w1
  |_=>False
 | .new t cs=>∀w1 b,Fr [] w w1->a_ w1 b t cs->w.heap.size<=b->K (.pointer (some ⟨b,0,none⟩)) w1
 | .box t x=>∀w1 b,Fr [] w w1->a_ w1 b t (ez (ev e x))->w.heap.size<=b->K (.pointer (some ⟨b,0,none⟩)) w1
 | .bs t n size parts=>sR (fun cs=>∀w1 b,Fr [] w w1->a_ w1 b t cs->w.heap.size<=b->K (.slice (some ⟨b,0,none⟩) n n) w1) (xn size (mc e parts))
 | .oQ=>∀w1 b,Fr [] w w1->wo w1 b #[]->w.heap.size<=b->K (.map (some b)) w1
 | .xw x z bytes t=>match ev e x with
  | .int .i64 n=>∃k:Nat,(n=(k:Int)/\k*bytes<=140737488355328/\k<=140737488355328)/\∀w1 b,Fr [] w w1->a_ w1 b t (List.replicate k z)->w.heap.size<=b->K (.slice (some ⟨b,0,none⟩) k k) w1
  |_=>False
 |s=>bB P s e w K
theorem Lu{s:p6}{e:Env}{K:Value->World->Prop}(h:xO P s e w K):bB P s e w K:=by
 cases s<;>simp only[xO]at h<;>first|exact h|skip
 case st a x=>
  simp only[bB];split at h
  .obtain⟨t,cs,h1,h2⟩:=h;exact⟨t,cs,h1,h2 _ (Fr.set _ _ _) h1.1.set⟩
  exact h.elim
 case D5 a x n=>
  simp only[bB];split at h
  .obtain⟨t,cs,h1,h2⟩:=h;exact⟨t,cs,h1,h2 _ (Fr.set _ _ _) h1.1.set⟩
  exact h.elim
 case new t cs=>exact h _ _ (Fr.alloc _ _) (a_.new _ _ _) (qad _)
 case box t x=>exact h _ _ (Fr.alloc _ _) (a_.new _ _ _) (qad _)
 case bs t n size parts=>
  obtain⟨cs,hc,h⟩:=vT h;simp only[bB,hc,sR];exact h _ _ (Fr.alloc _ _) (a_.new _ _ _) (qad _)
 case oQ=>exact h _ _ (Fr.alloc _ _) ⟨0,heap_alloc_new w _,by simp[j7]⟩ (qad _)
 case xw x z bytes t=>
  simp only[bB];split at h
  .obtain⟨k,h1,h2⟩:=h;exact⟨k,h1,h2 _ _ (Fr.alloc _ _) (a_.new _ _ _) (qad _)⟩
  exact h.elim
structure SI where
 dst:Option Tmp
 guard:Option (Tmp×Bool)
 op:p6
inductive fP where
 |done
 |stop
 |take (i:SI) (r:fP)
 |alt (i:SI) (r:fP) (others:fP)
inductive l8 where
 |skip
 |ret
 |ops (l:List SI)
 |draw (p:fP)
 |seq (a b:l8)
 |cond (c:Operand) (a b:l8)
 |block (id:Nat) (b:l8)
 |loop (b:l8)
 |exit (id:Nat)
 |bad
@[reducible]def guarded(g:Option (Tmp×Bool))(e:Env)(A B:Prop):Prop:=
 match g with
 |none=>A
 |some (t,want)=>match e t with
  | .bool b=>bif (bif want then b else !b)then A else B
  |_=>B
@[reducible]def opK(P:Program)(i:SI)(ih:Env->World->(Env->World->Prop)->Prop)(e:Env)(w:World)(K:Env->World->Prop):Prop:=
 guarded i.guard e (xO P i.op e w fun v w'=>ih (put e i.dst v) w' K) (ih (put e i.dst undef) w K)
noncomputable def wpOpsS(P:Program)(l:List SI):Env->World->(Env->World->Prop)->Prop:=
 List.rec (motive:=fun _=>Env->World->(Env->World->Prop)->Prop) (fun e w K=>K e w) (fun i _ ih=>opK P i ih) l
theorem zfQ{i:SI}{r:List SI}{e:Env}{K:Env->World->Prop}:wpOpsS P (i::r) e w K=guarded i.guard e (xO P i.op e w fun v w'=>wpOpsS P r (put e i.dst v) w' K) (wpOpsS P r (put e i.dst undef) w K):=rfl
def Bx:p6->Bool
 | .pick _ _ _| .ix _ _ _| .vH _ _ _ _| .dL _ _ _| .fC _ _ _| .qV _ _ _| .ya _ _ _| .qW _ _ _| .Ac _ _ _| .not _| .len _| .lens _| .bW _ _| .eS _ _ _ _| .eA _ _| .j6 _ _ _| .vZ _ _ _ _| .ta _ _ _ _| .zq _ _=>true
 |_=>false
theorem zeR{k:IntKind}{a b:Int}{next:Value->Prop}(h:BC op k a b next):∃v,BC op k a b (fun u=>u=v)/\next v:=by
 cases op<;>simp only[BC]at h⊢
 case shl=>obtain⟨h0,z,hz,h⟩:=h;exact⟨_,⟨h0,z,hz,rfl⟩,h⟩
 case shr=>obtain⟨h0,z,hz,h⟩:=h;exact⟨_,⟨h0,z,hz,rfl⟩,h⟩
theorem zcu{k:IntKind}{a b:Int}{next:Value->Prop}(h:Bd op k a b next):∃v,Bd op k a b (fun u=>u=v)/\next v:=by
 cases op<;>simp only[Bd]at h⊢<;>first
  |exact h.elim
  |(obtain⟨z,hz,h⟩:=h;exact⟨_,⟨z,hz,rfl⟩,h⟩)
  |(obtain⟨h0,z,hz,h⟩:=h;exact⟨_,⟨h0,z,hz,rfl⟩,h⟩)
  |(rcases Int.lt_trichotomy a b with aG|heq|mj<;>first
   |exact⟨_,⟨fun _=>rfl,fun _=>by omega⟩,h.1 (by omega)⟩
   |exact⟨_,⟨fun _=>by omega,fun _=>rfl⟩,h.2 (by omega)⟩)
  |exact⟨_,rfl,h⟩
theorem ze_{a b:ByteArray}{next:Value->Prop}(h:BH op a b next):∃v,BH op a b (fun u=>u=v)/\next v:=by
 cases op<;>simp only[BH]at h⊢<;>first
  |exact h.elim
  |exact⟨_,⟨h.1,rfl⟩,h.2⟩
  |(by_cases d8:a=b<;>first
   |exact⟨_,⟨fun _=>rfl,fun n=>absurd d8 n⟩,h.1 d8⟩
   |exact⟨_,⟨fun n=>absurd n d8,fun _=>rfl⟩,h.2 d8⟩)
  |(cases hb:Op.bytesLess a.toList b.toList<;>first
   |exact⟨_,⟨fun n=>by simp at n,fun _=>rfl⟩,h.2 hb⟩
   |exact⟨_,⟨fun _=>rfl,fun n=>by simp at n⟩,h.1 hb⟩)
  |(
   by_cases hb:Op.bytesLess a.toList b.toList=true\/a=b
   .exact⟨_,⟨fun n=>by simp only[n.1,n.2,or_false,Bool.false_eq_true]at hb,fun _=>rfl⟩,h.2 hb⟩
   have aW:Op.bytesLess a.toList b.toList=false/\a≠b:=⟨by simpa using fun q=>hb (.inl q),fun q=>hb (.inr q)⟩;exact⟨_,⟨fun _=>rfl,fun n=>absurd n hb⟩,h.1 aW⟩)
theorem R_{s:p6}{e:Env}{next:Value->Prop}(hs:Bx s=true)(h:bB P s e w fun v _=>next v):
 ∃v,(∀w',bB P s e w' fun u eX=>u=v/\eX=w')/\next v:=by
 cases s<;>simp only[Bx]at hs<;>simp only[bB]at h⊢<;>first
  |(split at h<;>first|exact h.elim|exact⟨_,fun _=>⟨rfl,rfl⟩,h⟩)
  |exact⟨_,fun _=>⟨rfl,rfl⟩,h⟩
  |skip
 all_goals first
  |simp at hs
  |skip
 case zq=>exact⟨_,fun _=>⟨rfl,tV⟩,h⟩
 case pick c a b=>
  split at h
  .rename_i t hc;cases t with
   |true=>exact⟨_,fun _=>⟨rfl,tV⟩,h⟩
   |false=>exact⟨_,fun _=>⟨rfl,tV⟩,h⟩
  exact h.elim
 case bW=>
  obtain⟨cs,hc,h⟩:=vT h;exact⟨_,fun _=>by rw[hc];exact⟨rfl,tV⟩,h⟩
 case eS x off n agg=>
  split at h
  .rename_i cs hx;cases agg with
   |true=>exact⟨_,fun _=>⟨rfl,tV⟩,h⟩
   |false=>
    obtain⟨v,hv,h⟩:=vT h;exact⟨v,fun _=>by rw[hv];exact⟨rfl,tV⟩,h⟩
  exact h.elim
 case dL op x y=>
  split at h
  .rename_i k a k' b hx hy;cases hk:Nat.beq (vK k) (vK k')with
   |false=>
    rw[hk]at h;obtain⟨v,h1,h2⟩:=zeR (next:=next) h;exact⟨v,fun _=>by simpa using h1,h2⟩
   |true=>
    rw[hk]at h;obtain⟨v,h1,h2⟩:=zcu (next:=next) h;exact⟨v,fun _=>by simpa using h1,h2⟩
  exact h.elim
 case fC op x y=>
  split at h
  .rename_i a b hx hy;obtain⟨v,h1,h2⟩:=ze_ (next:=next) h;exact⟨v,fun _=>by simpa using h1,h2⟩
  exact h.elim
 case ta x t ok zero=>
  split at h
  .rename_i u v hx;cases hu:Nat.beq u t with
   |true=>rw[hu]at h;exact⟨_,fun _=>⟨rfl,tV⟩,h⟩
   |false=>
    rw[hu]at h;cases ok with
    |true=>exact⟨_,fun _=>⟨rfl,tV⟩,h⟩
    |false=>exact h.elim
  .rename_i hx;cases ok with
   |true=>exact⟨_,fun _=>⟨rfl,tV⟩,h⟩
   |false=>exact h.elim
  exact h.elim
 all_goals
  split at h
 all_goals first
  |exact h.elim
  |(exact⟨_,fun _=>⟨rfl,tV⟩,h⟩)
  |(exact⟨_,fun _=>⟨rfl,tV⟩,h⟩)
  |(obtain⟨k,hk,h⟩:=h;exact⟨_,fun _=>⟨k,hk,rfl,tV⟩,h⟩)
  |(obtain⟨k,hk,h⟩:=h;exact⟨_,fun _=>⟨k,hk,rfl,tV⟩,h⟩)
  |(obtain⟨k,m,hk,h⟩:=h;exact⟨_,fun _=>⟨k,m,hk,rfl,tV⟩,h⟩)
  |(obtain⟨k,m,hk,h⟩:=h;exact⟨_,fun _=>⟨k,m,hk,rfl,tV⟩,h⟩)
@[reducible]def tk(P:Program)(L:List Nat)(w:World)(s:p6)(e:Env)(next:Value->Prop):Prop:=
 match s with
 | .mv x=>next (ev e x)
 | .fa x off=>match ev e x with
  | .pointer (some ⟨b,o,none⟩)=>next (.pointer (some ⟨b,o+off,none⟩))
  |_=>False
 | .eP x=>match ev e x with
  | .pointer (some a)=>next (.pointer (some a))
  | .iface t v=>next (.iface t v)
  | .func (.func f) a b=>next (.func (.func f) a b)
  |_=>False
 | .ext x i=>match ev e x with
  | .tuple vs=>sR next (vs.toList[i]?)
  |_=>False
 | .dy t x=>next (.iface t (ev e x))
 | .ld a=>match ev e a with
  | .pointer (some ⟨b,o,none⟩)=>∃v,(w.cell? ⟨b,o,none⟩=some v/\b∉L)/\next v
  |_=>False
 | .jr a n=>match ev e a with
  | .pointer (some ⟨b,o,none⟩)=>∃vs:List Value,((vs.length=n/\Row w b o vs)/\b∉L)/\next (.agg vs.toArray)
  |_=>False
 |s=>bif Bx s then bB P s e default fun v _=>next v else∃v,(∀x,Fr L w x->bB P s e x fun u w'=>u=v/\w'=x)/\next v
def zff(P:Program)(i:SI)(ih:List Nat->Env->World->(Env->World->Prop)->Prop)(L:List Nat)(e:Env)(w:World)(K:Env->World->Prop):Prop:=
 guarded i.guard e (tk P L w i.op e fun v=>ih L (put e i.dst v) w K) (ih L (put e i.dst undef) w K)
def Uv(P:Program)(i:SI)(ih io:List Nat->Env->World->(Env->World->Prop)->Prop)(L:List Nat)(e:Env)(w:World)(K:Env->World->Prop):Prop:=
 guarded i.guard e (xO P i.op e w fun v w'=>∃L',(Fr L w w'/\∀b∈L',b∈L\/w.heap.size<=b)/\ih L' (put e i.dst v) w' K) (ih L (put e i.dst undef) w K)/\io L e w K
noncomputable def qK(P:Program)(p:fP):List Nat->Env->World->(Env->World->Prop)->Prop:=
 fP.rec (motive:=fun _=>List Nat->Env->World->(Env->World->Prop)->Prop) (fun _ e w K=>K e w) (fun _ _ _ _=>True) (fun i _ ih=>zff P i ih) (fun i _ _ ih io=>Uv P i ih io) p
theorem zfV{e:Env}{K:Env->World->Prop}:qK P .done L e w K=K e w:=rfl
theorem zfW{i:SI}{r:fP}{e:Env}{K:Env->World->Prop}:qK P (.take i r) L e w K=guarded i.guard e (tk P L w i.op e fun v=>qK P r L (put e i.dst v) w K) (qK P r L (put e i.dst undef) w K):=rfl
theorem zfU{i:SI}{r o:fP}{e:Env}{K:Env->World->Prop}:qK P (.alt i r o) L e w K=(guarded i.guard e (xO P i.op e w fun v w'=>∃L',(Fr L w w'/\∀b∈L',b∈L\/w.heap.size<=b)/\qK P r L' (put e i.dst v) w' K) (qK P r L (put e i.dst undef) w K)/\qK P o L e w K):=rfl
def mJ(kp:Nat->Nat->Value->Prop)(L:List Nat)(w w':World):Prop:=Fr L w w'/\∀b o v,kp b o v->w'.cell? ⟨b,o,none⟩=some v
@[reducible]def D6(P:Program)(kp:Nat->Nat->Value->Prop)(L:List Nat)(w:World)(s:p6)(e:Env)(next:Value->Prop):Prop:=
 match s with
 | .mv x=>next (ev e x)
 | .fa x off=>match ev e x with
  | .pointer (some ⟨b,o,none⟩)=>next (.pointer (some ⟨b,o+off,none⟩))
  |_=>False
 | .eP x=>match ev e x with
  | .pointer (some a)=>next (.pointer (some a))
  | .iface t v=>next (.iface t v)
  | .func (.func f) a b=>next (.func (.func f) a b)
  |_=>False
 | .ext x i=>match ev e x with
  | .tuple vs=>sR next (vs.toList[i]?)
  |_=>False
 | .dy t x=>next (.iface t (ev e x))
 | .ld a=>match ev e a with
  | .pointer (some ⟨b,o,none⟩)=>∃v,(w.cell? ⟨b,o,none⟩=some v/\(b∉L\/kp b o v))/\next v
  |_=>False
 | .jr a n=>match ev e a with
  | .pointer (some ⟨b,o,none⟩)=>∃vs:List Value,((vs.length=n/\Row w b o vs)/\b∉L)/\next (.agg vs.toArray)
  |_=>False
 |s=>bif Bx s then bB P s e default fun v _=>next v else∃v,(∀x,Fr L w x->bB P s e x fun u w'=>u=v/\w'=x)/\next v
def zfg(P:Program)(kp:Nat->Nat->Value->Prop)(i:SI)(ih:List Nat->Env->World->(Env->World->Prop)->Prop)(L:List Nat)(e:Env)(w:World)(K:Env->World->Prop):Prop:=
 guarded i.guard e (D6 P kp L w i.op e fun v=>ih L (put e i.dst v) w K) (ih L (put e i.dst undef) w K)
def Uw(P:Program)(kp:Nat->Nat->Value->Prop)(i:SI)(ih io:List Nat->Env->World->(Env->World->Prop)->Prop)(L:List Nat)(e:Env)(w:World)(K:Env->World->Prop):Prop:=
 guarded i.guard e (xO P i.op e w fun v w'=>∃L',(mJ kp L w w'/\∀b∈L',b∈L\/w.heap.size<=b)/\ih L' (put e i.dst v) w' K) (ih L (put e i.dst undef) w K)/\io L e w K
noncomputable def qL(P:Program)(kp:Nat->Nat->Value->Prop)(p:fP):List Nat->Env->World->(Env->World->Prop)->Prop:=
 fP.rec (motive:=fun _=>List Nat->Env->World->(Env->World->Prop)->Prop) (fun _ e w K=>K e w) (fun _ _ _ _=>True) (fun i _ ih=>zfg P kp i ih) (fun i _ _ ih io=>Uw P kp i ih io) p
theorem zfS{kp:Nat->Nat->Value->Prop}{e:Env}{K:Env->World->Prop}:qL P kp .done L e w K=K e w:=rfl
theorem zfT{kp:Nat->Nat->Value->Prop}{i:SI}{r:fP}{e:Env}{K:Env->World->Prop}:qL P kp (.take i r) L e w K=guarded i.guard e (D6 P kp L w i.op e fun v=>qL P kp r L (put e i.dst v) w K) (qL P kp r L (put e i.dst undef) w K):=rfl
theorem zfR{kp:Nat->Nat->Value->Prop}{i:SI}{r o:fP}{e:Env}{K:Env->World->Prop}:qL P kp (.alt i r o) L e w K=(guarded i.guard e (xO P i.op e w fun v w'=>∃L',(mJ kp L w w'/\∀b∈L',b∈L\/w.heap.size<=b)/\qL P kp r L' (put e i.dst v) w' K) (qL P kp r L (put e i.dst undef) w K)/\qL P kp o L e w K):=rfl
@[reducible]def wb(next:Env->World->Prop)(Q:Exit->Env->World->Prop):Exit->Env->World->Prop
 | .normal,e,w=>next e w
 |x,e,w=>Q x e w
@[reducible]def Gl(id:Nat)(Q:Exit->Env->World->Prop):Exit->Env->World->Prop
 | .exit j,e,w=>bif Nat.beq j id then Q .normal e w else Q (.exit j) e w
 |x,e,w=>Q x e w
def bump(w:World):World:={w with drawn:=w.drawn+1}
abbrev CK:=(Exit->Env->World->Prop)->Env->World->Prop
def ye(c:Operand)(a b:CK)(Q:Exit->Env->World->Prop)(e:Env)(w:World):Prop:=
 match ev e c with
 | .bool true=>a Q e w
 | .bool false=>b Q e w
 |_=>False
def XG(P:Program)(p:fP)(Q:Exit->Env->World->Prop)(e:Env)(w:World):Prop:=∀w1,Fr [] w w1->(∃L:List Nat,qK P p L e w1 (Q .normal))\/(∃(kp:Nat->Nat->Value->Prop) (L:List Nat),(∀b o v,kp b o v->w1.cell? ⟨b,o,none⟩=some v)/\qL P kp p L e w1 (Q .normal))
def DW(a b:CK)(Q:Exit->Env->World->Prop)(e:Env)(w:World):Prop:=a (wb (b Q) Q) e w
def Kz(b:CK)(Q:Exit->Env->World->Prop)(e:Env)(w:World):Prop:=
 ∃(I:Env->World->Prop) (μ:Env->World->Nat),I e w/\∀e' w',I e' w'->b (wb (fun gQ eX=>I gQ eX/\μ gQ eX<μ e' w') Q) e' w'
noncomputable def WP(P:Program)(c:l8):CK:=
 l8.rec (motive:=fun _=>CK) (fun Q e w=>Q .normal e w) (fun Q e w=>Q .ret e w) (fun l Q e w=>wpOpsS P l e w (Q .normal)) (fun p=>XG P p)
  (fun _ _ a b=>DW a b) (fun c _ _ a b=>ye c a b) (fun id _ b Q e w=>b (Gl id Q) e w) (fun _ b=>Kz b) (fun id Q e w=>Q (.exit id) e w) (fun _ _ _=>False) c
theorem zY{Q:Exit->Env->World->Prop}{e:Env}:WP P .skip Q e w=Q .normal e w:=rfl
theorem zW{Q:Exit->Env->World->Prop}{e:Env}:WP P .ret Q e w=Q .ret e w:=rfl
theorem zT{Q:Exit->Env->World->Prop}{e:Env}:WP P (.exit id) Q e w=Q (.exit id) e w:=rfl
theorem zP{Q:Exit->Env->World->Prop}{e:Env}:WP P .bad Q e w=False:=rfl
theorem zV{l:List SI}{Q:Exit->Env->World->Prop}{e:Env}:WP P (.ops l) Q e w=wpOpsS P l e w (Q .normal):=rfl
theorem zS{p:fP}{Q:Exit->Env->World->Prop}{e:Env}:WP P (.draw p) Q e w=∀w1,Fr [] w w1->(∃L:List Nat,qK P p L e w1 (Q .normal))\/(∃(kp:Nat->Nat->Value->Prop) (L:List Nat),(∀b o v,kp b o v->w1.cell? ⟨b,o,none⟩=some v)/\qL P kp p L e w1 (Q .normal)):=rfl
theorem zX{a b:l8}{Q:Exit->Env->World->Prop}{e:Env}:WP P (.seq a b) Q e w=WP P a (wb (WP P b Q) Q) e w:=rfl
theorem zR{c:Operand}{a b:l8}{Q:Exit->Env->World->Prop}{e:Env}:WP P (.cond c a b) Q e w=(match ev e c with
 | .bool true=>WP P a Q e w
 | .bool false=>WP P b Q e w
 |_=>False):=rfl
theorem zQ{b:l8}{Q:Exit->Env->World->Prop}{e:Env}:WP P (.block id b) Q e w=WP P b (Gl id Q) e w:=rfl
theorem zU{b:l8}{Q:Exit->Env->World->Prop}{e:Env}:WP P (.loop b) Q e w=∃(I:Env->World->Prop) (μ:Env->World->Nat),I e w/\∀e' w',I e' w'->WP P b (wb (fun gQ eX=>I gQ eX/\μ gQ eX<μ e' w') Q) e' w':=rfl
def Ag(n:Nat):Option Tmp->Bool
 |none=>true
 |some d=>Nat.blt d n
def uE(P:Program)(n:Nat)(ops:Array Oper)(o:Oper):Option SI:=
 bif Ag n o.dst then
  match o.guard with
  |none=>some ⟨o.dst,none,db P o⟩
  |some (j,want)=>match(ops.toList[j]?).bind (·.dst)with
   |some t=>some ⟨o.dst,some (t,want),db P o⟩
   |none=>none
 else none
def Ae(P:Program)(n:Nat)(ops:Array Oper):List Oper->Option (List SI)
 |[]=>some []
 |o::r=>match uE P n ops o,Ae P n ops r with
  |some i,some l=>some (i::l)
  |_,_=>none
def hoist:p6->Bool
 | .mv _| .pick .. | .fa .. | .eP _| .ld _| .jr .. | .ix .. | .vH .. | .dL .. | .fC .. | .dM .. | .fR .. | .qV .. | .ya .. | .qW .. | .Ac ..
 | .not _| .ext .. | .ta .. | .dy .. | .len _| .lens _| .bW .. | .eS .. =>true
 |_=>false
def L_(ops:Array Oper):Operand->Option (Nat×Nat)
 | .tmp t=>match ops.toList.find? fun o=>match o.dst with|some d=>Nat.beq d t|none=>false with
  |some o=>match o.op with
   | .fieldAddr _ (.tmp x) f=>some (x,f)
   |_=>none
  |none=>none
 |_=>none
def storedIn(ops:Array Oper)(o:Oper):Bool:=
 match o.op with
 | .load _ a=>match L_ ops a with
  |some (x,f)=>ops.toList.any fun q=>match q.op with
   | .store _ b _=>match L_ ops b with
    |some (y,g)=>Nat.beq x y&&Nat.beq f g
    |none=>false
   |_=>false
  |none=>false
 |_=>false
def rR(P:Program)(n:Nat)(ops:Array Oper):Nat->Array Bool->Option fP
 |0,listed=>bif (Region.ready .any ops listed).isEmpty then some .done else none
 |fuel+1,listed=>
  let rs:=Region.ready .any ops listed
  bif rs.isEmpty then some .done else
  match rs.find? fun i=>match ops.toList[i]? with
   |some o=>(hoist (db P o)&&Region.free .any ops listed i)&& !storedIn ops o
   |none=>false with
  |some i=>match ops.toList[i]? with
   |some o=>match uE P n ops o,rR P n ops fuel (listed.setIfInBounds i true)with
    |some si,some r=>some (.take si r)
    |_,_=>none
   |none=>none
  |none=>rs.foldr (init:=some .stop) fun i acc=>match ops.toList[i]?,acc with
   |some o,some others=>match uE P n ops o,rR P n ops fuel (listed.setIfInBounds i true)with
    |some si,some r=>some (.alt si r others)
    |_,_=>none
   |_,_=>none
def jy(P:Program)(n:Nat):Code->Option l8
 | .skip=>some .skip
 | .ret=>some .ret
 | .exit id=>some (.exit id)
 | .region _ ops false=>(Ae P n ops ops.toList).map .ops
 | .region _ ops true=>bif Region.noSelect ops then(rR P n ops ops.size (Array.replicate ops.size false)).map .draw else none
 | .seq a b=>match jy P n a,jy P n b with
  |some a,some b=>some (.seq a b)
  |_,_=>none
 | .cond c a b=>match jy P n a,jy P n b with
  |some a,some b=>some (.cond c a b)
  |_,_=>none
 | .block id b=>(jy P n b).map (.block id)
 | .loop b=>(jy P n b).map .loop
 |_=>some .bad
structure AE(n:Nat)(e:Env)(a:Act):Prop where
 size:a.tmps.size=n
 defers:a.defers=[]
 env:∀i,a.tmps.getD i undef=e i
theorem AE.eval{e:Env}(h:AE n e a):a.eval=ev e:=by
 funext x;cases x<;>simp only[Act.eval,ev];exact h.env _
theorem AE.put{e:Env}(h:AE n e a){d:Option Tmp}(hd:Ag n d=true)(v:Value):AE n (Go.Proofs.YtlfcbbcdiecelaaGreatDoor.put e d v) (a.put d v):=by
 cases d with
 |none=>exact h
 |some d=>
  have aG:d<a.tmps.size:=by rw[h.size];have h2:d+1<=n:=(by simpa[Ag,Nat.blt]using hd);exact h2
  refine⟨by simp[Act.put,h.size],h.defers,fun i=> ?_⟩;simp only[Go.Proofs.YtlfcbbcdiecelaaGreatDoor.put,iS,Act.put];by_cases hi:i=d
  .subst hi;simp[aG]
  have hb:Nat.beq i d=false:=by
   cases q:Nat.beq i d with
   |false=>rfl
   |true=>exact absurd (qaI q) hi
  rw[hb];show _=e i;rw[<-h.env i];simp only[Array.getD_eq_getD_getElem?];rw[Array.getElem?_setIfInBounds_ne (Ne.symm hi)]
theorem HS{o:Oper}{e:Env}{Q:Exit->Act->World->Prop}{K:Value->World->Prop}(he:a.eval=ev e)(h:fz P (execOp (ev e) o) w K)
 {next:Act->World->Prop} (hn:∀v w',K v w'->next (a.put o.dst v) w'):o.wp P a w next Q:=by
 unfold Oper.wp;rw[he];unfold fz at h;generalize(execOp (ev e) o).run P w=r at h;cases r with
 |halt x w'=>exact h.elim
 |ok n w'=>
  cases n<;>first|exact h.elim|skip
  case value v=>exact hn v w' h
  case skip=>exact hn undef w' h
  case enter f vs=>
   refine Calls.mono h fun en eX hx=> ?_;obtain⟨v,rfl,hk⟩:=hx;exact hn v eX hk
theorem zf0{e:Env}(h:AE n e a)(ops:Array Oper)(j t:Nat)(ht:(ops.toList[j]?).bind (·.dst)=some t):
 yielded ops a.tmps j=match e t with| .bool b=>some b|_=>none:=by
 have rI:(ops[j]?).bind (·.dst)=some t:=by simpa using ht
 unfold yielded;rw[rI,Option.bind_some];have:=h.env t;rw[Array.getD_eq_getD_getElem?]at this;cases q:a.tmps[t]? with
 |none=>
  rw[q]at this;rw[<-this];simp[undef]
 |some v=>
  rw[q]at this;simp at this;rw[<-this];cases v<;>rfl
theorem Mx(b want:Bool):(bif want then b else !b)=(some b==some want):=by
 cases b<;>cases want<;>rfl
theorem DZ{o:Oper}{i:SI}{e:Env}{A B:Prop}(hc:uE P n ops o=some i)(ha:AE n e a)(h:guarded i.guard e A B):
 (Region.wanted o (yielded ops a.tmps)=true/\A)\/(Region.wanted o (yielded ops a.tmps)=false/\B):=by
 unfold uE at hc;cases hd:Ag n o.dst with
 |false=>simp[hd]at hc
 |true=>
  simp only[hd,qbf]at hc;unfold Region.wanted;split at hc
  .rename_i hg;simp only[qao]at hc;subst hc;simp only[guarded]at h;exact .inl ⟨by rw[hg],h⟩
  rename_i j want hg;split at hc
  .rename_i t ht;simp only[qao]at hc;subst hc;simp only[guarded]at h;rw[hg];simp only[zf0 ha ops j t ht];split at h
   .rename_i b hb;cases q:(bif want then b else !b)with
    |true=>
     rw[q]at h;exact .inl ⟨by rw[<-Mx,q],h⟩
    |false=>
     rw[q]at h;exact .inr ⟨by rw[<-Mx,q],h⟩
   rename_i aT;refine .inr ⟨?_,h⟩;rfl
  simp at hc
theorem Cn{o:Oper}{i:SI}(hc:uE P n ops o=some i):Ag n o.dst=true/\i.dst=o.dst/\i.op=db P o:=by
 unfold uE at hc;cases hd:Ag n o.dst with
 |false=>simp[hd]at hc
 |true=>
  simp only[hd,qbf]at hc;split at hc
  .simp only[qao]at hc;subst hc;exact⟨rfl,rfl,rfl⟩
  split at hc
  .simp only[qao]at hc;subst hc;exact⟨rfl,rfl,rfl⟩
  simp at hc
theorem LQ{P:Program}{n:Nat}{ops:Array Oper}{K:Env->World->Prop}{Q:Exit->Act->World->Prop}(hQ:∀e a w,AE n e a->K e w->Q .normal a w):
 ∀(l:List Oper) (is:List SI) (e:Env) (a:Act) (w:World),Ae P n ops l=some is->AE n e a->wpOpsS P is e w K->wpList P ops Q l a w
 |[],is,e,a,w,hc,ha,h=>by
  simp only[Ae,qao]at hc;subst hc;exact hQ e a w ha h
 |o::l,is,e,a,w,hc,ha,h=>by
  simp only[Ae]at hc;split at hc
  .rename_i i Qv hi OW;simp only[qao]at hc;subst hc;obtain⟨hd,rm,jn⟩:=Cn hi;simp only[zfQ]at h;unfold wpList;rcases DZ hi ha h with⟨hw,h⟩|⟨hw,h⟩
   .rw[if_pos hw];rw[jn]at h;refine .inl (HS ha.eval (E1 o (Lu h)) fun v w' hk=> ?_);rw[rm]at hk;exact LQ hQ l Qv _ _ w' OW (ha.put hd v) hk
   rw[if_neg (by simp[hw])];rw[rm]at h;exact LQ hQ l Qv _ _ w OW (ha.put hd undef) h
  simp at hc
theorem TC{n:Next}(h:(do pure (.value (<-s)):Sem Next).run P w= .ok n w'):∃v,n= .value v:=by
 simp only[qbj]at h;cases q:s.run P w with
 |halt x y=>simp[q]at h
 |ok v y=>simp[q]at h;exact⟨v,h.1.symm⟩
theorem Xg
 (h:hoist (db P ⟨dst,.call c,type,pos,after,guard⟩)=true):c.callee= .builtin .len:=by
 obtain⟨callee,args,argTypes⟩:=c;cases callee
 case value x=>cases x<;>simp[db,hoist]at h
 case invoke r m=>simp[db,hoist]at h
 case builtin b=>
  cases b<;>first|rfl|skip
  case append=>
   simp only[db]at h;split at h<;>simp[hoist]at h
  all_goals simp[db,hoist]at h
theorem zbK{o:Oper}{ρ:Operand->Value}{n:Next}(hh:hoist (db P o)=true)(qt:∀x,o.op≠.nilCheck x)(h:(execOp ρ o).run P w= .ok n w'):∃v,n= .value v:=by
 obtain⟨dst,op,type,pos,after,guard⟩:=o;cases op
 case call c=>
  have hc:=Xg hh;obtain⟨callee,args,argTypes⟩:=c;simp only at hc;subst hc;simp only[execOp,resolve,qbj,qbX,qa4,invoke,builtin]at h;exact TC (by simpa using h)
 case move x=>simp[execOp]at h;exact⟨_,h.1.symm⟩
 case assign x=>simp[execOp]at h;exact⟨_,h.1.symm⟩
 case pick c a b=>
  simp only[execOp,qbj]at h;cases q:(asBool (ρ c)).run P w with
  |halt x y=>simp[q]at h
  |ok v y=>simp[q]at h;exact⟨_,h.1.symm⟩
 case nilCheck x=>exact absurd rfl (qt x)
 case store t a x=>
  simp only[db]at hh;split at hh
  .rename_i i d _ _;cases q:rN d with
   |true=>simp[q,hoist]at hh
   |false=>
    simp only[q,qbq]at hh;cases q2:Nat.beq i.size 1 with
    |true=>simp[q2,hoist]at hh
    |false=>simp[q2,hoist]at hh
  simp[hoist]at hh
 case mapUpdate t m k x=>simp[db,hoist]at hh
 case insert t m k x=>simp[db,hoist]at hh
 case entryStore t m k x=>simp[db,hoist]at hh
 case ready g=>simp[db,hoist]at hh
 case go c=>simp[db,hoist]at hh
 case defer c=>simp[db,hoist]at hh
 case panic c=>simp[db,hoist]at hh
 case send c x=>simp[db,hoist]at hh
 case recv c x b=>simp[db,hoist]at hh
 case select c x=>simp[db,hoist]at hh
 all_goals exact TC h
theorem TU{S:World->Prop}{o:Oper}{e:Env}(he:a.eval=ev e)(hw:Region.wanted o (yielded ops a.tmps)=true)
 (h:∀w,S w->bB P (db P o) e w fun u w'=>u=v/\w'=w) (hh:hoist (db P o)=true) (qt:∀x,o.op≠.nilCheck x):YieldsIf P ops S o v a:=by
 refine .inl ⟨hw,fun w hS=> ?_⟩;rw[he];have g:=E1 o (h w hS);unfold fz at g;cases q:(execOp (ev e) o).run P w with
 |halt x y=>rw[q]at g;exact g.elim
 |ok n y=>
  obtain⟨u,rfl⟩:=zbK hh qt q;rw[q]at g;obtain⟨rfl,rfl⟩:=g;rfl
theorem zf1{o:Oper}{e:Env}{next:Value->Prop}(he:a.eval=ev e)(hw:Region.wanted o (yielded ops a.tmps)=true)
 (hh:hoist (db P o)=true) (h:tk P L w0 (db P o) e next):∃v,YieldsIf P ops (Fr L w0) o v a/\next v:=by
 by_cases qt:∃x,o.op= .nilCheck x
 .obtain⟨x,hx⟩:=qt;have hs:db P o= .eP x:=by simp only[db,hx]
  rw[hs]at h;have red:∀v,(∀w,(execOp (ev e) o).run P w= .ok (.value v) w)->next v->∃v,YieldsIf P ops (Fr L w0) o v a/\next v:=
   fun v h1 h2=>⟨v,.inl ⟨hw,fun w _=>by rw[he];exact h1 w⟩,h2⟩
  simp only[tk]at h;split at h
  .rename_i b hb;exact red _ (fun w=>by simp[execOp,hx,hb]) h
  .rename_i b c hb;exact red _ (fun w=>by simp[execOp,hx,hb]) h
  .rename_i f b c hb;exact red _ (fun w=>by simp[execOp,hx,hb]) h
  exact h.elim
 have I2:∀x,o.op≠.nilCheck x:=fun x hx=>qt ⟨x,hx⟩;generalize hs:db P o=s at h;have fin:∀v,(∀w,Fr L w0 w->bB P s e w fun u w'=>u=v/\w'=w)->next v->∃v,YieldsIf P ops (Fr L w0) o v a/\next v:=
  fun v h1 h2=>⟨v,TU he hw (by rw[hs];exact h1) hh I2,h2⟩
 cases s<;>simp only[tk,Bx,qbf,qbq]at h<;>first|(obtain⟨v,h1,h2⟩:=R_ rfl h;exact fin v (fun w _=>h1 w) h2)|(obtain⟨v,h1,h2⟩:=h;exact fin v h1 h2)|skip
 case mv x=>exact fin _ (fun w _=>by simp[bB]) h
 case fa x off=>
  split at h
  .rename_i b o hx;exact fin _ (fun w _=>by simp[bB,hx]) h
  exact h.elim
 case eP x=>
  split at h
  .rename_i b hx;exact fin _ (fun w _=>by simp[bB,hx]) h
  .rename_i b c hx;exact fin _ (fun w _=>by simp[bB,hx]) h
  .rename_i f b c hx;exact fin _ (fun w _=>by simp[bB,hx]) h
  exact h.elim
 case ext x i=>
  split at h
  .rename_i vs hx;obtain⟨v,hv,hk⟩:=vT h;exact fin v (fun w _=>by simp only[bB,hx,hv,sR,and_self]) hk
  exact h.elim
 case dy t x=>exact fin _ (fun w _=>by simp[bB]) h
 case jr x n=>
  split at h
  .rename_i b o hx;obtain⟨vs,⟨⟨hl,h1⟩,hb⟩,h2⟩:=h;exact fin (.agg vs.toArray) (fun w hS=>by simp only[bB,hx];exact⟨vs,⟨hl,h1.fr hS hb⟩,by simp⟩) h2
  exact h.elim
 case ld x=>
  split at h
  .rename_i b o hx;obtain⟨v,⟨h1,hb⟩,h2⟩:=h;exact fin v (fun w hS=>by simp only[bB,hx];exact⟨v,tB h1 hS hb,by simp⟩) h2
  exact h.elim
theorem LP{P:Program}{md:Region.Mode}{ops:Array Oper}{Q:Exit->Act->World->Prop}{S S':World->Prop}(hS:∀x,S' x->S x):∀(fuel:Nat) (listed:Array Bool) (a:Act) (w:World),
 wpAnyH P md ops Q S' fuel listed a w->wpAnyH P md ops Q S fuel listed a w
 |0,_,_,_,h=>h
 |fuel+1,_,_,_,h=>⟨h.1,fun i hi=>wpOp_mono (fun a' w' h'=>⟨hS _ h'.1,LP hS fuel _ a' w' h'.2⟩) (h.2 i hi)⟩
theorem EB{P:Program}{n:Nat}{ops:Array Oper}{K:Env->World->Prop}{Q:Exit->Act->World->Prop}(hs:Region.noSelect ops=true)
 (hQ:∀e a w,AE n e a->K e w->Q .normal a w) (hp:∀c a w,¬Q (.panic c) a w):
 ∀(fuel:Nat) (listed:Array Bool) (p:fP) (e:Env) (a:Act) (w:World) (L:List Nat),rR P n ops fuel listed=some p->AE n e a->qK P p L e w K->
  wpAnyH P .any ops Q (Fr L w) fuel listed a w
 |0,listed,p,e,a,w,L,hc,ha,h=>by
  simp only[rR]at hc;cases q:(Region.ready .any ops listed).isEmpty with
  |false=>simp[q]at hc
  |true=>
   simp only[q,qbf,qao]at hc;subst hc;exact⟨by simpa using q,hQ e a w ha h⟩
 |fuel+1,listed,p,e,a,w,L,hc,ha,h=>by
  simp only[rR]at hc;cases q:(Region.ready .any ops listed).isEmpty with
  |true=>
   simp only[q,qbf,qao]at hc;subst hc;exact wpAnyH_done (by simpa using q) (hQ e a w ha h) _
  |false=>
   simp only[q,qbq]at hc;have aT:Region.ready .any ops listed≠[]:=by intro h0;simp[h0]at q
   split at hc
   .rename_i i CR;have hi:=List.find?_some CR;have gk:=List.mem_of_find?_eq_some CR;split at hi
    .rename_i o ho;simp only[qbn]at hi;simp only[ho]at hc;split at hc
     .rename_i si r jW hr;simp only[qao]at hc;subst hc;obtain⟨hd,rm,jn⟩:=Cn jW;have mY:ops[i]? =some o:=by simpa using ho
      simp only[zfV,zfW]at h;have goal:∀v,YieldsIf P ops (Fr L w) o v a->qK P r L (put e si.dst v) w K->wpAnyH P .any ops Q (Fr L w) (fuel+1) listed a w:=by
       intro v hy hv;refine wpAnyH_take mY hs hi.1.2 (by simpa using gk) (fun c a w hq=>absurd hq (hp c _ w)) hy (Fr.refl w).nil ?_;rw[rm]at hv;exact EB hs hQ hp fuel _ r _ _ w L hr (ha.put hd v) hv
      rcases DZ jW ha h with⟨hw,h⟩|⟨hw,h⟩
      .rw[jn]at h;obtain⟨v,hy,hv⟩:=zf1 ha.eval hw hi.1.1 h;exact goal v hy hv
      exact goal undef (.inr ⟨hw,rfl⟩) h
     simp at hc
    simp at hi
   refine wpAnyH_all rfl aT ?_;have key:∀(rs:List Nat) (p:fP),(rs.foldr (init:=some .stop) fun i acc=>match ops.toList[i]?,acc with
    |some o,some others=>match uE P n ops o,rR P n ops fuel (listed.setIfInBounds i true)with
     |some si,some r=>some (.alt si r others)
     |_,_=>none
    |_,_=>none)=some p->qK P p L e w K->
    ∀i∈rs,wpOp P ops Q i (fun a' w'=>Fr L w w'/\wpAnyH P .any ops Q (Fr L w) fuel (listed.setIfInBounds i true) a' w') a w:=by
    intro rs
    induction rs with
    |nil=>intro p _ _ i hi;simp at hi
    |cons j rs ih=>
     intro p ea zd i hi;simp only[List.foldr_cons]at ea;split at ea
     .rename_i o others ho I9;split at ea
      .rename_i si r jW hr;simp only[qao]at ea;subst ea;simp only[zfU]at zd;rcases qan.1 hi with rfl|hi
       .obtain⟨hd,rm,jn⟩:=Cn jW;have mY:ops[i]? =some o:=by simpa using ho
        unfold wpOp;simp only[mY];rcases DZ jW ha zd.1 with⟨hw,h⟩|⟨hw,h⟩
        .rw[if_pos hw];rw[jn]at h;refine .inl (HS ha.eval (E1 o (Lu h)) fun v w' hk=> ?_);obtain⟨L',⟨dC,dE⟩,gi⟩:=hk;refine⟨dC,?_⟩;rw[rm]at gi;exact LP (fun x hx=>dC.trans' hx dE) _ _ _ _ (EB hs hQ hp fuel _ r _ _ w' L' hr (ha.put hd v) gi)
        rw[if_neg (by simp[hw])];rw[rm]at h;exact⟨(Fr.refl w).nil,EB hs hQ hp fuel _ r _ _ w L hr (ha.put hd undef) h⟩
       exact ih others I9 zd.2 i hi
      simp at ea
     simp at ea
   exact key _ p hc h
theorem zf2{kp:Nat->Nat->Value->Prop}{o:Oper}{e:Env}{next:Value->Prop}(he:a.eval=ev e)(hw:Region.wanted o (yielded ops a.tmps)=true)
 (hh:hoist (db P o)=true) (h:D6 P kp L w0 (db P o) e next):∃v,YieldsIf P ops (mJ kp L w0) o v a/\next v:=by
 by_cases qt:∃x,o.op= .nilCheck x
 .obtain⟨x,hx⟩:=qt;have hs:db P o= .eP x:=by simp only[db,hx]
  rw[hs]at h;have red:∀v,(∀w,(execOp (ev e) o).run P w= .ok (.value v) w)->next v->∃v,YieldsIf P ops (mJ kp L w0) o v a/\next v:=
   fun v h1 h2=>⟨v,.inl ⟨hw,fun w _=>by rw[he];exact h1 w⟩,h2⟩
  simp only[D6]at h;split at h
  .rename_i b hb;exact red _ (fun w=>by simp[execOp,hx,hb]) h
  .rename_i b c hb;exact red _ (fun w=>by simp[execOp,hx,hb]) h
  .rename_i f b c hb;exact red _ (fun w=>by simp[execOp,hx,hb]) h
  exact h.elim
 have I2:∀x,o.op≠.nilCheck x:=fun x hx=>qt ⟨x,hx⟩;generalize hs:db P o=s at h;have fin:∀v,(∀w,mJ kp L w0 w->bB P s e w fun u w'=>u=v/\w'=w)->next v->∃v,YieldsIf P ops (mJ kp L w0) o v a/\next v:=
  fun v h1 h2=>⟨v,TU he hw (by rw[hs];exact h1) hh I2,h2⟩
 cases s<;>simp only[D6,Bx,qbf,qbq]at h<;>first|(obtain⟨v,h1,h2⟩:=R_ rfl h;exact fin v (fun w _=>h1 w) h2)|(obtain⟨v,h1,h2⟩:=h;exact fin v (fun w hw=>h1 w hw.1) h2)|skip
 case mv x=>exact fin _ (fun w _=>by simp[bB]) h
 case fa x off=>
  split at h
  .rename_i b o hx;exact fin _ (fun w _=>by simp[bB,hx]) h
  exact h.elim
 case eP x=>
  split at h
  .rename_i b hx;exact fin _ (fun w _=>by simp[bB,hx]) h
  .rename_i b c hx;exact fin _ (fun w _=>by simp[bB,hx]) h
  .rename_i f b c hx;exact fin _ (fun w _=>by simp[bB,hx]) h
  exact h.elim
 case ext x i=>
  split at h
  .rename_i vs hx;obtain⟨v,hv,hk⟩:=vT h;exact fin v (fun w _=>by simp only[bB,hx,hv,sR,and_self]) hk
  exact h.elim
 case dy t x=>exact fin _ (fun w _=>by simp[bB]) h
 case jr x n=>
  split at h
  .rename_i b o hx;obtain⟨vs,⟨⟨hl,h1⟩,hb⟩,h2⟩:=h;exact fin (.agg vs.toArray) (fun w hS=>by simp only[bB,hx];exact⟨vs,⟨hl,h1.fr hS.1 hb⟩,by simp⟩) h2
  exact h.elim
 case ld x=>
  split at h
  .rename_i b o hx;obtain⟨v,⟨h1,hb⟩,h2⟩:=h;exact fin v (fun w hS=>by simp only[bB,hx];exact⟨v,hb.elim (fun hb=>tB h1 hS.1 hb) (fun hb=>hS.2 _ _ _ hb),by simp⟩) h2
  exact h.elim
theorem EC{P:Program}{kp:Nat->Nat->Value->Prop}{n:Nat}{ops:Array Oper}{K:Env->World->Prop}{Q:Exit->Act->World->Prop}(hs:Region.noSelect ops=true)
 (hQ:∀e a w,AE n e a->K e w->Q .normal a w) (hp:∀c a w,¬Q (.panic c) a w):
 ∀(fuel:Nat) (listed:Array Bool) (p:fP) (e:Env) (a:Act) (w:World) (L:List Nat),rR P n ops fuel listed=some p->AE n e a->qL P kp p L e w K->(∀b o v,kp b o v->w.cell? ⟨b,o,none⟩=some v)->
  wpAnyH P .any ops Q (mJ kp L w) fuel listed a w
 |0,listed,p,e,a,w,L,hc,ha,h,C4=>by
  simp only[rR]at hc;cases q:(Region.ready .any ops listed).isEmpty with
  |false=>simp[q]at hc
  |true=>
   simp only[q,qbf,qao]at hc;subst hc;exact⟨by simpa using q,hQ e a w ha h⟩
 |fuel+1,listed,p,e,a,w,L,hc,ha,h,C4=>by
  simp only[rR]at hc;cases q:(Region.ready .any ops listed).isEmpty with
  |true=>
   simp only[q,qbf,qao]at hc;subst hc;exact wpAnyH_done (by simpa using q) (hQ e a w ha h) _
  |false=>
   simp only[q,qbq]at hc;have aT:Region.ready .any ops listed≠[]:=by intro h0;simp[h0]at q
   split at hc
   .rename_i i CR;have hi:=List.find?_some CR;have gk:=List.mem_of_find?_eq_some CR;split at hi
    .rename_i o ho;simp only[qbn]at hi;simp only[ho]at hc;split at hc
     .rename_i si r jW hr;simp only[qao]at hc;subst hc;obtain⟨hd,rm,jn⟩:=Cn jW;have mY:ops[i]? =some o:=by simpa using ho
      simp only[zfS,zfT]at h;have goal:∀v,YieldsIf P ops (mJ kp L w) o v a->qL P kp r L (put e si.dst v) w K->wpAnyH P .any ops Q (mJ kp L w) (fuel+1) listed a w:=by
       intro v hy hv;refine wpAnyH_take mY hs hi.1.2 (by simpa using gk) (fun c a w hq=>absurd hq (hp c _ w)) hy ⟨(Fr.refl w).nil,C4⟩ ?_;rw[rm]at hv;exact EC hs hQ hp fuel _ r _ _ w L hr (ha.put hd v) hv C4
      rcases DZ jW ha h with⟨hw,h⟩|⟨hw,h⟩
      .rw[jn]at h;obtain⟨v,hy,hv⟩:=zf2 ha.eval hw hi.1.1 h;exact goal v hy hv
      exact goal undef (.inr ⟨hw,rfl⟩) h
     simp at hc
    simp at hi
   refine wpAnyH_all rfl aT ?_;have key:∀(rs:List Nat) (p:fP),(rs.foldr (init:=some .stop) fun i acc=>match ops.toList[i]?,acc with
    |some o,some others=>match uE P n ops o,rR P n ops fuel (listed.setIfInBounds i true)with
     |some si,some r=>some (.alt si r others)
     |_,_=>none
    |_,_=>none)=some p->qL P kp p L e w K->
    ∀i∈rs,wpOp P ops Q i (fun a' w'=>mJ kp L w w'/\wpAnyH P .any ops Q (mJ kp L w) fuel (listed.setIfInBounds i true) a' w') a w:=by
    intro rs
    induction rs with
    |nil=>intro p _ _ i hi;simp at hi
    |cons j rs ih=>
     intro p ea zd i hi;simp only[List.foldr_cons]at ea;split at ea
     .rename_i o others ho I9;split at ea
      .rename_i si r jW hr;simp only[qao]at ea;subst ea;simp only[zfR]at zd;rcases qan.1 hi with rfl|hi
       .obtain⟨hd,rm,jn⟩:=Cn jW;have mY:ops[i]? =some o:=by simpa using ho
        unfold wpOp;simp only[mY];rcases DZ jW ha zd.1 with⟨hw,h⟩|⟨hw,h⟩
        .rw[if_pos hw];rw[jn]at h;refine .inl (HS ha.eval (E1 o (Lu h)) fun v w' hk=> ?_);obtain⟨L',⟨dC,dE⟩,gi⟩:=hk;refine⟨dC,?_⟩;rw[rm]at gi;exact LP (fun x hx=>⟨dC.1.trans' hx.1 dE,hx.2⟩) _ _ _ _ (EC hs hQ hp fuel _ r _ _ w' L' hr (ha.put hd v) gi dC.2)
        rw[if_neg (by simp[hw])];rw[rm]at h;exact⟨⟨(Fr.refl w).nil,C4⟩,EC hs hQ hp fuel _ r _ _ w L hr (ha.put hd undef) h C4⟩
       exact ih others I9 zd.2 i hi
      simp at ea
     simp at ea
   exact key _ p hc h
def lift(n:Nat)(Q:Exit->Env->World->Prop):Exit->Act->World->Prop
 | .panic _,_,_=>False
 | .outgrown,_,_=>False
 |x,a,w=>∃e,AE n e a/\Q x e w
theorem zfX(hm:P.follows .mixedOrders=true):∀(c:Code) (sc:l8) (Q:Exit->Env->World->Prop) (e:Env) (a:Act) (w:World),
 jy P n c=some sc->AE n e a->WP P sc Q e w->c.wp P (lift n Q) a w:=by
 intro c
 induction c with
 |skip=>
  intro sc Q e a w hc ha h;simp only[jy,qao]at hc;subst hc;exact wp_skip ⟨e,ha,h⟩
 |ret=>
  intro sc Q e a w hc ha h;simp only[jy,qao]at hc;subst hc;exact wp_ret ⟨e,ha,h⟩
 |exit id=>
  intro sc Q e a w hc ha h;simp only[jy,qao]at hc;subst hc;exact wp_exit ⟨e,ha,h⟩
 |region id ops draw=>
  intro sc Q e a w hc ha h;cases draw with
  |false=>
   simp only[jy]at hc;cases q:Ae P n ops ops.toList with
   |none=>simp[q]at hc
   |some l=>
    simp only[q,qbP,qao]at hc;subst hc;simp only[zY,zW,zT,zP,zV,zS,zX,zR,zQ,zU]at h;exact wp_region_list (LQ (K:=Q .normal) (fun e a w ha h=>⟨e,ha,h⟩) _ l e a w q ha h)
  |true=>
   simp only[jy]at hc;cases hs:Region.noSelect ops with
   |false=>simp[hs]at hc
   |true=>
    simp only[hs,qbf]at hc;cases q:rR P n ops ops.size (Array.replicate ops.size false)with
    |none=>simp[q]at hc
    |some p=>
     simp only[q,qbP,qao]at hc;subst hc;simp only[zY,zW,zT,zP,zV,zS,zX,zR,zQ,zU]at h;rcases h _ (Fr.bump w)with⟨L,h⟩|⟨kp,L,hk,h⟩;rotate_left 1
     .exact wp_region_held hm (EC (K:=Q .normal) hs (fun e a w ha h=>⟨e,ha,h⟩) (fun _ _ _ h=>h) _ _ p e a _ L q ha h hk)
     exact wp_region_held hm (EB (K:=Q .normal) hs (fun e a w ha h=>⟨e,ha,h⟩) (fun _ _ _ h=>h) _ _ p e a _ L q ha h)
 |seq x y Kd Ke=>
  intro sc Q e a w hc ha h;simp only[jy]at hc;split at hc
  .rename_i sx sy hx hy;simp only[qao]at hc;subst hc;simp only[zY,zW,zT,zP,zV,zS,zX,zR,zQ,zU]at h;refine wp_seq ?_;refine Code.wp_mono ?_ (Kd sx _ e a w hx ha h);intro ex a' w' hq;cases ex with
   |normal=>obtain⟨e',iX,h'⟩:=hq;exact Ke sy Q e' a' w' hy iX h'
   |exit id=>exact hq
   |goto l=>exact hq
   |ret=>exact hq
   |panic ch=>exact hq
   |outgrown=>exact hq
  simp at hc
 |cond c x y Kd Ke=>
  intro sc Q e a w hc ha h;simp only[jy]at hc;split at hc
  .rename_i sx sy hx hy;simp only[qao]at hc;subst hc;simp only[zY,zW,zT,zP,zV,zS,zX,zR,zQ,zU]at h;split at h
   .rename_i hv;exact wp_cond_true (by rw[ha.eval];exact hv) (Kd sx Q e a w hx ha h)
   .rename_i hv;exact wp_cond_false (by rw[ha.eval];exact hv) (Ke sy Q e a w hy ha h)
   exact h.elim
  simp at hc
 |block id x ih=>
  intro sc Q e a w hc ha h;simp only[jy]at hc;cases q:jy P n x with
  |none=>simp[q]at hc
  |some sx=>
   simp only[q,qbP,qao]at hc;subst hc;simp only[zY,zW,zT,zP,zV,zS,zX,zR,zQ,zU]at h;refine wp_block (Code.wp_mono ?_ (ih sx _ e a w q ha h));intro ex a' w' hq;cases ex with
   |normal=>exact hq
   |exit j=>
    obtain⟨e',iX,h'⟩:=hq;simp only[Gl]at h';simp only[Exit.inBlock];cases hb:Nat.beq j id with
    |true=>
     simp only[hb,qbf]at h';rw[if_pos (qaI hb)];exact⟨e',iX,h'⟩
    |false=>
     simp only[hb,qbq]at h';rw[if_neg (by intro h;simp[h]at hb)];exact⟨e',iX,h'⟩
   |goto l=>exact hq
   |ret=>exact hq
   |panic ch=>exact hq
   |outgrown=>exact hq
 |loop x ih=>
  intro sc Q e a w hc ha h;simp only[jy]at hc;cases q:jy P n x with
  |none=>simp[q]at hc
  |some sx=>
   simp only[q,qbP,qao]at hc;subst hc;simp only[zY,zW,zT,zP,zV,zS,zX,zR,zQ,zU]at h;obtain⟨I,μ,hI,hr⟩:=h
   let ee:Act->Env:=fun a i=>a.tmps.getD i undef
   refine wp_loop (fun a w=>AE n (ee a) a/\I (ee a) w) (fun a w=>μ (ee a) w) ?_ ?_
   .have:ee a=e:=funext ha.env;rw[this];exact⟨ha,hI⟩
   rintro a1 w1 ⟨eL,hI1⟩;refine Code.wp_mono ?_ (ih sx _ (ee a1) a1 w1 q eL (hr (ee a1) w1 hI1));intro ex a' w' hq;cases ex with
   |normal=>
    obtain⟨e',iX,h'⟩:=hq;have he:ee a'=e':=funext iX.env;simp only[Exit.then];rw[he];exact⟨⟨iX,h'.1⟩,h'.2⟩
   |exit id=>exact hq
   |goto l=>exact hq
   |ret=>exact hq
   |panic ch=>exact hq
   |outgrown=>exact hq
 |rangeFunc f ps x b Qe Qf=>
  intro sc Q e a w hc ha h;simp only[jy,qao]at hc;subst hc;exact(h:False).elim
 |scope b ih=>
  intro sc Q e a w hc ha h;simp only[jy,qao]at hc;subst hc;exact(h:False).elim
 |label l=>
  intro sc Q e a w hc ha h;simp only[jy,qao]at hc;subst hc;exact(h:False).elim
 |goto l=>
  intro sc Q e a w hc ha h;simp only[jy,qao]at hc;subst hc;exact(h:False).elim
 |refuse why=>
  intro sc Q e a w hc ha h;simp only[jy,qao]at hc;subst hc;exact(h:False).elim
inductive RV where
 |t (n:Nat)
 |c (a n:Nat)
 |c1 (a:Nat)
structure ap where
 body:l8
 results:List RV
def Hx(P:Program):ResultVar->Option RV
 | .tmp t=>some (.t t)
 | .cell a t=>match P.info? t,P.underlying t with
  |some i,some d=>some (bif rN d then .c a i.size else .c1 a)
  |_,_=>none
def Cm(P:Program):List ResultVar->Option (List RV)
 |[]=>some []
 |r::rs=>match Hx P r,Cm P rs with
  |some x,some xs=>some (x::xs)
  |_,_=>none
def aN(P:Program)(zdq:Nat)(fn:Func):Option ap:=
 bif fn.name != "runtime.NumGoroutine" &&Nat.ble zdq fn.ntmps then
  match fn.body with
  |some c=>match jy P fn.ntmps c,Cm P fn.results.toList with
   |some b,some rs=>some ⟨b,rs⟩
   |_,_=>none
  |none=>none
 else none
def uj:List RV->Env->World->(List Value->Prop)->Prop
 |[],_,_,k=>k []
 | .t n::r,e,w,k=>uj r e w fun vs=>k (e n::vs)
 | .c a n::r,e,w,k=>match e a with
  | .pointer (some ⟨b,o,none⟩)=>∃us:List Value,(us.length=n/\Row w b o us)/\uj r e w fun vs=>k (.agg us.toArray::vs)
  |_=>False
 | .c1 a::r,e,w,k=>match e a with
  | .pointer (some p)=>∃v,w.cell? p=some v/\uj r e w fun vs=>k (v::vs)
  |_=>False
def zy:List Value->Value
 |[v]=>v
 |vs=> .tuple vs.toArray
def post(rs:List RV)(K:Value->World->Prop):Exit->Env->World->Prop
 | .normal,e,w=>uj rs e w fun vs=>K (zy vs) w
 | .ret,e,w=>uj rs e w fun vs=>K (zy vs) w
 |_,_,_=>False
def Ki(args:List Value):Env:=fun i=>args.getD i undef
theorem Gi{P:Program}{n:Nat}{e:Env}{a:Act}{w:World}(ha:AE n e a):∀(l:List ResultVar) (rs:List RV) (k:List Value->Prop),Cm P l=some rs->uj rs e w k->
 ∃vs,(l.mapM fun r=>(match r with
  | .tmp t=>pure (a.tmps.getD t undef)
  | .cell x t=>do loadVar t (<-asAddr (a.tmps.getD x undef)):Sem Value)).run P w= .ok vs w/\k vs
 |[],rs,k,hc,h=>by
  simp only[Cm,qao]at hc;subst hc;exact⟨[],by simp,h⟩
 |r::l,rs,k,hc,h=>by
  simp only[Cm]at hc;split at hc
  .rename_i x xs hx vF;simp only[qao]at hc;subst hc;cases r with
   |tmp t=>
    simp only[Hx,qao]at hx;subst hx;simp only[uj]at h;obtain⟨vs,hr,hk⟩:=Gi ha l xs _ vF h;refine⟨e t::vs,?_,hk⟩;simp only[List.mapM_cons,qbj,qbX,qa4,hr,ha.env t]
   |cell x t=>
    simp only[Hx]at hx;split at hx
    .rename_i i d hi hd;simp only[qao]at hx;cases hb:rN d with
     |true=>
      simp only[hb,qbf]at hx;subst hx;simp only[uj]at h;split at h
      .rename_i b o hp;obtain⟨us,⟨hl,aO⟩,h⟩:=h;obtain⟨vs,hr,hk⟩:=Gi ha l xs _ vF h;refine⟨.agg us.toArray::vs,?_,hk⟩;have h1:=Sg (P:=P) (w:=w) hi hd hb hl aO;simp only[Instr.loadAt,Instr.sureAddr,qbj,qbX,qa4]at h1;have h2:(asAddr (a.tmps.getD x undef)).run P w= .ok ⟨b,o,none⟩ w:=by rw[ha.env x,hp];rfl
       simp only[List.mapM_cons,qbj,qbX,qa4,h2,h1,hr]
      exact h.elim
     |false=>
      simp only[hb,qbq]at hx;subst hx;simp only[uj]at h;split at h
      .rename_i p hp;obtain⟨v,hv,h⟩:=h;obtain⟨vs,hr,hk⟩:=Gi ha l xs _ vF h;refine⟨v::vs,?_,hk⟩;have h1:=Sf (P:=P) (w:=w) hd hb hv;simp only[Instr.loadAt,Instr.sureAddr,qbj,qbX,qa4]at h1;have h2:(asAddr (a.tmps.getD x undef)).run P w= .ok p w:=by rw[ha.env x,hp];rfl
       simp only[List.mapM_cons,qbj,qbX,qa4,h2,h1,hr]
      exact h.elim
    simp at hx
  simp at hc
theorem zdX(vs:List Value):(if h:vs.toArray.size=1 then vs.toArray[0]else .tuple vs.toArray)=zy vs:=by
 match vs with
 |[]=>rfl
 |[v]=>rfl
 |v::u::r=>simp[zy]
theorem aL{fn:Func}{g:ap}{K:Value->World->Prop}(hm:P.follows .mixedOrders=true)(hf:P.funcs[f]? =some fn)
 (hc:aN P args.length fn=some g) (h:WP P g.body (post g.results K) (Ki args) w):az P f args w K:=by
 unfold aN at hc;cases hb:(fn.name != "runtime.NumGoroutine" &&Nat.ble args.length fn.ntmps)with
 |false=>simp[hb]at hc
 |true=>
  simp only[hb,qbf]at hc;simp only[qbn,bne_iff_ne,ne_eq]at hb;have hle:=qbQ hb.2;split at hc
  .rename_i c Ot;split at hc
   .rename_i b rs hcc rG;simp only[qao]at hc;subst hc;unfold az;have pz:(callFunc f args.toArray).run P w= .ok (.enter f args.toArray) w:=by
     simp[callFunc,hf,hb.1,Ot]
    rw[pz];simp only;refine calls_of_wp hf Ot (Code.wp_mono ?_ (zfX (n:=fn.ntmps) hm c b _ (Ki args) _ w hcc ?_ h))
    .intro ex a' w' hq;have fin:∀e,AE fn.ntmps e a'->uj rs e w' (fun vs=>K (zy vs) w')->a'.defers=[]/\∃v,(results fn a'.tmps).run P w'= .ok v w'/\∃u,Ending.returned v= .returned u/\K u w':=by
      intro e ha hr;obtain⟨vs,mA,hk⟩:=Gi ha _ rs _ rG hr;refine⟨ha.defers,zy vs,?_,zy vs,rfl,hk⟩;unfold results;rw[Array.mapM_eq_mapM_toList];simp only[qbj,Sem.run_map]
      erw [mA]
      simp only[qa4,qbX,zdX]
     cases ex with
     |normal=>obtain⟨e,ha,hr⟩:=hq;exact fin e ha hr
     |ret=>obtain⟨e,ha,hr⟩:=hq;exact fin e ha hr
     |exit id=>obtain⟨e,ha,hr⟩:=hq;exact hr.elim
     |goto l=>obtain⟨e,ha,hr⟩:=hq;exact hr.elim
     |panic ch=>exact hq.elim
     |outgrown=>exact hq.elim
    refine⟨by simp;omega,rfl,fun i=> ?_⟩;simp only[Ki,Array.getD_eq_getD_getElem?,qaV];by_cases hi:i<args.length
    .rw[Array.getElem?_append_left (by simpa using hi)];simp
    rw[Array.getElem?_append_right (by simpa using hi),qa3 (by omega)];simp only[Option.getD_none];cases q:(Array.replicate (fn.ntmps-args.toArray.size) undef)[i-args.toArray.size]? with
    |none=>rfl
    |some v=>simp[Array.getElem?_replicate]at q;simp[q.2]
   simp at hc
  simp at hc
theorem az.mono{K K':Value->World->Prop}(h:az P f args w K)(hk:∀v w',K v w'->K' v w'):az P f args w K':=by
 unfold az at*;split
 .rename_i hr;rw[hr]at h;exact hk _ _ h
 .rename_i hr;rw[hr]at h;exact Calls.mono h fun en eX ⟨v,hv,iQ⟩=>⟨v,hv,hk _ _ iQ⟩
 rename_i h1 h2;split at h
 .rename_i hr;exact absurd hr (h1 _ _)
 .rename_i hr;exact absurd hr (h2 _ _ _)
 exact h.elim
end
@[reducible]def T(n:Nat):Operand:= .tmp n
@[reducible]def C(v:Value):Operand:= .const v
@[reducible]def D(d:Nat)(o:p6):SI:=⟨some d,none,o⟩
@[reducible]def U(o:p6):SI:=⟨none,none,o⟩
@[reducible]def J(d a:Nat):SI:=D d (.mv (T a))
@[reducible]def Jc(d:Nat)(v:Value):SI:=D d (.mv (C v))
@[reducible]def Ji(d:Nat)(z:Int):SI:=D d (.mv (C (.int .i64 z)))
@[reducible]def Jn(d a:Nat):SI:=D d (.eP (T a))
@[reducible]def Jf(d a o:Nat):SI:=D d (.fa (T a) o)
@[reducible]def Jl(d a:Nat):SI:=D d (.ld (T a))
@[reducible]def Jr(d a n:Nat):SI:=D d (.jr (T a) n)
@[reducible]def Jx(d a b n:Nat):SI:=D d (.ix (T a) (T b) n)
@[reducible]def Jb(d:Nat)(o:BinOp)(a b:Nat):SI:=D d (.dL o (T a) (T b))
@[reducible]def Jk(d:Nat)(o:BinOp)(a:Nat)(z:Int):SI:=D d (.dL o (T a) (C (.int .i64 z)))
@[reducible]def Ja(d f:Nat)(l:List Operand):SI:=D d (.call f l)
@[reducible]def Je(d a i:Nat):SI:=D d (.ext (T a) i)
@[reducible]def Jt(d a:Nat):SI:=D d (.not (T a))
@[reducible]def Jz(d a:Nat):SI:=D d (.len (T a))
@[reducible]def Jo(d t a:Nat):SI:=D d (.box t (T a))
@[reducible]def Jv(a b n:Nat):SI:=U (.D5 (T a) (T b) n)
@[reducible]def Ju(a b:Nat):SI:=U (.st (T a) (T b))
@[reducible]def Jp(d a b t:Nat):SI:=D d (.app (T a) (T b) t t t)
@[reducible]def Jg(d g:Nat)(b:Bool)(o:p6):SI:=⟨some d,some (g,b),o⟩
@[reducible]def Jm(d g:Nat)(b:Bool)(a:Nat):SI:=⟨some d,some (g,b),.mv (T a)⟩
@[reducible]def Jh(d g:Nat)(b:Bool)(a o:Nat):SI:=⟨some d,some (g,b),.fa (T a) o⟩
@[reducible]def Jd(d g:Nat)(b:Bool)(a:Nat):SI:=⟨some d,some (g,b),.ld (T a)⟩
@[reducible]def Jq(d g:Nat)(b:Bool)(o:BinOp)(x y:Nat):SI:=⟨some d,some (g,b),.dL o (T x) (T y)⟩
@[reducible]def Js(d g:Nat)(b:Bool)(o:BinOp)(x:Nat)(z:Int):SI:=⟨some d,some (g,b),.dL o (T x) (C (.int .i64 z))⟩
@[reducible]def Jy(d c a:Nat)(b:Bool):SI:=D d (.pick (T c) (T a) (C (.bool b)))
@[reducible]def Jw(d c:Nat)(b:Bool)(a:Nat):SI:=D d (.pick (T c) (C (.bool b)) (T a))
@[reducible]def Ci(z:Int):Operand:=C (.int .i64 z)
@[reducible]def O(l:List SI)(c:l8):l8:= .seq (.ops l) c
@[reducible]def Q2(x0 x1:SI)(p:fP):fP:= .take x0 (.take x1 (p))
@[reducible]def Q3(x0 x1 x2:SI)(p:fP):fP:= .take x0 (.take x1 (.take x2 (p)))
@[reducible]def Q4(x0 x1 x2 x3:SI)(p:fP):fP:= .take x0 (.take x1 (.take x2 (.take x3 (p))))
@[reducible]def Q5(x0 x1 x2 x3 x4:SI)(p:fP):fP:= .take x0 (.take x1 (.take x2 (.take x3 (.take x4 (p)))))
@[reducible]def Q6(x0 x1 x2 x3 x4 x5:SI)(p:fP):fP:= .take x0 (.take x1 (.take x2 (.take x3 (.take x4 (.take x5 (p))))))
@[reducible]def Q7(x0 x1 x2 x3 x4 x5 x6:SI)(p:fP):fP:= .take x0 (.take x1 (.take x2 (.take x3 (.take x4 (.take x5 (.take x6 (p)))))))
@[reducible]def Q8(x0 x1 x2 x3 x4 x5 x6 x7:SI)(p:fP):fP:= .take x0 (.take x1 (.take x2 (.take x3 (.take x4 (.take x5 (.take x6 (.take x7 (p))))))))
theorem mixed:prog.follows .mixedOrders=true:=by kernel_rfl
def Z8:ap:=ap.mk (O [Jo 1 45 0,Ji 2 0] (O [Jf 10 1 4,Jl 11 10,Jz 12 11,J 3 12] (.seq (O [Jf 13 1 2,Jl 14 13,Jz 15 14,Ji 16 0] (.block 0 (.loop (O [Jb 17 .lss 16 15] (.seq (.cond (T 17) .skip (.exit 0)) (.seq (.block 1 (O [Jx 18 14 16 6,Jr 19 18 6,D 5 (.new 45 [.int .i64 0,.int .i64 0,.slice none 0 0,.slice none 0 0,.slice none 0 0,.slice none 0 0]),Jv 5 19 6] (.ops [J 20 3,Jr 21 5 6,Ja 22 81 [T 21],Jb 23 .add 20 22,J 3 23]))) (.ops [Jk 24 .add 16 1,J 16 24]))))))) (.seq (O [Jf 25 1 3,Jl 26 25,Jz 27 26,Ji 28 0] (.block 2 (.loop (O [Jb 29 .lss 28 27] (.seq (.cond (T 29) .skip (.exit 2)) (.seq (.block 3 (O [Jx 30 26 28 8,Jr 31 30 8,D 7 (.new 103 [.int .i64 0,.bool false,.int .i64 0,.int .i64 0,.slice none 0 0,.slice none 0 0,.slice none 0 0,.slice none 0 0]),Jv 7 31 8] (.ops [J 32 3,Jf 33 7 2,Jr 34 33 6,Ja 35 81 [T 34],D 36 (.dL .add (Ci 1) (T 35)),Jb 37 .add 32 36,J 3 37]))) (.ops [Jk 38 .add 28 1,J 28 38]))))))) (.seq (O [Jf 39 1 5,Jl 40 39,Jz 41 40,Ji 42 0] (.block 4 (.loop (O [Jb 43 .lss 42 41] (.seq (.cond (T 43) .skip (.exit 4)) (.seq (.block 5 (O [Jx 44 40 42 6,Jr 45 44 6,D 9 (.new 45 [.int .i64 0,.int .i64 0,.slice none 0 0,.slice none 0 0,.slice none 0 0,.slice none 0 0]),Jv 9 45 6] (.ops [J 46 3,Jr 47 9 6,Ja 48 81 [T 47],Jb 49 .add 46 48,J 3 49]))) (.ops [Jk 50 .add 42 1,J 42 50]))))))) (O [J 51 3,J 2 51] .ret)))))) [.t 2]
theorem WN:aN prog 1 Tryz.f81=some Z8:=by kernel_rfl
def Zw:ap:=ap.mk (O [Jo 1 28 0,Ji 2 0] (O [Jf 10 1 4,Jl 11 10,Jz 12 11,J 3 12] (.seq (O [Jf 13 1 3,Jl 14 13,Jz 15 14,Ji 16 0] (.block 0 (.loop (O [Jb 17 .lss 16 15] (.seq (.cond (T 17) .skip (.exit 0)) (.seq (.block 1 (O [Jx 18 14 16 8,Jr 19 18 8,D 5 (.new 101 [.int .i64 0,.bool false,.int .i64 0,.int .i64 0,.slice none 0 0,.slice none 0 0,.slice none 0 0,.slice none 0 0]),Jv 5 19 8] (.ops [J 20 3,Jf 21 5 2,Jr 22 21 6,Ja 23 42 [T 22],D 24 (.dL .add (Ci 1) (T 23)),Jb 25 .add 20 24,J 3 25]))) (.ops [Jk 26 .add 16 1,J 16 26]))))))) (.seq (O [Jf 27 1 5,Jl 28 27,Jz 29 28,Ji 30 0] (.block 2 (.loop (O [Jb 31 .lss 30 29] (.seq (.cond (T 31) .skip (.exit 2)) (.seq (.block 3 (O [Jx 32 28 30 6,Jr 33 32 6,D 7 (.new 28 [.int .i64 0,.int .i64 0,.slice none 0 0,.slice none 0 0,.slice none 0 0,.slice none 0 0]),Jv 7 33 6] (.ops [J 34 3,Jr 35 7 6,Ja 36 42 [T 35],Jb 37 .add 34 36,J 3 37]))) (.ops [Jk 38 .add 30 1,J 30 38]))))))) (.seq (O [Jf 39 1 2,Jl 40 39,Jz 41 40,Ji 42 0] (.block 4 (.loop (O [Jb 43 .lss 42 41] (.seq (.cond (T 43) .skip (.exit 4)) (.seq (.block 5 (O [Jx 44 40 42 6,Jr 45 44 6,D 9 (.new 28 [.int .i64 0,.int .i64 0,.slice none 0 0,.slice none 0 0,.slice none 0 0,.slice none 0 0]),Jv 9 45 6] (.ops [J 46 3,Jr 47 9 6,Ja 48 42 [T 47],Jb 49 .add 46 48,J 3 49]))) (.ops [Jk 50 .add 42 1,J 42 50]))))))) (O [J 51 3,J 2 51] .ret)))))) [.t 2]
theorem Wi:aN prog 1 Tryz.f42=some Zw:=by kernel_rfl
def g3:ap:=ap.mk (O [Jo 5 28 1,Jc 8 (.bool false)] (.seq (O [J 13 0,Jz 14 13,Jk 15 .gtr 14 2147483647,J 16 15,Jg 17 16 false (.jr (T 5) 6),Jg 18 16 false (.call 5 [T 17]),Jg 19 16 false (.not (T 18)),Jw 20 16 true 19] (.cond (T 20) (O [Jc 8 (.bool true)] .ret) .skip)) (.seq (O [J 21 0,Jr 22 5 6,J 23 2,J 24 3,Ja 25 6 [T 21,T 22,T 23,T 24],Jt 26 25,J 27 26,Jm 28 27 false 3,Js 29 27 false .eql 28 8,Jw 30 27 true 29] (.cond (T 30) (O [Jc 8 (.bool true)] .ret) .skip)) (O [J 31 0,Jr 32 5 6,J 33 2,J 34 3,Ja 35 7 [T 31,T 32,C (.bool false),T 33,T 34],D 9 (.new 33 [.int .i64 0,.bool false,.slice none 0 0,.bool false]),Jv 9 35 4] (.seq (.draw (Q4 (J 36 0) (Jr 38 5 6) (J 40 2) (J 41 3) (.alt (Ja 37 8 [T 36]) (.alt (Ja 39 10 [T 38]) (.alt (Ja 42 9 [T 37,T 39,C (.bool false),T 40,T 41]) (Q3 (D 43 (.eS (T 42) 3 1 false)) (Jk 44 .gtr 43 0) (J 10 44) .done) .stop) .stop) .stop))) (.seq (O [J 45 0,Jr 46 5 6,Ja 47 11 [T 45,T 46],Jz 48 47,Ji 49 0] (.block 0 (.loop (O [Jb 50 .lss 49 48] (.seq (.cond (T 50) .skip (.exit 0)) (.seq (.block 1 (O [Jx 51 47 49 4,Jr 52 51 4,D 12 (.new 50 [.int .i64 0,.string ⟨#[]⟩,.slice none 0 0,.bool false]),Jv 12 52 4] (.seq (.draw (Q4 (Jf 53 12 1) (Jl 54 53) (J 55 2) (J 56 3) (.alt (Ja 57 12 [T 55,T 56]) (.take (D 58 (.fC .eql (T 54) (T 57))) .done) .stop))) (.cond (T 58) (O [Jf 59 9 1,Jl 60 59,J 61 60,Jh 62 61 true 12 0,Jd 63 61 true 62,Jh 64 61 true 9 0,Jd 65 61 true 64,Jq 66 61 true .eql 63 65,Jy 67 61 66 false,J 68 67,Jm 69 68 true 10,Jm 70 68 true 69,Jh 71 70 false 12 3,Jd 72 70 false 71,Jh 73 70 false 9 3,Jd 74 70 false 73,Jg 75 70 false (.qV false (T 72) (T 74)),Jg 76 68 true (.pick (T 70) (C (.bool true)) (T 75)),Jy 77 68 76 false,J 78 77,Jh 79 78 true 12 2,Jd 80 78 true 79,Jh 81 78 true 9 2,Jd 82 78 true 81,Jg 83 78 true (.call 13 [T 80,T 82]),Jy 84 78 83 false,J 8 84] .ret) .skip)))) (.ops [Jk 85 .add 49 1,J 49 85]))))))) (O [Ja 86 14 [],J 87 86,Jh 88 87 true 9 1,Jd 89 87 true 88,Jg 90 87 true (.not (T 89)),Jy 91 87 90 false,J 8 91] .ret))))))) [.t 8]
theorem c3:aN prog 4 Tryz.f3=some g3:=by kernel_rfl
def g4:ap:=ap.mk (O [Jo 3 28 1,Jc 4 (.bool false)] (.seq (O [J 10 0,Jz 11 10,Jk 12 .gtr 11 2147483647,J 13 12,Jg 14 13 false (.jr (T 3) 6),Jg 15 13 false (.call 5 [T 14]),Jg 16 13 false (.not (T 15)),Jw 17 13 true 16] (.cond (T 17) (O [Jc 4 (.bool true)] .ret) .skip)) (.seq (O [J 18 0,Jr 19 3 6,Ja 20 6 [T 18,T 19,Ci 0,Ci 0],Jt 21 20] (.cond (T 21) (O [Jc 4 (.bool true)] .ret) .skip)) (.seq (.draw (Q4 (J 22 0) (Jr 24 3 6) (J 27 0) (Jr 28 3 6) (.alt (Ja 23 8 [T 22]) (.alt (Ja 25 10 [T 24]) (.alt (Ja 26 15 [T 23,T 25]) (.alt (Ja 29 11 [T 27,T 28]) (Q2 (J 5 26) (J 6 29) .done) .stop) .stop) .stop) .stop))) (.seq (O [J 30 6,Jz 31 30,J 32 5,Jz 33 32,Jb 34 .neq 31 33] (.cond (T 34) (O [Jc 4 (.bool false)] .ret) .skip)) (.seq (O [J 35 6,Jz 36 35,Ji 37 0] (.block 0 (.loop (O [Jb 38 .lss 37 36] (.seq (.cond (T 38) .skip (.exit 0)) (.seq (.block 1 (O [J 39 37,Jx 40 35 37 4,Jr 41 40 4,D 8 (.new 50 [.int .i64 0,.string ⟨#[]⟩,.slice none 0 0,.bool false]),J 7 39,Jv 8 41 4] (O [J 42 5,J 43 7,Jx 44 42 43 8,Jr 45 44 8,D 9 (.new 57 [.string ⟨#[]⟩,.slice none 0 0,.bool false,.slice none 0 0,.int .i64 0,.bool false,.bool false,.int .i64 0]),Jv 9 45 8] (O [Jf 46 8 1,Jl 47 46,Jf 48 9 0,Jl 49 48,D 50 (.fC .neq (T 47) (T 49)),J 51 50,Jh 52 51 false 9 1,Jh 53 51 false 52 0,Jd 54 51 false 53,Jh 55 51 false 8 0,Jd 56 51 false 55,Jg 57 51 false (.call 16 [T 54,T 56]),Jg 58 51 false (.not (T 57)),Jw 59 51 true 58,J 60 59,Jh 61 60 false 9 1,Jh 62 60 false 61 3,Jd 63 60 false 62,Js 64 60 false .eql 63 0,Jm 65 60 false 64,Jh 66 65 true 8 3,Jd 67 65 true 66,Jh 68 65 true 9 1,Jh 69 65 true 68 4,Jd 70 65 true 69,Jg 71 65 true (.qV true (T 67) (T 70)),Jg 72 60 false (.pick (T 65) (T 71) (C (.bool false))),Jw 73 60 true 72,J 74 73,Jm 75 74 false 0,Jh 76 74 false 8 2,Jd 77 74 false 76,Jh 78 74 false 9 1,Jh 79 74 false 78 2,Jd 80 74 false 79,Jh 81 74 false 8 0,Jd 82 74 false 81,Jh 83 74 false 9 1,Jh 84 74 false 83 3,Jd 85 74 false 84,Jg 86 74 false (.call 17 [T 75,T 77,T 80,T 82,T 85]),Jg 87 74 false (.not (T 86)),Jw 88 74 true 87] (.cond (T 88) (O [Jc 4 (.bool false)] .ret) .skip))))) (.ops [Jk 89 .add 37 1,J 37 89]))))))) (O [Ja 90 14 [],J 4 90] .ret))))))) [.t 4]
theorem c4:aN prog 2 Tryz.f4=some g4:=by kernel_rfl
def g5:ap:=ap.mk (O [Jo 1 28 0,Jc 2 (.bool false)] (.seq (O [Jf 3 1 2,Jl 4 3,Jz 5 4,Jk 6 .gtr 5 2147483647] (.cond (T 6) (O [Jc 2 (.bool false)] .ret) .skip)) (.seq (O [Jf 7 1 3,Jl 8 7,Jz 9 8,Jk 10 .gtr 9 2147483647] (.cond (T 10) (O [Jc 2 (.bool false)] .ret) .skip)) (.seq (O [Jf 11 1 4,Jl 12 11,Jz 13 12,Jk 14 .gtr 13 2147483647] (.cond (T 14) (O [Jc 2 (.bool false)] .ret) .skip)) (.seq (O [Jf 15 1 5,Jl 16 15,Jz 17 16,Jk 18 .gtr 17 2147483647] (.cond (T 18) (O [Jc 2 (.bool false)] .ret) .skip)) (O [Jc 2 (.bool true)] .ret)))))) [.t 2]
theorem c5:aN prog 1 Tryz.f5=some g5:=by kernel_rfl
def g6:ap:=ap.mk (O [Jo 5 28 1,Jc 8 (.bool false)] (.seq (.draw (Q8 (J 9 2) (Jk 10 .geq 9 0) (J 11 10) (Jm 12 11 true 2) (Js 13 11 true .leq 12 1) (Jy 14 11 13 false) (J 15 14) (Jm 16 15 true 3) (.alt (Jg 17 15 true (.call 18 [T 16])) (Q4 (Jy 18 15 17 false) (J 19 18) (Jm 20 19 true 0) (Jg 22 19 true (.jr (T 5) 6)) (.alt (Jg 21 19 true (.call 8 [T 20])) (.alt (Jg 23 19 true (.call 10 [T 22])) (.alt (Jg 24 19 true (.call 19 [T 21,T 23])) (Q2 (Jy 25 19 24 false) (J 8 25) .done) .stop) .stop) .stop)) .stop))) .ret)) [.t 8]
theorem c6:aN prog 4 Tryz.f6=some g6:=by kernel_rfl
def g8:ap:=ap.mk (O [Jc 2 (.slice none 0 0)] (O [Jc 3 (.slice none 0 0)] (.seq (O [J 9 0,Jz 10 9,Ji 11 0] (.block 0 (.loop (O [Jb 12 .lss 11 10] (.seq (.cond (T 12) .skip (.exit 0)) (.seq (.block 1 (O [Jx 13 9 11 10,Jr 14 13 10,D 5 (.new 82 [.int .i64 0,.int .i64 0,.bool false,.int .i64 0,.int .i64 0,.slice none 0 0,.slice none 0 0,.slice none 0 0,.slice none 0 0,.slice none 0 0]),Jv 5 14 10] (.seq (.draw (Q8 (Jf 15 5 0) (Jl 16 15) (Jf 17 5 1) (Jl 18 17) (Jf 19 5 2) (Jl 20 19) (Jf 21 5 3) (Jr 22 21 6) (.alt (Ja 23 10 [T 22]) (.take (D 24 (.bW [.int .i64 0,.int .i64 0,.bool false,.int .i64 0,.int .i64 0,.slice none 0 0,.slice none 0 0,.slice none 0 0,.slice none 0 0,.slice none 0 0] [(0,(1,T 16)),(1,(1,T 18)),(2,(1,T 20)),(3,(6,T 23))])) (.alt (D 6 (.new 84 [.int .i64 0,.int .i64 0,.bool false,.int .i64 0,.int .i64 0,.slice none 0 0,.slice none 0 0,.slice none 0 0,.slice none 0 0,.slice none 0 0])) (.alt (Jv 6 24 10) .done .stop) .stop)) (.alt (D 6 (.new 84 [.int .i64 0,.int .i64 0,.bool false,.int .i64 0,.int .i64 0,.slice none 0 0,.slice none 0 0,.slice none 0 0,.slice none 0 0,.slice none 0 0])) (.alt (Ja 23 10 [T 22]) (.take (D 24 (.bW [.int .i64 0,.int .i64 0,.bool false,.int .i64 0,.int .i64 0,.slice none 0 0,.slice none 0 0,.slice none 0 0,.slice none 0 0,.slice none 0 0] [(0,(1,T 16)),(1,(1,T 18)),(2,(1,T 20)),(3,(6,T 23))])) (.alt (Jv 6 24 10) .done .stop)) .stop) .stop)))) (.seq (O [Jf 25 5 9,Jl 26 25,Jz 27 26,Ji 28 0] (.block 2 (.loop (O [Jb 29 .lss 28 27] (.seq (.cond (T 29) .skip (.exit 2)) (.seq (.block 3 (O [Jx 30 26 28 2,Jr 31 30 2,D 8 (.new 86 [.int .i64 0,.bool false]),Jv 8 31 2] (.ops [Jf 32 6 9,Jl 33 32,Jf 34 8 0,Jl 35 34,Jf 36 8 1,Jl 37 36,D 38 (.bW [.int .i64 0,.bool false] [(0,(1,T 35)),(1,(1,T 37))]),D 39 (.bs 87 1 2 [T 38]),Jp 40 33 39 43,Jf 41 6 9,Ju 41 40]))) (.ops [Jk 42 .add 28 1,J 28 42]))))))) (.ops [J 43 3,Jr 44 6 10,D 45 (.bs 84 1 10 [T 44]),Jp 46 43 45 38,J 3 46]))))) (.ops [Jk 47 .add 11 1,J 11 47]))))))) (O [J 48 3,J 2 48] .ret)))) [.t 2]
theorem c8:aN prog 1 Tryz.f8=some g8:=by kernel_rfl
def g10:ap:=ap.mk (O [Jo 1 28 0,D 2 (.new 45 [.int .i64 0,.int .i64 0,.slice none 0 0,.slice none 0 0,.slice none 0 0,.slice none 0 0])] (O [Jf 12 1 0,Jl 13 12,Jf 14 1 1,Jl 15 14,D 16 (.bW [.int .i64 0,.int .i64 0,.slice none 0 0,.slice none 0 0,.slice none 0 0,.slice none 0 0] [(0,(1,T 13)),(1,(1,T 15))]),D 3 (.new 45 [.int .i64 0,.int .i64 0,.slice none 0 0,.slice none 0 0,.slice none 0 0,.slice none 0 0]),Jv 3 16 6] (.seq (O [Jf 17 1 2,Jl 18 17,Jz 19 18,Ji 20 0] (.block 0 (.loop (O [Jb 21 .lss 20 19] (.seq (.cond (T 21) .skip (.exit 0)) (.seq (.block 1 (O [Jx 22 18 20 6,Jr 23 22 6,D 5 (.new 28 [.int .i64 0,.int .i64 0,.slice none 0 0,.slice none 0 0,.slice none 0 0,.slice none 0 0]),Jv 5 23 6] (.draw (Q2 (Jf 24 3 2) (Jr 26 5 6) (.alt (Jl 25 24) (.alt (Ja 27 10 [T 26]) (.alt (D 28 (.bs 45 1 6 [T 27])) (.alt (Jp 29 25 28 41) (.take (Jf 30 3 2) (.alt (Ju 30 29) .done .stop)) .stop) .stop) .stop) (.alt (Ja 27 10 [T 26]) (.alt (Jl 25 24) (.alt (D 28 (.bs 45 1 6 [T 27])) (.alt (Jp 29 25 28 41) (.take (Jf 30 3 2) (.alt (Ju 30 29) .done .stop)) .stop) .stop) (.alt (D 28 (.bs 45 1 6 [T 27])) (.alt (Jl 25 24) (.alt (Jp 29 25 28 41) (.take (Jf 30 3 2) (.alt (Ju 30 29) .done .stop)) .stop) .stop) .stop)) .stop)))))) (.ops [Jk 31 .add 20 1,J 20 31]))))))) (.seq (O [Jf 32 1 3,Jl 33 32,Jz 34 33,Ji 35 0] (.block 2 (.loop (O [Jb 36 .lss 35 34] (.seq (.cond (T 36) .skip (.exit 2)) (.seq (.block 3 (O [Jx 37 33 35 8,Jr 38 37 8,D 7 (.new 101 [.int .i64 0,.bool false,.int .i64 0,.int .i64 0,.slice none 0 0,.slice none 0 0,.slice none 0 0,.slice none 0 0]),Jv 7 38 8] (.draw (Q7 (Jf 39 3 3) (Jf 41 7 0) (Jl 42 41) (Jf 43 7 1) (Jl 44 43) (Jf 45 7 2) (Jr 46 45 6) (.alt (Jl 40 39) (.alt (Ja 47 10 [T 46]) (.take (D 48 (.bW [.int .i64 0,.bool false,.int .i64 0,.int .i64 0,.slice none 0 0,.slice none 0 0,.slice none 0 0,.slice none 0 0] [(0,(1,T 42)),(1,(1,T 44)),(2,(6,T 47))])) (.alt (D 49 (.bs 103 1 8 [T 48])) (.alt (Jp 50 40 49 42) (.take (Jf 51 3 3) (.alt (Ju 51 50) .done .stop)) .stop) .stop)) .stop) (.alt (Ja 47 10 [T 46]) (.take (D 48 (.bW [.int .i64 0,.bool false,.int .i64 0,.int .i64 0,.slice none 0 0,.slice none 0 0,.slice none 0 0,.slice none 0 0] [(0,(1,T 42)),(1,(1,T 44)),(2,(6,T 47))])) (.alt (Jl 40 39) (.alt (D 49 (.bs 103 1 8 [T 48])) (.alt (Jp 50 40 49 42) (.take (Jf 51 3 3) (.alt (Ju 51 50) .done .stop)) .stop) .stop) (.alt (D 49 (.bs 103 1 8 [T 48])) (.alt (Jl 40 39) (.alt (Jp 50 40 49 42) (.take (Jf 51 3 3) (.alt (Ju 51 50) .done .stop)) .stop) .stop) .stop))) .stop)))))) (.ops [Jk 52 .add 35 1,J 35 52]))))))) (.seq (O [Jf 53 1 4,Jl 54 53,Jz 55 54,Ji 56 0] (.block 4 (.loop (O [Jb 57 .lss 56 55] (.seq (.cond (T 57) .skip (.exit 4)) (.seq (.block 5 (O [Jx 58 54 56 2,Jr 59 58 2,D 9 (.new 86 [.int .i64 0,.bool false]),Jv 9 59 2] (.ops [Jf 60 3 4,Jl 61 60,Jf 62 9 0,Jl 63 62,Jf 64 9 1,Jl 65 64,D 66 (.bW [.int .i64 0,.bool false] [(0,(1,T 63)),(1,(1,T 65))]),D 67 (.bs 87 1 2 [T 66]),Jp 68 61 67 43,Jf 69 3 4,Ju 69 68]))) (.ops [Jk 70 .add 56 1,J 56 70]))))))) (.seq (O [Jf 71 1 5,Jl 72 71,Jz 73 72,Ji 74 0] (.block 6 (.loop (O [Jb 75 .lss 74 73] (.seq (.cond (T 75) .skip (.exit 6)) (.seq (.block 7 (O [Jx 76 72 74 6,Jr 77 76 6,D 11 (.new 28 [.int .i64 0,.int .i64 0,.slice none 0 0,.slice none 0 0,.slice none 0 0,.slice none 0 0]),Jv 11 77 6] (.draw (Q2 (Jf 78 3 5) (Jr 80 11 6) (.alt (Jl 79 78) (.alt (Ja 81 10 [T 80]) (.alt (D 82 (.bs 45 1 6 [T 81])) (.alt (Jp 83 79 82 41) (.take (Jf 84 3 5) (.alt (Ju 84 83) .done .stop)) .stop) .stop) .stop) (.alt (Ja 81 10 [T 80]) (.alt (Jl 79 78) (.alt (D 82 (.bs 45 1 6 [T 81])) (.alt (Jp 83 79 82 41) (.take (Jf 84 3 5) (.alt (Ju 84 83) .done .stop)) .stop) .stop) (.alt (D 82 (.bs 45 1 6 [T 81])) (.alt (Jl 79 78) (.alt (Jp 83 79 82 41) (.take (Jf 84 3 5) (.alt (Ju 84 83) .done .stop)) .stop) .stop) .stop)) .stop)))))) (.ops [Jk 85 .add 74 1,J 74 85]))))))) (O [Jr 86 3 6,Jv 2 86 6] .ret))))))) [.c 2 6]
theorem UW:aN prog 1 Tryz.f10=some g10:=by kernel_rfl
def g13:ap:=ap.mk (O [Jc 4 (.bool false)] (.seq (O [J 6 0,Jz 7 6,J 8 1,Jz 9 8,Jb 10 .neq 7 9] (.cond (T 10) (O [Jc 4 (.bool false)] .ret) .skip)) (.seq (O [J 11 0,Jz 12 11,Ji 13 0] (.block 0 (.loop (O [Jb 14 .lss 13 12] (.seq (.cond (T 14) .skip (.exit 0)) (.seq (.block 1 (O [J 15 13,J 5 15] (.seq (.draw (.take (J 16 0) (Q8 (J 17 5) (Jx 18 16 17 1) (Jl 19 18) (J 20 1) (J 21 5) (Jx 22 20 21 1) (Jl 23 22) (Jb 24 .neq 19 23) .done))) (.cond (T 24) (O [Jc 4 (.bool false)] .ret) .skip)))) (.ops [Jk 25 .add 13 1,J 13 25]))))))) (O [Jc 4 (.bool true)] .ret)))) [.t 4]
theorem Vh:aN prog 2 Tryz.f13=some g13:=by kernel_rfl
def g14:ap:=ap.mk (O [Jc 0 (.bool false)] (O [D 2 (.bW [.int .i64 0,.bool false,.int .i64 0,.int .i64 0,.slice none 0 0,.slice none 0 0,.slice none 0 0,.slice none 0 0] [(0,(1,Ci 4))]),D 3 (.bs 101 1 8 [T 2]),D 4 (.bW [.int .i64 0,.int .i64 0,.slice none 0 0,.slice none 0 0,.slice none 0 0,.slice none 0 0] [(0,(1,Ci 4)),(3,(1,T 3))]),Ja 5 7 [C (.slice none 0 0),T 4,C (.bool false),Ci 0,Ci 4],D 1 (.new 33 [.int .i64 0,.bool false,.slice none 0 0,.bool false]),Jv 1 5 4] (O [Jf 6 1 0,Jl 7 6,Jk 8 .eql 7 0,J 9 8,Jh 10 9 true 1 1,Jd 11 9 true 10,Jg 12 9 true (.not (T 11)),Jy 13 9 12 false,J 14 13,Jh 15 14 true 1 2,Jd 16 14 true 15,Jg 17 14 true (.bs 3 1 1 [Ci 0]),Jg 18 14 true (.call 13 [T 16,T 17]),Jy 19 14 18 false,J 20 19,Jg 21 20 true (.call 32 [Ci 0,Ci 4]),Jg 22 20 true (.fC .eql (T 21) (C (.string ⟨#[65]⟩))),Jy 23 20 22 false,J 0 23] .ret))) [.t 0]
theorem Vj:aN prog 0 Tryz.f14=some g14:=by kernel_rfl
def g16:ap:=ap.mk (O [Jc 4 (.bool false)] (.seq (O [J 7 0,Jz 8 7,Ji 9 0] (.block 0 (.loop (O [Jb 10 .lss 9 8] (.seq (.cond (T 10) .skip (.exit 0)) (.seq (.block 1 (O [Jx 11 7 9 1,Jl 12 11,J 6 12] (O [J 13 6,J 14 1,Jb 15 .eql 13 14] (.cond (T 15) (O [Jc 4 (.bool true)] .ret) .skip)))) (.ops [Jk 16 .add 9 1,J 9 16]))))))) (O [Jc 4 (.bool false)] .ret))) [.t 4]
theorem Ho:aN prog 2 Tryz.f16=some g16:=by kernel_rfl
def g17:ap:=ap.mk (O [Jc 10 (.bool false)] (O [J 16 2,Jz 17 16,Jk 18 .sub 17 1,J 11 18] (.seq (.seq (.draw (Q2 (J 19 1) (Jz 20 19) (Q8 (J 21 2) (Jz 22 21) (Jb 23 .neq 20 22) (J 24 23) (Jm 25 24 false 1) (Jm 26 24 false 11) (Jm 28 24 false 2) (Jm 29 24 false 11) (.alt (Jg 27 24 false (.j6 (T 25) (some (T 26)) none)) (.alt (Jg 30 24 false (.j6 (T 28) (some (T 29)) none)) (.alt (Jg 31 24 false (.call 13 [T 27,T 30])) (Q2 (Jg 32 24 false (.not (T 31))) (Jw 33 24 true 32) .done) .stop) .stop) (.alt (Jg 30 24 false (.j6 (T 28) (some (T 29)) none)) (.alt (Jg 27 24 false (.j6 (T 25) (some (T 26)) none)) (.alt (Jg 31 24 false (.call 13 [T 27,T 30])) (Q2 (Jg 32 24 false (.not (T 31))) (Jw 33 24 true 32) .done) .stop) .stop) .stop))))) (.cond (T 33) (O [Jc 10 (.bool false)] .ret) .skip)) (.seq (O [J 34 2,J 35 11,Jx 36 34 35 1,Jl 37 36,Jk 38 .neq 37 (-1)] (.cond (T 38) (.seq (.draw (Q2 (J 39 1) (J 40 11) (Q8 (Jx 41 39 40 1) (Jl 42 41) (J 43 2) (J 44 11) (Jx 45 43 44 1) (Jl 46 45) (Jb 47 .eql 42 46) (J 10 47) .done))) .ret) .skip)) (.seq (O [J 48 4,Jk 49 .gtr 48 0] (.cond (T 49) (O [J 50 1,J 51 11,Jx 52 50 51 1,Jl 53 52,Jk 54 .geq 53 0,J 55 54,Jm 56 55 true 1,Jm 57 55 true 11,Jg 58 55 true (.ix (T 56) (T 57) 1),Jd 59 55 true 58,Jm 60 55 true 4,Jq 61 55 true .lss 59 60,Jy 62 55 61 false,J 10 62] .ret) .skip)) (O [J 63 0,Ja 64 8 [T 63],J 12 64] (.seq (O [J 65 0,Jz 66 65,Ji 67 0] (.block 0 (.loop (O [Jb 68 .lss 67 66] (.seq (.cond (T 68) .skip (.exit 0)) (.seq (.block 1 (O [J 69 67,J 13 69] (O [J 70 12,J 71 13,Ja 72 33 [T 70,T 71],J 14 72] (O [J 73 3,J 74 14,Jb 75 .geq 73 74,J 76 75,Jm 77 76 true 3,Jm 78 76 true 14,Jm 79 76 true 0,Jm 80 76 true 13,Jg 81 76 true (.ix (T 79) (T 80) 10),Jh 82 76 true 81 9,Jd 83 76 true 82,Jg 84 76 true (.len (T 83)),Jq 85 76 true .add 78 84,Jq 86 76 true .lss 77 85,Jy 87 76 86 false] (.cond (T 87) (O [J 88 0,J 89 13,Ja 90 34 [T 88,T 89],J 15 90] (O [J 91 1,J 92 11,Jx 93 91 92 1,Jl 94 93,Jk 95 .geq 94 0,J 96 95,Jm 97 96 true 1,Jm 98 96 true 11,Jg 99 96 true (.ix (T 97) (T 98) 1),Jd 100 96 true 99,Jm 101 96 true 15,Jg 102 96 true (.len (T 101)),Jq 103 96 true .lss 100 102,Jy 104 96 103 false,J 105 104,Jm 106 105 true 15,Jm 107 105 true 1,Jm 108 105 true 11,Jg 109 105 true (.ix (T 107) (T 108) 1),Jd 110 105 true 109,Jg 111 105 true (.ix (T 106) (T 110) 1),Jd 112 105 true 111,Jm 113 105 true 3,Jq 114 105 true .eql 112 113,Jy 115 105 114 false,J 10 115] .ret)) .skip))))) (.ops [Jk 116 .add 67 1,J 67 116]))))))) (O [Jc 10 (.bool false)] .ret)))))))) [.t 10]
theorem Vw:aN prog 5 Tryz.f17=some g17:=by kernel_rfl
def g9:ap:=ap.mk (O [Jo 6 45 1,D 10 (.new 36 [.slice none 0 0,.bool false,.slice none 0 0,.int .i64 0,.bool false,.bool false,.int .i64 0])] (O [J 18 0,Jr 19 6 6,Ja 20 24 [T 18,T 19],J 17 20,Je 21 17 0,Je 22 17 1,Je 23 17 2,Je 24 17 3,D 11 (.new 89 [.int .i64 0,.int .i64 0,.slice none 0 0,.slice none 0 0,.slice none 0 0,.slice none 0 0,.int .i64 0,.int .i64 0]),Jv 11 21 8,J 12 22,J 13 23,J 14 24] (.seq (O [J 25 4,Jk 26 .eql 25 8,J 27 26,Jm 28 27 false 14,Jg 29 27 false (.not (T 28)),Jw 30 27 true 29] (.cond (T 30) (O [D 31 (.bW [.slice none 0 0,.bool false,.slice none 0 0,.int .i64 0,.bool false,.bool false,.int .i64 0] []),Jv 10 31 7] .ret) .skip)) (.seq (.draw (Q5 (J 32 0) (Jr 33 11 8) (J 34 12) (J 35 3) (J 36 4) (.alt (Ja 37 12 [T 35,T 36]) (.alt (Ja 38 25 [T 32,T 33,T 34,T 37]) (.take (J 15 38) .done) .stop) .stop))) (.seq (O [J 39 15,Jz 40 39,Jk 41 .eql 40 0] (.cond (T 41) (O [D 42 (.bW [.slice none 0 0,.bool false,.slice none 0 0,.int .i64 0,.bool false,.bool false,.int .i64 0] []),Jv 10 42 7] .ret) .skip)) (O [J 43 15,D 44 (.ix (T 43) (Ci 0) 15),Jr 45 44 15,D 16 (.new 99 [.slice none 0 0,.int .i64 0,.bool false,.bool false,.int .i64 0,.int .i64 0,.int .i64 0,.slice none 0 0,.slice none 0 0,.slice none 0 0,.slice none 0 0,.int .i64 0,.int .i64 0,.slice none 0 0,.bool false]),Jv 16 45 15] (.seq (.block 0 (O [J 47 15,Jz 48 47,Jk 49 .gtr 48 1,J 46 49] (.cond (T 46) (O [Jf 50 16 5,Jf 51 50 8,Jl 52 51,Jz 53 52,D 54 (.bW [.slice none 0 0,.bool false,.slice none 0 0,.int .i64 0,.bool false,.bool false,.int .i64 0] [(5,(1,C (.bool true))),(6,(1,T 53))]),Jv 10 54 7] .ret) (O [Jf 56 16 0,Jf 57 56 2,Jl 58 57,J 59 58,Jm 60 59 true 13,Jy 61 59 60 false,J 55 61] (.cond (T 55) (O [D 62 (.bW [.slice none 0 0,.bool false,.slice none 0 0,.int .i64 0,.bool false,.bool false,.int .i64 0] []),Jv 10 62 7] .ret) (O [Jf 64 16 0,Jf 65 64 2,Jl 66 65,J 67 66,Jh 68 67 true 16 0,Jh 69 67 true 68 3,Jd 70 67 true 69,Jy 71 67 70 false,J 72 71,Jh 73 72 true 16 5,Jh 74 72 true 73 9,Jd 75 72 true 74,Jg 76 72 true (.not (T 75)),Jy 77 72 76 false,J 78 77,Jm 79 78 true 2,Jg 80 78 true (.not (T 79)),Jy 81 78 80 false,J 63 81] (.cond (T 63) (O [D 82 (.bW [.slice none 0 0,.bool false,.slice none 0 0,.int .i64 0,.bool false,.bool false,.int .i64 0] [(4,(1,C (.bool true)))]),Jv 10 82 7] .ret) .skip))))))) (.seq (.draw (Q2 (Jf 83 16 0) (Jf 84 83 0) (Q8 (Jl 85 84) (Jf 86 16 0) (Jf 87 86 2) (Jl 88 87) (Jf 89 16 5) (Jf 90 89 8) (Jl 91 90) (Jf 93 16 0) (Q8 (Jf 94 93 1) (Jl 95 94) (Jf 98 16 5) (Jf 99 98 9) (Jl 100 99) (Jf 101 16 0) (Jf 102 101 4) (Jl 103 102) (.alt (D 92 (.app (C (.slice none 0 0)) (T 91) 31 31 31)) (.alt (D 96 (.bs 3 1 1 [T 95])) (.alt (Jp 97 92 96 31) (.take (D 104 (.bW [.slice none 0 0,.bool false,.slice none 0 0,.int .i64 0,.bool false,.bool false,.int .i64 0] [(0,(1,T 85)),(1,(1,T 88)),(2,(1,T 97)),(4,(1,T 100)),(3,(1,T 103))])) (.alt (Jv 10 104 7) .done .stop)) .stop) .stop) (.alt (D 96 (.bs 3 1 1 [T 95])) (.alt (D 92 (.app (C (.slice none 0 0)) (T 91) 31 31 31)) (.alt (Jp 97 92 96 31) (.take (D 104 (.bW [.slice none 0 0,.bool false,.slice none 0 0,.int .i64 0,.bool false,.bool false,.int .i64 0] [(0,(1,T 85)),(1,(1,T 88)),(2,(1,T 97)),(4,(1,T 100)),(3,(1,T 103))])) (.alt (Jv 10 104 7) .done .stop)) .stop) .stop) .stop)))))) .ret)))))))) [.c 10 7]
theorem c9:aN prog 5 Tryz.f9=some g9:=by kernel_rfl
def g12:ap:=ap.mk (O [Jc 4 (.string ⟨#[]⟩)] (.seq (O [J 5 1,Ja 6 30 [T 5]] (.cond (T 6) (O [J 7 1,Ja 8 31 [T 7],J 4 8] .ret) .skip)) (.seq (.draw (Q2 (J 10 0) (J 14 1) (.alt (D 9 (.bs 9 2 1 [C (.string ⟨#[112]⟩),C (.string ⟨#[113]⟩)])) (Q3 (Jx 11 9 10 1) (Jl 12 11) (D 13 (.fC .add (T 12) (C (.string ⟨#[46]⟩)))) (.alt (Ja 15 31 [T 14]) (Q2 (D 16 (.fC .add (T 13) (T 15))) (J 4 16) .done) .stop)) (.alt (Ja 15 31 [T 14]) (.alt (D 9 (.bs 9 2 1 [C (.string ⟨#[112]⟩),C (.string ⟨#[113]⟩)])) (Q5 (Jx 11 9 10 1) (Jl 12 11) (D 13 (.fC .add (T 12) (C (.string ⟨#[46]⟩)))) (D 16 (.fC .add (T 13) (T 15))) (J 4 16) .done) .stop) .stop)))) .ret))) [.t 4]
theorem Va:aN prog 2 Tryz.f12=some g12:=by kernel_rfl
def g15:ap:=ap.mk (O [Jo 3 45 1,Jc 4 (.slice none 0 0)] (O [Jc 5 (.slice none 0 0)] (.seq (O [Ji 10 0] (.block 0 (.loop (O [Jk 11 .lss 10 2] (.seq (.cond (T 11) .skip (.exit 0)) (.seq (.block 1 (O [J 12 10,J 6 12] (O [Ji 13 0] (.block 2 (.loop (O [Jk 14 .lss 13 16] (.seq (.cond (T 14) .skip (.exit 2)) (.seq (.block 3 (O [J 15 13,J 7 15] (.seq (.draw (Q6 (J 16 6) (J 17 7) (J 19 0) (Jr 20 3 6) (J 21 6) (J 22 7) (.alt (Ja 18 12 [T 16,T 17]) (.alt (Ja 23 9 [T 19,T 20,C (.bool false),T 21,T 22]) (.take (D 24 (.bW [.string ⟨#[]⟩,.slice none 0 0,.bool false,.slice none 0 0,.int .i64 0,.bool false,.bool false,.int .i64 0] [(0,(1,T 18)),(1,(7,T 23))])) (.alt (D 8 (.new 57 [.string ⟨#[]⟩,.slice none 0 0,.bool false,.slice none 0 0,.int .i64 0,.bool false,.bool false,.int .i64 0])) (.alt (Jv 8 24 8) .done .stop) .stop)) (.alt (D 8 (.new 57 [.string ⟨#[]⟩,.slice none 0 0,.bool false,.slice none 0 0,.int .i64 0,.bool false,.bool false,.int .i64 0])) (.alt (Ja 23 9 [T 19,T 20,C (.bool false),T 21,T 22]) (.take (D 24 (.bW [.string ⟨#[]⟩,.slice none 0 0,.bool false,.slice none 0 0,.int .i64 0,.bool false,.bool false,.int .i64 0] [(0,(1,T 18)),(1,(7,T 23))])) (.alt (Jv 8 24 8) .done .stop)) .stop) .stop)) (.alt (D 8 (.new 57 [.string ⟨#[]⟩,.slice none 0 0,.bool false,.slice none 0 0,.int .i64 0,.bool false,.bool false,.int .i64 0])) (.alt (Ja 18 12 [T 16,T 17]) (.alt (Ja 23 9 [T 19,T 20,C (.bool false),T 21,T 22]) (.take (D 24 (.bW [.string ⟨#[]⟩,.slice none 0 0,.bool false,.slice none 0 0,.int .i64 0,.bool false,.bool false,.int .i64 0] [(0,(1,T 18)),(1,(7,T 23))])) (.alt (Jv 8 24 8) .done .stop)) .stop) .stop) .stop)))) (.seq (O [Jf 25 8 1,Jf 26 25 1,Jl 27 26,Jt 28 27] (.cond (T 28) (.exit 3) .skip)) (O [Ji 9 0] (.seq (.block 4 (.loop (.seq (.seq (.draw (Q6 (J 29 9) (J 30 5) (Jz 31 30) (Jb 32 .lss 29 31) (J 33 32) (Jm 34 33 true 5) (Q8 (Jm 35 33 true 9) (Jg 36 33 true (.ix (T 34) (T 35) 8)) (Jh 37 33 true 36 0) (Jd 38 33 true 37) (Jh 39 33 true 8 0) (Jd 40 33 true 39) (Jg 41 33 true (.fC .lss (T 38) (T 40))) (Jy 42 33 41 false) .done))) (.cond (T 42) .skip (.exit 4))) (.block 5 (.ops [J 43 9,Jk 44 .add 43 1,J 9 44]))))) (.seq (.draw (Q6 (J 45 9) (J 46 5) (Jz 47 46) (Jb 48 .eql 45 47) (J 49 48) (Jm 50 49 false 5) (Q8 (Jm 51 49 false 9) (Jg 52 49 false (.ix (T 50) (T 51) 8)) (Jh 53 49 false 52 0) (Jd 54 49 false 53) (Jh 55 49 false 8 0) (Jd 56 49 false 55) (Jg 57 49 false (.fC .neq (T 54) (T 56))) (Jw 58 49 true 57) .done))) (.cond (T 58) (.draw (Q6 (J 59 5) (J 60 9) (J 61 9) (Jr 63 8 8) (J 65 5) (J 66 9) (.alt (D 62 (.j6 (T 59) (some (T 60)) (some (T 61)))) (.alt (D 64 (.bs 57 1 8 [T 63])) (.alt (D 67 (.vZ (T 65) (T 66) none 8)) (.alt (Jp 68 64 67 54) (.alt (Jp 69 62 68 54) (.take (J 5 69) .done) .stop) .stop) .stop) (.alt (D 67 (.vZ (T 65) (T 66) none 8)) (.alt (D 64 (.bs 57 1 8 [T 63])) (.alt (Jp 68 64 67 54) (.alt (Jp 69 62 68 54) (.take (J 5 69) .done) .stop) .stop) .stop) .stop)) (.alt (D 64 (.bs 57 1 8 [T 63])) (.alt (D 62 (.j6 (T 59) (some (T 60)) (some (T 61)))) (.alt (D 67 (.vZ (T 65) (T 66) none 8)) (.alt (Jp 68 64 67 54) (.alt (Jp 69 62 68 54) (.take (J 5 69) .done) .stop) .stop) .stop) (.alt (D 67 (.vZ (T 65) (T 66) none 8)) (.alt (D 62 (.j6 (T 59) (some (T 60)) (some (T 61)))) (.alt (Jp 68 64 67 54) (.alt (Jp 69 62 68 54) (.take (J 5 69) .done) .stop) .stop) (.alt (Jp 68 64 67 54) (.alt (D 62 (.j6 (T 59) (some (T 60)) (some (T 61)))) (.alt (Jp 69 62 68 54) (.take (J 5 69) .done) .stop) .stop) .stop)) .stop)) (.alt (D 67 (.vZ (T 65) (T 66) none 8)) (.alt (D 62 (.j6 (T 59) (some (T 60)) (some (T 61)))) (.alt (D 64 (.bs 57 1 8 [T 63])) (.alt (Jp 68 64 67 54) (.alt (Jp 69 62 68 54) (.take (J 5 69) .done) .stop) .stop) .stop) (.alt (D 64 (.bs 57 1 8 [T 63])) (.alt (D 62 (.j6 (T 59) (some (T 60)) (some (T 61)))) (.alt (Jp 68 64 67 54) (.alt (Jp 69 62 68 54) (.take (J 5 69) .done) .stop) .stop) (.alt (Jp 68 64 67 54) (.alt (D 62 (.j6 (T 59) (some (T 60)) (some (T 61)))) (.alt (Jp 69 62 68 54) (.take (J 5 69) .done) .stop) .stop) .stop)) .stop)) .stop))))) .skip)))))))) (.ops [Jk 70 .add 13 1,J 13 70]))))))))) (.ops [Jk 71 .add 10 1,J 10 71]))))))) (O [J 72 5,J 4 72] .ret)))) [.t 4]
theorem yc:aN prog 2 Tryz.f15=some g15:=by kernel_rfl
def g18:ap:=ap.mk (O [Jc 2 (.bool false)] (O [J 3 0,Jk 4 .geq 3 0,J 5 4,Jm 6 5 true 0,Js 7 5 true .lss 6 16,Jy 8 5 7 false,J 2 8] .ret)) [.t 2]
theorem VA:aN prog 1 Tryz.f18=some g18:=by kernel_rfl
def g19:ap:=ap.mk (O [Jo 3 45 1,Jc 4 (.bool false)] (.seq (O [J 10 0,Jz 11 10,Ji 12 0] (.block 0 (.loop (O [Jb 13 .lss 12 11] (.seq (.cond (T 13) .skip (.exit 0)) (.seq (.block 1 (O [J 14 12,Jx 15 10 12 10,Jr 16 15 10,D 6 (.new 84 [.int .i64 0,.int .i64 0,.bool false,.int .i64 0,.int .i64 0,.slice none 0 0,.slice none 0 0,.slice none 0 0,.slice none 0 0,.slice none 0 0]),J 5 14,Jv 6 16 10] (.seq (O [Jf 17 6 0,Jl 18 17,Ja 19 18 [T 18],Jt 20 19,J 21 20,Jh 22 21 false 6 0,Jd 23 21 false 22,Js 24 21 false .eql 23 8,Jw 25 21 true 24,J 26 25,Jh 27 26 false 6 1,Jd 28 26 false 27,Js 29 26 false .lss 28 0,Jw 30 26 true 29,J 31 30,Jh 32 31 false 6 1,Jd 33 31 false 32,Js 34 31 false .gtr 33 1,Jw 35 31 true 34,J 36 35,Jm 37 36 false 0,Jh 38 36 false 6 3,Jg 39 36 false (.jr (T 38) 6),Jm 40 36 false 5,Jg 41 36 false (.call 35 [T 37,T 39,T 40,C (.bool true)]),Jg 42 36 false (.not (T 41)),Jw 43 36 true 42,J 44 43,Jh 45 44 false 6 2,Jd 46 44 false 45,Jm 47 44 false 46,Jh 48 47 true 6 9,Jd 49 47 true 48,Jg 50 47 true (.len (T 49)),Js 51 47 true .gtr 50 0,Jg 52 44 false (.pick (T 47) (T 51) (C (.bool false))),Jw 53 44 true 52] (.cond (T 53) (O [Jc 4 (.bool false)] .ret) .skip)) (O [J 54 0,J 55 5,D 56 (.j6 (T 54) (some (T 55)) none),Jz 57 56,Ji 58 0] (.block 2 (.loop (O [Jb 59 .lss 58 57] (.seq (.cond (T 59) .skip (.exit 2)) (.seq (.block 3 (O [Jx 60 56 58 10,Jr 61 60 10,D 8 (.new 84 [.int .i64 0,.int .i64 0,.bool false,.int .i64 0,.int .i64 0,.slice none 0 0,.slice none 0 0,.slice none 0 0,.slice none 0 0,.slice none 0 0]),Jv 8 61 10] (O [Jf 62 6 0,Jl 63 62,Jf 64 8 0,Jl 65 64,Jb 66 .eql 63 65,J 67 66,Jh 68 67 true 6 1,Jd 69 67 true 68,Jh 70 67 true 8 1,Jd 71 67 true 70,Jq 72 67 true .eql 69 71,Jy 73 67 72 false] (.cond (T 73) (O [Jc 4 (.bool false)] .ret) .skip)))) (.ops [Jk 74 .add 58 1,J 58 74])))))))))) (.ops [Jk 75 .add 12 1,J 12 75]))))))) (.seq (O [J 76 0,Jr 77 3 6,Ja 78 35 [T 76,T 77,Ci (-1),C (.bool true)],Jt 79 78,J 80 79,Jm 81 80 false 0,Jg 82 80 false (.jr (T 3) 6),Jg 83 80 false (.call 36 [T 81,T 82]),Jg 84 80 false (.not (T 83)),Jw 85 80 true 84] (.cond (T 85) (O [Jc 4 (.bool false)] .ret) .skip)) (.seq (O [J 86 0,Jz 87 86,Ji 88 0] (.block 4 (.loop (O [Jb 89 .lss 88 87] (.seq (.cond (T 89) .skip (.exit 4)) (.seq (.block 5 (O [J 90 88,J 9 90] (O [J 91 0,J 92 0,J 93 9,Ja 94 38 [T 92,T 93],Ja 95 37 [T 91,T 94],Jt 96 95,J 97 96,Jm 98 97 false 0,Jm 99 97 false 9,Jg 100 97 false (.call 39 [T 98,T 99]),Jg 101 97 false (.not (T 100)),Jw 102 97 true 101] (.cond (T 102) (O [Jc 4 (.bool false)] .ret) .skip)))) (.ops [Jk 103 .add 88 1,J 88 103]))))))) (O [J 104 0,J 105 0,Jr 106 3 6,Ja 107 40 [T 105,T 106],Ja 108 37 [T 104,T 107],J 4 108] .ret))))) [.t 4]
theorem VB:aN prog 2 Tryz.f19=some g19:=by kernel_rfl
def g24:ap:=ap.mk (O [Jo 3 45 1,D 4 (.new 89 [.int .i64 0,.int .i64 0,.slice none 0 0,.slice none 0 0,.slice none 0 0,.slice none 0 0,.int .i64 0,.int .i64 0]),Jc 5 (.bool false),Jc 6 (.bool false),Jc 7 (.bool false)] (O [J 10 0,J 11 0,Jr 12 3 6,Ja 13 40 [T 11,T 12],Ja 14 54 [T 10,T 13],Jv 4 14 8] (O [J 15 0,Jr 16 4 8,Ja 17 55 [T 15,T 16],D 8 (.new 89 [.int .i64 0,.int .i64 0,.slice none 0 0,.slice none 0 0,.slice none 0 0,.slice none 0 0,.int .i64 0,.int .i64 0]),Jv 8 17 8] (.seq (.block 0 (O [Jf 19 8 0,Jf 20 19 0,Jl 21 20,Jk 22 .neq 21 2,J 18 22] (.cond (T 18) (O [Jr 23 4 8,Jv 4 23 8,Jc 5 (.bool false),Jc 6 (.bool false),Jc 7 (.bool true)] .ret) (O [Jf 25 4 0,Jf 26 25 0,Jl 27 26,Jk 28 .eql 27 1,J 24 28] (.cond (T 24) (.ops [Jc 6 (.bool true)]) .skip))))) (O [J 29 0,Jr 30 8 8,Ja 31 56 [T 30],Ja 32 54 [T 29,T 31],Jv 4 32 8] (O [J 33 0,Jr 34 4 8,Ja 35 55 [T 33,T 34],D 36 (.eS (T 35) 0 6 true),D 37 (.eS (T 36) 0 1 false),J 9 37] (O [Jr 38 4 8,J 39 6,J 40 9,Jk 41 .neq 40 2,J 42 41,Jm 43 42 true 9,Js 44 42 true .neq 43 5,Jy 45 42 44 false,Jv 4 38 8,Jc 5 (.bool true),J 6 39,J 7 45] .ret))))))) [.c 4 8,.t 5,.t 6,.t 7]
theorem VR:aN prog 2 Tryz.f24=some g24:=by kernel_rfl
def Y9:ap:=ap.mk (O [Jo 5 89 1,Jc 8 (.slice none 0 0)] (O [J 16 0,Jr 17 5 8,Ja 18 54 [T 16,T 17],J 19 2,D 20 (.bW [.int .i64 0,.int .i64 0,.slice none 0 0,.slice none 0 0,.slice none 0 0,.slice none 0 0,.int .i64 0,.int .i64 0,.slice none 0 0,.bool false] [(0,(8,T 18)),(8,(1,C (.slice none 0 0))),(9,(1,T 19))]),D 21 (.bs 97 1 10 [T 20]),J 9 21] (.seq (O [J 22 0,Jz 23 22,Jk 24 .add 23 2,Ji 25 0] (.block 0 (.loop (O [Jb 26 .lss 25 24] (.seq (.cond (T 26) .skip (.exit 0)) (.seq (.block 1 (O [Jc 10 (.slice none 0 0)] (O [Jc 11 (.slice none 0 0)] (.seq (O [J 27 9,Jz 28 27,Ji 29 0] (.block 2 (.loop (O [Jb 30 .lss 29 28] (.seq (.cond (T 30) .skip (.exit 2)) (.seq (.block 3 (O [Jx 31 27 29 10,Jr 32 31 10,D 13 (.new 97 [.int .i64 0,.int .i64 0,.slice none 0 0,.slice none 0 0,.slice none 0 0,.slice none 0 0,.int .i64 0,.int .i64 0,.slice none 0 0,.bool false]),Jv 13 32 10] (.seq (O [J 33 0,Jf 34 13 0,Jr 35 34 8,J 36 3,Ja 37 57 [T 33,T 35,T 36],Jz 38 37,Ji 39 0] (.block 4 (.loop (O [Jb 40 .lss 39 38] (.seq (.cond (T 40) .skip (.exit 4)) (.seq (.block 5 (O [Jx 41 37 39 5,Jr 42 41 5,D 15 (.new 95 [.slice none 0 0,.int .i64 0,.bool false,.bool false,.int .i64 0]),Jv 15 42 5] (.ops [J 43 10,Jr 44 15 5,Jr 45 13 10,D 46 (.bW [.slice none 0 0,.int .i64 0,.bool false,.bool false,.int .i64 0,.int .i64 0,.int .i64 0,.slice none 0 0,.slice none 0 0,.slice none 0 0,.slice none 0 0,.int .i64 0,.int .i64 0,.slice none 0 0,.bool false] [(0,(5,T 44)),(5,(10,T 45))]),D 47 (.bs 99 1 15 [T 46]),Jp 48 43 47 92,J 10 48]))) (.ops [Jk 49 .add 39 1,J 39 49]))))))) (.ops [J 50 11,J 51 0,Jr 52 13 10,Ja 53 58 [T 51,T 52],Jp 54 50 53 141,J 11 54])))) (.ops [Jk 55 .add 29 1,J 29 55]))))))) (.seq (O [J 56 10,Jz 57 56,Jk 58 .gtr 57 0] (.cond (T 58) (O [J 59 10,J 8 59] .ret) .skip)) (.ops [J 60 11,Ja 61 59 [T 60],J 9 61])))))) (.ops [Jk 62 .add 25 1,J 25 62]))))))) (O [Jc 8 (.slice none 0 0)] .ret)))) [.t 8]
theorem yd:aN prog 4 Tryz.f25=some Y9:=by kernel_rfl
def Zk:ap:=ap.mk (O [Jc 2 (.bool false)] (O [J 3 0,Jk 4 .geq 3 4,J 5 4,Jm 6 5 true 0,Js 7 5 true .leq 6 7,Jy 8 5 7 false,J 9 8,Jm 10 9 false 0,Js 11 9 false .eql 10 10,Jw 12 9 true 11,J 13 12,Jm 14 13 false 0,Js 15 13 false .geq 14 13,Jw 16 13 true 15,J 2 16] .ret)) [.t 2]
theorem V7:aN prog 1 Tryz.f30=some Zk:=by kernel_rfl
def Zl:ap:=ap.mk (O [Jc 2 (.string ⟨#[]⟩)] (O [Ja 3 79 [],J 4 0,Jx 5 3 4 1,Jl 6 5,J 2 6] .ret)) [.t 2]
theorem V8:aN prog 1 Tryz.f31=some Zl:=by kernel_rfl
def Zn:ap:=ap.mk (O [Ji 4 0] (O [Ji 5 0] (.seq (O [J 8 0,J 9 1,D 10 (.j6 (T 8) (some (T 9)) none),Jz 11 10,Ji 12 0] (.block 0 (.loop (O [Jb 13 .lss 12 11] (.seq (.cond (T 13) .skip (.exit 0)) (.seq (.block 1 (O [Jx 14 10 12 10,Jr 15 14 10,D 7 (.new 84 [.int .i64 0,.int .i64 0,.bool false,.int .i64 0,.int .i64 0,.slice none 0 0,.slice none 0 0,.slice none 0 0,.slice none 0 0,.slice none 0 0]),Jv 7 15 10] (.draw (Q6 (J 16 5) (Jf 17 7 9) (Jl 18 17) (Jz 19 18) (Jf 20 7 3) (Jr 21 20 6) (.alt (Ja 22 81 [T 21]) (Q3 (Jb 23 .add 19 22) (Jb 24 .add 16 23) (J 5 24) .done) .stop))))) (.ops [Jk 25 .add 12 1,J 12 25]))))))) (O [J 26 5,J 4 26] .ret)))) [.t 4]
theorem V9:aN prog 2 Tryz.f33=some Zn:=by kernel_rfl
def Zp:ap:=ap.mk (O [Jo 5 45 1,Jc 8 (.bool false)] (O [D 17 (.zq 82 [T 5]),J 9 17] (.seq (O [Jf 18 5 0,Jl 19 18] (.block 0 (O [Jk 21 .eql 19 0,J 20 21] (.cond (T 20) (O [J 22 9,D 23 (.gP (T 22) [C (.bool false),C (.bool false),C (.bool false),C (.bool true)]),J 24 23,Jh 25 24 true 5 1,Jd 26 24 true 25,Js 27 24 true .geq 26 0,Jy 28 24 27 false,J 29 28,Jh 30 29 true 5 1,Jd 31 29 true 30,Js 32 29 true .leq 31 2,Jy 33 29 32 false,J 8 33] .ret) (O [Jk 35 .eql 19 1,J 34 35] (.cond (T 34) (O [J 36 9,D 37 (.gP (T 36) [C (.bool false),C (.bool false),C (.bool false),C (.bool true)]),J 38 37,Jh 39 38 true 5 1,Jd 40 38 true 39,Js 41 38 true .geq 40 0,Jy 42 38 41 false,J 43 42,Jh 44 43 true 5 1,Jd 45 43 true 44,Jm 46 43 true 0,Jg 47 43 true (.len (T 46)),Jq 48 43 true .lss 45 47,Jy 49 43 48 false,J 50 49,Jh 51 50 true 5 1,Jd 52 50 true 51,Jm 53 50 true 2,Jq 54 50 true .gtr 52 53,Jm 55 50 true 54,Jm 56 55 false 3,Jg 57 55 false (.not (T 56)),Jm 58 55 false 57,Jm 59 58 true 2,Js 60 58 true .lss 59 0,Jm 61 58 true 60,Jm 62 61 false 0,Jm 63 61 false 2,Jg 64 61 false (.ix (T 62) (T 63) 10),Jh 65 61 false 64 2,Jd 66 61 false 65,Jg 67 61 false (.not (T 66)),Jg 68 58 true (.pick (T 61) (C (.bool true)) (T 67)),Jm 69 58 true 68,Jm 70 69 false 0,Jh 71 69 false 5 1,Jd 72 69 false 71,Jg 73 69 false (.ix (T 70) (T 72) 10),Jh 74 69 false 73 2,Jd 75 69 false 74,Jg 76 69 false (.not (T 75)),Jg 77 58 true (.pick (T 69) (C (.bool true)) (T 76)),Jg 78 55 false (.pick (T 58) (T 77) (C (.bool false))),Jg 79 50 true (.pick (T 55) (C (.bool true)) (T 78)),Jy 80 50 79 false,J 8 80] .ret) (.seq (O [Jk 82 .eql 19 2,J 81 82] (.cond (T 81) .skip (.ops [Jk 83 .eql 19 3,J 81 83]))) (.cond (T 81) (O [J 84 9,D 85 (.gP (T 84) [C (.bool true),C (.bool false),C (.bool false),C (.bool false)]),J 86 85,Jh 87 86 true 5 2,Jd 88 86 true 87,Jg 89 86 true (.len (T 88)),Js 90 86 true .eql 89 1,Jy 91 86 90 false,J 92 91,Jm 93 92 true 0,Jh 94 92 true 5 2,Jd 95 92 true 94,Jg 96 92 true (.ix (T 95) (Ci 0) 6),Jg 97 92 true (.jr (T 96) 6),Jm 98 92 true 2,Jg 99 92 true (.call 35 [T 93,T 97,T 98,C (.bool false)]),Jy 100 92 99 false,J 8 100] .ret) (O [Jk 102 .eql 19 4,J 101 102] (.cond (T 101) (.seq (O [Jf 103 5 3,Jl 104 103,Jz 105 104,Ji 106 0] (.block 1 (.loop (O [Jb 107 .lss 106 105] (.seq (.cond (T 107) .skip (.exit 1)) (.seq (.block 2 (O [Jx 108 104 106 8,Jr 109 108 8,D 11 (.new 103 [.int .i64 0,.bool false,.int .i64 0,.int .i64 0,.slice none 0 0,.slice none 0 0,.slice none 0 0,.slice none 0 0]),Jv 11 109 8] (O [Jf 110 11 2,Jf 111 110 0,Jl 112 111,Jk 113 .eql 112 1,J 114 113,Jh 115 114 false 11 2,Jh 116 114 false 115 0,Jd 117 114 false 116,Js 118 114 false .eql 117 2,Jm 119 114 false 118,Jh 120 119 true 11 2,Jh 121 119 true 120 2,Jd 122 119 true 121,Jg 123 119 true (.len (T 122)),Js 124 119 true .eql 123 1,Jg 125 114 false (.pick (T 119) (T 124) (C (.bool false))),Jm 126 114 false 125,Jh 127 126 true 11 2,Jh 128 126 true 127 2,Jd 129 126 true 128,Jg 130 126 true (.ix (T 129) (Ci 0) 6),Jh 131 126 true 130 0,Jd 132 126 true 131,Js 133 126 true .eql 132 1,Jg 134 114 false (.pick (T 126) (T 133) (C (.bool false))),Jw 135 114 true 134,J 12 135] (O [Jf 136 11 0,Jl 137 136,Ja 138 18 [T 137],Jt 139 138,J 140 139,Jh 141 140 false 11 1,Jd 142 140 false 141,Jm 143 140 false 142,Jh 144 143 true 11 0,Jd 145 143 true 144,Js 146 143 true .neq 145 0,Jm 147 143 true 146,Jm 148 147 false 12,Jg 149 147 false (.not (T 148)),Jg 150 143 true (.pick (T 147) (C (.bool true)) (T 149)),Jg 151 140 false (.pick (T 143) (T 150) (C (.bool false))),Jw 152 140 true 151,J 153 152,Jm 154 153 false 0,Jh 155 153 false 11 2,Jg 156 153 false (.jr (T 155) 6),Jm 157 153 false 2,Jm 158 153 false 3,Jg 159 153 false (.call 35 [T 154,T 156,T 157,T 158]),Jg 160 153 false (.not (T 159)),Jw 161 153 true 160] (.cond (T 161) (O [Jc 8 (.bool false)] .ret) .skip))))) (.ops [Jk 162 .add 106 1,J 106 162]))))))) (O [J 163 9,D 164 (.gP (T 163) [C (.bool false),C (.bool true),C (.bool false),C (.bool false)]),J 8 164] .ret)) (O [Jk 166 .eql 19 5,J 165 166] (.cond (T 165) (.seq (O [Jf 167 5 4,Jl 168 167,Jz 169 168,Ji 170 0] (.block 3 (.loop (O [Jb 171 .lss 170 169] (.seq (.cond (T 171) .skip (.exit 3)) (.seq (.block 4 (O [Jx 172 168 170 2,Jr 173 172 2,D 14 (.new 87 [.int .i64 0,.bool false]),Jv 14 173 2] (O [Jf 174 14 0,Jl 175 174,Ja 176 18 [T 175],Jt 177 176,J 178 177,Jh 179 178 false 14 0,Jd 180 178 false 179,Js 181 178 false .eql 180 8,Jw 182 178 true 181,J 183 182,Jh 184 183 false 14 1,Jd 185 183 false 184,Jw 186 183 true 185] (.cond (T 186) (O [Jc 8 (.bool false)] .ret) .skip)))) (.ops [Jk 187 .add 170 1,J 170 187]))))))) (.seq (O [Jf 188 5 5,Jl 189 188,Jz 190 189,Ji 191 0] (.block 5 (.loop (O [Jb 192 .lss 191 190] (.seq (.cond (T 192) .skip (.exit 5)) (.seq (.block 6 (O [Jx 193 189 191 6,Jr 194 193 6,D 16 (.new 45 [.int .i64 0,.int .i64 0,.slice none 0 0,.slice none 0 0,.slice none 0 0,.slice none 0 0]),Jv 16 194 6] (O [Jf 195 16 0,Jl 196 195,Jk 197 .neq 196 1,J 198 197,Jh 199 198 true 16 0,Jd 200 198 true 199,Js 201 198 true .neq 200 5,Jy 202 198 201 false,J 203 202,Jm 204 203 false 0,Jg 205 203 false (.jr (T 16) 6),Jm 206 203 false 2,Jg 207 203 false (.call 35 [T 204,T 205,T 206,C (.bool true)]),Jg 208 203 false (.not (T 207)),Jw 209 203 true 208] (.cond (T 209) (O [Jc 8 (.bool false)] .ret) .skip)))) (.ops [Jk 210 .add 191 1,J 191 210]))))))) (O [J 211 9,D 212 (.gP (T 211) [C (.bool false),C (.bool false),C (.bool true),C (.bool false)]),J 8 212] .ret))) .skip)))))))))))) (O [Jc 8 (.bool false)] .ret)))) [.t 8]
theorem Wa:aN prog 4 Tryz.f35=some Zp:=by kernel_rfl
def Zq:ap:=ap.mk (O [Jo 3 45 1,Jc 4 (.bool false)] (O [J 9 0,Jz 10 9,D 11 (.xw (T 10) (.int .i64 0) 8 3),J 5 11] (.seq (O [J 12 0,Jz 13 12,Ji 14 0] (.block 0 (.loop (O [Jb 15 .lss 14 13] (.seq (.cond (T 15) .skip (.exit 0)) (.seq (.block 1 (O [J 16 14,J 6 16] (.ops [J 17 5,J 18 6,Jx 19 17 18 1,U (.st (T 19) (Ci 1))]))) (.ops [Jk 20 .add 14 1,J 14 20]))))))) (.seq (O [J 21 0,Jz 22 21,Jk 23 .sub 22 1,J 7 23] (.block 2 (.loop (.seq (O [J 24 7,Jk 25 .geq 24 0] (.cond (T 25) .skip (.exit 2))) (.seq (.block 3 (O [J 28 0,J 29 7,Jx 30 28 29 10,Jf 31 30 2,Jl 32 31] (.cond (T 32) (.ops [J 33 5,J 34 7,J 35 0,J 36 7,Jx 37 35 36 10,Jf 38 37 3,Jr 39 38 6,J 40 5,Ja 41 83 [T 39,T 40],Jx 42 33 34 1,Ju 42 41]) .skip))) (.ops [J 26 7,Jk 27 .sub 26 1,J 7 27])))))) (.seq (O [J 43 0,Jz 44 43,Ji 45 0] (.block 4 (.loop (O [Jb 46 .lss 45 44] (.seq (.cond (T 46) .skip (.exit 4)) (.seq (.block 5 (O [J 47 45,J 8 47] (O [J 48 0,J 49 8,Jx 50 48 49 10,Jf 51 50 3,Jr 52 51 6,J 53 5,Ja 54 83 [T 52,T 53],Jk 55 .gtr 54 2000] (.cond (T 55) (O [Jc 4 (.bool false)] .ret) .skip)))) (.ops [Jk 56 .add 45 1,J 45 56]))))))) (O [Jr 57 3 6,J 58 5,Ja 59 83 [T 57,T 58],Jk 60 .leq 59 2000,J 4 60] .ret)))))) [.t 4]
theorem Wb:aN prog 2 Tryz.f36=some Zq:=by kernel_rfl
def Zr:ap:=ap.mk (O [Jo 3 89 1,Jc 4 (.bool false)] (.seq (O [Jf 18 3 0,Jf 19 18 4,Jl 20 19,Jz 21 20,Ji 22 0] (.block 0 (.loop (O [Jb 23 .lss 22 21] (.seq (.cond (T 23) .skip (.exit 0)) (.seq (.block 1 (O [J 24 22,Jx 25 20 22 2,Jr 26 25 2,D 6 (.new 87 [.int .i64 0,.bool false]),J 5 24,Jv 6 26 2] (O [Jf 27 3 0,Jf 28 27 4,Jl 29 28,J 30 5,D 31 (.j6 (T 29) (some (T 30)) none),Jz 32 31,Ji 33 0] (.block 2 (.loop (O [Jb 34 .lss 33 32] (.seq (.cond (T 34) .skip (.exit 2)) (.seq (.block 3 (O [Jx 35 31 33 2,Jr 36 35 2,D 8 (.new 87 [.int .i64 0,.bool false]),Jv 8 36 2] (O [Jf 37 6 0,Jl 38 37,Jf 39 8 0,Jl 40 39,Jb 41 .eql 38 40] (.cond (T 41) (O [Jc 4 (.bool false)] .ret) .skip)))) (.ops [Jk 42 .add 33 1,J 33 42]))))))))) (.ops [Jk 43 .add 22 1,J 22 43]))))))) (.seq (O [Jf 44 3 0,Jf 45 44 5,Jl 46 45,Jz 47 46,Ji 48 0] (.block 4 (.loop (O [Jb 49 .lss 48 47] (.seq (.cond (T 49) .skip (.exit 4)) (.seq (.block 5 (O [J 50 48,J 9 50] (O [Jr 51 3 8,J 52 9,Ja 53 84 [T 51,T 52],D 10 (.new 89 [.int .i64 0,.int .i64 0,.slice none 0 0,.slice none 0 0,.slice none 0 0,.slice none 0 0,.int .i64 0,.int .i64 0]),Jv 10 53 8] (O [J 54 0,Jr 55 10 8,Ja 56 55 [T 54,T 55],D 57 (.eS (T 56) 0 6 true),D 58 (.eS (T 57) 0 1 false),Jk 59 .neq 58 5,J 60 59,Jm 61 60 false 0,Jg 62 60 false (.jr (T 10) 8),Jg 63 60 false (.call 37 [T 61,T 62]),Jg 64 60 false (.not (T 63)),Jw 65 60 true 64] (.cond (T 65) (O [Jc 4 (.bool false)] .ret) .skip))))) (.ops [Jk 66 .add 48 1,J 48 66]))))))) (.seq (O [Jf 67 3 0,Jf 68 67 3,Jl 69 68,Jz 70 69,Ji 71 0] (.block 6 (.loop (O [Jb 72 .lss 71 70] (.seq (.cond (T 72) .skip (.exit 6)) (.seq (.block 7 (O [J 73 71,Jx 74 69 71 8,Jr 75 74 8,D 12 (.new 103 [.int .i64 0,.bool false,.int .i64 0,.int .i64 0,.slice none 0 0,.slice none 0 0,.slice none 0 0,.slice none 0 0]),J 11 73,Jv 12 75 8] (O [Jr 77 3 8,J 78 11,Ja 79 85 [T 77,T 78],J 76 79,Je 80 76 0,Je 81 76 1,D 13 (.new 89 [.int .i64 0,.int .i64 0,.slice none 0 0,.slice none 0 0,.slice none 0 0,.slice none 0 0,.int .i64 0,.int .i64 0]),Jv 13 80 8,J 14 81] (O [J 82 0,Jr 83 12 8,Ja 84 86 [T 82,T 83],J 15 84] (.seq (O [Jf 85 3 0,Jf 86 85 3,Jl 87 86,J 88 11,D 89 (.j6 (T 87) (some (T 88)) none),Jz 90 89,Ji 91 0] (.block 8 (.loop (O [Jb 92 .lss 91 90] (.seq (.cond (T 92) .skip (.exit 8)) (.seq (.block 9 (O [Jx 93 89 91 8,Jr 94 93 8,D 17 (.new 103 [.int .i64 0,.bool false,.int .i64 0,.int .i64 0,.slice none 0 0,.slice none 0 0,.slice none 0 0,.slice none 0 0]),Jv 17 94 8] (O [J 95 15,Jk 96 .neq 95 8,J 97 96,Jm 98 97 true 15,Jm 99 97 true 0,Jg 100 97 true (.jr (T 17) 8),Jg 101 97 true (.call 86 [T 99,T 100]),Jq 102 97 true .eql 98 101,Jy 103 97 102 false] (.cond (T 103) (O [Jc 4 (.bool false)] .ret) .skip)))) (.ops [Jk 104 .add 91 1,J 91 104]))))))) (O [J 105 0,Jr 106 13 8,Ja 107 37 [T 105,T 106],Jt 108 107,J 109 108,Jh 110 109 false 12 1,Jd 111 109 false 110,Jm 112 109 false 111,Jm 113 112 true 0,Jh 114 112 true 3 7,Jd 115 112 true 114,Jg 116 112 true (.jr (T 13) 8),Jg 117 112 true (.call 87 [T 113,T 115,T 116]),Jg 118 112 true (.not (T 117)),Jg 119 109 false (.pick (T 112) (T 118) (C (.bool false))),Jw 120 109 true 119] (.cond (T 120) (O [Jc 4 (.bool false)] .ret) .skip))))))) (.ops [Jk 121 .add 71 1,J 71 121]))))))) (O [Jf 122 3 0,Jf 123 122 2,Jl 124 123,Jz 125 124,Jk 126 .eql 125 0,J 127 126,Jm 128 127 false 0,Jg 129 127 false (.jr (T 3) 8),Jg 130 127 false (.call 56 [T 129]),Jg 131 127 false (.call 37 [T 128,T 130]),Jw 132 127 true 131,J 4 132] .ret))))) [.t 4]
theorem Wc:aN prog 2 Tryz.f37=some Zr:=by kernel_rfl
def Zs:ap:=ap.mk (O [D 4 (.new 89 [.int .i64 0,.int .i64 0,.slice none 0 0,.slice none 0 0,.slice none 0 0,.slice none 0 0,.int .i64 0,.int .i64 0])] (.seq (.draw (Q2 (J 5 0) (J 6 1) (Q8 (Jx 7 5 6 10) (Jf 8 7 3) (Jr 9 8 6) (J 10 0) (J 11 1) (J 13 0) (J 14 1) (Jx 15 13 14 10) (Q8 (Jf 16 15 9) (Jl 17 16) (Jz 18 17) (J 20 0) (J 21 1) (Jx 22 20 21 10) (Jf 23 22 1) (Jl 24 23) (.alt (Ja 12 33 [T 10,T 11]) (Q2 (Jb 19 .add 12 18) (D 25 (.bW [.int .i64 0,.int .i64 0,.slice none 0 0,.slice none 0 0,.slice none 0 0,.slice none 0 0,.int .i64 0,.int .i64 0] [(0,(6,T 9)),(6,(1,T 19)),(7,(1,T 24))])) (.alt (Jv 4 25 8) .done .stop)) .stop))))) .ret)) [.c 4 8]
theorem We:aN prog 2 Tryz.f38=some Zs:=by kernel_rfl
def Zt:ap:=ap.mk (O [Jc 4 (.bool false)] (O [J 12 0,J 13 0,J 14 1,Ja 15 38 [T 13,T 14],Ja 16 55 [T 12,T 15],D 5 (.new 89 [.int .i64 0,.int .i64 0,.slice none 0 0,.slice none 0 0,.slice none 0 0,.slice none 0 0,.int .i64 0,.int .i64 0]),Jv 5 16 8] (.seq (O [Jf 17 5 0,Jf 18 17 0,Jl 19 18,Jk 20 .eql 19 2,J 21 20,Jm 22 21 true 0,Jg 23 21 true (.jr (T 5) 8),Jg 24 21 true (.call 56 [T 23]),Jg 25 21 true (.call 55 [T 22,T 24]),Jg 26 21 true (.eS (T 25) 0 6 true),Jg 27 21 true (.eS (T 26) 0 1 false),Js 28 21 true .eql 27 2,Jy 29 21 28 false] (.cond (T 29) (O [Jc 4 (.bool false)] .ret) .skip)) (.seq (O [J 30 0,J 31 1,Jx 32 30 31 10,Jf 33 32 9,Jl 34 33,Jz 35 34,Jk 36 .gtr 35 0,J 37 36,Jh 38 37 true 5 0,Jh 39 37 true 38 0,Jd 40 37 true 39,Js 41 37 true .eql 40 2,Jm 42 37 true 41,Jh 43 42 false 5 0,Jh 44 42 false 43 0,Jd 45 42 false 44,Js 46 42 false .eql 45 5,Jg 47 37 true (.pick (T 42) (C (.bool true)) (T 46)),Jy 48 37 47 false] (.cond (T 48) (O [Jc 4 (.bool false)] .ret) .skip)) (.seq (O [J 49 0,J 50 1,Jx 51 49 50 10,Jf 52 51 9,Jl 53 52,Jz 54 53,Ji 55 0] (.block 0 (.loop (O [Jb 56 .lss 55 54] (.seq (.cond (T 56) .skip (.exit 0)) (.seq (.block 1 (O [J 57 55,Jx 58 53 55 2,Jr 59 58 2,D 7 (.new 87 [.int .i64 0,.bool false]),J 6 57,Jv 7 59 2] (.seq (O [Jf 60 7 0,Jl 61 60,Ja 62 18 [T 61],Jt 63 62,J 64 63,Jh 65 64 false 7 0,Jd 66 64 false 65,Js 67 64 false .eql 66 8,Jw 68 64 true 67] (.cond (T 68) (O [Jc 4 (.bool false)] .ret) .skip)) (.seq (O [J 69 0,J 70 1,Jx 71 69 70 10,Jf 72 71 9,Jl 73 72,J 74 6,D 75 (.j6 (T 73) (some (T 74)) none),Jz 76 75,Ji 77 0] (.block 2 (.loop (O [Jb 78 .lss 77 76] (.seq (.cond (T 78) .skip (.exit 2)) (.seq (.block 3 (O [Jx 79 75 77 2,Jr 80 79 2,D 9 (.new 87 [.int .i64 0,.bool false]),Jv 9 80 2] (O [Jf 81 7 0,Jl 82 81,Jf 83 9 0,Jl 84 83,Jb 85 .eql 82 84] (.cond (T 85) (O [Jc 4 (.bool false)] .ret) .skip)))) (.ops [Jk 86 .add 77 1,J 77 86]))))))) (O [Jf 87 5 0,Jf 88 87 3,Jl 89 88,Jz 90 89,Ji 91 0] (.block 4 (.loop (O [Jb 92 .lss 91 90] (.seq (.cond (T 92) .skip (.exit 4)) (.seq (.block 5 (O [Jx 93 89 91 8,Jr 94 93 8,D 11 (.new 103 [.int .i64 0,.bool false,.int .i64 0,.int .i64 0,.slice none 0 0,.slice none 0 0,.slice none 0 0,.slice none 0 0]),Jv 11 94 8] (.seq (.draw (Q3 (Jf 95 5 7) (Jl 96 95) (J 97 0) (Q8 (Jr 98 11 8) (J 101 0) (J 102 1) (Jx 103 101 102 10) (Jf 104 103 1) (Jl 105 104) (Jf 106 7 0) (Jl 107 106) (.alt (Ja 99 86 [T 97,T 98]) (.alt (Ja 100 12 [T 96,T 99]) (.alt (Ja 108 12 [T 105,T 107]) (.take (D 109 (.fC .eql (T 100) (T 108))) .done) .stop) .stop) .stop)))) (.cond (T 109) (O [Jc 4 (.bool false)] .ret) .skip)))) (.ops [Jk 110 .add 91 1,J 91 110]))))))))))) (.ops [Jk 111 .add 55 1,J 55 111]))))))) (O [Jc 4 (.bool true)] .ret)))))) [.t 4]
theorem Wf:aN prog 2 Tryz.f39=some Zt:=by kernel_rfl
def Zu:ap:=ap.mk (O [Jo 3 45 1,D 4 (.new 89 [.int .i64 0,.int .i64 0,.slice none 0 0,.slice none 0 0,.slice none 0 0,.slice none 0 0,.int .i64 0,.int .i64 0])] (.seq (.draw (Q4 (Jr 5 3 6) (J 6 0) (J 7 0) (Jz 8 7) (.alt (Ja 9 33 [T 6,T 8]) (.take (D 10 (.bW [.int .i64 0,.int .i64 0,.slice none 0 0,.slice none 0 0,.slice none 0 0,.slice none 0 0,.int .i64 0,.int .i64 0] [(0,(6,T 5)),(6,(1,T 9)),(7,(1,Ci 0))])) (.alt (Jv 4 10 8) .done .stop)) .stop))) .ret)) [.c 4 8]
theorem Wg:aN prog 2 Tryz.f40=some Zu:=by kernel_rfl
def ZH:ap:=ap.mk (O [Jo 3 89 1,D 4 (.new 89 [.int .i64 0,.int .i64 0,.slice none 0 0,.slice none 0 0,.slice none 0 0,.slice none 0 0,.int .i64 0,.int .i64 0])] (.seq (O [J 5 0,Jz 6 5,Jk 7 .add 6 1,Ji 8 0] (.block 0 (.loop (O [Jb 9 .lss 8 7] (.seq (.cond (T 9) .skip (.exit 0)) (.seq (.block 1 (.seq (O [Jf 10 3 0,Jf 11 10 0,Jl 12 11,Jk 13 .neq 12 1,J 14 13,Jm 15 14 false 0,Jh 16 14 false 3 0,Jh 17 14 false 16 1,Jd 18 14 false 17,Jg 19 14 false (.ix (T 15) (T 18) 10),Jh 20 14 false 19 2,Jd 21 14 false 20,Jg 22 14 false (.not (T 21)),Jw 23 14 true 22] (.cond (T 23) (.exit 0) .skip)) (.ops [J 24 0,Jf 25 3 0,Jf 26 25 1,Jl 27 26,Ja 28 38 [T 24,T 27],Jv 3 28 8]))) (.ops [Jk 29 .add 8 1,J 8 29]))))))) (O [Jr 30 3 8,Jv 4 30 8] .ret))) [.c 4 8]
theorem Wr:aN prog 2 Tryz.f54=some ZH:=by kernel_rfl
def ZI:ap:=ap.mk (O [Jo 3 89 1,D 4 (.new 89 [.int .i64 0,.int .i64 0,.slice none 0 0,.slice none 0 0,.slice none 0 0,.slice none 0 0,.int .i64 0,.int .i64 0])] (.seq (O [J 5 0,Jz 6 5,Jk 7 .add 6 1,Ji 8 0] (.block 0 (.loop (O [Jb 9 .lss 8 7] (.seq (.cond (T 9) .skip (.exit 0)) (.seq (.block 1 (.seq (O [Jf 10 3 0,Jf 11 10 0,Jl 12 11,Jk 13 .neq 12 1] (.cond (T 13) (.exit 0) .skip)) (.ops [J 14 0,Jf 15 3 0,Jf 16 15 1,Jl 17 16,Ja 18 38 [T 14,T 17],Jv 3 18 8]))) (.ops [Jk 19 .add 8 1,J 8 19]))))))) (O [Jr 20 3 8,Jv 4 20 8] .ret))) [.c 4 8]
theorem Ws:aN prog 2 Tryz.f55=some ZI:=by kernel_rfl
def ZJ:ap:=ap.mk (O [Jo 1 89 0,D 2 (.new 89 [.int .i64 0,.int .i64 0,.slice none 0 0,.slice none 0 0,.slice none 0 0,.slice none 0 0,.int .i64 0,.int .i64 0])] (.seq (.draw (Q2 (Jf 3 1 0) (Jf 4 3 2) (Q8 (Jl 5 4) (D 6 (.ix (T 5) (Ci 0) 6)) (Jr 7 6 6) (Jf 8 1 6) (Jl 9 8) (Jf 10 1 7) (Jl 11 10) (D 12 (.bW [.int .i64 0,.int .i64 0,.slice none 0 0,.slice none 0 0,.slice none 0 0,.slice none 0 0,.int .i64 0,.int .i64 0] [(0,(6,T 7)),(6,(1,T 9)),(7,(1,T 11))])) (.alt (Jv 2 12 8) .done .stop)))) .ret)) [.c 2 8]
theorem Wt:aN prog 1 Tryz.f56=some ZJ:=by kernel_rfl
def ZK:ap:=ap.mk (O [Jo 4 89 1,Jc 6 (.slice none 0 0)] (O [Jc 7 (.slice none 0 0)] (.seq (O [Jf 20 4 0,Jf 21 20 0,Jl 22 21,Jk 23 .eql 22 1] (.cond (T 23) (O [Jf 24 4 0,Jf 25 24 1,Jl 26 25,J 8 26] (O [J 27 0,J 28 8,Jx 29 27 28 10,Jf 30 29 9,Jl 31 30,Jz 32 31,Ji 33 0] (.block 0 (.loop (O [Jb 34 .lss 33 32] (.seq (.cond (T 34) .skip (.exit 0)) (.seq (.block 1 (O [J 35 33,Jx 36 31 33 2,Jr 37 36 2,D 10 (.new 87 [.int .i64 0,.bool false]),J 9 35,Jv 10 37 2] (.seq (.draw (Q8 (J 38 0) (J 39 8) (Jx 40 38 39 10) (Jf 41 40 1) (Jl 42 41) (Jf 43 10 0) (Jl 44 43) (J 46 2) (.alt (Ja 45 12 [T 42,T 44]) (.take (D 47 (.fC .eql (T 45) (T 46))) .done) .stop))) (.cond (T 47) (.draw (Q6 (J 48 7) (J 49 0) (J 50 8) (J 52 9) (Jf 55 10 1) (Jl 56 55) (.alt (Ja 51 33 [T 49,T 50]) (.take (Jb 53 .add 51 52) (.alt (D 54 (.bs 3 1 1 [T 53])) (.take (D 57 (.bW [.slice none 0 0,.int .i64 0,.bool false,.bool false,.int .i64 0] [(0,(1,T 54)),(1,(1,Ci (-1))),(2,(1,C (.bool true))),(3,(1,T 56)),(4,(1,Ci 0))])) (.alt (D 58 (.bs 95 1 5 [T 57])) (.alt (Jp 59 48 58 142) (.take (J 7 59) .done) .stop) .stop)) .stop)) .stop))) .skip)))) (.ops [Jk 60 .add 33 1,J 33 60])))))))) .skip)) (O [J 61 0,Jr 62 4 8,Ja 63 55 [T 61,T 62],D 11 (.new 89 [.int .i64 0,.int .i64 0,.slice none 0 0,.slice none 0 0,.slice none 0 0,.slice none 0 0,.int .i64 0,.int .i64 0]),Jv 11 63 8] (.seq (O [Jf 64 11 0,Jf 65 64 3,Jl 66 65,Jz 67 66,Ji 68 0] (.block 2 (.loop (O [Jb 69 .lss 68 67] (.seq (.cond (T 69) .skip (.exit 2)) (.seq (.block 3 (O [J 70 68,Jx 71 66 68 8,Jr 72 71 8,D 13 (.new 103 [.int .i64 0,.bool false,.int .i64 0,.int .i64 0,.slice none 0 0,.slice none 0 0,.slice none 0 0,.slice none 0 0]),J 12 70,Jv 13 72 8] (O [J 73 0,Jr 74 13 8,Ja 75 86 [T 73,T 74],J 14 75] (O [J 76 14,Jk 77 .neq 76 8,J 78 77,Jh 79 78 true 11 7,Jd 80 78 true 79,Jm 81 78 true 14,Jg 82 78 true (.call 12 [T 80,T 81]),Jm 83 78 true 2,Jg 84 78 true (.fC .eql (T 82) (T 83)),Jy 85 78 84 false] (.cond (T 85) (O [Jr 87 11 8,J 88 12,Ja 89 85 [T 87,T 88],J 86 89,Je 90 86 0,Je 91 86 1,D 15 (.new 89 [.int .i64 0,.int .i64 0,.slice none 0 0,.slice none 0 0,.slice none 0 0,.slice none 0 0,.int .i64 0,.int .i64 0]),Jv 15 90 8,J 16 91] (.ops [J 92 7,J 93 16,D 94 (.bs 3 1 1 [T 93]),J 95 12,D 96 (.bW [.slice none 0 0,.int .i64 0,.bool false,.bool false,.int .i64 0] [(0,(1,T 94)),(1,(1,T 95)),(2,(1,C (.bool false))),(3,(1,C (.bool false))),(4,(1,Ci 0))]),D 97 (.bs 95 1 5 [T 96]),Jp 98 92 97 142,J 7 98])) .skip))))) (.ops [Jk 99 .add 68 1,J 68 99]))))))) (.seq (O [Jf 100 11 0,Jf 101 100 0,Jl 102 101,Jk 103 .eql 102 5] (.cond (T 103) (O [J 104 0,Jr 105 11 8,Ja 106 110 [T 104,T 105],J 17 106] (O [J 107 17,Jz 108 107,Ji 109 0] (.block 4 (.loop (O [Jb 110 .lss 109 108] (.seq (.cond (T 110) .skip (.exit 4)) (.seq (.block 5 (O [Jx 111 107 109 2,Jr 112 111 2,D 19 (.new 252 [.string ⟨#[]⟩,.slice none 0 0]),Jv 19 112 2] (O [Jf 113 19 0,Jl 114 113,J 115 2,D 116 (.fC .eql (T 114) (T 115))] (.cond (T 116) (.ops [J 117 7,Jf 118 19 1,Jl 119 118,J 120 17,Jz 121 120,D 122 (.bW [.slice none 0 0,.int .i64 0,.bool false,.bool false,.int .i64 0] [(0,(1,T 119)),(1,(1,Ci (-1))),(2,(1,C (.bool true))),(3,(1,C (.bool false))),(4,(1,T 121))]),D 123 (.bs 95 1 5 [T 122]),Jp 124 117 123 142,J 7 124]) .skip)))) (.ops [Jk 125 .add 109 1,J 109 125])))))))) .skip)) (O [J 126 7,J 6 126] .ret))))))) [.t 6]
theorem Wu:aN prog 3 Tryz.f57=some ZK:=by kernel_rfl
def ZL:ap:=ap.mk (O [Jo 3 97 1,Jc 4 (.slice none 0 0)] (O [Jc 5 (.slice none 0 0)] (O [J 12 0,Jf 13 3 0,Jr 14 13 8,Ja 15 55 [T 12,T 14],D 6 (.new 89 [.int .i64 0,.int .i64 0,.slice none 0 0,.slice none 0 0,.slice none 0 0,.slice none 0 0,.int .i64 0,.int .i64 0]),Jv 6 15 8] (.seq (O [Jf 16 6 0,Jf 17 16 3,Jl 18 17,Jz 19 18,Ji 20 0] (.block 0 (.loop (O [Jb 21 .lss 20 19] (.seq (.cond (T 21) .skip (.exit 0)) (.seq (.block 1 (O [J 22 20,Jx 23 18 20 8,Jr 24 23 8,D 8 (.new 103 [.int .i64 0,.bool false,.int .i64 0,.int .i64 0,.slice none 0 0,.slice none 0 0,.slice none 0 0,.slice none 0 0]),J 7 22,Jv 8 24 8] (.seq (O [Jf 25 8 1,Jl 26 25,Jt 27 26] (.cond (T 27) (.exit 1) .skip)) (O [Jr 29 6 8,J 30 7,Ja 31 85 [T 29,T 30],J 28 31,Je 32 28 0,Je 33 28 1,D 9 (.new 89 [.int .i64 0,.int .i64 0,.slice none 0 0,.slice none 0 0,.slice none 0 0,.slice none 0 0,.int .i64 0,.int .i64 0]),Jv 9 32 8,J 10 33] (O [Jf 34 9 0,Jf 35 34 0,Jl 36 35,Jk 37 .eql 36 2,J 11 37] (.seq (O [J 38 11] (.cond (T 38) (.ops [Jr 39 9 8,Ja 40 56 [T 39],Jv 9 40 8]) .skip)) (.draw (Q8 (J 41 5) (J 42 0) (Jr 43 9 8) (Jf 45 3 8) (Jl 46 45) (J 48 7) (Jf 51 3 9) (Jl 52 51) (.alt (Ja 44 54 [T 42,T 43]) (.alt (D 47 (.app (C (.slice none 0 0)) (T 46) 31 31 31)) (.alt (D 49 (.bs 3 1 1 [T 48])) (.alt (Jp 50 47 49 31) (Q4 (J 53 52) (Jm 54 53 false 11) (Jw 55 53 true 54) (D 56 (.bW [.int .i64 0,.int .i64 0,.slice none 0 0,.slice none 0 0,.slice none 0 0,.slice none 0 0,.int .i64 0,.int .i64 0,.slice none 0 0,.bool false] [(0,(8,T 44)),(8,(1,T 50)),(9,(1,T 55))])) (.alt (D 57 (.bs 97 1 10 [T 56])) (.alt (Jp 58 41 57 141) (.take (J 5 58) .done) .stop) .stop)) .stop) .stop) (.alt (D 49 (.bs 3 1 1 [T 48])) (.alt (D 47 (.app (C (.slice none 0 0)) (T 46) 31 31 31)) (.alt (Jp 50 47 49 31) (Q4 (J 53 52) (Jm 54 53 false 11) (Jw 55 53 true 54) (D 56 (.bW [.int .i64 0,.int .i64 0,.slice none 0 0,.slice none 0 0,.slice none 0 0,.slice none 0 0,.int .i64 0,.int .i64 0,.slice none 0 0,.bool false] [(0,(8,T 44)),(8,(1,T 50)),(9,(1,T 55))])) (.alt (D 57 (.bs 97 1 10 [T 56])) (.alt (Jp 58 41 57 141) (.take (J 5 58) .done) .stop) .stop)) .stop) .stop) .stop)) (.alt (D 49 (.bs 3 1 1 [T 48])) (.alt (Ja 44 54 [T 42,T 43]) (.alt (D 47 (.app (C (.slice none 0 0)) (T 46) 31 31 31)) (.alt (Jp 50 47 49 31) (Q4 (J 53 52) (Jm 54 53 false 11) (Jw 55 53 true 54) (D 56 (.bW [.int .i64 0,.int .i64 0,.slice none 0 0,.slice none 0 0,.slice none 0 0,.slice none 0 0,.int .i64 0,.int .i64 0,.slice none 0 0,.bool false] [(0,(8,T 44)),(8,(1,T 50)),(9,(1,T 55))])) (.alt (D 57 (.bs 97 1 10 [T 56])) (.alt (Jp 58 41 57 141) (.take (J 5 58) .done) .stop) .stop)) .stop) .stop) .stop) .stop)))))))))) (.ops [Jk 59 .add 20 1,J 20 59]))))))) (O [J 60 5,J 4 60] .ret))))) [.t 4]
theorem Wv:aN prog 2 Tryz.f58=some ZL:=by kernel_rfl
def ZM:ap:=ap.mk (O [Jc 2 (.slice none 0 0)] (O [Jc 3 (.slice none 0 0)] (.seq (O [J 9 0,Jz 10 9,Ji 11 0] (.block 0 (.loop (O [Jb 12 .lss 11 10] (.seq (.cond (T 12) .skip (.exit 0)) (.seq (.block 1 (O [Jx 13 9 11 10,Jr 14 13 10,D 5 (.new 97 [.int .i64 0,.int .i64 0,.slice none 0 0,.slice none 0 0,.slice none 0 0,.slice none 0 0,.int .i64 0,.int .i64 0,.slice none 0 0,.bool false]),Jv 5 14 10] (O [Ji 6 0] (.seq (O [J 15 3,Jz 16 15,Ji 17 0] (.block 2 (.loop (O [Jb 18 .lss 17 16] (.seq (.cond (T 18) .skip (.exit 2)) (.seq (.block 3 (O [Jx 19 15 17 10,Jr 20 19 10,D 8 (.new 97 [.int .i64 0,.int .i64 0,.slice none 0 0,.slice none 0 0,.slice none 0 0,.slice none 0 0,.int .i64 0,.int .i64 0,.slice none 0 0,.bool false]),Jv 8 20 10] (O [Jf 21 5 0,Jr 22 21 8,Jf 23 8 0,Jr 24 23 8,Ja 25 111 [T 22,T 24]] (.cond (T 25) (.ops [J 26 6,Jk 27 .add 26 1,J 6 27]) .skip)))) (.ops [Jk 28 .add 17 1,J 17 28]))))))) (O [J 29 6,Jk 30 .lss 29 2] (.cond (T 30) (.ops [J 31 3,Jr 32 5 10,D 33 (.bs 97 1 10 [T 32]),Jp 34 31 33 141,J 3 34]) .skip)))))) (.ops [Jk 35 .add 11 1,J 11 35]))))))) (O [J 36 3,J 2 36] .ret)))) [.t 2]
theorem Ww:aN prog 1 Tryz.f59=some ZM:=by kernel_rfl
def Z6:ap:=ap.mk (O [Jc 0 (.slice none 0 0)] (O [D 1 (.bs 9 16 1 [C (.string ⟨#[97]⟩),C (.string ⟨#[98]⟩),C (.string ⟨#[99]⟩),C (.string ⟨#[120]⟩),C (.string ⟨#[65]⟩),C (.string ⟨#[66]⟩),C (.string ⟨#[67]⟩),C (.string ⟨#[88]⟩),C (.string ⟨#[95]⟩),C (.string ⟨#[195,169]⟩),C (.string ⟨#[195,137]⟩),C (.string ⟨#[199,133]⟩),C (.string ⟨#[228,184,150]⟩),C (.string ⟨#[84]⟩),C (.string ⟨#[83,116,114,105,110,103]⟩),C (.string ⟨#[69,114,114,111,114]⟩)]),J 0 1] .ret)) [.t 0]
theorem WL:aN prog 0 Tryz.f79=some Z6:=by kernel_rfl
def Z9:ap:=ap.mk (O [Jc 9 (.bool false)] (O [J 10 0,J 11 10,Jh 12 11 false 4 2,Jd 13 11 false 12,Jg 14 11 false (.len (T 13)),Js 15 11 false .eql 14 0,Jw 16 11 true 15,J 17 16,Jm 18 17 true 1,Jm 19 17 true 18,Jh 20 19 false 4 3,Jd 21 19 false 20,Jg 22 19 false (.len (T 21)),Js 23 19 false .eql 22 0,Jg 24 17 true (.pick (T 19) (C (.bool true)) (T 23)),Jy 25 17 24 false,J 26 25,Jm 27 26 true 2,Jm 28 26 true 27,Jh 29 28 false 4 4,Jd 30 28 false 29,Jg 31 28 false (.len (T 30)),Js 32 28 false .eql 31 0,Jm 33 28 false 32,Jh 34 33 true 4 5,Jd 35 33 true 34,Jg 36 33 true (.len (T 35)),Js 37 33 true .eql 36 0,Jg 38 28 false (.pick (T 33) (T 37) (C (.bool false))),Jg 39 26 true (.pick (T 28) (C (.bool true)) (T 38)),Jy 40 26 39 false,J 41 40,Jm 42 41 true 3,Jm 43 41 true 42,Jh 44 43 false 4 1,Jd 45 43 false 44,Js 46 43 false .eql 45 0,Jg 47 41 true (.pick (T 43) (C (.bool true)) (T 46)),Jy 48 41 47 false,J 9 48] .ret)) [.t 9]
theorem WO:aN prog 5 Tryz.f82=some Z9:=by kernel_rfl
def Z_:ap:=ap.mk (O [Jo 2 45 0,Ji 4 0] (O [Ji 5 1] (.seq (O [Jf 12 2 0,Jl 13 12,Jk 14 .eql 13 1] (.cond (T 14) (.ops [J 15 1,Jf 16 2 1,Jl 17 16,Jx 18 15 17 1,Jl 19 18,J 5 19]) .skip)) (.seq (O [Jf 20 2 2,Jl 21 20,Jz 22 21,Ji 23 0] (.block 0 (.loop (O [Jb 24 .lss 23 22] (.seq (.cond (T 24) .skip (.exit 0)) (.seq (.block 1 (O [Jx 25 21 23 6,Jr 26 25 6,D 7 (.new 45 [.int .i64 0,.int .i64 0,.slice none 0 0,.slice none 0 0,.slice none 0 0,.slice none 0 0]),Jv 7 26 6] (.ops [J 27 5,Jr 28 7 6,J 29 1,Ja 30 83 [T 28,T 29],Jb 31 .add 27 30,D 32 (.gen (.call (Call.mk (.builtin .min) #[T 31,Ci 2001] #[3,3])) 3),J 5 32]))) (.ops [Jk 33 .add 23 1,J 23 33]))))))) (.seq (O [Jf 34 2 3,Jl 35 34,Jz 36 35,Ji 37 0] (.block 2 (.loop (O [Jb 38 .lss 37 36] (.seq (.cond (T 38) .skip (.exit 2)) (.seq (.block 3 (O [Jx 39 35 37 8,Jr 40 39 8,D 9 (.new 103 [.int .i64 0,.bool false,.int .i64 0,.int .i64 0,.slice none 0 0,.slice none 0 0,.slice none 0 0,.slice none 0 0]),Jv 9 40 8] (.ops [J 41 5,Jf 42 9 2,Jr 43 42 6,J 44 1,Ja 45 83 [T 43,T 44],Jb 46 .add 41 45,D 47 (.gen (.call (Call.mk (.builtin .min) #[T 46,Ci 2001] #[3,3])) 3),J 5 47]))) (.ops [Jk 48 .add 37 1,J 37 48]))))))) (.seq (O [Jf 49 2 5,Jl 50 49,Jz 51 50,Ji 52 0] (.block 4 (.loop (O [Jb 53 .lss 52 51] (.seq (.cond (T 53) .skip (.exit 4)) (.seq (.block 5 (O [Jx 54 50 52 6,Jr 55 54 6,D 11 (.new 45 [.int .i64 0,.int .i64 0,.slice none 0 0,.slice none 0 0,.slice none 0 0,.slice none 0 0]),Jv 11 55 6] (.ops [J 56 5,Jr 57 11 6,J 58 1,Ja 59 83 [T 57,T 58],Jb 60 .add 56 59,D 61 (.gen (.call (Call.mk (.builtin .min) #[T 60,Ci 2001] #[3,3])) 3),J 5 61]))) (.ops [Jk 62 .add 52 1,J 52 62]))))))) (O [J 63 5,D 64 (.gen (.call (Call.mk (.builtin .min) #[T 63,Ci 2001] #[3,3])) 3),J 4 64] .ret))))))) [.t 4]
theorem WQ:aN prog 2 Tryz.f83=some Z_:=by kernel_rfl
def aH:ap:=ap.mk (O [Jo 2 89 0,D 4 (.new 89 [.int .i64 0,.int .i64 0,.slice none 0 0,.slice none 0 0,.slice none 0 0,.slice none 0 0,.int .i64 0,.int .i64 0])] (O [Jf 8 2 6,Jl 9 8,Jf 10 2 0,Jf 11 10 4,Jl 12 11,Jz 13 12,Jb 14 .add 9 13,J 5 14] (.seq (O [Jf 15 2 0,Jf 16 15 5,Jl 17 16,J 18 1,D 19 (.j6 (T 17) (some (T 18)) none),Jz 20 19,Ji 21 0] (.block 0 (.loop (O [Jb 22 .lss 21 20] (.seq (.cond (T 22) .skip (.exit 0)) (.seq (.block 1 (O [Jx 23 19 21 6,Jr 24 23 6,D 7 (.new 45 [.int .i64 0,.int .i64 0,.slice none 0 0,.slice none 0 0,.slice none 0 0,.slice none 0 0]),Jv 7 24 6] (.ops [J 25 5,Jr 26 7 6,Ja 27 81 [T 26],Jb 28 .add 25 27,J 5 28]))) (.ops [Jk 29 .add 21 1,J 21 29]))))))) (.seq (.draw (Q2 (Jf 30 2 0) (Jf 31 30 5) (Q8 (Jl 32 31) (J 33 1) (Jx 34 32 33 6) (Jr 35 34 6) (J 36 5) (Jf 37 2 7) (Jl 38 37) (D 39 (.bW [.int .i64 0,.int .i64 0,.slice none 0 0,.slice none 0 0,.slice none 0 0,.slice none 0 0,.int .i64 0,.int .i64 0] [(0,(6,T 35)),(6,(1,T 36)),(7,(1,T 38))])) (.alt (Jv 4 39 8) .done .stop)))) .ret)))) [.c 4 8]
theorem WR:aN prog 2 Tryz.f84=some aH:=by kernel_rfl
def zk:ap:=ap.mk (O [Jo 2 89 0,D 4 (.new 89 [.int .i64 0,.int .i64 0,.slice none 0 0,.slice none 0 0,.slice none 0 0,.slice none 0 0,.int .i64 0,.int .i64 0]),Ji 5 0] (O [Jf 9 2 6,Jl 10 9,J 6 10] (.seq (O [Jf 11 2 0,Jf 12 11 3,Jl 13 12,J 14 1,D 15 (.j6 (T 13) (some (T 14)) none),Jz 16 15,Ji 17 0] (.block 0 (.loop (O [Jb 18 .lss 17 16] (.seq (.cond (T 18) .skip (.exit 0)) (.seq (.block 1 (O [Jx 19 15 17 8,Jr 20 19 8,D 8 (.new 103 [.int .i64 0,.bool false,.int .i64 0,.int .i64 0,.slice none 0 0,.slice none 0 0,.slice none 0 0,.slice none 0 0]),Jv 8 20 8] (.ops [J 21 6,Jf 22 8 2,Jr 23 22 6,Ja 24 81 [T 23],D 25 (.dL .add (Ci 1) (T 24)),Jb 26 .add 21 25,J 6 26]))) (.ops [Jk 27 .add 17 1,J 17 27]))))))) (.seq (.draw (Q5 (Jf 28 2 0) (Jf 29 28 3) (Jl 30 29) (J 31 1) (Jx 32 30 31 8) (Q8 (Jf 33 32 2) (Jr 34 33 6) (J 35 6) (Jk 36 .add 35 1) (Jf 37 2 7) (Jl 38 37) (D 39 (.bW [.int .i64 0,.int .i64 0,.slice none 0 0,.slice none 0 0,.slice none 0 0,.slice none 0 0,.int .i64 0,.int .i64 0] [(0,(6,T 34)),(6,(1,T 36)),(7,(1,T 38))])) (J 40 6) (.alt (Jv 4 39 8) (.take (J 5 40) .done) .stop)))) .ret)))) [.c 4 8,.t 5]
theorem WS:aN prog 2 Tryz.f85=some zk:=by kernel_rfl
def HT:ap:=ap.mk (O [Jo 3 103 1,Ji 4 0] (.seq (.block 0 (O [Jf 6 3 1,Jl 7 6,Jt 8 7,J 5 8] (.cond (T 5) (O [Jf 9 3 0,Jl 10 9,J 4 10] .ret) (O [Jf 12 3 2,Jf 13 12 0,Jl 14 13,Jk 15 .eql 14 2,J 11 15] (.cond (T 11) (O [J 16 0,Jf 17 3 2,Jf 18 17 2,Jl 19 18,D 20 (.ix (T 19) (Ci 0) 6),Jf 21 20 1,Jl 22 21,Jx 23 16 22 10,Jf 24 23 0,Jl 25 24,J 4 25] .ret) .skip))))) (O [J 26 0,Jf 27 3 2,Jf 28 27 1,Jl 29 28,Jx 30 26 29 10,Jf 31 30 0,Jl 32 31,J 4 32] .ret))) [.t 4]
theorem WT:aN prog 2 Tryz.f86=some HT:=by kernel_rfl
def wF:ap:=ap.mk (O [Jo 5 89 2,Jc 6 (.bool false)] (O [Jf 10 5 0,Jf 11 10 0,Jl 12 11,Jk 13 .eql 12 2,J 7 13] (.seq (O [J 14 7] (.cond (T 14) (.ops [Jr 15 5 8,Ja 16 56 [T 15],Jv 5 16 8]) .skip)) (.seq (.draw (Q8 (J 17 0) (Jr 18 5 8) (J 22 0) (Jf 23 5 0) (Jf 24 23 1) (Jl 25 24) (Jx 26 22 25 10) (Jr 27 26 10) (.alt (Ja 19 55 [T 17,T 18]) (Q2 (D 20 (.eS (T 19) 0 6 true)) (D 21 (.eS (T 20) 0 1 false)) (.alt (D 9 (.new 84 [.int .i64 0,.int .i64 0,.bool false,.int .i64 0,.int .i64 0,.slice none 0 0,.slice none 0 0,.slice none 0 0,.slice none 0 0,.slice none 0 0])) (.take (J 8 21) (.alt (Jv 9 27 10) .done .stop)) .stop)) (.alt (D 9 (.new 84 [.int .i64 0,.int .i64 0,.bool false,.int .i64 0,.int .i64 0,.slice none 0 0,.slice none 0 0,.slice none 0 0,.slice none 0 0,.slice none 0 0])) (.alt (Ja 19 55 [T 17,T 18]) (Q3 (D 20 (.eS (T 19) 0 6 true)) (D 21 (.eS (T 20) 0 1 false)) (J 8 21) (.alt (Jv 9 27 10) .done .stop)) .stop) .stop)))) (O [J 28 8,Jk 29 .neq 28 2,J 30 29,Jm 31 30 true 7,Jg 32 30 true (.not (T 31)),Jm 33 30 true 32,Jm 34 33 false 8,Js 35 33 false .neq 34 5,Jg 36 30 true (.pick (T 33) (C (.bool true)) (T 35)),Jy 37 30 36 false,J 38 37,Jh 39 38 true 9 1,Jd 40 38 true 39,Jm 41 38 true 1,Jq 42 38 true .eql 40 41,Jm 43 38 true 42,Jh 44 43 false 9 0,Jd 45 43 false 44,Jg 46 43 false (.call 30 [T 45]),Jg 47 38 true (.pick (T 43) (C (.bool true)) (T 46)),Jy 48 38 47 false,J 6 48] .ret))))) [.t 6]
theorem WU:aN prog 3 Tryz.f87=some wF:=by kernel_rfl
def Yf:ap:=ap.mk (O [Jo 3 89 1,Jc 4 (.slice none 0 0)] (O [J 5 0,Jr 6 3 8,D 7 .oQ,Ja 8 145 [T 5,T 6,T 7],J 4 8] .ret)) [.t 4]
theorem U5:aN prog 2 Tryz.f110=some Yf:=by kernel_rfl
def Yg:ap:=ap.mk (O [Jo 2 89 0,Jo 3 89 1,Jc 4 (.bool false)] (.seq (O [Jf 5 2 0,Jf 6 5 0,Jl 7 6,Jk 8 .eql 7 1,J 9 8,Jh 10 9 false 3 0,Jh 11 9 false 10 0,Jd 12 9 false 11,Js 13 9 false .eql 12 1,Jw 14 9 true 13] (.cond (T 14) (O [Jf 15 2 0,Jf 16 15 0,Jl 17 16,Jf 18 3 0,Jf 19 18 0,Jl 20 19,Jb 21 .eql 17 20,J 22 21,Jh 23 22 true 2 0,Jh 24 22 true 23 1,Jd 25 22 true 24,Jh 26 22 true 3 0,Jh 27 22 true 26 1,Jd 28 22 true 27,Jq 29 22 true .eql 25 28,Jy 30 22 29 false,J 4 30] .ret) .skip)) (O [Jf 31 2 6,Jl 32 31,Jf 33 3 6,Jl 34 33,Jb 35 .eql 32 34,J 36 35,Jh 37 36 true 2 0,Jg 38 36 true (.jr (T 37) 6),Jh 39 36 true 3 0,Jg 40 36 true (.jr (T 39) 6),Jg 41 36 true (.call 146 [T 38,T 40]),Jy 42 36 41 false,J 4 42] .ret))) [.t 4]
theorem U6:aN prog 2 Tryz.f111=some Yg:=by kernel_rfl
def YA:ap:=ap.mk (O [Jo 4 89 1,Jc 6 (.slice none 0 0)] (.seq (O [Jf 13 4 0,Jf 14 13 0,Jl 15 14,Jk 16 .eql 15 1] (.cond (T 16) (.seq (O [J 17 2,Jf 18 4 0,Jf 19 18 1,Jl 20 19,D 21 (.gen (.lookup 312 (T 17) (T 20) false) 4)] (.cond (T 21) (O [Jc 6 (.slice none 0 0)] .ret) .skip)) (.ops [J 22 2,Jf 23 4 0,Jf 24 23 1,Jl 25 24,U (.gen (.mapUpdate 312 (T 22) (T 25) (C (.bool true))) 0)])) .skip)) (O [J 26 0,Jr 27 4 8,Ja 28 55 [T 26,T 27],Jv 4 28 8] (O [Jc 7 (.slice none 0 0)] (.seq (O [Jf 29 4 0,Jf 30 29 4,Jl 31 30,Jz 32 31,Ji 33 0] (.block 0 (.loop (O [Jb 34 .lss 33 32] (.seq (.cond (T 34) .skip (.exit 0)) (.seq (.block 1 (O [J 35 33,Jx 36 31 33 2,Jr 37 36 2,D 9 (.new 87 [.int .i64 0,.bool false]),J 8 35,Jv 9 37 2] (.draw (.take (J 38 7) (Q8 (Jf 39 4 7) (Jl 40 39) (Jf 41 9 0) (Jl 42 41) (Jf 44 4 6) (Jl 45 44) (J 46 8) (Jb 47 .add 45 46) (.alt (Ja 43 12 [T 40,T 42]) (.alt (D 48 (.bs 3 1 1 [T 47])) (.take (D 49 (.bW [.string ⟨#[]⟩,.slice none 0 0] [(0,(1,T 43)),(1,(1,T 48))])) (.alt (Ja 50 193 [T 38,T 49]) (.take (J 7 50) .done) .stop)) .stop) (.alt (D 48 (.bs 3 1 1 [T 47])) (.alt (Ja 43 12 [T 40,T 42]) (.take (D 49 (.bW [.string ⟨#[]⟩,.slice none 0 0] [(0,(1,T 43)),(1,(1,T 48))])) (.alt (Ja 50 193 [T 38,T 49]) (.take (J 7 50) .done) .stop)) .stop) .stop))))))) (.ops [Jk 51 .add 33 1,J 33 51]))))))) (.seq (O [Jf 52 4 0,Jf 53 52 5,Jl 54 53,Jz 55 54,Ji 56 0] (.block 2 (.loop (O [Jb 57 .lss 56 55] (.seq (.cond (T 57) .skip (.exit 2)) (.seq (.block 3 (O [J 58 56,J 10 58] (O [J 59 0,Jr 60 4 8,J 61 10,Ja 62 84 [T 60,T 61],J 63 2,Ja 64 145 [T 59,T 62,T 63],Jz 65 64,Ji 66 0] (.block 4 (.loop (O [Jb 67 .lss 66 65] (.seq (.cond (T 67) .skip (.exit 4)) (.seq (.block 5 (O [Jx 68 64 66 2,Jr 69 68 2,D 12 (.new 252 [.string ⟨#[]⟩,.slice none 0 0]),Jv 12 69 2] (.ops [J 70 7,Jr 71 12 2,Ja 72 193 [T 70,T 71],J 7 72]))) (.ops [Jk 73 .add 66 1,J 66 73]))))))))) (.ops [Jk 74 .add 56 1,J 56 74]))))))) (O [J 75 7,J 6 75] .ret))))))) [.t 6]
theorem Vo:aN prog 3 Tryz.f145=some YA:=by kernel_rfl
def YB:ap:=ap.mk (O [Jo 2 45 0,Jo 3 45 1,Jc 4 (.bool false)] (.seq (O [Jf 11 2 0,Jl 12 11,Jf 13 3 0,Jl 14 13,Jb 15 .neq 12 14,J 16 15,Jh 17 16 false 2 1,Jd 18 16 false 17,Jh 19 16 false 3 1,Jd 20 16 false 19,Jq 21 16 false .neq 18 20,Jw 22 16 true 21,J 23 22,Jh 24 23 false 2 4,Jd 25 23 false 24,Jg 26 23 false (.len (T 25)),Jh 27 23 false 3 4,Jd 28 23 false 27,Jg 29 23 false (.len (T 28)),Jq 30 23 false .neq 26 29,Jw 31 23 true 30,J 32 31,Jh 33 32 false 2 3,Jd 34 32 false 33,Jg 35 32 false (.len (T 34)),Jh 36 32 false 3 3,Jd 37 32 false 36,Jg 38 32 false (.len (T 37)),Jq 39 32 false .neq 35 38,Jw 40 32 true 39,J 41 40,Jh 42 41 false 2 2,Jd 43 41 false 42,Jg 44 41 false (.len (T 43)),Jh 45 41 false 3 2,Jd 46 41 false 45,Jg 47 41 false (.len (T 46)),Jq 48 41 false .neq 44 47,Jw 49 41 true 48,J 50 49,Jh 51 50 false 2 5,Jd 52 50 false 51,Jg 53 50 false (.len (T 52)),Jh 54 50 false 3 5,Jd 55 50 false 54,Jg 56 50 false (.len (T 55)),Jq 57 50 false .neq 53 56,Jw 58 50 true 57] (.cond (T 58) (O [Jc 4 (.bool false)] .ret) .skip)) (.seq (O [Jf 59 2 3,Jl 60 59,Jz 61 60,Ji 62 0] (.block 0 (.loop (O [Jb 63 .lss 62 61] (.seq (.cond (T 63) .skip (.exit 0)) (.seq (.block 1 (O [J 64 62,Jx 65 60 62 8,Jr 66 65 8,D 6 (.new 103 [.int .i64 0,.bool false,.int .i64 0,.int .i64 0,.slice none 0 0,.slice none 0 0,.slice none 0 0,.slice none 0 0]),J 5 64,Jv 6 66 8] (.seq (.draw (Q5 (Jf 67 6 1) (Jl 68 67) (Jf 69 3 3) (Jl 70 69) (J 71 5) (Q8 (Jx 72 70 71 8) (Jf 73 72 1) (Jl 74 73) (D 75 (.qV true (T 68) (T 74))) (J 76 75) (Jh 77 76 false 6 0) (Jd 78 76 false 77) (Jh 79 76 false 3 3) (Q8 (Jd 80 76 false 79) (Jm 81 76 false 5) (Jg 82 76 false (.ix (T 80) (T 81) 8)) (Jh 83 76 false 82 0) (Jd 84 76 false 83) (Jq 85 76 false .neq 78 84) (Jw 86 76 true 85) (J 87 86) (Q8 (Jh 88 87 false 6 2) (Jg 89 87 false (.jr (T 88) 6)) (Jh 90 87 false 3 3) (Jd 91 87 false 90) (Jm 92 87 false 5) (Jg 93 87 false (.ix (T 91) (T 92) 8)) (Jh 94 87 false 93 2) (Jg 95 87 false (.jr (T 94) 6)) (.alt (Jg 96 87 false (.call 146 [T 89,T 95])) (Q2 (Jg 97 87 false (.not (T 96))) (Jw 98 87 true 97) .done) .stop)))))) (.cond (T 98) (O [Jc 4 (.bool false)] .ret) .skip)))) (.ops [Jk 99 .add 62 1,J 62 99]))))))) (.seq (O [Jf 100 2 2,Jl 101 100,Jz 102 101,Ji 103 0] (.block 2 (.loop (O [Jb 104 .lss 103 102] (.seq (.cond (T 104) .skip (.exit 2)) (.seq (.block 3 (O [J 105 103,Jx 106 101 103 6,Jr 107 106 6,D 8 (.new 45 [.int .i64 0,.int .i64 0,.slice none 0 0,.slice none 0 0,.slice none 0 0,.slice none 0 0]),J 7 105,Jv 8 107 6] (.seq (.draw (Q6 (Jr 108 8 6) (Jf 109 3 2) (Jl 110 109) (J 111 7) (Jx 112 110 111 6) (Jr 113 112 6) (.alt (Ja 114 146 [T 108,T 113]) (.take (Jt 115 114) .done) .stop))) (.cond (T 115) (O [Jc 4 (.bool false)] .ret) .skip)))) (.ops [Jk 116 .add 103 1,J 103 116]))))))) (.seq (O [Jf 117 2 5,Jl 118 117,Jz 119 118,Ji 120 0] (.block 4 (.loop (O [Jb 121 .lss 120 119] (.seq (.cond (T 121) .skip (.exit 4)) (.seq (.block 5 (O [J 122 120,Jx 123 118 120 6,Jr 124 123 6,D 10 (.new 45 [.int .i64 0,.int .i64 0,.slice none 0 0,.slice none 0 0,.slice none 0 0,.slice none 0 0]),J 9 122,Jv 10 124 6] (.seq (.draw (Q6 (Jr 125 10 6) (Jf 126 3 5) (Jl 127 126) (J 128 9) (Jx 129 127 128 6) (Jr 130 129 6) (.alt (Ja 131 146 [T 125,T 130]) (.take (Jt 132 131) .done) .stop))) (.cond (T 132) (O [Jc 4 (.bool false)] .ret) .skip)))) (.ops [Jk 133 .add 120 1,J 120 133]))))))) (O [Jc 4 (.bool true)] .ret)))))) [.t 4]
theorem Vp:aN prog 2 Tryz.f146=some YB:=by kernel_rfl
def YR:ap:=ap.mk (O [Jo 3 252 1,Jc 4 (.slice none 0 0)] (O [Jc 5 (.slice none 0 0)] (O [Jc 6 (.bool false)] (.seq (O [J 9 0,Jz 10 9,Ji 11 0] (.block 0 (.loop (O [Jb 12 .lss 11 10] (.seq (.cond (T 12) .skip (.exit 0)) (.seq (.block 1 (O [Jx 13 9 11 2,Jr 14 13 2,D 8 (.new 252 [.string ⟨#[]⟩,.slice none 0 0]),Jv 8 14 2] (.seq (.block 2 (O [Jf 16 8 0,Jl 17 16,Jf 18 3 0,Jl 19 18,D 20 (.fC .eql (T 17) (T 19)),J 15 20] (.cond (T 15) (.draw (Q3 (Jf 21 8 1) (Jf 24 3 1) (Jl 25 24) (.alt (Jl 22 21) (.alt (D 23 (.app (C (.slice none 0 0)) (T 22) 31 31 31)) (.alt (Jp 26 23 25 31) (.take (Jf 27 8 1) (.alt (Ju 27 26) (.take (Jc 6 (.bool true)) .done) .stop)) .stop) .stop) .stop))) (O [Jf 29 8 0,Jl 30 29,Jf 31 3 0,Jl 32 31,D 33 (.fC .gtr (T 30) (T 32)),J 34 33,Jm 35 34 true 6,Jg 36 34 true (.not (T 35)),Jy 37 34 36 false,J 28 37] (.cond (T 28) (.ops [J 38 5,Jr 39 3 2,D 40 (.bs 252 1 2 [T 39]),Jp 41 38 40 249,J 5 41,Jc 6 (.bool true)]) .skip))))) (.ops [J 42 5,Jr 43 8 2,D 44 (.bs 252 1 2 [T 43]),Jp 45 42 44 249,J 5 45])))) (.ops [Jk 46 .add 11 1,J 11 46]))))))) (.seq (O [J 47 6,Jt 48 47] (.cond (T 48) (.ops [J 49 5,Jr 50 3 2,D 51 (.bs 252 1 2 [T 50]),Jp 52 49 51 249,J 5 52]) .skip)) (O [J 53 5,J 4 53] .ret)))))) [.t 4]
theorem c193:aN prog 2 Tryz.f193=some YR:=by kernel_rfl
abbrev zdj:Go.Conc.Locks.MuLink:={lock:=105,unlock:=106,ilock:=137,iunlock:=138,lockSlow:=186,unlockSlow:=189,disable:=182,enable:=184,acquire:=185,relMerge:=187,cas32:=183,add32:=188,tMutex:=216,tIMutex:=214,tPMutex:=305,tPIMutex:=356,tPI32:=358,tUP:=267,tNoCopy:=211,tU32:=212}
theorem F7:Go.Conc.Locks.MuLib prog zdj:=by
 constructor<;>first|kernel_rfl|(intro w;kernel_rfl)
end Go.Proofs.YtlfcbbcdiecelaaGreatDoor
