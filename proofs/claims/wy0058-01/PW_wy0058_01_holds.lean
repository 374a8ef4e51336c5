import PyProof.Rows.All
import KE.KBoundM
import KE.KSuperObj
import PyProof.DictWalks
import PyProof.ListIndexNeg
import PyProof.StrOps2
import PyProof.DictCompW
import PyProof.Rows.CallKw2
import PyProof.CollectWalk
import PyProof.WalksMore
import PyProof.TupleOfSeq
import PyProof.AttrMissHeap
import KE.KDictLaws
import Wide.All
import OpenK.AllK
import Wide.FinOn
import KE.KCallOwn
import PyProof.WalksPairs
import PyProof.GenCompT
import PyProof.ConsumeS
import PyProof.SliceList
import PyProof.FactsLen
import KE.KSuper
import PyProof.ListNew
import PyProof.ExcStrAll.ValueError
import PyProof.ExcStrCall
import PyProof.NsDelKeeps
import PyProof.RulesAs
import PyProof.ExcBaseAll.ValueError
import PyProof.RulesTry
import PyProof.StationsW
import PyProof.ReprStr
import PyProof.FitsReplace
import PyProof.StrLawsIdx
import PyProof.StrLawsIn
import Lean
import PySem.Challenge.RW_wy0058_01
set_option Elab.async false
set_option maxRecDepth 100000
set_option linter.unusedVariables false
set_option linter.unusedSimpArgs false
set_option cleanup.letToHave false
set_option maxHeartbeats 0
namespace Mine
section
open Lean Meta Elab Tactic
inductive LT where
 |a (i:Nat)|k (n:Nat)|p (x y:LT)|m (n:Nat) (x:LT)|s (x y:LT)
inductive LF where
 |le (c:Nat) (x y:LT)|eq (c:Int) (x y:LT)
section
def LT.z(v:List Int):LT→Int
 | .a i=>v.getD i 0
 | .k n=>Int.ofNat n
 | .p x y=>x.z v+y.z v
 | .m n x=>Int.ofNat n*x.z v
 | .s x y=>x.z v-y.z v
def LT.val(v:List Nat):LT→Nat
 | .a i=>v.getD i 0
 | .k n=>n
 | .p x y=>x.val v+y.val v
 | .m n x=>n*x.val v
 | .s _ _=>0
def LT.ok:LT→Bool
 | .p x y=>x.ok&&y.ok
 | .m _ x=>x.ok
 | .s _ _=>false
 |_=>true
def bump:Nat→Int→List Int→List Int
 |0,c,[]=>[c]
 |0,c,x::l=>(x+c)::l
 |n+1,c,[]=>0::bump n c []
 |n+1,c,x::l=>x::bump n c l
def LT.acc:LT→Int→List Int→List Int
 | .a i,c,l=>bump (i+1) c l
 | .k n,c,l=>bump 0 (c*n) l
 | .p x y,c,l=>x.acc c (y.acc c l)
 | .m n x,c,l=>x.acc (c*n) l
 | .s x y,c,l=>x.acc c (y.acc (-c) l)
def dot:List Int→List Int→Int
 |c::l,n::v=>c*n+dot l v
 |_,_=>0
def LF.vz(v:List Int):LF→Prop
 | .le _ x y=>x.z v≤y.z v
 | .eq _ x y=>x.z v=y.z v
def LF.val(v:List Nat):LF→Prop
 | .le _ x y=>x.val v≤y.val v
 | .eq _ x y=>x.val v=y.val v
def LF.ok:LF→Bool
 | .le _ x y=>x.ok&&y.ok
 | .eq _ x y=>x.ok&&y.ok
def LF.sum:List LF→List Int
 |[]=>[]
 | .le c x y::r=>y.acc c (x.acc (-c) (LF.sum r))
 | .eq c x y::r=>y.acc c (x.acc (-c) (LF.sum r))
def LF.out(P:LF→Prop):List LF→Prop
 |[]=>False
 |f::r=>P f→LF.out P r
def LF.neg:List Int→Bool
 |c::r=>decide (c<0)&&r.all (· == 0)
 |[]=>false
theorem dot_bump(v:List Int):∀(i:Nat) (c:Int) (l:List Int),dot (bump i c l) v=c*v.getD i 0+dot l v:=by
 induction v with
 |nil=>intro i c l;cases i <;> cases l <;> simp[bump,dot]
 |cons n v ih =>
  intro i c l
  cases i with
  |zero=>cases l <;> simp[bump,dot,Int.add_mul,Int.add_assoc,Int.add_comm,Int.add_left_comm]
  |succ i=>cases l with
   |nil=>simp[bump,dot,ih]
   |cons x l=>simp[bump,dot,ih,Int.add_left_comm]
theorem dot_acc(v:List Int):∀(t:LT) (c:Int) (l:List Int),dot (t.acc c l) (1::v)=c*t.z v+dot l (1::v):=by
 intro t
 induction t with
 |a i=>intro c l;exact dot_bump (1::v) (i+1) c l
 |k n=>intro c l;show dot (bump 0 (c*n) l) (1::v)=_;rw[dot_bump];show c*n*1+_=c*(n:Int)+_;simp
 |p x y hx hy=>intro c l;show dot (x.acc c (y.acc c l)) (1::v)=_;rw[hx,hy];simp[LT.z,Int.mul_add,Int.add_assoc]
 |m n x hx=>intro c l;show dot (x.acc (c*n) l) (1::v)=c*((n:Int)*_)+_;rw[hx];simp[Int.mul_assoc]
 |s x y hx hy=>intro c l;show dot (x.acc c (y.acc (-c) l)) (1::v)=_;rw[hx,hy];simp[LT.z,Int.sub_eq_add_neg,Int.mul_add,Int.add_assoc,Int.neg_mul,Int.mul_neg]
theorem dot_zero:∀(l v:List Int),l.all (· == 0)=true→dot l v=0
 |[],_,_=>rfl
 |_::_,[],_=>rfl
 |c::l,n::v,h=>by
  rw[List.all_cons,Bool.and_eq_true]at h
  have e:c=0:=eq_of_beq h.1
  show c*n+dot l v=0
  rw[e,dot_zero l v h.2];simp
theorem LF.pos(v:List Int):∀(l:List LF),(∀ f∈l,f.vz v)→0≤dot (LF.sum l) (1::v)
 |[],_=>Int.le_refl 0
 | .le c x y::r,h=>by
  have ih:=LF.pos v r fun f q=>h f (List.mem_cons_of_mem _ q)
  have e:x.z v≤y.z v:=h _ (List.mem_cons_self ..)
  show 0≤dot (y.acc c (x.acc (-c) (LF.sum r))) (1::v)
  rw[dot_acc,dot_acc]
  have e2:(c:Int)*x.z v≤c*y.z v:=Int.mul_le_mul_of_nonneg_left e (Int.natCast_nonneg c)
  rw[Int.neg_mul]
  omega
 | .eq c x y::r,h=>by
  have ih:=LF.pos v r fun f q=>h f (List.mem_cons_of_mem _ q)
  have e:x.z v=y.z v:=h _ (List.mem_cons_self ..)
  show 0≤dot (y.acc c (x.acc (-c) (LF.sum r))) (1::v)
  rw[dot_acc,dot_acc,e,Int.neg_mul]
  omega
theorem LF.curry(P:LF→Prop):∀(l:List LF),((∀ f∈l,P f)→False)→LF.out P l
 |[],h=>h fun _ q=>nomatch q
 |f::r,h=>fun q=>LF.curry P r fun k=>h fun g m=>by
  rcases List.mem_cons.mp m with e|m
  ·exact e▸q
  ·exact k g m
theorem linC(v:List Int)(l:List LF)(h:LF.neg (LF.sum l)=true)(q:∀ f∈l,f.vz v):False:=by
 have p:=LF.pos v l q
 revert p h
 cases LF.sum l with
 |nil=>intro h;cases h
 |cons c r =>
  intro h p
  have h':(decide (c<0)&&r.all (· == 0))=true:=h
  rw[Bool.and_eq_true]at h'
  have e:dot (c::r) (1::v)=c:=by show c*1+dot r v=c;rw[dot_zero r v h'.2];simp
  rw[e]at p
  have:=of_decide_eq_true h'.1
  omega
theorem linz(v:List Int)(l:List LF)(h:LF.neg (LF.sum l)=true):LF.out (LF.vz v) l:=LF.curry _ l (linC v l h)
theorem LT.up(v:List Nat):∀ t:LT,t.ok=true→t.z (v.map Int.ofNat)=(t.val v:Nat)
 | .a i,_=>by
  show(v.map Int.ofNat).getD i 0=((v.getD i 0:Nat):Int)
  rw[List.getD_eq_getElem?_getD,List.getD_eq_getElem?_getD,List.getElem?_map]
  cases v[i]? <;> rfl
 | .k _,_=>rfl
 | .p x y,h=>by
  have h:=(Bool.and_eq_true _ _).mp h
  show x.z _+y.z _=((x.val v+y.val v:Nat):Int)
  rw[LT.up v x h.1,LT.up v y h.2];rfl
 | .m n x,h=>by
  show(n:Int)*x.z _=((n*x.val v:Nat):Int)
  rw[LT.up v x h];rfl
theorem lin(v:List Nat)(l:List LF)(h:(LF.neg (LF.sum l)&&l.all LF.ok)=true):LF.out (LF.val v) l:=LF.curry _ l fun q=>by
 have h:=(Bool.and_eq_true _ _).mp h
 refine linC (v.map Int.ofNat) l h.1 fun f m=>?_
 have hf:=List.all_eq_true.mp h.2 f m
 have q:=q f m
 cases f with
 |le c x y =>
  have k:=(Bool.and_eq_true _ _).mp hf
  show x.z _≤y.z _
  rw[LT.up v x k.1,LT.up v y k.2];exact Int.ofNat_le.mpr q
 |eq c x y =>
  have k:=(Bool.and_eq_true _ _).mp hf
  show x.z _=y.z _
  rw[LT.up v x k.1,LT.up v y k.2];exact congrArg Int.ofNat q
theorem atN(n:Nat)(P:Nat→Prop)(h:(x:Nat)→P x):P n:=h n
theorem zle{x y:Nat}(h:x≤y):Int.ofNat x≤Int.ofNat y:=Int.ofNat_le.mpr h
theorem zeq{x y:Nat}(h:x=y):Int.ofNat x=Int.ofNat y:=congrArg _ h
theorem subF(a b:Nat):a-b≤a∧a≤a-b+b:=by omega
theorem subS(a b:Nat):(b≤a∧a-b+b=a)∨(a≤b∧a-b=0):=by omega
theorem natS(x:Int):(0≤x∧(x.toNat:Int)=x)∨(x≤0∧x.toNat=0):=by omega
theorem minS(a b:Nat):(a≤b∧min a b=a)∨(b≤a∧min a b=b):=by omega
theorem maxS(a b:Nat):(a≤b∧max a b=b)∨(b≤a∧max a b=a):=by omega
theorem divF(a k:Nat):(k+1)*(a / (k+1))+a%(k+1)=a∧a%(k+1)<k+1:=⟨Nat.div_add_mod ..,Nat.mod_lt _ (Nat.succ_pos k)⟩
theorem divZ(a:Int)(k:Nat):Int.ofNat (k+1)*(a / Int.ofNat (k+1))+a%Int.ofNat (k+1)=a∧0≤a%Int.ofNat (k+1)∧a%Int.ofNat (k+1)<Int.ofNat (k+1):=⟨Int.mul_ediv_add_emod ..,Int.emod_nonneg _ (by simp;omega),Int.emod_lt_of_pos _ (by simp)⟩
end
structure LinSt where
 atoms:Array (Bool×Expr):=#[]
 facts:Array (Bool×Bool×Expr×Expr×Array Int×Expr):=#[]
 todo:Array Expr:=#[]
 splits:Array Expr:=#[]
def isNatT(t:Expr):Bool:=t.consumeMData.isConstOf ``Nat||t.consumeMData.isConstOf `PySem.Addr||t.consumeMData.isConstOf `PySem.Tok
def isIntT(t:Expr):Bool:=t.consumeMData.isConstOf ``Int
def litOf(e:Expr):Option Nat:=match e.nat? with
 |some k=>some k
 |none=>match e.rawNatLit? with
  |some k=>some k
  |none=>match e.int? with
   |some k=>if k<0 then none else some k.toNat
   |none=>none
def linTerm:Nat→Bool→Expr→StateT LinSt MetaM (Expr×Array Int)
 |0,_,_=>throwError "x"
 |n+1,nat,e=>do
  let e:=e.consumeMData
  let lit (k:Nat):Expr×Array Int:=(mkApp (mkConst ``LT.k) (mkRawNatLit k),#[(k:Int)])
  let join (f:Int→Int→Int) (a b:Array Int):Array Int:=(Array.range (max a.size b.size)).map fun i=>f (a.getD i 0) (b.getD i 0)
  match litOf e with
  |some k=>return lit k
  |none =>
  match e.getAppFnArgs with
  |(``HAdd.hAdd,#[_,_,_,_,x,y])=>do
   let(a,u) ←linTerm n nat x
   let(b,v) ←linTerm n nat y
   return(mkApp2 (mkConst ``LT.p) a b,join (· + ·) u v)
  |(``Nat.succ,#[x])=>do
   let(a,u) ←linTerm n true x
   return(mkApp2 (mkConst ``LT.p) a (lit 1).1,join (· + ·) u #[1])
  |(``HMul.hMul,#[_,_,_,_,x,y])=>do
   match litOf x with
   |some k=>do
    let(b,v) ←linTerm n nat y
    return(mkApp2 (mkConst ``LT.m) (mkRawNatLit k) b,v.map (· * k))
   |none =>
    if(litOf y).isSome then atom nat e (fun _=>do return #[←mkAppM (if nat then ``Nat.mul_comm else ``Int.mul_comm) #[x,y]])else atom nat e
  |(``HSub.hSub,#[_,_,_,_,x,y]) =>
   if nat then atom nat e (fun _=>pure #[mkApp2 (mkConst ``subF) x y]) (some (mkApp2 (mkConst ``subS) x y))
   else do
    let(a,u) ←linTerm n nat x
    let(b,v) ←linTerm n nat y
    return(mkApp2 (mkConst ``LT.s) a b,join (· - ·) u v)
  |(``Neg.neg,#[_,_,x]) =>
   match litOf x with
   |some k=>return(mkApp2 (mkConst ``LT.s) (lit 0).1 (lit k).1,#[-(k:Int)])
   |none=>atom nat e fun _=>pure #[mkApp (mkConst ``Int.add_left_neg) x]
  |(``Nat.cast,#[_,_,x])=>if nat then atom nat e else linTerm n true x
  |(``Int.ofNat,#[x])=>linTerm n true x
  |(``Int.toNat,#[x])=>atom nat e (fun _=>pure #[mkApp (mkConst ``Int.self_le_toNat) x]) (some (mkApp (mkConst ``natS) x))
  |(``Min.min,#[_,_,x,y])=>if nat then atom nat e (fun _=>pure #[]) (some (mkApp2 (mkConst ``minS) x y))else atom nat e
  |(``Max.max,#[_,_,x,y])=>if nat then atom nat e (fun _=>pure #[]) (some (mkApp2 (mkConst ``maxS) x y))else atom nat e
  |(``HDiv.hDiv,#[_,_,_,_,x,y])=>parted nat e x y
  |(``HMod.hMod,#[_,_,_,_,x,y])=>parted nat e x y
  |_=>atom nat e
where
 parted (nat:Bool) (e x y:Expr):StateT LinSt MetaM (Expr×Array Int):=do
  match litOf y with
  |some (k+1)=>atom nat e fun _=>do
   let pf:=mkApp2 (mkConst (if nat then ``divF else ``divZ)) x (mkRawNatLit k)
   let T ←mkArrow (mkConst ``Nat) (mkSort .zero)
   let _:=T
   let mul ←mkAppM ``HMul.hMul #[y,←mkAppM ``HDiv.hDiv #[x,y]]
   let md ←mkAppM ``HMod.hMod #[x,y]
   let a ←mkEq (←mkAppM ``HAdd.hAdd #[mul,md]) x
   let b ←mkAppM ``LT.lt #[md,y]
   let b ←if nat then pure b else do pure (mkAnd (←mkAppM ``LE.le #[←mkNumeral (mkConst ``Int) 0,md]) b)
   return #[←mkExpectedTypeHint pf (mkAnd a b)]
  |_=>atom nat e
 atom (nat:Bool) (e:Expr) (more:Unit→MetaM (Array Expr):=fun _=>pure #[]) (split:Option Expr:=none):StateT LinSt MetaM (Expr×Array Int):=do
  let s ←get
  let mut at_:=s.atoms.size
  for i in[0:s.atoms.size] do
   if s.atoms[i]! ==(nat,e)then at_:=i
  if at_==s.atoms.size then
   for i in[0:s.atoms.size] do
    if at_==s.atoms.size&&s.atoms[i]!.1==nat&&s.atoms[i]!.2.getAppFn==e.getAppFn&&s.atoms[i]!.2.getAppNumArgs==e.getAppNumArgs then
     if ←withReducible (isDefEq s.atoms[i]!.2 e)then at_:=i
  if at_==s.atoms.size then
   set {s with atoms:=s.atoms.push (nat,e)}
   let m ←more ()
   modify fun s=>{s with todo:=s.todo++m,splits:=s.splits++split.toArray}
  return(mkApp (mkConst ``LT.a) (mkRawNatLit at_),((Array.replicate (at_+2) (0:Int)).set! (at_+1) 1))
def linAdd(nat isEq:Bool)(x y pf:Expr)(one:Bool:=false):StateT LinSt MetaM Unit:=do
 let(a,u) ←linTerm 50 nat x
 let(b,v) ←linTerm 50 nat y
 let(a,u):=if one then(mkApp2 (mkConst ``LT.p) a (mkApp (mkConst ``LT.k) (mkRawNatLit 1)),if u.size==0 then #[1]else u.set! 0 (u[0]! + 1))else(a,u)
 let d:=(Array.range (max u.size v.size)).map fun i=>v.getD i 0-u.getD i 0
 modify fun s=>{s with facts:=s.facts.push (nat,isEq,a,b,d,pf)}
def linFact:Nat→Expr→Expr→StateT LinSt MetaM Unit
 |0,_,_=>pure ()
 |n+1,ty,pf=>do
  let on (t:Expr) (f:Bool→StateT LinSt MetaM Unit):StateT LinSt MetaM Unit:=if isNatT t then f true else if isIntT t then f false else pure ()
  match ty.consumeMData.getAppFnArgs with
  |(``LE.le,#[t,_,x,y])=>on t fun z=>linAdd z false x y pf
  |(``LT.lt,#[t,_,x,y])=>on t fun z=>linAdd z false x y pf true
  |(``GE.ge,#[t,_,x,y])=>on t fun z=>linAdd z false y x pf
  |(``GT.gt,#[t,_,x,y])=>on t fun z=>linAdd z false y x pf true
  |(``Eq,#[t,x,y])=>on t fun z=>linAdd z true x y pf
  |(``Ne,#[t,x,y])=>on t fun z=>apart z x y pf
  |(``And,#[a,b])=>do
   linFact n a (.proj ``And 0 pf)
   linFact n b (.proj ``And 1 pf)
  |(``Or,#[_,_])=>modify fun s=>{s with splits:=s.splits.push pf}
  |(``Not,#[q])=>match q.consumeMData.getAppFnArgs with
   |(``LE.le,#[t,_,x,y])=>on t fun z=>linAdd z false y x (mkApp3 (mkConst (if z then ``Nat.lt_of_not_le else ``Int.lt_of_not_ge)) x y pf) true
   |(``LT.lt,#[t,_,x,y])=>on t fun z=>linAdd z false y x (if z then mkApp3 (mkConst ``Nat.le_of_not_lt) x y pf else mkApp3 (mkConst ``Int.le_of_not_gt) y x pf)
   |(``GE.ge,#[t,_,x,y])=>on t fun z=>linAdd z false x y (mkApp3 (mkConst (if z then ``Nat.lt_of_not_le else ``Int.lt_of_not_ge)) y x pf) true
   |(``GT.gt,#[t,_,x,y])=>on t fun z=>linAdd z false x y (if z then mkApp3 (mkConst ``Nat.le_of_not_lt) y x pf else mkApp3 (mkConst ``Int.le_of_not_gt) x y pf)
   |(``Eq,#[t,x,y])=>on t fun z=>apart z x y pf
   |(``Or,#[a,b])=>do
    linFact n (mkNot a) (.lam `h a (.app pf (mkApp3 (mkConst ``Or.inl) a b (.bvar 0))) .default)
    linFact n (mkNot b) (.lam `h b (.app pf (mkApp3 (mkConst ``Or.inr) a b (.bvar 0))) .default)
   |_=>pure ()
  |_=>pure ()
where
 apart (nat:Bool) (x y pf:Expr):StateT LinSt MetaM Unit:=modify fun s=>{s with splits:=s.splits.push (mkApp3 (mkConst (if nat then ``Nat.lt_or_gt_of_ne else ``Int.lt_or_gt_of_ne)) x y pf)}
def linMore:Nat→StateT LinSt MetaM Unit
 |0=>pure ()
 |n+1=>do
  let t:=(←get).todo
  if t.isEmpty then return
  modify fun s=>{s with todo:=#[]}
  for pf in t do linFact 20 (←inferType pf) pf
  linMore n
abbrev LinRow:=Bool×Array Int×Array Int
def LinRow.eq(r:LinRow):Bool:=r.1
def LinRow.co(r:LinRow):Array Int:=r.2.1
def LinRow.cb(r:LinRow):Array Int:=r.2.2
def linFind:Nat→Array LinRow→Option (Array Int)
 |0,_=>none
 |n+1,rows=>Id.run do
  for r in rows do
   if(r.co.toSubarray 1 r.co.size).all (· == 0)then
    if r.co[0]! < 0 then return some r.cb
    if r.eq&&r.co[0]! > 0 then return some (r.cb.map (- ·))
  let rows:=rows.filter fun r=>!(r.co.toSubarray 1 r.co.size).all (· == 0)
  if rows.size>600||rows.isEmpty then return none
  let add (a:Int) (x:LinRow) (b:Int) (y:LinRow) (eq:Bool):LinRow:=Id.run do
   let co:=(x.co.zip y.co).map fun(p,q)=>a*p+b*q
   let cb:=(x.cb.zip y.cb).map fun(p,q)=>a*p+b*q
   let g:=cb.foldl (fun g c=>Nat.gcd g c.natAbs) (co.foldl (fun g c=>Nat.gcd g c.natAbs) 0)
   if g>1 then return(eq,co.map (· / g),cb.map (· / g))
   return(eq,co,cb)
  match rows.findIdx? LinRow.eq with
  |some i =>
   let e:=rows[i]!
   let some v:=(List.range e.co.size).find? fun j=>j>0&&e.co[j]! != 0|return none
   let a:=e.co[v]!
   let mut out:=#[]
   for j in[0:rows.size] do
    if j != i then
     let r:=rows[j]!
     if r.co[v]! == 0 then out:=out.push r
     else
      let s:Int:=if a>0 then 1 else -1
      out:=out.push (add (s*a) r (- s*r.co[v]!) e r.eq)
   return linFind n out
  |none =>
   let k:=rows[0]!.co.size
   let mut best:Option (Nat×Nat):=none
   for v in[1:k] do
    let p:=(rows.filter fun r=>r.co[v]! > 0).size
    let m:=(rows.filter fun r=>r.co[v]! < 0).size
    if p+m>0 then
     match best with
     |some (_,c)=>if p*m<c then best:=some (v,p*m)
     |none=>best:=some (v,p*m)
   let some (v,_):=best|return none
   let mut out:=rows.filter fun r=>r.co[v]! == 0
   for x in rows do
    if x.co[v]! > 0 then
     for y in rows do
      if y.co[v]! < 0 then out:=out.push (add (- y.co[v]!) x x.co[v]! y false)
   return linFind n out
def linUsed:Expr→Array Nat→Array Nat
 | .app f a,u =>
  if f.isConstOf ``LT.a then
   let i:=a.rawNatLit?.getD 0
   if u.contains i then u else u.push i
  else linUsed a (linUsed f u)
 |_,u=>u
def linClose(s:LinSt):MetaM Expr:=do
 let k:=s.atoms.size+1
 let m:=s.facts.size
 let mut rows:Array LinRow:=#[]
 for i in[0:m] do
  let(_,e,_,_,d,_):=s.facts[i]!
  rows:=rows.push (e,(Array.range k).map fun j=>d.getD j 0,(Array.replicate (m+k) (0:Int)).set! i 1)
 for i in[1:k] do
  if s.atoms[i-1]!.1 then
   rows:=rows.push (false,(Array.replicate k (0:Int)).set! i 1,(Array.replicate (m+k) (0:Int)).set! (m+i-1) 1)
 let some cb:=linFind 200 rows|throwError "x"
 let z:=(List.range m).any fun i=>cb[i]! != 0 && !s.facts[i]!.1
 let mut fs:Array Expr:=#[]
 let mut hs:Array (Option Bool×Expr):=#[]
 for i in[0:m+k] do
  let c:=cb[i]!
  if c != 0 then
   if i<m then
    let(n,e,a,b,_,pf):=s.facts[i]!
    if e then fs:=fs.push (mkApp3 (mkConst ``LF.eq) (toExpr c) a b)
    else fs:=fs.push (mkApp3 (mkConst ``LF.le) (mkRawNatLit c.toNat) a b)
    hs:=hs.push (if n&&z then some e else none,pf)
   else
    let j:=i-m
    fs:=fs.push (mkApp3 (mkConst ``LF.le) (mkRawNatLit c.toNat) (mkApp (mkConst ``LT.k) (mkRawNatLit 0)) (mkApp (mkConst ``LT.a) (mkRawNatLit j)))
    hs:=hs.push (if z then some false else none,mkApp (mkConst ``Nat.zero_le) s.atoms[j]!.2)
 let used:=(fs.foldl (fun u f=>linUsed f u) #[])
 fs:=fs.map fun f=>f.replace fun e=>if e.isAppOfArity ``LT.a 1 then some (mkApp (mkConst ``LT.a) (mkRawNatLit (used.idxOf (e.appArg!.rawNatLit?.getD 0))))else none
 let s:={s with atoms:=used.map fun i=>s.atoms[i]!}
 let nat:=mkConst ``Nat
 let listOf (t:Expr) (l:Array Expr):Expr:=l.foldr (fun a r=>mkApp3 (mkConst ``List.cons [0]) t a r) (mkApp (mkConst ``List.nil [0]) t)
 let l:=listOf (mkConst ``LF) fs
 let close (as:Array (Bool×Expr)) (hs:Array (Option Bool×Expr)):MetaM Expr:=do
  let v:=if z then listOf (mkConst ``Int) (as.map fun(n,a)=>if n then mkApp (mkConst ``Int.ofNat) a else a)else listOf nat (as.map fun(n,a)=>if n then a else mkRawNatLit 0)
  let hs ←hs.mapM fun(w,h)=>match w with
   |none=>pure h
   |some e=>do
    let ty ←whnfCore (←instantiateMVars (←inferType h))
    let(x,y) ←match ty.getAppFnArgs with
     |(``LE.le,#[_,_,x,y])=>pure (x,y)
     |(``GE.ge,#[_,_,x,y])=>pure (y,x)
     |(``LT.lt,#[_,_,x,y])=>pure (mkApp (mkConst ``Nat.succ) x,y)
     |(``GT.gt,#[_,_,x,y])=>pure (mkApp (mkConst ``Nat.succ) y,x)
     |(``Eq,#[_,x,y])=>pure (x,y)
     |_=>throwError "x"
    pure (mkApp3 (mkConst (if e then ``zeq else ``zle)) x y h)
  return mkAppN (mkApp3 (mkConst (if z then ``linz else ``lin)) v l (mkApp2 (mkConst ``Eq.refl [1]) (mkConst ``Bool) (mkConst ``Bool.true))) hs
 let tops:=(s.atoms.filter fun a=>a.1 && !a.2.hasFVar).map (·.2)
 if tops.isEmpty then return ←close s.atoms hs
 let decls:Array (Name×(Array Expr→MetaM Expr)):=tops.map fun _=>(`x,fun _=>pure nat)
 let f ←withLocalDeclsD decls fun xs=>do
  let put (e:Expr):Expr:=e.replace fun y=>(tops.idxOf? y).map fun i=>xs[i]!
  let tys ←hs.mapM fun(_,h)=>do return put (←instantiateMVars (←inferType h))
  withLocalDeclsD (tys.map fun t=>(`h,fun _=>pure t)) fun ks=>do
   let r ←mkLambdaFVars (xs++ks) (←close (s.atoms.map fun(n,a)=>(n,put a)) ((hs.map (·.1)).zip ks))
   check r
   return r
 let .forallE n a b bi ←inferType f|throwError "x"
 return mkAppN (mkApp3 (mkConst ``atN) tops[0]! (.lam n a b bi) f) (tops.extract 1 tops.size++hs.map (·.2))
def linSplit:Nat→LinSt→MetaM Expr
 |n,s=>do
  try linClose s catch x =>
   match n with
   |0=>throw x
   |n+1 =>
    let mut err:=x
    for i in[0:s.splits.size] do
     let p:=s.splits[i]!
     let ty ←whnfR (←instantiateMVars (←inferType p))
     let(``Or,#[a,b]):=ty.getAppFnArgs|throw x
     let side (a:Expr):MetaM (Expr×Bool):=withLocalDeclD `h a fun h=>do
      let((),s) ←(do linFact 20 a h;linMore 5:StateT LinSt MetaM Unit).run {s with splits:=s.splits.extract 0 0++s.splits.extract (i+1) s.splits.size}
      let r ←linSplit n s
      return(←mkLambdaFVars #[h] r,r.containsFVar h.fvarId!)
     try
      let(u,_) ←side a
      let(v,_) ←side b
      return mkAppN (mkConst ``Or.elim) #[a,b,mkConst ``False,p,u,v]
     catch e=>err:=e
    throw err
def linTac:TacticM Unit:=withMainContext do
 let g ←getMainGoal
 let ty ←instantiateMVars (←g.getType)
 let facts (extra:List (Expr×Expr)):MetaM Expr:=do
  let run:StateT LinSt MetaM Unit:=do
   for (t,p) in extra do linFact 20 t p
   for d in ←getLCtx do
    unless d.isImplementationDetail do
     linFact 20 (←instantiateMVars d.type) d.toExpr
   linMore 5
  let((),s) ←run.run {}
  linSplit 3 s
 let refute (h:Expr):MetaM Expr:=withLocalDeclD `h h fun x=>do mkLambdaFVars #[x] (←facts [(h,x)])
 let kind (t:Expr):MetaM Bool:=if isNatT t then pure true else if isIntT t then pure false else throwError "x"
 let le (z:Bool) (x y:Expr):MetaM Expr:=do
  let r ←refute (←mkAppM ``LT.lt #[y,x])
  return if z then mkApp3 (mkConst ``Nat.le_of_not_lt) y x r else mkApp3 (mkConst ``Int.le_of_not_gt) x y r
 let lt (z:Bool) (x y:Expr):MetaM Expr:=do
  return mkApp3 (mkConst (if z then ``Nat.lt_of_not_le else ``Int.lt_of_not_ge)) y x (←refute (←mkAppM ``LE.le #[y,x]))
 let rec goal (n:Nat) (ty:Expr):MetaM Expr:=do
  match n with
  |0=>throwError "x"
  |n+1=>match ty.consumeMData.getAppFnArgs with
  |(``False,#[])=>facts []
  |(``LE.le,#[t,_,x,y])=>do le (←kind t) x y
  |(``GE.ge,#[t,_,x,y])=>do le (←kind t) y x
  |(``LT.lt,#[t,_,x,y])=>do lt (←kind t) x y
  |(``GT.gt,#[t,_,x,y])=>do lt (←kind t) y x
  |(``Eq,#[t,x,y])=>do
   let z ←kind t
   pure (mkApp4 (mkConst (if z then ``Nat.le_antisymm else ``Int.le_antisymm)) x y (←le z x y) (←le z y x))
  |(``And,#[a,b])=>return mkApp4 (mkConst ``And.intro) a b (←goal n a) (←goal n b)
  |(``Or,#[_,_])=>do return mkApp2 (mkConst ``Classical.byContradiction) ty (←refute (mkNot ty))
  |(``Not,#[q])=>refute q
  |(``Ne,#[t,x,y])=>do
   let _ ←kind t
   refute (←mkEq x y)
  |_=>throwError "x"
 g.assign (←goal 6 ty)
 replaceMainGoal []
def asksTable(e:Expr):Bool:=(e.find? fun x=>match x with
 | .const (.str (.str (.str .anonymous "PySem") "Manifest") s) _=>s == "canonical" ||s == "signature?" ||s == "find?" ||s == "varargsMethods" ||s == "toldItsClass"
 | .const (.str (.str .anonymous "PySem") s) _=>s == "builtinKind" ||s == "checkBuiltinCall" ||s == "checkTypeCall" ||s == "checkBoundCall" ||s == "typeOf" ||s == "fastLookup" ||s == "plainId" ||s == "refuseLoop"
 |_=>false).isSome
def quickEq(stmt:Expr):MetaM (Option Expr):=do
 if stmt.hasExprMVar || !asksTable stmt then return none
 let some (e',h) ←PySem.W.Fast.quick stmt|return none
 let some (_,a',_):=e'.eq? |return none
 let r:=mkApp4 (mkConst ``Eq.mpr [0]) stmt e' h (←mkExpectedTypeHint (←mkEqRefl a') e')
 let .ok _:=Kernel.check (←getEnv) (←instantiateLCtxMVars (←getLCtx)) r|return none
 return some r
def kRfl:TacticM Unit:=liftMetaFinishingTactic fun g=>do
 let ty ←whnfR (←instantiateMVars (←g.getType))
 let some (_,a,_):=ty.eq? |throwError "x"
 match ←quickEq ty with
 |some r=>g.assign r
 |none=>g.assign (←mkExpectedTypeHint (←mkEqRefl a) ty)
def kDec:TacticM Unit:=do
 let ty ←instantiateMVars (←getMainTarget)
 if !ty.hasExprMVar&&asksTable ty then
  if(←whnfR ty).isAppOf ``Eq then return ←kRfl
  let d ←mkDecide ty
  if let some r ←quickEq (←mkEq d (mkConst ``Bool.true))then
   (←getMainGoal).assign (mkApp3 (mkConst ``of_decide_eq_true) ty d.appArg! r)
   replaceMainGoal []
   return
 evalTactic (←`(tactic|decide (config:={kernel:=true})))
end
section
open Lean Meta Elab Tactic
structure SqNode where
 kids:Array Expr:=#[]
 level:Nat:=0
 home:Option FVarId:=none
 post:Nat:=0
structure SqSt where
 memo:Std.HashMap ExprStructEq Expr:={}
 told:Std.HashMap ExprStructEq Expr:={}
 nodes:Std.HashMap ExprStructEq SqNode:={}
 opened:Std.HashMap ExprStructEq (FVarId×Expr):={}
 order:Array Expr:=#[]
 levels:Std.HashMap FVarId Nat:={}
 lctx:LocalContext:={}
 n:Nat:=0
abbrev SqM:=StateRefT SqSt MetaM
def sqPlain(m:Expr):Option Expr:=match m with
 | .lam _ _ b _=>if b.hasLooseBVars then none else some b
 |_=>none
def sqNormB(self:Expr→SqM Expr)(e:Expr):SqM Expr:=do
 match e with
 | .const .. | .fvar .. | .sort .. | .lit .. | .bvar .. | .mvar ..=>return e
 |_=>pure ()
 if let some r:=(←get).memo.get? ⟨e⟩then return r
 let half (i:Nat) (t:Expr):Expr:=if t.isAppOfArity ``And.intro 4 then t.getArg! (2+i)else .proj ``And i t
 let bind (isLam:Bool) (t b:Expr):SqM Expr:=do
  let t' ←self t
  let x:FVarId:=⟨.num `sq (←get).n⟩
  modify fun s=>{s with n:=s.n+1,lctx:=s.lctx.mkLocalDecl x `x t' .default}
  let b' ←self (b.instantiate1 (.fvar x))
  if isLam&&b'.isApp&&b'.appArg! == .fvar x && !(b'.appFn!.containsFVar x)then return b'.appFn!
  let c:=b'.abstract #[.fvar x]
  let r:=if isLam then Expr.lam `x t' c .default else .forallE `x t' c .default
  modify fun s=>if s.opened.contains ⟨r⟩then s else{s with opened:=s.opened.insert ⟨r⟩ (x,b')}
  return r
 let r ←match e with
  | .mdata d b=>do
   let b' ←self b
   pure (if d.getBool `sq then .mdata d b' else b')
  | .proj n i b=>do pure (.proj n i (←self b))
  | .lam _ t b _=>bind true t b
  | .forallE _ t b _=>bind false t b
  | .letE _ t v b _=>do
   let v' ←self v
   let t' ←self t
   modify fun s=>{s with told:=s.told.insert ⟨v'⟩ t'}
   self (b.instantiate1 v')
  | .app ..=>do
   let f:=e.getAppFn
   let as:=e.getAppArgs
   match f with
   | .lam _ t b _=>do
    let v' ←self as[0]!
    let t' ←self t
    modify fun s=>{s with told:=s.told.insert ⟨v'⟩ t'}
    self (mkAppN (b.instantiate1 v') (as.extract 1 as.size))
   | .const n us=>do
    let rest (r:Expr) (i:Nat):SqM Expr:=self (mkAppN r (as.extract i as.size))
    if n == ``id&&as.size≥2&&us==[.zero]then rest as[1]! 2
    else if n == ``And.left&&as.size==3 then pure (half 0 (←self as[2]!))
    else if n == ``And.right&&as.size==3 then pure (half 1 (←self as[2]!))
    else if(n == ``And.casesOn&&as.size≥5)||(n == ``And.rec&&as.size≥5)then
     let(t,m):=if n == ``And.casesOn then(as[3]!,as[4]!)else(as[4]!,as[3]!)
     let t' ←self t
     rest ((mkApp2 m (half 0 t') (half 1 t')).headBeta) 5
    else
     let el:Option (Name×Array Expr) :=
      if(n == ``Exists.casesOn||n == ``Exists.rec)&&as.size==5 then
       (sqPlain as[2]!).map fun g=>(``Exists.elim,if n == ``Exists.casesOn then #[as[0]!,as[1]!,g,as[3]!,as[4]!]else #[as[0]!,as[1]!,g,as[4]!,as[3]!])
      else if n == ``Or.casesOn&&as.size==6 then(sqPlain as[2]!).map fun g=>(``Or.elim,#[as[0]!,as[1]!,g,as[3]!,as[4]!,as[5]!])
      else none
     match el with
     |some (n',as')=>do
      let us':=if n' == ``Exists.elim then us else[]
      pure (mkAppN (.const n' us') (←as'.mapM self))
     |none=>pure (mkAppN f (←as.mapM self))
   |_=>do
    let f' ←self f
    let as' ←as.mapM self
    if f'.isLambda then self (f'.beta as')else pure (mkAppN f' as')
  |_=>pure e
 modify fun s=>{s with memo:=(s.memo.insert ⟨e⟩ r).insert ⟨r⟩ r}
 return r
def sqNorm(e:Expr):SqM Expr:=Nat.repeat sqNormB 12000 (fun _=>throwError "x") e
def sqFree(e:Expr):SqM (Nat×Option FVarId):=do
 let s ←get
 let xs:=(collectFVars {} e).fvarIds
 let mut r:Nat×Option FVarId:=(0,none)
 for x in xs do
  match s.levels.get? x with
  |some l=>if r.1<l then r:=(l,some x)
  |none=>pure ()
 return r
def sqOpenB(self:Expr→SqM (Nat×Option FVarId))(e:Expr):SqM (Nat×Option FVarId):=do
 if !(e.isLambda||e.isForall||e.isApp||e.isProj||e.isMData)then
  match e with
  | .fvar x=>return((←get).levels.getD x 0,if(←get).levels.contains x then some x else none)
  |_=>return(0,none)
 match(←get).nodes.get? ⟨e⟩with
 |some d=>return(d.level,d.home)
 |none=>pure ()
 if !e.hasFVar then
  if e.isForall then return(0,none)
  let s ←get
  let isP ←withLCtx s.lctx {} do try isProof e catch _=>pure false
  if !isP then return(0,none)
 let up (a b:Nat×Option FVarId):Nat×Option FVarId:=if a.1<b.1 then b else a
 let fin (kids:Array Expr) (r:Nat×Option FVarId):SqM (Nat×Option FVarId):=do
  modify fun s=>{s with nodes:=s.nodes.insert ⟨e⟩ {kids,level:=r.1,home:=r.2,post:=s.order.size},order:=s.order.push e}
  return r
 match e with
 | .proj _ _ b| .mdata _ b=>let r ←self b;fin #[b] r
 | .app f a =>
  let mut r:=(0,none)
  let mut kids:=#[]
  if !f.isConst then
   r ←self f
   kids:=kids.push f
  r:=up r (←self a)
  fin (kids.push a) r
 | .lam _ t _ _| .forallE _ t _ _ =>
  let r ←self t
  let r:=up r (←sqFree e)
  match(←get).opened.get? ⟨e⟩with
  |none=>return r
  |some (x,b) =>
   modify fun s=>{s with levels:=s.levels.insert x (r.1+1)}
   let _ ←self b
   fin #[t,b] r
 |_=>return(0,none)
def sqOpen(e:Expr):SqM (Nat×Option FVarId):=Nat.repeat sqOpenB 12000 (fun _=>throwError "x") e
def sqSees(s:SqSt):Nat→List FVarId→Std.HashSet FVarId→Std.HashSet FVarId
 |0,_,m=>m
 |_+1,[],m=>m
 |k+1,x::r,m =>
  if m.contains x then sqSees s k r m
  else match s.lctx.find? x with
   |some d=>sqSees s k ((collectFVars {} d.type).fvarIds.toList++r) (m.insert x)
   |none=>sqSees s k r (m.insert x)
def sqNew(s:SqSt):Nat→List Expr→Std.HashSet Expr→Nat→Nat
 |0,_,_,n=>n
 |_+1,[],_,n=>n
 |k+1,e::r,m,n =>
  if m.contains e||s.nodes.contains ⟨e⟩then sqNew s k r m n
  else match e with
   | .app f a=>sqNew s k (f::a::r) (m.insert e) (n+32)
   | .lam _ t b _| .forallE _ t b _=>sqNew s k (t::b::r) (m.insert e) (n+48)
   | .letE _ t v b _=>sqNew s k (t::v::b::r) (m.insert e) (n+56)
   | .proj _ _ b=>sqNew s k (b::r) (m.insert e) (n+48)
   |_=>sqNew s k r m n
abbrev SqScopes:=Std.HashMap ExprStructEq (Array (Option FVarId))
def sqLay(s:SqSt)(cap:Nat)(m:SqScopes)(k:Expr)(sc:Array (Option FVarId)):SqScopes :=
 if !s.nodes.contains ⟨k⟩then m else m.alter ⟨k⟩ fun old=>some (sc.foldl (fun a x=>if a.size<cap && !a.contains x then a.push x else a) (old.getD #[]))
def sqKids(s:SqSt)(cap:Nat)(m:SqScopes)(e:Expr)(d:SqNode)(mine:Array (Option FVarId)):SqScopes:=Id.run do
 let mut m:=m
 match s.opened.get? ⟨e⟩with
 |some (x,b)=>for k in d.kids do m:=if k==b then sqLay s cap m k #[some x]else sqLay s cap m k mine
 |none=>for k in d.kids do m:=sqLay s cap m k mine
 return m
def sqData(e:Expr):Bool:=match e.getAppFn with
 | .const n _=>n == ``List.cons||n == `PySem.Args.mk||n.getPrefix == `PySem.Value
 |_=>false
def sqPick(root:Expr)(lim:Nat):SqM (Std.HashMap ExprStructEq FVarId×Std.HashMap FVarId (Array (FVarId×Expr×Expr))×Array (FVarId×Expr×Expr)):=do
 let s ←get
 let mut all:SqScopes:=({}:Std.HashMap _ _).insert ⟨root⟩ #[none]
 for i in[0:s.order.size] do
  let e:=s.order[s.order.size-1-i]!
  let some d:=s.nodes.get? ⟨e⟩|continue
  all:=sqKids s 12 all e d (all.getD ⟨e⟩ #[])
 let mut scopes:SqScopes:=({}:Std.HashMap _ _).insert ⟨root⟩ #[none]
 let mut bound:Std.HashMap ExprStructEq FVarId:={}
 let mut at_:Std.HashMap FVarId (Array (FVarId×Expr×Expr)):={}
 let mut top:Array (FVarId×Expr×Expr):=#[]
 let mut n:=s.n
 for i in[0:s.order.size] do
  let e:=s.order[s.order.size-1-i]!
  let some d:=s.nodes.get? ⟨e⟩|continue
  let sc:=scopes.getD ⟨e⟩ #[]
  let mut mine:=sc
  if sc.size≥2&&e.hasFVar && !sqData e && !((←getLCtx).find? (match e.getAppFn with| .fvar x=>x|_=>⟨.anonymous⟩)).any (·.isAuxDecl)then
   let cost:=match e with
    | .app ..=>Id.run do
     let m:=(all.getD ⟨e⟩ #[]).size
     let mut p:=e
     let mut l:=0
     for _ in[0:e.getAppNumArgs] do
      match p with
      | .app f _ =>
       l:=l+1
       p:=f
       if 2*m≤(all.getD ⟨p⟩ #[]).size then break
      |_=>break
     return 32*l
    | .lam .. | .forallE ..=>48
    | .proj ..=>48
    | .mdata ..=>1000
    |_=>0
   if(sc.size-1)*cost>lim then
    let sees:=sqSees s 1000000 (collectFVars {} e).fvarIds.toList {}
    let fits (t:Expr):Bool:=!t.hasMVar&&(collectFVars {} t).fvarIds.all sees.contains
    let ty? ←match(s.told.get? ⟨e⟩).filter fits with
     |some t=>pure (some t)
     |none=>withLCtx s.lctx {} do
      try
       let t ←instantiateMVars (←inferType e)
       pure (if fits t then some t else none)
      catch _=>pure none
    if let some t:=ty? then
     if(sc.size-1)*cost>lim+sqNew s 2000 [t] {} 0 then
      let y:FVarId:=⟨.num `sq n⟩
      n:=n+1
      bound:=bound.insert ⟨e⟩ y
      mine:=#[d.home]
      match d.home with
      |none=>top:=top.push (y,t,e)
      |some h=>at_:=at_.insert h ((at_.getD h #[]).push (y,t,e))
  scopes:=sqKids s 8 scopes e d mine
 modify fun s=>{s with n:=n}
 return(bound,at_,top)
def sqWeight(s:SqSt):Std.HashMap ExprStructEq Nat:=Id.run do
 let mut m:Std.HashMap ExprStructEq Nat:={}
 for e in s.order do
  let some d:=s.nodes.get? ⟨e⟩|continue
  m:=m.insert ⟨e⟩ (min 200 (1+d.kids.foldl (fun a k=>a+m.getD ⟨k⟩ 0) 0))
 return m
abbrev SqF:=StateM (Std.HashMap ExprStructEq Expr×Std.HashMap ExprStructEq Expr)
def sqFoldB(s:SqSt)(key:Std.HashMap ExprStructEq (Expr×FVarId))(self:Expr→Bool→SqF Expr)(e:Expr)(here:Bool):SqF Expr:=do
  if !s.nodes.contains ⟨e⟩then return e
  if !here then
   if let some r:=(←get).1.get? ⟨e⟩then return r
   if let some (c,x):=key.get? ⟨e⟩then
    let f ←match(←get).2.get? ⟨c⟩with
     |some f=>pure f
     |none=>do
      let b ←self e true
      let f:=Expr.mdata (KVMap.empty.insert `sq (.ofBool true)) (.lam `x c.bindingDomain! (b.abstract #[.fvar x]) .default)
      modify fun(a,m)=>(a,m.insert ⟨c⟩ f)
      pure f
    let r:=Expr.app f (.fvar x)
    modify fun(a,m)=>(a.insert ⟨e⟩ r,m)
    return r
  let go (e:Expr):SqF Expr:=self e false
  let r ←match e with
   | .proj n i b=>do pure (.proj n i (←go b))
   | .app f a=>do pure (.app (←if f.isConst then pure f else go f) (←go a))
   | .lam n t _ bi=>do match s.opened.get? ⟨e⟩with
    |some (x,b)=>pure (.lam n (←go t) ((←go b).abstract #[.fvar x]) bi)
    |none=>pure e
   | .forallE n t _ bi=>do match s.opened.get? ⟨e⟩with
    |some (x,b)=>pure (.forallE n (←go t) ((←go b).abstract #[.fvar x]) bi)
    |none=>pure e
   |_=>pure e
  if !here then modify fun(a,m)=>(a.insert ⟨e⟩ r,m)
  return r
def sqFold(s:SqSt)(key:Std.HashMap ExprStructEq (Expr×FVarId))(e:Expr):SqF Expr:=Nat.repeat (sqFoldB s key) 12000 (fun e _=>pure e) e false
def sqAlike(least:Nat):SqM (Std.HashMap ExprStructEq (Expr×FVarId)):=do
 let s ←get
 let w:=sqWeight s
 let mut keys:Std.HashMap ExprStructEq (Array (Expr×FVarId)):={}
 for e in s.order do
  if w.getD ⟨e⟩ 0<least then continue
  let some d:=s.nodes.get? ⟨e⟩|continue
  let some x:=d.home|continue
  let some l:=s.lctx.find? x|continue
  let c:=Expr.lam `x l.type (e.abstract #[.fvar x]) .default
  keys:=keys.alter ⟨c⟩ fun o=>some ((o.getD #[]).push (e,x))
 let mut out:Std.HashMap ExprStructEq (Expr×FVarId):={}
 for (c,l) in keys do
  if l.size<2 then continue
  let some (e,_):=l[0]? |continue
  let isP ←withLCtx s.lctx {} do try isProof e catch _=>pure true
  if isP then continue
  for (e,x) in l do out:=out.insert ⟨e⟩ (c.1,x)
 return out
abbrev SqB:=StateM (Std.HashMap ExprStructEq Expr)
def sqLets(s:SqSt)(build:Expr→Bool→SqB Expr)(ls:Array (FVarId×Expr×Expr))(b:Expr):SqB Expr:=do
 let b' ←build b false
 if ls.isEmpty then return b'
 let ls:=ls.qsort fun a c=>((s.nodes.get? ⟨a.2.2⟩).map (·.post)).getD 0<((s.nodes.get? ⟨c.2.2⟩).map (·.post)).getD 0
 let mut vs:Array (Expr×Expr×Expr):=#[]
 for (y,t,e) in ls do vs:=vs.push (.fvar y,t,←build e true)
 let ys:=vs.map (·.1)
 let mut r:=b'.abstract ys
 for i in[0:vs.size] do
  let j:=vs.size-1-i
  let(_,t,v):=vs[j]!
  r:=.letE `l t (v.abstract (ys.extract 0 j)) r false
 return r
def sqBuildB(s:SqSt)(bound:Std.HashMap ExprStructEq FVarId)(at_:Std.HashMap FVarId (Array (FVarId×Expr×Expr))) (self:Expr→Bool→SqB Expr)(e:Expr)(here:Bool):SqB Expr:=do
  if !here then
   match bound.get? ⟨e⟩with
   |some y=>return .fvar y
   |none=>pure ()
  if !s.nodes.contains ⟨e⟩then return e
  if !here then
   match(←get).get? ⟨e⟩with
   |some r=>return r
   |none=>pure ()
  let go (e:Expr):SqB Expr:=self e false
  let under (x:FVarId) (b:Expr):SqB Expr:=do
   let b' ←sqLets s self (at_.getD x #[]) b
   return b'.abstract #[.fvar x]
  let r ←match e with
   | .proj n i b=>do pure (.proj n i (←go b))
   | .mdata _ b=>go b
   | .app f a=>do
    let f' ←if f.isConst then pure f else go f
    pure (.app f' (←go a))
   | .lam n t _ bi=>do
    let(x,b):=(s.opened.get? ⟨e⟩).get!
    pure (.lam n (←go t) (←under x b) bi)
   | .forallE n t _ bi=>do
    let(x,b):=(s.opened.get? ⟨e⟩).get!
    pure (.forallE n (←go t) (←under x b) bi)
   |_=>pure e
  if !here then modify (·.insert ⟨e⟩ r)
  return r
def sqBuild(s:SqSt)(bound:Std.HashMap ExprStructEq FVarId)(at_:Std.HashMap FVarId (Array (FVarId×Expr×Expr))):Expr→Bool→SqB Expr:=Nat.repeat (sqBuildB s bound at_) 12000 fun e _=>pure e
def sqDrop:Nat→Expr→Expr→Expr×Expr×List Bool
 |k+1,.lam n t b bi,.forallE n' t' b' bi' =>
  let(b,b',l):=sqDrop k b b'
  if b.hasLooseBVar 0||b'.hasLooseBVar 0 then(.lam n t b bi,.forallE n' t' b' bi',true::l)else(b.lowerLooseBVars 1 1,b'.lowerLooseBVars 1 1,false::l)
 |k,b,b'=>(b,b',List.replicate k true)
def sqKeep(l:List Bool)(as:Array Expr):Array Expr:=((l.zip as.toList).filter (·.1)).toArray.map (·.2)
def sqSymm(us:List Level)(α a b h:Expr):Expr :=
 if h.isAppOfArity ``Eq.symm 4 then h.appArg! else mkApp4 (.const ``Eq.symm us) α a b h
def sqMove:Nat→Bool→Expr→Expr→Expr→Expr→Expr
 |n,back,α,β,h,p =>
  let plain:=mkApp4 (.const (if back then ``Eq.mpr else ``Eq.mp) [.zero]) α β h p
  match n,h.getAppFn,h.getAppArgs with
  |_+1,.const ``congrArg [u,_],#[A,_,a,b,P,q] =>
   if back then mkAppN (.const ``Eq.ndrec [.zero,u]) #[A,b,P,p,a,sqSymm [u] A a b q]else mkAppN (.const ``Eq.ndrec [.zero,u]) #[A,a,P,p,b,q]
  |n+1,.const ``Eq.trans _,#[_,a,b,c,h1,h2]=>if back then sqMove n true a b h1 (sqMove n true b c h2 p)else sqMove n false b c h2 (sqMove n false a b h1 p)
  |_+1,.const ``propext _,#[a,b,i]=>mkApp4 (.const (if back then ``Iff.mpr else ``Iff.mp) []) a b i p
  |n+1,.const ``Eq.symm _,#[_,a,b,q]=>if q.isAppOf ``congrArg||q.isAppOf ``propext then sqMove n (!back) a b q p else plain
  |_,_,_=>plain
def sqTrimApp(e:Expr):Expr:=Id.run do
 let .const n us:=e.getAppFn|return e
 let as:=e.getAppArgs
 let k:=as.size
 if n == ``False.elim&&k>2 then
  let mut c:=as[0]!
  for a in as.extract 2 k do
   let .forallE _ _ b _:=c|return e
   c:=b.instantiate1 a
  return mkApp2 e.getAppFn c as[1]!
 if n == ``Eq.ndrec&&k≥6 then
  let .lam x t M bi:=as[2]! |return e
  let(m,M,l):=sqDrop (k-6) as[3]! M
  let ds:=sqKeep l (as.extract 6 k)
  if !M.hasLooseBVar 0 then return m.beta ds
  return mkAppN e.getAppFn (#[as[0]!,as[1]!,.lam x t M bi,m,as[4]!,as[5]!]++ds)
 if(n == ``Eq.rec||n == ``Eq.casesOn)&&k≥6 then
  let .lam x t (.lam x' t' M bi') bi:=as[2]! |return e
  let(mi,hi):=if n == ``Eq.rec then(3,5)else(5,4)
  let(m,M,l):=sqDrop (k-6) as[mi]! M
  let ds:=sqKeep l (as.extract 6 k)
  let(α,a,b,h):=(as[0]!,as[1]!,if n == ``Eq.rec then as[4]! else as[3]!,as[hi]!)
  if !M.hasLooseBVar 0 && !M.hasLooseBVar 1 then return m.beta ds
  if !M.hasLooseBVar 0&&us.head? == some .zero then
   if let .forallE _ q G _:=M then
    if ds.size==1 && !G.hasLooseBVar 0 && !G.hasLooseBVar 2&&q.isAppOfArity ``Eq 3&&q.appArg! == .bvar 1 && !(q.appFn!.hasLooseBVar 1)&&m.isLambda then
     return m.beta #[sqSymm us.tail α a b h]
   return mkAppN (.const ``Eq.ndrec us) (#[α,a,.lam x t (M.lowerLooseBVars 1 1) bi,m,b,h]++ds)
  return mkAppN e.getAppFn ((as.extract 0 6).set! 2 (.lam x t (.lam x' t' M bi') bi)|>.set! mi m)|>(mkAppN · ds)
 if n == ``Eq.mpr&&k==4&&us==[.zero]then return sqMove 50 true as[0]! as[1]! as[2]! as[3]!
 if n == ``Eq.mp&&k==4&&us==[.zero]then return sqMove 50 false as[0]! as[1]! as[2]! as[3]!
 let found (p:Expr):Expr:=mkApp2 (.const ``Eq.refl [1]) (mkApp (.const ``Option [0]) (.const `Mine.PV [])) (mkApp2 (.const ``Option.some [0]) (.const `Mine.PV []) p)
 let shut (x:Expr):Bool:=!x.hasLooseBVars && !x.hasFVar
 if n == `Mine.Lk.here&&k==3&&shut as[1]! then return found as[2]!
 if n == `Mine.Lk.there&&k==7&&as[5]!.isAppOf ``Eq.refl&&shut as[1]! && shut as[2]! then return found as[3]!
 if n == ``Eq.symm&&k==4&&as[3]!.isAppOfArity ``Eq.symm 4 then return as[3]!.appArg!
 if n == ``List.append&&k==3&&as[1]!.isAppOf ``List.nil then return as[2]!
 if n == ``of_eq_true&&k==2 then
  let h:=as[1]!
  if h.isAppOfArity ``Eq.trans 6 then
   let b:=h.getAppArgs
   return sqMove 50 true as[0]! b[2]! b[4]! (sqTrue b[2]! b[5]!)
  return sqTrue as[0]! h
 return e
where sqTrue (p h:Expr):Expr :=
 if h.isAppOfArity ``eq_true 2 then h.appArg!
 else if h.isAppOfArity ``eq_self 2 then mkApp2 (.const ``Eq.refl h.getAppFn.constLevels!) h.appFn!.appArg! h.appArg!
 else mkApp2 (.const ``of_eq_true []) p h
abbrev SqT:=StateM (Std.HashMap ExprStructEq Expr)
def sqTrimB(self:Expr→SqT Expr)(e:Expr):SqT Expr:=do
 match e with
 | .app .. | .lam .. | .forallE .. | .proj .. | .letE .. | .mdata ..=>pure ()
 |_=>return e
 match(←get).get? ⟨e⟩with
 |some r=>return r
 |none=>pure ()
 let r ←match e with
  | .app ..=>do pure (sqTrimApp (mkAppN (←self e.getAppFn) (←e.getAppArgs.mapM self)))
  | .lam n t b i=>do pure (.lam n (←self t) (←self b) i)
  | .forallE n t b i=>do pure (.forallE n (←self t) (←self b) i)
  | .letE n t v b d=>do pure (.letE n (←self t) (←self v) (←self b) d)
  | .proj n i b=>do pure (.proj n i (←self b))
  | .mdata d b=>do pure (.mdata d (←self b))
  |_=>pure e
 modify (·.insert ⟨e⟩ r)
 return r
def sqTrim(e:Expr):Expr:=((Nat.repeat sqTrimB 12000 (fun e=>pure e) e).run {}).1
def squeezeAt(lim least:Nat)(e:Expr):MetaM Expr:=do
 let run:SqM Expr:=do
  let mut e ←sqNorm e
  e ←sqNorm (sqTrim e)
  let _ ←sqOpen e
  let key ←sqAlike least
  if !key.isEmpty then
   e:=((sqFold (←get) key e).run ({},{})).1
   modify fun s=>{s with nodes:={},order:=#[],levels:={}}
   e ←sqNorm e
   let _ ←sqOpen e
  let(bound,at_,top) ←sqPick e lim
  let s ←get
  let(r,_):=(sqLets s (sqBuild s bound at_) top e).run {}
  return r
 run.run' {lctx:=←getLCtx}
def sqSize:Nat→List Expr→Std.HashSet Expr→Nat→Nat
 |0,_,_,n=>n
 |_+1,[],_,n=>n
 |k+1,e::r,m,n =>
  if m.contains e then sqSize k r m n
  else match e with
   | .app f a=>sqSize k (f::a::r) (m.insert e) (n+32)
   | .lam _ t b _| .forallE _ t b _=>sqSize k (t::b::r) (m.insert e) (n+48)
   | .letE _ t v b _=>sqSize k (t::v::b::r) (m.insert e) (n+56)
   | .proj _ _ b=>sqSize k (b::r) (m.insert e) (n+48)
   |_=>sqSize k r m n
def squeeze(e:Expr):MetaM Expr:=do
 let n:=sqSize 100000000 [e] {} 0
 if n<8000||n>3000000 then return e
 let r ←squeezeAt 40 16 e
 return if sqSize 100000000 [r] {} 0<n then r else e
def layIn(env env0:Environment):Nat→Expr→Expr
 |0,e=>e
 |k+1,e=>e.replace fun x=>match x with
  | .const n us =>
   if(env0.find? n).isSome then none else match env.find? n with
   |some (.defnInfo d) =>
    let body:Bool:=match n with| .str _ s=>s == "_f" ||d.value.isConst|_=>false
    if body||(Meta.isMatcherCore env n&&sqSize 100000000 [d.value] {} 0<4000)then some (layIn env env0 k (d.value.instantiateLevelParams d.levelParams us))else none
   |_=>none
  |_=>none
def layOut(env env0:Environment):Nat→Name→StateM (NameSet×Array Declaration) Unit
 |0,_=>pure ()
 |k+1,n=>do
  if(←get).1.contains n||(env0.find? n).isSome then return
  let some c:=env.find? n|return
  let root:Name:=match c with| .ctorInfo i=>i.induct| .recInfo i=>i.all.head! | .inductInfo i=>i.all.head! |_=>n
  if root != n then return ←layOut env env0 k root
  modify fun(s,o)=>(s.insert n,o)
  let see (e:Expr):StateM (NameSet×Array Declaration) Unit:=e.getUsedConstants.forM (layOut env env0 k)
  see c.type
  let push (d:Declaration):StateM (NameSet×Array Declaration) Unit:=modify fun(s,o)=>(s,o.push d)
  match c with
  | .thmInfo v=>do
   let w:=layIn env env0 9 v.value
   see w
   push (.thmDecl {v with value:=w})
  | .defnInfo v=>do
   see v.value
   push (.defnDecl v)
   if let .str p s:=n then if p == `PySem.W.SL then layOut env env0 k (.str p ("e" ++(s.drop 1).toString))
  | .inductInfo v=>do
   let mut ts:List InductiveType:=[]
   for m in v.all do
    if let some (.inductInfo i):=env.find? m then
     see i.type
     let mut cs:List Constructor:=[]
     for x in i.ctors do
      if let some y:=env.find? x then
       modify fun(s,o)=>(s.insert x,o)
       see y.type
       cs:=cs++[{name:=x,type:=y.type}]
     modify fun(s,o)=>(s.insert m,o)
     ts:=ts++[{name:=m,type:=i.type,ctors:=cs}]
   push (.inductDecl v.levelParams v.numParams ts false)
  |_=>pure ()
def cleanTo(env0:Environment)(roots:List Name):MetaM Environment:=do
 let env ←getEnv
 let((),_,ds):=(roots.forM (layOut env env0 100000)).run ({},#[])
 let mut e:=env0
 for d in ds do
  let d' ←match d with
   | .thmDecl v=>if v.name == `Mine.tnF_eq then pure d else do pure (.thmDecl {v with value:=←squeeze v.value})
   |_=>pure d
  match e.addDeclCore 0 0 d' none with
  | .ok e'=>e:=e'
  | .error _=>match e.addDeclCore 0 0 d none with
   | .ok e'=>e:=e'
   | .error x=>throwError "cleanTo: {d.getNames}: {x.toMessageData {}}"
 return e
end
open PySem PySem.W PySem.Calls PyProof.Rows
abbrev ZE:=Lean.Expr
abbrev ZV:=Value->Shared->Prop
abbrev ZP:=Addr->Prop
noncomputable section
theorem irr:True:=by
  run_tac Lean.setReducibilityStatus ``wpAny .irreducible
  trivial
local macro_rules
  | `(tactic| omega) => `(tactic| run_tac linTac)
local macro_rules
  | `(tactic| kernel_rfl) => `(tactic| run_tac kRfl)
local macro_rules
  | `(tactic| decide +kernel) => `(tactic| run_tac kDec)
local macro_rules
  | `(‹nm›) => `(by walk_at "nm")
  | `(‹lk›) => `(by walk_at "lk")
  | `(‹sub›) => `(by walk_at "sub")
  | `(‹d›) => `(by decide)
  | `(‹k›) => `(by decide +kernel)
  | `(‹o›) => `(by omega)
  | `(‹s›) => `(by simp)
local macro_rules
  | `(⋯) => `(by kernel_rfl)
def A0:=@wpAny_bind
def A1:=@wpAny_pure
def A2:=@Heap.get?_push_of_some
def A3:=@Heap.get?_push_size
def A4:=@Nat.le_refl
def A5:=@wpAny_holding
def A6:=@Bool.and_eq_true_iff
def A7:=@Nat.le_trans
def A8:=@List.getElem?_eq_some_iff
def A9:=@List.all_eq_true
def Aa:=@wpAny_of_eq
def Ab:=@List.mem_cons
def Ac:=@Heap.lt_size
def Ad:=@Nat.le_succ
def Ae:=@List.mem_cons_of_mem
def Af:=@Heap.get?_update_self
def Ag:=@wpAny_standAt
def Ah:=@List.mem_cons_self
def Ai:=@beq_iff_eq
def Aj:=@wpAny_newObj_type
def Ak:=@Nat.le_of_ble_eq_true
def Al:=@List.getElem?_eq_getElem
def Am:=@Heap.get?_update_other
def An:=@wpAny_field
def Ao:=@wpAny_with_toks
def Ap:=@Nat.zero_le
def Aq:=@wpAny_execs_cons
def Ar:=@Option.isSome_iff_exists
def As:=@List.mem_of_getElem?
def At:=@Nat.lt_irrefl
def Au:=@Nat.ne_of_lt
def Av:=@wpAny_Constant_str
def Aw:=@beq_eq_false_iff_ne
def Ax:=@wpAny_seqItems
def Ay:=@List.mem_singleton
def Az:=@congrArg
def B0:=@wpAny_callSpecial?_slot
def B1:=@wpAny_mono
def B2:=@wpAny_items_cons
def B3:=@wpAny_call_entry
def B5:=@wpAny_loadName_local
def B6:=@wpAny_call
def B8:=@decide_eq_true
def B9:=@Nat.succ_le_succ
def Ba:=@codeAny_call_builtin
def Bb:=@Option.map_eq_some_iff
def Bc:=@wpAny_updateSeq
def Bd:=@decide_eq_false
def Be:=@PySem.Calls.Name_function_global
def Bf:=@looks_findIn
def Bg:=@PySem.F.slot_tuple_iterator_next
def Bh:=@Nat.lt_of_lt_of_le
def Bj:=@List.mem_range
def Bk:=@Option.some.inj
def Bl:=@wpAny_attempt
def Bm:=@seg_bind_wrap
def Bn:=@List.mem_map
def Bo:=@wpAny_isInstance
def Bp:=@List.mem_map_of_mem
def Bq:=@Looks.here
def Br:=@MethodCall_
def Bs:=@Looks.of_pure
def Bt:=@wpAny_items_nil
def Bu:=@wpAny_specialOf
def Bv:=@codeAny_builtin
def Bw:=@Int.fmod_lt_of_pos
def Bx:=@callWith_method1
def By:=@wpAny_Assign_Name
def Bz:=@Int.fmod_nonneg_of_pos
def C0:=@List.mem_filter
def C1:=@Nat.not_lt
def C2:=@Nat.succ_ne_self
def C4:=@Nat.lt_or_ge
def C5:=@PySem.Calls.spliced_cons
def C6:=@Nat.lt_succ_of_lt
def C7:=@isSubtype_of_subB
def C8:=@wpAny_execs_nil
def C9:=@wpAny_typeOf
def Ca:=@codeAny_mono
def Cb:=@plainId_quiet
def Cc:=@plainGet_of
def Cd:=@Nat.lt_succ_self
def Ce:=@wpAny_Constant_int
def Cf:=@wpAny_rule
def Cg:=@wpAny_setField
def Ch:=@Int.natCast_nonneg
def Ci:=@Ne.symm
def Cj:=@Classical.byContradiction
def Ck:=@Array.getElem?_eq_getElem
def Cl:=@List.mem_append
def Cn:=@Looks.ld
def Co:=@List.getElem_mem
def Cp:=@PySem.Calls.loadGlobal_builtin
def Cq:=@wpAny_loadPart
def Cr:=@PySem.F.slot_dict_getattribute
def Cs:=@PySem.F.slot_set_getattribute
def Ct:=@wpAny_load
def Cu:=@wpAny_setField_rec
def Cv:=@Obj.data_mapFields
def Cw:=@slot_listiter_next
def Cx:=@pushCells_keeps
def Cy:=@Obj.isFreed_of_fields
def Cz:=@wpAny_Name
def D6:=@wpAny_letGo
def Da:=@wpAny_newFunctionEnv_cells
def Db:=@Nat.pow_le_pow_right
def Dc:=@Option.isNone_iff_eq_none
def Dd:=@wpAny_Assign_stores
def De:=@pairTrees_cons_walk
def Dh:=@Heap.SameBut.update
def Di:=@wpAny_comprehension_free
def Dj:=@PySem.F.args_tuple_add_2
def Dk:=@PySem.F.ks_slot_super_ga
def Dl:=@codeAny_of_tree
def Dm:=@Nat.not_lt_zero
def Dn:=@Code.quiet_builtin
def Do:=@PySem.F.args_tuple_iterator_next_1
def Dp:=@PySem.F.entry_tuple_add
def Dq:=@PySem.F.slot_tuple_iter
def Dr:=@PySem.Calls.spliced_nil
def Ds:=@PySem.F.entry_tuple_iterator_next
def Dt:=@wpAny_truthy_bool
def Du:=@Nat.le_succ_of_le
def Dv:=@wpAny_assign_Name
def Dw:=@Nat.le_of_lt
def Dx:=@getMethod_builtin
def Dy:=@PySem.F.slot_tuple_add
def Dz:=@WalksT.enumerateD
def E0:=@callWith_function
def E1:=@Nat.lt_succ_of_le
def E3:=@wpAny_storeName_local
def E4:=@List.length_filter_le
def E5:=@PySem.F.type_dict_get
def E6:=@PySem.F.slot_dict_get
def E7:=@Nat.le_add_right
def E8:=@entryFor_of_tree
def E9:=@Array.eq_empty_of_size_eq_zero
def Ea:=@wpAny_onRaise
def Eb:=@PySem.Calls.loadGlobal_global
def Ec:=@wpAny_letTemporaryGo
def Ed:=@wpAny_throw
def Ee:=@Array.mem_toList_iff
def Ef:=@Nat.le_antisymm
def Eg:=@F.slot_zip_next
def Eh:=@Heap.DictOf.new
def Ei:=@PySem.F.slot_dict_setdefault
def Ej:=@List.length_map
def Ek:=@wpAny_Constant_bool
def El:=@F.entry_extend_loop
def Em:=@F.plain_extend_loop
def En:=@List.map_congr_left
def Eo:=@wpAny_mkText
def Ep:=@wpAny_Compare1
def Er:=@Nat.lt_of_le_of_ne
def Es:=@Heap.size_push
def Et:=@Subscript_
def Eu:=@typeIs_str
def Ev:=@isSubtype_stop
def Ew:=@seg_execs_cons
def Ex:=@slot_tuple_getitem
def Ey:=@Array.getElem?_eq_some_iff
def Ez:=@List.drop_eq_getElem_cons
def Fc:=@List.mem_of_find?_eq_some
def Fd:=@PySem.F.type_set_contains
def Fe:=@Calls.call_function_entry
def Ff:=@PySem.F.plain_extend_loop
def Fg:=@wpAny_Return_some
def Fh:=@wpAny_pyIter_enum
def Fi:=@Obj.cls_mapFields
def Fj:=@List.length_filterMap_le
def Fk:=@slot_gen_next
def Fl:=@wpAny_handled
def Fm:=@Array.getElem?_push_size
def Fn:=@List.mem_reverse
def Fp:=@beq_self_eq_true
def Fq:=@List.length_eq_zero_iff
def Fs:=@noFill_tuple_add
def Ft:=@wpAny_pyIter_gen
def Fu:=@wpAny_Try_except
def Fv:=@wpAny_askSetting
def Fw:=@PySem.F.plainAttrs_dict
def Fx:=@wpAny_Dict_empty
def Fy:=@PySem.F.entry_tuple_new
def Fz:=@codeAny_call_builtin_at
def G6:=@PySem.typeIs_str
def G7:=@concat_meets
def G8:=@Nat.ne_of_gt
def G9:=@strKind_is
def Ga:=@Nat.mod_lt
def Gb:=@wpAny_alloc
def Gc:=@wpAny_Slice
def Gd:=@wpAny_runValue
def Ge:=@Meets.of_wp
def Gf:=@F.conv_sub_int
def Gg:=@F.madeHere_int
def Gh:=@looks_clsIn
def Gi:=@wpAny_point
def Gj:=@wpAny_mkInt
def Gk:=@looks_mroIn
def Gm:=@List.nodup_nil
def Gn:=@wpAny_listPart
def Go:=@Nat.add_le_add
def Gp:=@args_cons
def Gq:=@method_fn
def Gr:=@seq_tuple_add
def Gs:=@wpAny_release
def Gu:=@Looks.of_peek
theorem wpM{M:Model}{A:Around}{α:Type}{t:Sem α}{Q Q':α->Shared->Prop}{E:ZV}{s:Shared}(h:wpAny M A t Q E s)(k:∀ a s,Q a s->Q' a s):wpAny M A t Q' E s:=B1 h k fun _ _ x=>x
inductive PV where
 |none
 |bool (b:Bool)
 |int (i:Int)
 |str (x:Str)
 |tup (l:List PV)
 |lst (l:List PV)
 |rng (a b:Int)
 |raw (v:Value)
 |stk (x:Str) (P:Nat->Prop)
 |own (P:(Addr->Prop)->Heap->Value->Prop)
inductive Rp (Z:ZP) (h:Heap):PV->Value->Prop
 |none:Rp Z h .none .none
 |bool (b:Bool):Rp Z h (.bool b) (.bool b)
 |int (i:Int) (t:Tok):Rp Z h (.int i) (.int i t)
 |str (x:Str) (t:Tok):Rp Z h (.str x) (.str x t)
 |tup {l:List PV} {a:Addr} {o:Obj} {items:Array Value} {n:Nat}:¬Z a->h.get? a=some o->o.cls=.type "tuple"->o.data=.seq items n->items.size=l.length ->
   (∀(i:Nat) p v,l[i]? = some p->items[i]? = some v->Rp Z h p v)->Rp Z h (.tup l) (.ref a)
 |lst {l:List PV} {a:Addr} {o:Obj} {items:Array Value} {n:Nat}:¬Z a->h.get? a=some o->o.cls=.type "list"->o.data=.seq items n->items.size=l.length ->
   (∀(i:Nat) p v,l[i]? = some p->items[i]? = some v->Rp Z h p v)->Rp Z h (.lst l) (.ref a)
 |rng {a:Addr} {x y:Int} {t u v:Tok}:¬Z a->h.get? a=some {cls:=.type "range",dict:=none,data:=.fields #[.int x t,.int y u,.int 1 v],slots:=#[]}->Rp Z h (.rng x y) (.ref a)
 |raw (v:Value):Rp Z h (.raw v) v
 |stk (x:Str) (P:Nat->Prop) (t:Tok):P t->Rp Z h (.stk x P) (.str x t)
 |own (P:(Addr->Prop)->Heap->Value->Prop) (v:Value):(∀ Z' h',(∀ b o,¬Z b->h.get? b=some o->h'.get? b=some o)->(∀ a o,h.get? a=some o->Z' a->Z a)->P Z' h' v)->Rp Z h (.own P) v
def GnK(g g':Array GenState):Prop:=(∀(i:Nat) (x:GenState),g[i]? = some x->g'[i]? = some x)/\∀(i:Nat) (x:GenState),g'[i]? = some x->g[i]? = some x\/x.bare=true
theorem GnK.refl(g:Array GenState):GnK g g:=⟨fun _ _ e=>e,fun _ _ e=>.inl e⟩
theorem GnK.trans{a b c:Array GenState}(x:GnK a b)(y:GnK b c):GnK a c:=⟨fun i z e=>y.1 i z (x.1 i z e),fun i z e=>(y.2 i z e).elim (fun e=>x.2 i z e) .inr⟩
def Kp(Z:ZP)(s s':Shared):Prop:=∃ h' tk g,s'={s with heap:=h',toks:=tk,gens:=g}/\(∀ b o,¬Z b->s.heap.get? b=some o->h'.get? b=some o)/\GnK s.gens g/\s.toks<=tk
abbrev N0:Addr->Prop:=fun _=>False
theorem Kp.refl(Z:ZP)(s:Shared):Kp Z s s:=⟨s.heap,s.toks,s.gens,rfl,fun _ _ _ e=>e,GnK.refl _,A4 _⟩
theorem Kp.get{Z:ZP}{s s':Shared}(x:Kp Z s s'){b:Addr}{o:Obj}(z:¬Z b)(e:s.heap.get? b=some o):s'.heap.get? b=some o:=by
 obtain⟨h1,t1,g1,rfl,k1,_⟩:=x
 exact k1 b o z e
theorem Kp.re{Z W:ZP}{s s':Shared}(x:Kp W s s')(hk:∀ b o,¬Z b->s.heap.get? b=some o->s'.heap.get? b=some o):Kp Z s s':=by
 obtain⟨h1,t1,g1,rfl,k1,c1⟩:=x
 exact⟨h1,t1,g1,rfl,hk,c1⟩
theorem Kp.join{Z X Y:ZP}{s s' s'':Shared}(x:Kp X s s')(y:Kp Y s' s'')(hk:∀ b o,¬Z b->s.heap.get? b=some o->s''.heap.get? b=some o):Kp Z s s'':=by
 obtain⟨h1,t1,g1,rfl,k1,c1⟩:=x
 obtain⟨h2,t2,g2,rfl,k2,c2⟩:=y
 exact⟨h2,t2,g2,rfl,hk,c1.1.trans c2.1,A7 c1.2 c2.2⟩
theorem Kp.tk{Z:ZP}{s s':Shared}(x:Kp Z s s'):s.toks<=s'.toks:=by
 obtain⟨h1,t1,g1,rfl,k1,c1⟩:=x
 exact c1.2
theorem Kp.trans{Z:ZP}{s s' s'':Shared}(x:Kp Z s s')(y:Kp Z s' s''):Kp Z s s'':=x.join y fun b o z e=>y.get z (x.get z e)
theorem Kp.weak{Z Z':ZP}{s s':Shared}(x:Kp Z s s')(hz:∀ a,Z a->Z' a):Kp Z' s s':=x.re fun b o z e=>x.get (fun q=>z (hz b q)) e
theorem Kp.z{Z:ZP}{s s':Shared}(x:Kp N0 s s'):Kp Z s s':=x.weak fun _ h=>h.elim
theorem Kp.mk{Z:ZP}{s:Shared}{h':Heap}{tk:Nat}(hk:∀ b o,¬Z b->s.heap.get? b=some o->h'.get? b=some o)(ht:s.toks<=tk:=by first|exact A4 _|exact Ad _|assumption|omega):Kp Z s {s with heap:=h',toks:=tk}:=⟨h',tk,s.gens,rfl,hk,GnK.refl _,ht⟩
theorem Kp.toks(Z:ZP)(s:Shared)(t:Nat)(ht:s.toks<=t:=by first|exact A4 _|exact Ad _|assumption|omega):Kp Z s {s with toks:=t}:=Kp.mk (fun _ _ _ e=>e) ht
theorem Kp.push(Z:ZP)(s:Shared)(o:Obj):Kp Z s {s with heap:=s.heap.push o}:=Kp.mk (tk:=s.toks) fun _ _ _ e=>A2 _ e
theorem Rp.keep{Z:ZP}{h h':Heap}(hk:∀ b o,¬Z b->h.get? b=some o->h'.get? b=some o){p:PV}{v:Value}(x:Rp Z h p v):Rp Z h' p v:=by
 induction x with
 |none=>exact .none
 |bool b=>exact .bool b
 |int i t=>exact .int i t
 |str x t=>exact .str x t
 |tup z e c d hs _ ih=>exact .tup z (hk _ _ z e) c d hs ih
 |lst z e c d hs _ ih=>exact .lst z (hk _ _ z e) c d hs ih
 |rng z e=>exact .rng z (hk _ _ z e)
 |raw v=>exact .raw v
 |stk x P t q=>exact .stk x P t q
 |own P v q=>exact .own P v fun Z'' h'' k hz=>q Z'' h'' (fun b o z e=>k b o z (hk b o z e)) fun a o e z''=>Cj fun n=>n (hz a o (hk a o n e) z'')
theorem Rp.kp{Z:ZP}{s s':Shared}{p:PV}{v:Value}(x:Rp Z s.heap p v)(k:Kp Z s s'):Rp Z s'.heap p v:=by
 exact x.keep fun b o z e=>k.get z e
theorem Rp.kp0{Z:ZP}{s s':Shared}{p:PV}{v:Value}(x:Rp Z s.heap p v)(k:Kp N0 s s'):Rp Z s'.heap p v:=x.kp k.z
theorem Rp.sub{Z Z':ZP}{h:Heap}{p:PV}{v:Value}(x:Rp Z h p v)(hz:∀ a o,h.get? a=some o->Z' a->Z a):Rp Z' h p v:=by
 induction x with
 |none=>exact .none
 |bool b=>exact .bool b
 |int i t=>exact .int i t
 |str x t=>exact .str x t
 |tup z e c d hs _ ih=>exact .tup (fun q=>z (hz _ _ e q)) e c d hs ih
 |lst z e c d hs _ ih=>exact .lst (fun q=>z (hz _ _ e q)) e c d hs ih
 |rng z e=>exact .rng (fun q=>z (hz _ _ e q)) e
 |raw v=>exact .raw v
 |stk x P t q=>exact .stk x P t q
 |own P v q=>exact .own P v fun Z'' h'' k hz'=>q Z'' h'' (fun b o z e=>k b o (fun q=>z (hz b o e q)) e) fun a o e z''=>hz a o e (hz' a o e z'')
structure Rm(n:Nat)(A:Around):Prop where
 hd:A.handled=none
 dp:A.depth+8*n+8<recursionLimit
 un:A.units+32*n+64<cLine
structure MO where
 is:List Value->Obj->Prop
 ps:List PV
structure Ctx where
 H:Heap
 D:Addr->Prop
 L:List (Addr×MO)
 tk:Nat:=0
def MOk(Z:ZP)(h:Heap)(a:Addr)(m:MO):Prop:=∃ o vs,h.get? a=some o/\m.is vs o/\Paired (Rp Z h) m.ps vs
theorem aA{α β:Type}{F G:α->β->Prop}(h:∀ a b,F a b->G a b){l:List α}{vs:List β}(x:Paired F l vs):Paired G l vs:=by
 induction x with
 |nil=>exact .nil
 |cons h' _ ih=>exact .cons (h _ _ h') ih
theorem MOk.keep{Z:ZP}{h h':Heap}{a:Addr}{m:MO}(x:MOk Z h a m)(ha:∀ o,h.get? a=some o->h'.get? a=some o)(hk:∀ b o,¬Z b->h.get? b=some o->h'.get? b=some o):MOk Z h' a m:=by
 obtain⟨o,vs,e1,e2,e3⟩:=x
 exact⟨o,vs,ha o e1,e2,aA (fun _ _ r=>r.keep hk) e3⟩
theorem MOk.sub{Z Z':ZP}{h:Heap}{a:Addr}{m:MO}(x:MOk Z h a m)(hz:∀ a o,h.get? a=some o->Z' a->Z a):MOk Z' h a m:=by
 obtain⟨o,vs,e1,e2,e3⟩:=x
 exact⟨o,vs,e1,e2,aA (fun _ _ r=>r.sub hz) e3⟩
structure GT(T:Heap)(Z:ZP)(s:Shared):Prop where
 top:∀ b o,T.get? b=some o->s.heap.get? b=some o
 zex:∀ a,Z a->∃ o,s.heap.get? a=some o
structure GS(H:Ctx)(Z:ZP)(s:Shared):Prop extends GT H.H Z s where
 tk:H.tk<=s.toks
 dz:∀ a,H.D a->Z a
 ld:∀ a m,H.L.lookup a=some m->H.D a/\MOk Z s.heap a m
theorem GS.kp0{H:Ctx}{Z:ZP}{s s':Shared}(x:GS H Z s)(k:Kp N0 s s'):GS H Z s' :=
 ⟨⟨fun b o e=>k.get (fun q=>q) (x.top b o e),fun a z=>let⟨o,e⟩:=x.zex a z;⟨o,k.get (fun q=>q) e⟩⟩,A7 x.tk k.tk,x.dz,fun a m e=>let⟨z,q⟩:=x.ld a m e;⟨z,q.keep (fun o e=>k.get (fun q=>q) e) fun b o _ e=>k.get (fun q=>q) e⟩⟩
theorem GT.lt{T:Heap}{Z:ZP}{s:Shared}(x:GT T Z s){a:Addr}(z:Z a):a<s.heap.objs.size:=let⟨_,e⟩:=x.zex a z;Ac e
theorem GS.free{H:Ctx}{Z:ZP}{s:Shared}(x:GS H Z s){a:Addr}(h:s.heap.get? a=none):¬H.D a:=fun d=>by
 obtain⟨o,e⟩:=x.zex a (x.dz a d)
 rw[h]at e;cases e
theorem GT.free{T:Heap}{Z:ZP}{s:Shared}(x:GT T Z s){a:Addr}(h:s.heap.get? a=none):¬Z a:=fun d=>by
 obtain⟨o,e⟩:=x.zex a d
 rw[h]at e;cases e
theorem GT.none{T:Heap}{Z:ZP}{s:Shared}(x:GT T Z s){a:Addr}(h:s.heap.get? a=none):T.get? a=none:=by
 cases e:T.get? a with
 |none=>rfl
 |some o=>rw[x.top a o e]at h;cases h
theorem Kp.none{Z:ZP}{s s':Shared}(x:Kp Z s s'){a:Addr}(z:¬Z a)(h:s'.heap.get? a=none):s.heap.get? a=none:=by
 cases e:s.heap.get? a with
 |none=>rfl
 |some o=>rw[x.get z e]at h;cases h
theorem aE(h:Heap){a:Addr}(ha:h.objs.size<=a):h.get? a=none:=by
 cases e:h.get? a with
 |none=>rfl
 |some o=>exact absurd (Ac e) (C1.mpr ha)
theorem GT.new{T:Heap}{Z:ZP}{s:Shared}(x:GT T Z s):¬Z s.heap.objs.size:=fun z=>At _ (x.lt z)
def Fa(env:Env)(a:Addr):Prop:=a=env.locals\/∃ y,env.cells.lookup y=some a
def Fb(xs:List Str)(env:Env)(a:Addr):Prop:=a=env.locals\/∃ y,y∈xs/\env.cells.lookup y=some a
theorem Fb.fa{xs:List Str}{env:Env}{a:Addr}(h:Fb xs env a):Fa env a:=h.elim .inl fun⟨y,_,e⟩=>.inr ⟨y,e⟩
structure FI(H:Ctx)(Z:ZP)(env:Env)(ρ:List (Str×PV))(s:Shared):Prop extends GS H Z s where
 ns:∃ m,s.heap.Ns env.locals m/\∀ x p,ρ.lookup x=some p->env.kindOf x=some .local->∃ v,m x=some v/\Rp Z s.heap p v
 cl:∀ x p,ρ.lookup x=some p->env.kindOf x≠some .local->(env.kindOf x=some .cell\/env.kindOf x=some .free)/\∃ c v,env.cells.lookup x=some c/\s.heap.IsCell c (some v)/\Rp Z s.heap p v
 zc:∀ x c,env.cells.lookup x=some c->Z c/\∃ v,s.heap.IsCell c v
 lf:∀ a,H.D a->¬Fa env a
structure FS(T:Heap)(Z:ZP)(env:Env):Prop where
 zt:∀ a,Z a->T.get? a=none
 fn:env.scope.kind=.function
 gl:env.globals=mainGlobals
 bl:env.builtins=builtinsNs
 zl:Z env.locals
 ap:∀ x y c,env.cells.lookup x=some c->env.cells.lookup y=some c->x=y
theorem FI.kp0{H:Ctx}{Z:ZP}{env:Env}{ρ:List (Str×PV)}{s s':Shared}(x:FI H Z env ρ s)(k:Kp N0 s s'):FI H Z env ρ s':=by
 have G:=x.toGS.kp0 k
 have k1:∀ b o,s.heap.get? b=some o->s'.heap.get? b=some o:=fun b o e=>k.get (fun q=>q) e
 refine⟨G,?_,?_,?_,x.lf⟩
 ·obtain⟨m,hn,hm⟩:=x.ns
  refine⟨m,hn.keeps k1,fun y p e l=>?_⟩
  obtain⟨v,e1,e2⟩:=hm y p e l
  exact⟨v,e1,e2.keep fun b o _=>k1 b o⟩
 ·intro y p e l
  obtain⟨q,c,v,e1,e2,e3⟩:=x.cl y p e l
  exact⟨q,c,v,e1,e2.keeps k1,e3.keep fun b o _=>k1 b o⟩
 ·intro y c e
  obtain⟨z,v,e1⟩:=x.zc y c e
  exact⟨z,v,e1.keeps k1⟩
section
variable(aa:Program)(w:World)(A:Around)(H:Ctx)(Z:ZP)(env:Env)(ρ:List (Str×PV))
structure EX(e:Expr)(p:PV):Prop where
 run:∀ s (E:ZV),FI H Z env ρ s->wpAny (model aa w) A (eval e env) (fun v s'=>Rp Z s'.heap p v/\Kp N0 s s') E s
structure TX(e:Expr)(b:Bool):Prop where
 run:∀ s (E:ZV),FI H Z env ρ s->wpAny (model aa w) A (isTrue e env (eval e env)) (fun v s'=>v=b/\Kp N0 s s') E s
structure LX(pos:Pos)(es:List Expr)(ps:List PV):Prop where
 run:∀ s (E:ZV),FI H Z env ρ s->wpAny (model aa w) A (spliced (backTo pos (starEach es env))) (fun vs s'=>Paired (Rp Z s'.heap) ps vs/\Kp N0 s s') E s
end
section
variable(aa:Program)(w:World)(A:Around)(H:Ctx)(Z:ZP)
def O2(f:Value->Value->Sem Value)(p q r:PV):Prop :=
 ∀ s (E:ZV) v u,GS H Z s->Rp Z s.heap p v->Rp Z s.heap q u->wpAny (model aa w) A (f v u) (fun y s'=>Rp Z s'.heap r y/\Kp N0 s s') E s
def OT(p:PV)(b:Bool):Prop :=
 ∀ s (E:ZV) v,GS H Z s->Rp Z s.heap p v->wpAny (model aa w) A (truthy v) (fun y s'=>y=b/\Kp N0 s s') E s
end
section
variable{aa:Program}{w:World}{A:Around}{H:Ctx}{Z:ZP}{env:Env}{ρ:List (Str×PV)}
theorem EX.name{x:Str}{pos:Pos}{p:PV}(S:FS H.H Z env)(hx:ρ.lookup x=some p)(hd:(x==("__debug__" : Str))=false)(hc:(x==("__classdict__" : Str))=false):EX aa w A H Z env ρ (.Name x pos) p:=by
 refine⟨fun s E F=>?_⟩
 refine Cz ?_ hd
 by_cases hl:env.kindOf x=some .local
 ·obtain⟨m,hn,hm⟩:=F.ns
  obtain⟨v,e1,e2⟩:=hm x p hx hl
  exact B5 S.fn hl hn e1 ⟨e2,Kp.refl _ _⟩
 ·obtain⟨q,c,v,e1,e2,e3⟩:=F.cl x p hx hl
  rcases q with q|q
  ·exact wpAny_loadName_cell S.fn q e1 e2 ⟨e3,Kp.refl _ _⟩
  ·refine wpAny_loadName_free S.fn q e1 e2 ⟨e3,Kp.refl _ _⟩ hc
theorem EX.cint{i:Int}{k:Nat}{pos:Pos}:EX aa w A H Z env ρ (.Constant (.int i) k pos) (.int i):=⟨fun s E F=>Ce ⟨.int _ _,Kp.toks _ _ _⟩⟩
theorem EX.cstr{x:Str}{k:Nat}{pos:Pos}:EX aa w A H Z env ρ (.Constant (.str x) k pos) (.str x):=⟨fun s E F=>Av ⟨.str _ _,Kp.toks _ _ _⟩⟩
theorem EX.cbool{b:Bool}{k:Nat}{pos:Pos}:EX aa w A H Z env ρ (.Constant (.bool b) k pos) (.bool b):=⟨fun s E F=>Ek ⟨.bool _,Kp.refl _ _⟩⟩
theorem EX.cnone{k:Nat}{pos:Pos}:EX aa w A H Z env ρ (.Constant .none k pos) .none:=⟨fun s E F=>wpAny_Constant_none ⟨.none,Kp.refl _ _⟩⟩
theorem EX.bin{l r:Expr}{op:Operator}{pos:Pos}{p q y:PV}(hl:EX aa w A H Z env ρ l p)(hr:EX aa w A H Z env ρ r q)(ho:O2 aa w A H Z (binaryOp op) p q y):EX aa w A H Z env ρ (.BinOp l op r pos) y:=by
 refine⟨fun s E F=>?_⟩
 refine wpAny_BinOp (wpM (hl.run s E F) (fun v s_1 h_1=>wpM (hr.run s_1 E (F.kp0 h_1.2)) (fun u s_2 h_2=>wpM (ho s_2 E v u ((F.kp0 h_1.2).kp0 h_2.2).toGS (h_1.1.kp0 h_2.2) h_2.1) (fun z s₃ h_3=>⟨h_3.1,h_1.2.trans (h_2.2.trans h_3.2)⟩))))
theorem EX.cmp{l r:Expr}{op:CmpOp}{pos:Pos}{p q y:PV}(hl:EX aa w A H Z env ρ l p)(hr:EX aa w A H Z env ρ r q)(ho:O2 aa w A H Z (compareOp op) p q y)(hm:behindInMarks op r=false):EX aa w A H Z env ρ (.Compare l [op] [r] pos) y:=by
 refine⟨fun s E F=>?_⟩
 refine Ep (wpM (hl.run s E F) (fun v s_1 h_1=>wpM (hr.run s_1 E (F.kp0 h_1.2)) (fun u s_2 h_2=>wpM (ho s_2 E v u ((F.kp0 h_1.2).kp0 h_2.2).toGS (h_1.1.kp0 h_2.2) h_2.1) (fun z s₃ h_3=>⟨h_3.1,h_1.2.trans (h_2.2.trans h_3.2)⟩)))) hm
theorem TX.cmp{l r:Expr}{op:CmpOp}{pos:Pos}{p q:PV}{b:Bool}(hl:EX aa w A H Z env ρ l p)(hr:EX aa w A H Z env ρ r q)(ho:O2 aa w A H Z (compareOp op) p q (.bool b))(hm:behindInMarks op r=false):TX aa w A H Z env ρ (.Compare l [op] [r] pos) b:=by
 refine⟨fun s E F=>?_⟩
 refine wpAny_isTrue_Compare1 (wpM (hl.run s E F) (fun v s_1 h_1=>wpM (hr.run s_1 E (F.kp0 h_1.2)) (fun u s_2 h_2=>wpM (ho s_2 E v u ((F.kp0 h_1.2).kp0 h_2.2).toGS (h_1.1.kp0 h_2.2) h_2.1) (fun z s₃ h_3=>?_)))) hm
 obtain⟨h_3,k_3⟩:=h_3
 cases h_3
 exact Dt ⟨rfl,h_1.2.trans (h_2.2.trans k_3)⟩
theorem TX.val{e:Expr}{p:PV}{b:Bool}(h:EX aa w A H Z env ρ e p)(ho:OT aa w A H Z p b)(he:isTrue e env (eval e env)=(do let v <-eval e env;standAt e.pos;holding [v] (truthy v))):TX aa w A H Z env ρ e b:=by
 refine⟨fun s E F=>?_⟩
 exact wpAny_isTrue_value (wpM (h.run s E F) (fun v s_1 h_1=>wpM (ho s_1 E v (F.kp0 h_1.2).toGS h_1.1) (fun z s₃ h_3=>⟨h_3.1,h_1.2.trans h_3.2⟩))) he
theorem TX.not{e:Expr}{b:Bool}{pos:Pos}(h:TX aa w A H Z env ρ e b):TX aa w A H Z env ρ (.UnaryOp .Not e pos) (!b):=by
 refine⟨fun s E F=>?_⟩
 exact wpAny_isTrue_Not (wpM (h.run s E F) (fun v s_1 h_1=>⟨by rw[h_1.1],h_1.2⟩))
theorem EX.ifexp{t a b:Expr}{pos:Pos}{c:Bool}{p:PV}(ht:TX aa w A H Z env ρ t c)(ha:c=true->EX aa w A H Z env ρ a p)(hb:c=false->EX aa w A H Z env ρ b p):EX aa w A H Z env ρ (.IfExp t a b pos) p:=by
 refine⟨fun s E F=>?_⟩
 refine wpAny_IfExp (wpM (ht.run s E F) (fun v s_1 h_1=>?_))
 obtain⟨rfl,k⟩:=h_1
 cases v with
 |true=>exact wpM ((ha rfl).run s_1 E (F.kp0 k)) (fun z s_2 h_2=>⟨h_2.1,k.trans h_2.2⟩)
 |false=>exact wpM ((hb rfl).run s_1 E (F.kp0 k)) (fun z s_2 h_2=>⟨h_2.1,k.trans h_2.2⟩)
theorem LX.nil{pos:Pos}:LX aa w A H Z env ρ pos [] []:=⟨fun s E F=>Bt ⟨.nil,Kp.refl _ _⟩⟩
theorem Paired.kp0{Z:ZP}{s s':Shared}{ps:List PV}{vs:List Value}(x:Paired (Rp Z s.heap) ps vs)(k:Kp N0 s s'):Paired (Rp Z s'.heap) ps vs:=by
 induction x with
 |nil=>exact .nil
 |cons h _ ih=>exact .cons (h.kp0 k) ih
theorem LX.cons{pos:Pos}{e:Expr}{es:List Expr}{p:PV}{ps:List PV}(h:EX aa w A H Z env ρ e p)(hs:LX aa w A H Z env ρ pos es ps)(he:starEach (e::es) env=(false,eval e env)::starEach es env):LX aa w A H Z env ρ pos (e::es) (p::ps):=by
 refine⟨fun s E F=>?_⟩
 exact B2 (wpM (h.run s E F) (fun v s_1 h_1=>wpM (hs.run s_1 E (F.kp0 h_1.2)) (fun vs s_2 h_2=>⟨.cons (h_1.1.kp0 h_2.2) h_2.1,h_1.2.trans h_2.2⟩))) he
theorem a8{α β:Type}{F:α->β->Prop}{l:List α}{vs:List β}(x:Paired F l vs):vs.length=l.length/\∀(i:Nat) p v,l[i]? = some p->vs[i]? = some v->F p v:=by
 induction x with
 |nil=>exact⟨rfl,fun i p v e=>by simp at e⟩
 |cons h _ ih =>
  refine⟨by simp[ih.1],fun i p v e1 e2=>?_⟩
  cases i with
  |zero=>simp at e1 e2;subst e1 e2;exact h
  |succ i=>simp at e1 e2;exact ih.2 i p v e1 e2
theorem EX.tuple{es:List Expr}{k:Nat}{pos:Pos}{ps:List PV}(h:LX aa w A H Z env ρ pos es ps)(hn:ps.length<=sizeLine):EX aa w A H Z env ρ (.Tuple es k pos) (.tup ps):=by
 refine⟨fun s E F=>?_⟩
 refine wpAny_Tuple (wpM (h.run s E F) (fun vs s_1 h_1=>?_))
 obtain⟨hl,hi⟩:=a8 h_1.1
 have G:=(F.kp0 h_1.2).toGS
 have k:=Kp.push N0 s_1 {cls:=.type "tuple",data:=.seq vs.toArray}
 refine⟨by rw[hl];exact hn,.tup G.new (A3 _ rfl) rfl rfl (by simpa using hl) (fun i p v e1 e2=>?_),h_1.2.trans k⟩
 exact(hi i p v e1 (by simpa using e2)).kp0 k
theorem EX.list{es:List Expr}{pos:Pos}{ps:List PV}(h:LX aa w A H Z env ρ pos es ps)(hn:ps.length<=sizeLine):EX aa w A H Z env ρ (.List es pos) (.lst ps):=by
 refine⟨fun s E F=>?_⟩
 refine wpAny_List (wpM (h.run s E F) (fun vs s_1 h_1=>?_))
 obtain⟨hl,hi⟩:=a8 h_1.1
 have G:=(F.kp0 h_1.2).toGS
 have k:=Kp.push N0 s_1 {cls:=.type "list",data:=.seq vs.toArray}
 refine⟨by rw[hl];exact hn,.lst G.new (A3 _ rfl) rfl rfl (by simpa using hl) (fun i p v e1 e2=>?_),h_1.2.trans k⟩
 exact(hi i p v e1 (by simpa using e2)).kp0 k
theorem a7{α:Type}(x y:Str)(p:α)(r:List (Str×α)):List.lookup y ((x,p)::r)=if y=x then some p else List.lookup y r:=by
 rw[List.lookup_cons]
 by_cases h:y=x
 ·subst h;simp
 ·have:(y==x)=false:=Aw.mpr h
  rw[this,if_neg h]
theorem iC{h:Heap}{L c:Addr}{m:Str->Option Value}{v:Option Value}(hn:h.Ns L m)(hc:h.IsCell c v):c≠L:=by
 rintro rfl
 obtain⟨o,es,ep,e1,e2,_⟩:=hn
 obtain⟨o',e3,e4⟩:=hc
 rw[e1]at e3;cases e3
 rw[e2]at e4;cases e4
theorem FI.store{s:Shared}{E:ZV}{x:Str}{p:PV}{v:Value}(S:FS H.H Z env)(F:FI H Z env ρ s)(hv:Rp Z s.heap p v)
  (hk:env.kindOf x=some .local\/(env.kindOf x=some .cell/\(env.cells.lookup x).isSome=true)) :
  wpAny (model aa w) A (storeName env x v) (fun _ s'=>FI H Z env ((x,p)::ρ) s'/\Kp (Fb [x] env) s s') E s:=by
 have hp:(env.scope.kind==.class||(env.scope.kind==.module&&env.locals != env.globals))=false:=by rw[S.fn];rfl
 obtain⟨m,hn,hm⟩:=F.ns
 rcases hk with hl|⟨hl,hc⟩
 ·refine E3 hl hn (fun h' hn' hs'=>?_) hp
  have kz:∀ b o,¬Z b->s.heap.get? b=some o->h'.get? b=some o:=fun b o z e=>(hs'.2 b (fun q=>z (q▸S.zl))).trans e
  refine⟨⟨⟨⟨fun b o e=>?_,fun a z=>?_⟩,Du F.tk,F.dz,fun a m e=>⟨(F.ld a m e).1,(F.ld a m e).2.keep (fun o e'=>(hs'.2 a fun q=>F.lf a (F.ld a m e).1 (.inl q)).trans e') kz⟩⟩,⟨_,hn',fun y q e l=>?_⟩,fun y q e l=>?_,fun y c e=>?_,F.lf⟩,Kp.mk fun b o z e=>(hs'.2 b (fun q=>z (.inl q))).trans e⟩
  ·exact kz b o (fun z=>by rw[S.zt b z]at e;cases e) (F.top b o e)
  ·by_cases ha:a=env.locals
   ·subst ha;obtain⟨o,_,_,e,_⟩:=hn';exact⟨o,e⟩
   ·obtain⟨o,e⟩:=F.zex a z
    exact⟨o,(hs'.2 a ha).trans e⟩
  ·rw[a7]at e
   by_cases hy:y=x
   ·rw[if_pos hy]at e;cases e
    exact⟨v,by simp[hy],hv.keep kz⟩
   ·rw[if_neg hy]at e
    obtain⟨u,e1,e2⟩:=hm y q e l
    exact⟨u,by simp[hy,e1],e2.keep kz⟩
  ·rw[a7]at e
   by_cases hy:y=x
   ·exact absurd (hy▸hl) l
   ·rw[if_neg hy]at e
    obtain⟨k,c,u,e1,e2,e3⟩:=F.cl y q e l
    exact⟨k,c,u,e1,e2.sameBut hs' (iC hn e2),e3.keep kz⟩
  ·obtain⟨z,u,e1⟩:=F.zc y c e
   exact⟨z,u,e1.sameBut hs' (iC hn e1)⟩
 ·obtain⟨c,hc⟩:=Ar.mp hc
  obtain⟨zc,u0,hu0⟩:=F.zc x c hc
  have hcL:=iC hn hu0
  refine wpAny_storeName_cell S.fn hl hc hu0 fun h' hc' hs'=>?_
  have kz:∀ b o,¬Z b->s.heap.get? b=some o->h'.get? b=some o:=fun b o z e=>(hs'.2 b (fun q=>z (q▸zc))).trans e
  refine⟨⟨⟨⟨fun b o e=>?_,fun a z=>?_⟩,F.tk,F.dz,fun a m e=>⟨(F.ld a m e).1,(F.ld a m e).2.keep (fun o e'=>(hs'.2 a fun q=>F.lf a (F.ld a m e).1 (.inr ⟨x,q▸hc⟩)).trans e') kz⟩⟩,⟨m,hn.sameBut hs' (Ci hcL),fun y q e l=>?_⟩,fun y q e l=>?_,fun y c' e=>?_,F.lf⟩,Kp.mk (tk:=s.toks) fun b o z e=>(hs'.2 b (fun q=>z (.inr ⟨x,Ay.mpr rfl,q▸hc⟩))).trans e⟩
  ·exact kz b o (fun z=>by rw[S.zt b z]at e;cases e) (F.top b o e)
  ·by_cases ha:a=c
   ·subst ha;obtain⟨o,e,_⟩:=hc';exact⟨o,e⟩
   ·obtain⟨o,e⟩:=F.zex a z
    exact⟨o,(hs'.2 a ha).trans e⟩
  ·rw[a7]at e
   by_cases hy:y=x
   ·subst hy;rw[hl]at l;cases l
   ·rw[if_neg hy]at e
    obtain⟨u,e1,e2⟩:=hm y q e l
    exact⟨u,e1,e2.keep kz⟩
  ·rw[a7]at e
   by_cases hy:y=x
   ·rw[if_pos hy]at e;cases e
    subst hy
    exact⟨.inl hl,c,v,hc,hc',hv.keep kz⟩
   ·rw[if_neg hy]at e
    obtain⟨k,c',u,e1,e2,e3⟩:=F.cl y q e l
    exact⟨k,c',u,e1,e2.sameBut hs' (fun q=>hy (S.ap y x c (q▸e1) hc)),e3.keep kz⟩
  ·obtain⟨z,u,e1⟩:=F.zc y c' e
   by_cases hy:c'=c
   ·subst hy;exact⟨z,_,hc'⟩
   ·exact⟨z,u,e1.sameBut hs' hy⟩
end
section
variable{Z:ZP}{h:Heap}{v:Value}
theorem Rp.strI{x:Str}(r:Rp Z h (.str x) v):∃ t,v=.str x t:=by cases r with|str _ t=>exact⟨t,rfl⟩
theorem Rp.intI{i:Int}(r:Rp Z h (.int i) v):∃ t,v=.int i t:=by cases r with|int _ t=>exact⟨t,rfl⟩
theorem Rp.boolI{b:Bool}(r:Rp Z h (.bool b) v):v=.bool b:=by cases r;rfl
theorem Rp.noneI(r:Rp Z h .none v):v=.none:=by cases r;rfl
theorem Rp.rawI{u:Value}(r:Rp Z h (.raw u) v):v=u:=by cases r;rfl
theorem Rp.stkI{x:Str}{P:Nat->Prop}(r:Rp Z h (.stk x P) v):∃ t,v=.str x t/\P t:=by cases r with|stk _ _ t p=>exact⟨t,rfl,p⟩
theorem Rp.ownI{P:(Addr->Prop)->Heap->Value->Prop}(r:Rp Z h (.own P) v):∀ Z' h',(∀ b o,¬Z b->h.get? b=some o->h'.get? b=some o)->(∀ a o,h.get? a=some o->Z' a->Z a)->P Z' h' v:=by cases r with|own _ _ q=>exact q
theorem Rp.lstI{l:List PV}(r:Rp Z h (.lst l) v):∃(a:Addr) (o:Obj) (items:Array Value) (n:Nat),v=.ref a/\¬Z a/\h.get? a=some o/\o.cls=.type "list"/\o.data=.seq items n/\items.size=l.length/\(∀(i:Nat) p v,l[i]? = some p->items[i]? = some v->Rp Z h p v):=by
 cases r with|lst z e c d hs hi=>exact⟨_,_,_,_,rfl,z,e,c,d,hs,hi⟩
theorem Rp.tupI{l:List PV}(r:Rp Z h (.tup l) v):∃(a:Addr) (o:Obj) (items:Array Value) (n:Nat),v=.ref a/\¬Z a/\h.get? a=some o/\o.cls=.type "tuple"/\o.data=.seq items n/\items.size=l.length/\(∀(i:Nat) p v,l[i]? = some p->items[i]? = some v->Rp Z h p v):=by
 cases r with|tup z e c d hs hi=>exact⟨_,_,_,_,rfl,z,e,c,d,hs,hi⟩
end
theorem aI{α β:Type}{F:α->β->Prop}{a:α}{l:List α}{vs:List β}(x:Paired F (a::l) vs):∃ b r,vs=b::r/\F a b/\Paired F l r:=by cases x with|cons h t=>exact⟨_,_,rfl,h,t⟩
theorem cX{α β:Type}{F:α->β->Prop}{vs:List β}(x:Paired F ([]:List α) vs):vs=[]:=by cases x;rfl
variable{aa:Program}{w:World}{A:Around}{H:Ctx}{Z:ZP}{env:Env}{ρ ρ':List (Str×PV)}{sc:List (Str×NameKind)}{E:ZV}{s:Shared}
structure Src(aa:Program)(w:World)(A:Around)(H:Ctx)(Z:ZP)(tgt:Expr)(it:Value)(wr:ZP)(items:List PV)(St:Nat->Heap->Prop):Prop where
 wz:∀ a,wr a->Z a
 ex:∀ i h,St i h->∀ a,wr a->∃ o,h.get? a=some o
 frame:∀ i h h',St i h->(∀ b o,(wr b\/¬Z b)->h.get? b=some o->h'.get? b=some o)->St i h'
 item:∀ i p (s:Shared) (E:ZV),items[i]? = some p->GT H.H Z s->St i s.heap ->
  wpAny (model aa w) A (pyNext it) (fun r s'=>∃ v,r=some v/\wpAny (model aa w) A (letOwnedTupleGo tgt it v) (fun _ s''=>Rp Z s''.heap p v/\St (i+1) s''.heap/\Kp wr s s'') E s') E s
 done:∀(s:Shared) (E:ZV),GT H.H Z s->St items.length s.heap->wpAny (model aa w) A (pyNext it) (fun r s'=>r=none/\Kp wr s s') E s
 self:∀ i (s:Shared) (E:ZV),St i s.heap->wpAny (model aa w) A (pyIter it) (fun v s'=>v=it/\s'=s) E s
def Got(aa:Program)(w:World)(A:Around)(H:Ctx)(Z:ZP)(tgt:Expr)(items:List PV)(s:Shared)(it:Value)(s':Shared):Prop :=
 ∃ I,it=.ref I/\∃ wr:Addr->Prop,wr I/\(∀ a,wr a->s.heap.get? a=none/\∃ o,s'.heap.get? a=some o) /\
  ∀ Z':Addr->Prop,(∀ a,Z a->Z' a)->(∀ a,wr a->Z' a)->(∀ a,Z' a->Z a\/wr a\/s'.heap.get? a=none)->∃ St,St 0 s'.heap/\Src aa w A H Z' tgt (.ref I) wr items St
def It(aa:Program)(w:World)(A:Around)(H:Ctx)(Z:ZP)(tgt:Expr)(src:PV)(items:List PV):Prop :=
 ∀(s:Shared) (E:ZV) (v:Value),GT H.H Z s->Rp Z s.heap src v ->
  wpAny (model aa w) A (pyIter v) (fun it s'=>Kp N0 s s'/\Got aa w A H Z tgt items s it s') E s
structure IX(aa:Program)(w:World)(A:Around)(H:Ctx)(Z:ZP)(env:Env)(ρ:List (Str×PV))(tgt e:Expr)(items:List PV):Prop where
 run:∀ s (E:ZV),FI H Z env ρ s->wpAny (model aa w) A (eval e env) (fun v s_1=>wpAny (model aa w) A (pyIter v) (fun it s_2=>Kp N0 s s_2/\Got aa w A H Z tgt items s it s_2) E s_1) E s
theorem IX.of{aa:Program}{w:World}{A:Around}{H:Ctx}{Z:ZP}{env:Env}{ρ:List (Str×PV)}{tgt e:Expr}{src:PV}{items:List PV}(h:EX aa w A H Z env ρ e src)(hI:It aa w A H Z tgt src items):IX aa w A H Z env ρ tgt e items:=by
 refine⟨fun s E F=>?_⟩
 refine wpM (h.run s E F) (fun v s_1 h_1=>wpM (hI s_1 E v (F.kp0 h_1.2).toGT h_1.1) (fun it s_2 h_2=>?_))
 obtain⟨k,I,hI,wr,w1,w2,w3⟩:=h_2
 exact⟨h_1.2.trans k,I,hI,wr,w1,fun a q=>⟨h_1.2.none (fun q=>q) (w2 a q).1,(w2 a q).2⟩,w3⟩
theorem FI.forget{H:Ctx}{Z:ZP}{env:Env}{ρ ρ':List (Str×PV)}{s:Shared}(F:FI H Z env ρ s)(hs:∀ y q,ρ'.lookup y=some q->ρ.lookup y=some q):FI H Z env ρ' s :=
 ⟨F.toGS,let⟨m,hn,hm⟩:=F.ns;⟨m,hn,fun y p e l=>hm y p (hs y p e) l⟩,fun y p e l=>F.cl y p (hs y p e) l,F.zc,F.lf⟩
theorem FI.frame{H:Ctx}{Z W:ZP}{env:Env}{ρ:List (Str×PV)}{s s':Shared}(S:FS H.H Z env)(F:FI H Z env ρ s)(k:Kp W s s')(hw:∀ a,W a->Z a/\¬Fa env a)(hL:∀ a,W a->¬H.D a)(hx:∀ a,W a->∃ o,s'.heap.get? a=some o):FI H Z env ρ s':=by
 have nf:∀ a,Fa env a->¬W a:=fun a f q=>(hw a q).2 f
 have kz:∀ b o,¬Z b->s.heap.get? b=some o->s'.heap.get? b=some o:=fun b o z e=>k.get (fun q=>z (hw b q).1) e
 refine⟨⟨⟨fun b o e=>?_,fun a z=>?_⟩,A7 F.tk k.tk,F.dz,fun a m e=>⟨(F.ld a m e).1,(F.ld a m e).2.keep (fun o e'=>k.get (fun q=>hL a q (F.ld a m e).1) e') kz⟩⟩,?_,fun y p e l=>?_,fun y c e=>?_,F.lf⟩
 ·exact kz b o (fun z=>by rw[S.zt b z]at e;cases e) (F.top b o e)
 ·by_cases ha:W a
  ·exact hx a ha
  ·obtain⟨o,e⟩:=F.zex a z
   exact⟨o,k.get ha e⟩
 ·obtain⟨m,hn,hm⟩:=F.ns
  refine⟨m,hn.at' fun o e=>k.get (nf _ (.inl rfl)) e,fun y p e l=>?_⟩
  obtain⟨v,e1,e2⟩:=hm y p e l
  exact⟨v,e1,e2.keep kz⟩
 ·obtain⟨q,c,v,e1,⟨o,e2,e2'⟩,e3⟩:=F.cl y p e l
  exact⟨q,c,v,e1,⟨o,k.get (nf _ (.inr ⟨y,e1⟩)) e2,e2'⟩,e3.keep kz⟩
 ·obtain⟨z,v,o,e1,e1'⟩:=F.zc y c e
  exact⟨z,v,o,k.get (nf _ (.inr ⟨y,e⟩)) e1,e1'⟩
def capt(scope:Scope)(ρ:List (Str×PV)):List (Str×PV):=ρ.filter fun y=>scope.names.lookup y.1==some .free
theorem cY{scope:Scope}{y:Str}{q:PV}:∀{ρ:List (Str×PV)},(capt scope ρ).lookup y=some q->scope.names.lookup y=some .free/\ρ.lookup y=some q
 |[],h=>by simp[capt]at h
 |(k,p)::r,h=>by
  unfold capt at h
  rw[List.filter_cons]at h
  split at h
  ·rename_i hk
   rw[a7]at h ⊢
   by_cases hy:y=k
   ·rw[if_pos hy]at h ⊢
    exact⟨by subst hy;exact Ai.mp hk,h⟩
   ·rw[if_neg hy]at h ⊢
    exact cY h
  ·rename_i hk
   have ih:=cY (ρ:=r) h
   refine⟨ih.1,?_⟩
   rw[a7]
   by_cases hy:y=k
   ·exfalso;subst hy;exact hk (Ai.mpr ih.1)
   ·rw[if_neg hy];exact ih.2
theorem eO{env:Env}{y:Str}:∀{names:List (Str×NameKind)},
  (names.map fun(n,k)=>if(k==NameKind.free&&env.scope.kind==.function&&env.kindOf n==some .cell)then(n,NameKind.cell)else(n,k)).lookup y =
   (names.lookup y).map fun k=>if(k==NameKind.free&&env.scope.kind==.function&&env.kindOf y==some .cell)then NameKind.cell else k
 |[]=>rfl
 |(n,k)::r=>by
  have ih:=@eO env y r
  rw[List.map_cons]
  by_cases hy:y=n
  ·subst hy
   by_cases hc:(k==NameKind.free&&env.scope.kind==.function&&env.kindOf y==some .cell)=true
   ·simp only[hc,if_true];rw[a7,if_pos rfl,a7,if_pos rfl,Option.map_some,if_pos hc]
   ·simp only[if_neg hc];rw[a7,if_pos rfl,a7,if_pos rfl,Option.map_some,if_neg hc]
  ·by_cases hc:(k==NameKind.free&&env.scope.kind==.function&&env.kindOf n==some .cell)=true
   ·simp only[hc,if_true];rw[a7,if_neg hy,a7,if_neg hy];exact ih
   ·simp only[if_neg hc];rw[a7,if_neg hy,a7,if_neg hy];exact ih
theorem aF:∀{names:List (Str×NameKind)} {n:Nat} {acc:List (Str×Addr)} {y:Str} {c:Addr},(cellsFrom n names acc).lookup y=some c->acc.lookup y=some c\/n<=c
 |[],_,_,_,_,h=>.inl h
 |(k,kind)::r,n,acc,y,c,h=>by
  unfold cellsFrom at h
  split at h
  ·rcases aF h with h|h
   ·rw[a7]at h
    by_cases hy:y=k
    ·rw[if_pos hy]at h;cases h;exact .inr (A4 _)
    ·rw[if_neg hy]at h;exact .inl h
   ·exact .inr ‹o›
  ·exact aF h
theorem bK:∀{names:List (Str×NameKind)} {n:Nat} {acc:List (Str×Addr)},(∀ x y c,acc.lookup x=some c->acc.lookup y=some c->x=y)->(∀ x c,acc.lookup x=some c->c<n) ->
  ∀ x y c,(cellsFrom n names acc).lookup x=some c->(cellsFrom n names acc).lookup y=some c->x=y
 |[],_,_,hi,_=>hi
 |(k,kind)::r,n,acc,hi,hlt=>by
  unfold cellsFrom
  split
  ·refine bK (fun x y c h1 h2=>?_) (fun x c h=>?_)
   ·rw[a7]at h1 h2
    by_cases hx:x=k <;> by_cases hy:y=k
    ·rw[hx,hy]
    ·rw[if_pos hx]at h1;rw[if_neg hy]at h2;cases h1;exact absurd (hlt _ _ h2) (At _)
    ·rw[if_neg hx]at h1;rw[if_pos hy]at h2;cases h2;exact absurd (hlt _ _ h1) (At _)
    ·rw[if_neg hx]at h1;rw[if_neg hy]at h2;exact hi x y c h1 h2
   ·rw[a7]at h
    by_cases hx:x=k
    ·rw[if_pos hx]at h;cases h;exact Cd _
    ·rw[if_neg hx]at h;exact C6 (hlt x c h)
  ·exact bK hi hlt
theorem fD:∀{names:List (Str×NameKind)} {h:Heap} {acc:List (Str×Addr)} {y:Str} {c:Addr},(cellsFrom h.objs.size names acc).lookup y=some c ->
  acc.lookup y=some c\/((pushCells h names).IsCell c none/\h.objs.size<=c)
 |[],_,_,_,_,q=>.inl q
 |(k,kind)::r,h,acc,y,c,q=>by
  unfold cellsFrom at q
  unfold pushCells
  split at q
  ·rename_i hk
   rw[if_pos hk]
   have q':(cellsFrom (h.push {cls:=.type "cell",data:=.cell none}).objs.size r ((k,h.objs.size)::acc)).lookup y=some c:=by rw[Heap.size_push];exact q
   rcases fD q' with e|e
   ·rw[a7]at e
    by_cases hy:y=k
    ·rw[if_pos hy]at e;cases e
     exact .inr ⟨⟨_,Cx _ _ _ _ (A3 _ rfl),rfl⟩,A4 _⟩
    ·rw[if_neg hy]at e;exact .inl e
   ·refine .inr ⟨e.1,?_⟩
    have:=e.2
    rw[Heap.size_push]at this;omega
  ·rename_i hk
   rw[if_neg hk]
   exact fD q
theorem eM:∀(names:List (Str×NameKind)) (h:Heap),h.objs.size<=(pushCells h names).objs.size
 |[],_=>A4 _
 |(k,kind)::r,h=>by
  unfold pushCells
  split
  ·have:=eM r (h.push {cls:=.type "cell",data:=.cell none})
   rw[Heap.size_push]at this;omega
  ·exact eM r h
theorem fH:∀(names:List (Str×NameKind)) (h:Heap) (a:Addr),h.objs.size<=a->a<(pushCells h names).objs.size->∃ o,(pushCells h names).get? a=some o
 |[],h,a,h1,h2=>absurd h2 (C1.mpr h1)
 |(k,kind)::r,h,a,h1,h2=>by
  unfold pushCells at h2 ⊢
  split at h2
  ·rename_i hk
   rw[if_pos hk]
   by_cases ha:a=h.objs.size
   ·subst ha;exact⟨_,Cx _ _ _ _ (A3 _ rfl)⟩
   ·exact fH r _ a (by rw[Heap.size_push];exact Er h1 (Ci ha)) h2
  ·rename_i hk
   rw[if_neg hk]
   exact fH r h a h1 h2
def jW(scope:Scope)(env:Env):List (Str×Addr):=(scope.names.filter fun x=>x.2==.free).reverse.map fun x=>(x.1,(env.cells.lookup x.1).getD 0)
theorem eU{scope:Scope}{env:Env}(h:∀ x∈scope.names,x.2=.free->(env.cells.lookup x.1).isSome=true):closureFor scope env=pure (jW scope env):=by
 have key:∀(l:List (Str×NameKind)) (acc:List (Str×Addr)),(∀ x∈l,x.2=.free->(env.cells.lookup x.1).isSome=true) ->
   (forIn l acc fun(x:Str×NameKind) (cs:List (Str×Addr))=>if x.2==.free then(do let a <-cellOf env x.1;pure (ForInStep.yield ((x.1,a)::cs)):Sem _)else pure (ForInStep.yield cs)) =
    (pure (((l.filter fun x=>x.2==.free).reverse.map fun x=>(x.1,(env.cells.lookup x.1).getD 0))++acc):Sem _):=by
  intro l
  induction l with
  |nil=>intro acc _;rfl
  |cons x r ih =>
   intro acc hx
   rw[List.forIn_cons]
   by_cases hk:x.2=.free
   ·obtain⟨c,hc⟩:=Ar.mp (hx x Ah hk)
    have e:(x.2==NameKind.free)=true:=Ai.mpr hk
    rw[if_pos e]
    have ec:cellOf env x.1=pure c:=by unfold cellOf;rw[hc]
    rw[ec]
    show(forIn r ((x.1,c)::acc) _:Sem _)=_
    rw[ih _ fun y hy=>hx y (List.mem_cons_of_mem _ hy),List.filter_cons,if_pos e,List.reverse_cons,List.map_append,List.append_assoc]
    simp[hc]
   ·have e:¬(x.2==NameKind.free)=true:=fun q=>hk (Ai.mp q)
    rw[if_neg e]
    show(forIn r acc _:Sem _)=_
    rw[ih _ fun y hy=>hx y (List.mem_cons_of_mem _ hy),List.filter_cons,if_neg e]
 have:=key scope.names [] h
 rw[List.append_nil]at this
 unfold closureFor jW
 exact Eq.trans (by
  show(forIn scope.names ([]:List (Str×Addr)) _ >>= fun cs=>pure cs)=_
  rw[bind_pure]) this
theorem pG{scope:Scope}{env:Env}{y:Str}{c:Addr}(h:∀ x∈scope.names,x.2=.free->(env.cells.lookup x.1).isSome=true)(e:(jW scope env).lookup y=some c):env.cells.lookup y=some c:=by
 have hm:=mem_of_lookup e
 unfold jW at hm
 obtain⟨x,hx,hxe⟩:=Bn.mp hm
 obtain⟨h1,h2⟩:=C0.mp (Fn.mp hx)
 cases hxe
 obtain⟨c',hc'⟩:=Ar.mp (h x h1 (Ai.mp h2))
 rw[hc'];rfl
theorem fY{α β:Type}(g:Str×α->β):∀(l:List (Str×α)) (y:Str),(∃ k,(y,k)∈l)->∃ b,(l.map fun x=>(x.1,g x)).lookup y=some b
 |[],_,⟨_,h⟩=>nomatch h
 |(n,k)::r,y,h=>by
  rw[List.map_cons,a7]
  by_cases hy:y=n
  ·exact⟨_,if_pos hy⟩
  ·rw[if_neg hy]
   refine fY g r y ?_
   obtain⟨k',hk⟩:=h
   rcases Ab.mp hk with e|e
   ·cases e;exact absurd rfl hy
   ·exact⟨k',e⟩
theorem nF{scope:Scope}{env:Env}{y:Str}(e:scope.names.lookup y=some .free):∃ c,(jW scope env).lookup y=some c :=
 fY (fun x=>(env.cells.lookup x.1).getD 0) _ y ⟨.free,Fn.mpr (C0.mpr ⟨mem_of_lookup e,rfl⟩)⟩
theorem dU:∀{names:List (Str×NameKind)} {n:Nat} {acc:List (Str×Addr)} {y:Str},(y,NameKind.cell)∉names->(cellsFrom n names acc).lookup y=acc.lookup y
 |[],_,_,_,_=>rfl
 |(k,kind)::r,n,acc,y,h=>by
  have hr:(y,NameKind.cell)∉r:=fun q=>h (Ae _ q)
  unfold cellsFrom
  split
  ·rename_i hk
   rw[dU hr,a7]
   have:y≠k:=by
    rintro rfl
    exact h (by rw[<-beq_iff_eq.mp hk];exact Ah)
   rw[if_neg this]
  ·exact dU hr
theorem cM:∀{names:List (Str×NameKind)} {n:Nat} {acc:List (Str×Addr)} {y:Str},(y,NameKind.cell)∈names\/(acc.lookup y).isSome=true->((cellsFrom n names acc).lookup y).isSome=true
 |[],_,_,_,h=>h.elim (fun q=>nomatch q) id
 |(k,kind)::r,n,acc,y,h=>by
  unfold cellsFrom
  split
  ·rename_i hk
   refine cM ?_
   rw[a7]
   by_cases hy:y=k
   ·right;rw[if_pos hy];rfl
   ·rw[if_neg hy]
    rcases h with h|h
    ·rcases Ab.mp h with e|e
     ·cases e;exact absurd rfl hy
     ·exact .inl e
    ·exact .inr h
  ·rename_i hk
   refine cM ?_
   rcases h with h|h
   ·rcases Ab.mp h with e|e
    ·cases e;exact absurd (Fp _) hk
    ·exact .inl e
   ·exact .inr h
section
structure CT(aa:Program)(w:World)(A:Around)(H:Ctx)(Z:ZP)(env:Env)(ρ:List (Str×PV))(bc:List Expr)(b:Bool):Prop where
 run:∀ s (E:ZV),FI H Z env ρ s->wpAny (model aa w) A (forIn bc true fun c r=>if r=true then do let ok <-isTrue c env (eval c env);pure (ForInStep.yield ok)else pure (ForInStep.yield r)) (fun v s'=>v=b/\Kp N0 s s') E s
theorem CT.nil:CT aa w A H Z env ρ [] true:=⟨fun s E F=>wpAny_tests_nil ⟨rfl,Kp.refl _ _⟩⟩
theorem CT.one{e:Expr}{b:Bool}(h:TX aa w A H Z env ρ e b):CT aa w A H Z env ρ [e] b:=⟨fun s E F=>wpAny_tests_one (h.run s E F)⟩
def BD(aa:Program)(w:World)(A:Around)(H:Ctx)(Z:ZP)(env:Env)(ρ:List (Str×PV))(af:Expr)(xs:List Str)(p:PV)(ρ':List (Str×PV)):Prop :=
 ∀ s (E:ZV) v,FI H Z env ρ s->Rp Z s.heap p v->wpAny (model aa w) A (assign af env v) (fun _ s'=>FI H Z env ρ' s'/\Kp (Fb xs env) s s') E s
theorem BD.name{x:Str}{px:Pos}{p:PV}(S:FS H.H Z env)(hk:env.kindOf x=some .local\/(env.kindOf x=some .cell/\(env.cells.lookup x).isSome=true)):BD aa w A H Z env ρ (.Name x px) [x] p ((x,p)::ρ):=by
 intro s E v F hv
 exact Dv (FI.store S F hv hk)
theorem sO{scope:Scope}{cl:List (Str×Addr)}{s:Shared}{E:ZV}{Q:Env->Shared->Prop}
  (h:Q {scope:=scope,locals:=s.heap.objs.size,globals:=env.globals,cells:=cellsFrom (s.heap.objs.size+1) scope.names cl,qual:=env.qual,func:=none,code:=env.code,frame:=env.frame,builtins:=env.builtins}
   {s with heap:=pushCells (s.heap.push {cls:=.type "dict",data:=.dict #[]}) scope.names}) :
  wpAny (model aa w) A (newFunctionEnv scope env.globals cl [] env.qual none .none (some env)) Q E s:=by
 simp only[newFunctionEnv,Option.isSome_some,if_true]
 refine A0 (Gb ?_)
 refine A0 (wpAny_layCells _ (fun name kind cells=>by cases hkc:kind==NameKind.cell <;> simp[hkc]) _ _ _ _ ?_)
 rw[show({s with heap:=s.heap.push {cls:=.type "dict",data:=.dict #[]}}:Shared).heap.objs.size=s.heap.objs.size+1 from Es ..]
 exact A0 (A1 (A1 h))
abbrev aC(scope:Scope)(env:Env)(C:Addr):Env:=compEnvC scope (cellsFrom (C+1) scope.names (jW scope env)) C env
theorem oI{R:Result->Shared->Prop}{s:Shared}{bb af iter:Expr}{bc:List Expr}{scope:Scope}{pos:Pos}{it acc:Value}{env:Env}(I:Nat->Shared->Prop)
  (turn:∀ n s,I n s->wpAny (model aa w) A (pyNext it) (fun r s_1=>match r with
   |none=>R (.ok .next) s_1
   |some v=>wpAny (model aa w) A (letOwnedTupleGo af it v) (fun _ s1'=>wpAny (model aa w) A (assign af env v) (fun _ s_2 =>
     wpAny (model aa w) A (forIn bc true fun c r=>if r=true then do let ok <-isTrue c env (eval c env);pure (ForInStep.yield ok)else pure (ForInStep.yield r)) (fun ok s₃ =>
      if ok=true then wpAny (model aa w) A (eval bb env) (fun x s_4 =>
       wpAny (model aa w) A (call (.builtin "list.append") [acc,x]) (fun _ s5=>∃ m,m<n/\I m s5) (notedBy (model aa w) A env fun e s'=>R (.error e) s') s_4) (notedBy (model aa w) A env fun e s'=>R (.error e) s') s₃
      else ∃ m,m<n/\I m s₃) (notedBy (model aa w) A env fun e s'=>R (.error e) s') s_2) (notedBy (model aa w) A env fun e s'=>R (.error e) s') s1') (notedBy (model aa w) A env fun e s'=>R (.error e) s') s_1) (notedBy (model aa w) A env fun e s'=>R (.error e) s') s)
  (n:Nat) (h:I n s):codeAny (model aa w) A (.compLoop (.ListComp bb [⟨af,iter,bc,0⟩] scope pos) 0 it acc env) R s:=by
 refine codeAny_loop rfl I (fun n s hI=>?_) n h
 show wpAny _ A ((compTurn (.ListComp bb [⟨af,iter,bc,0⟩] scope pos) 0 it acc env).onRaise (fun x=>do noteFrame x env;theTreesLotGoes x)) _ _ s
 refine wpAny_noted ?_
 rw[compTurn_list]
 refine A0 (Ag (A0 (B1 (turn n s hI) (fun r s_1 h_1=>?_) fun _ _ h'=>h')))
 cases r with
 |none=>exact A1 h_1
 |some v =>
  refine A0 (B1 h_1 (fun _ s1' h_1=>?_) fun _ _ h'=>h')
  refine A0 (B1 h_1 (fun _ s_2 h_2=>A0 (B1 h_2 (fun ok s₃ h_3=>?_) fun _ _ h'=>h')) fun _ _ h'=>h')
  cases ok with
  |false=>exact A1 ⟨rfl,h_3⟩
  |true =>
   exact A0 (A0 (B1 h_3 (fun x s_4 h_4=>A0 (B1 h_4 (fun _ s5 h_5=>A1 (A1 ⟨rfl,h_5⟩)) fun _ _ h'=>h')) fun _ _ h'=>h'))
structure CFr(aa:Program)(w:World)(A:Around)(H:Ctx)(Z:ZP)(env:Env)(ρ:List (Str×PV))(scope:Scope)(af:Expr)(xs:List Str)(I:Addr)(wr:ZP)(qs:List PV)(s_1 s_2:Shared)(o_0:Obj)(D:Addr)(H4:Heap)(Z':ZP)(St:Nat->Heap->Prop):Prop where
 sub:∀ a,Z a->Z' a
 st0:St 0 H4
 W:Src aa w A H Z' af (.ref I) wr qs St
 S':FS H.H Z' (aC scope env (D+1))
 F':∀ tk,s_2.toks<=tk->FI H Z' (aC scope env (D+1)) (capt scope ρ) {s_2 with heap:=H4,toks:=tk}
 k1:∀ tk,s_2.toks<=tk->Kp N0 s_1 {s_2 with heap:=H4,toks:=tk}
 eD:H4.get? D=some o_0
 fr:∀ a,D<=a->s_1.heap.get? a=none
 z'b:∀ a,Z' a->¬Z a->s_1.heap.get? a=none
 fz:∀ a,Fa (aC scope env (D+1)) a->Z' a
 wf:∀ a,wr a->¬Fa (aC scope env (D+1)) a
 dZ:Z' D
 dW:¬wr D
 dF:¬Fa (aC scope env (D+1)) D
 bz:∀ a,Fb xs (aC scope env (D+1)) a->Z' a/\¬Z a
 wz':∀ a,wr a->Z' a/\¬Z a
 dNZ:¬Z D
theorem CFr.kNew{scope:Scope}{af:Expr}{xs:List Str}{I:Addr}{wr:ZP}{qs:List PV}{s_1 s_2:Shared}{o_0:Obj}{D:Addr}{H4:Heap}{Z':ZP}{St:Nat->Heap->Prop}(c:CFr aa w A H Z env ρ scope af xs I wr qs s_1 s_2 o_0 D H4 Z' St)
  {X:ZP} {sa sb:Shared} (ka:Kp N0 s_1 sa) (kb:Kp X sa sb) (hx:∀ a,X a->Z' a/\¬Z a):Kp N0 s_1 sb :=
 ka.join kb fun b o z e=>kb.get (fun q=>by rw[c.z'b b (hx b q).1 (hx b q).2]at e;cases e) (ka.get z e)
theorem lT{s_1 s_2:Shared}{af:Expr}{scope:Scope}{I:Addr}{wr:ZP}{qs:List PV}{xs:List Str}(o_0:Obj)(hfree0:o_0.isFreed=false)
  (S:FS H.H Z env) (F:FI H Z env ρ s_1) (k12:Kp N0 s_1 s_2)
  (hwr:∀ a,wr a->s_1.heap.get? a=none/\∃ o,s_2.heap.get? a=some o)
  (hsrc:∀ Z':Addr->Prop,(∀ a,Z a->Z' a)->(∀ a,wr a->Z' a)->(∀ a,Z' a->Z a\/wr a\/s_2.heap.get? a=none)->∃ St,St 0 s_2.heap/\Src aa w A H Z' af (.ref I) wr qs St)
  (hkind:scope.kind=.function) (bp:∀ x∈scope.names,scope.names.lookup x.1=some x.2)
  (hfree:∀ x∈scope.names,x.2=.free->(env.cells.lookup x.1).isSome=true/\env.kindOf x.1≠some .local)
  (hxs:∀ y∈xs,scope.names.lookup y=some .local\/scope.names.lookup y=some .cell) :
  ∃ Z' St,CFr aa w A H Z env ρ scope af xs I wr qs s_1 s_2 o_0 s_2.heap.objs.size (pushCells ((s_2.heap.push o_0).push {cls:=.type "dict",data:=.dict #[]}) scope.names) Z' St:=by
 generalize hD:s_2.heap.objs.size=D
 have hC:(s_2.heap.push o_0).objs.size=D+1:=by rw[Heap.size_push,hD]
 generalize hH4:pushCells ((s_2.heap.push o_0).push {cls:=.type "dict",data:=.dict #[]}) scope.names=H4
 have hb1:D+2<=H4.objs.size:=by
  have:=eM scope.names ((s_2.heap.push o_0).push {cls:=.type "dict",data:=.dict #[]})
  rw[hH4,Heap.size_push,hC]at this
  exact this
 have up:∀ b o,s_2.heap.get? b=some o->H4.get? b=some o:=fun b o e=>by
  rw[<-hH4];exact Cx _ _ _ _ (A2 _ (A2 _ e))
 have eD:H4.get? D=some o_0:=by rw[<-hH4,<-hD];exact Cx _ _ _ _ (A2 _ (A3 _ hfree0))
 have eC:H4.get? (D+1)=some {cls:=.type "dict",data:=.dict #[]}:=by
  rw[<-hH4,<-hC];exact Cx _ _ _ _ (A3 _ rfl)
 have nC:H4.Ns (D+1) (fun _=>none):=by
  rw[<-hH4,<-hC];exact(Heap.Ns.new _ (.type "dict")).keeps (Cx _ _)
 have exN:∀ a,D<=a->a<H4.objs.size->∃ o,H4.get? a=some o:=fun a h1 h2=>by
  by_cases q1:a=D
  ·subst q1;exact⟨_,eD⟩
  ·by_cases q2:a=D+1
   ·subst q2;exact⟨_,eC⟩
   ·rw[<-hH4]at h2 ⊢
    refine fH _ _ a ?_ h2
    rw[Heap.size_push,hC]
    have h3:D<a:=Er h1 (Ci q1)
    exact Er h3 (Ci q2)
 let Z':Addr->Prop:=fun a=>Z a\/wr a\/(D<=a/\a<H4.objs.size)
 have zb:∀ a,Z a->a<D:=fun a z=>by obtain⟨o,e⟩:=F.zex a z;exact hD▸Ac (k12.get (fun q=>q) e)
 have fr:∀ a,D<=a->s_1.heap.get? a=none:=fun a q=>k12.none (fun q=>q) (aE _ (hD▸q))
 have wrD:∀ a,wr a->a<D:=fun a q=>by obtain⟨o,e⟩:=(hwr a q).2;exact hD▸Ac e
 have wrZ:∀ a,wr a->¬Z a:=fun a q z=>by obtain⟨o,e⟩:=F.zex a z;rw[(hwr a q).1]at e;cases e
 have z'b:∀ a,Z' a->¬Z a->s_1.heap.get? a=none:=fun a q nz=>by
  rcases q with q|q|q
  ·exact absurd q nz
  ·exact(hwr a q).1
  ·exact fr a q.1
 obtain⟨St,st0,W⟩:=hsrc Z' (fun a z=>.inl z) (fun a z=>.inr (.inl z)) (fun a q=>q.elim .inl fun q=>q.elim (fun q=>.inr (.inl q)) fun q=>.inr (.inr (aE _ (hD▸q.1))))
 have old:∀ a o,s_1.heap.get? a=some o->Z' a->Z a:=fun a o e q=>Cj fun nz=>by rw[z'b a q nz]at e;cases e
 have cellAcc:∀ y c,(jW scope env).lookup y=some c->env.cells.lookup y=some c:=fun y c e=>pG (fun x hx hk=>(hfree x hx hk).1) e
 have S':FS H.H Z' (aC scope env (D+1)):=by
  refine⟨fun a q=>?_,hkind,S.gl,S.bl,.inr (.inr ⟨Ad _,hb1⟩),?_⟩
  ·rcases q with q|q|q
   ·exact S.zt a q
   ·exact F.none (hwr a q).1
   ·exact F.none (fr a q.1)
  ·refine bK (fun x y c h1 h2=>S.ap x y c (cellAcc x c h1) (cellAcc y c h2)) fun x c h=>?_
   have:=zb c (F.zc x c (cellAcc x c h)).1
   exact Bh this (A7 (Ad _) (Ad _))
 have rp':∀{p:PV} {v:Value},Rp Z s_1.heap p v->Rp Z' H4 p v:=fun x=>(x.sub old).keep fun b o _ e=>up b o (k12.get (fun q=>q) e)
 have F':∀ tk,s_2.toks<=tk->FI H Z' (aC scope env (D+1)) (capt scope ρ) {s_2 with heap:=H4,toks:=tk}:=by
  intro tk htk
  refine⟨⟨⟨fun b o e=>up b o (k12.get (fun q=>q) (F.top b o e)),fun a q=>?_⟩,A7 F.tk (A7 k12.tk htk),fun a d=>.inl (F.dz a d),fun a m e=>⟨(F.ld a m e).1,((F.ld a m e).2.sub old).keep (fun o e'=>up a o (k12.get (fun q=>q) e')) fun b o _ e'=>up b o (k12.get (fun q=>q) e')⟩⟩,⟨_,nC,fun y p e l=>?_⟩,fun y p e l=>?_,fun y c e=>?_,fun a d=>?_⟩
  ·rcases q with q|q|q
   ·obtain⟨o,e⟩:=F.zex a q;exact⟨o,up a o (k12.get (fun q=>q) e)⟩
   ·obtain⟨o,e⟩:=(hwr a q).2;exact⟨o,up a o e⟩
   ·exact exN a q.1 q.2
  ·obtain⟨e1,e2⟩:=cY e
   exfalso
   have:(aC scope env (D+1)).kindOf y=(scope.names.lookup y).map fun k=>if(k==NameKind.free&&env.scope.kind==.function&&env.kindOf y==some .cell)then NameKind.cell else k:=eO
   rw[this,e1,Option.map_some]at l
   split at l <;> cases l
  ·obtain⟨e1,e2⟩:=cY e
   obtain⟨hf1,hf2⟩:=hfree _ (mem_of_lookup e1) rfl
   obtain⟨q,c,v,c1,c2,c3⟩:=F.cl y p e2 hf2
   have kd:(aC scope env (D+1)).kindOf y=(scope.names.lookup y).map fun k=>if(k==NameKind.free&&env.scope.kind==.function&&env.kindOf y==some .cell)then NameKind.cell else k:=eO
   rw[e1,Option.map_some]at kd
   refine⟨?_,c,v,?_,c2.keeps fun b o e=>up b o (k12.get (fun q=>q) e),rp' c3⟩
   ·rw[kd];split
    ·exact .inl rfl
    ·exact .inr rfl
   ·show(cellsFrom (D+1+1) scope.names (jW scope env)).lookup y=some c
    rw[dU (fun hm=>by
     have:=bp _ hm
     rw[e1]at this;cases this)]
    obtain⟨c',hc'⟩:=nF (env:=env) e1
    rw[hc',<-cellAcc y c' hc'];exact c1
  ·have e':(cellsFrom ((s_2.heap.push o_0).push {cls:=.type "dict",data:=.dict #[]}).objs.size scope.names (jW scope env)).lookup y=some c:=by
    rw[Heap.size_push,hC];exact e
   rcases fD e' with q|⟨q1,q2⟩
   ·obtain⟨z,v,hv⟩:=F.zc y c (cellAcc y c q)
    exact⟨.inl z,v,hv.keeps fun b o e=>up b o (k12.get (fun q=>q) e)⟩
   ·rw[hH4]at q1
    rw[Heap.size_push,hC]at q2
    exact⟨.inr (.inr ⟨A7 (A7 (Ad _) (Ad _)) q2,q1.lt⟩),_,q1⟩
  ·rintro (f|⟨y,f⟩)
   ·have ha:=zb a (F.dz a d)
    subst f
    exact absurd ha (C1.mpr (Ad _))
   ·rcases aF f with f|f
    ·exact F.lf a d (.inr ⟨y,cellAcc y a f⟩)
    ·have ha:=zb a (F.dz a d)
     exact absurd (A7 (A7 (Ad _) (Ad _)) f) (Nat.not_le.mpr ha)
 have fz:∀ a,Fa (aC scope env (D+1)) a->Z' a:=fun a q=>by
  rcases q with q|⟨y,q⟩
  ·subst q;exact S'.zl
  ·exact((F' _ (A4 _)).zc y a q).1
 have wf:∀ a,wr a->¬Fa (aC scope env (D+1)) a:=fun a q f=>by
  rcases f with f|⟨y,f⟩
  ·subst f
   exact absurd (wrD _ q) (C1.mpr (Ad _))
  ·rcases aF f with f|f
   ·exact wrZ a q (F.zc y a (cellAcc y a f)).1
   ·exact absurd (wrD a q) (C1.mpr (A7 (A7 (Ad _) (Ad _)) f))
 have dZ:Z' D:=.inr (.inr ⟨A4 _,Bh (C6 (Cd _)) hb1⟩)
 have dW:¬wr D:=fun q=>At _ (wrD D q)
 have dF:¬Fa (aC scope env (D+1)) D:=fun f=>by
  rcases f with f|⟨y,f⟩
  ·exact absurd f (Au (Cd _))
  ·rcases aF f with f|f
   ·have:=zb D (F.zc y D (cellAcc y D f)).1
    exact absurd this (At _)
   ·exact absurd f (Nat.not_le.mpr (C6 (Cd _)))
 have k1:∀ tk,s_2.toks<=tk->Kp N0 s_1 {s_2 with heap:=H4,toks:=tk}:=fun tk htk=>by
  exact k12.join (Kp.mk (Z:=N0) (h':=H4) (tk:=tk) fun b o _ e=>up b o e) fun b o z e=>up b o (k12.get z e)
 have bz:∀ a,Fb xs (aC scope env (D+1)) a->Z' a/\¬Z a:=fun a q=>by
  refine⟨fz a q.fa,fun z=>?_⟩
  have ha:=zb a z
  rcases q with q|⟨y,hy,q⟩
  ·subst q
   exact absurd ha (C1.mpr (Ad _))
  ·rcases aF q with q' |q'
   ·have hm:∃ k,(y,k)∈scope.names/\k=.free:=by
     have:=mem_of_lookup q'
     unfold jW at this
     obtain⟨x,hx,hxe⟩:=Bn.mp this
     obtain⟨h1,h2⟩:=C0.mp (Fn.mp hx)
     cases hxe
     exact⟨x.2,h1,Ai.mp h2⟩
    obtain⟨k,hm,rfl⟩:=hm
    have e:=bp _ hm
    rcases hxs y hy with e' |e' <;>(rw[e']at e;cases e)
   ·exact absurd (A7 (A7 (Ad _) (Ad _)) q') (Nat.not_le.mpr ha)
 have wz':∀ a,wr a->Z' a/\¬Z a:=fun a q=>⟨.inr (.inl q),wrZ a q⟩
 have dNZ:¬Z D:=fun z=>At _ (zb D z)
 exact⟨Z',St,fun a z=>.inl z,W.frame 0 _ _ st0 (fun b o _ e=>up b o e),W,S',F',k1,eD,fr,z'b,fz,wf,dZ,dW,dF,bz,wz',dNZ⟩
theorem lZ{E:ZV}{s_1 s_2:Shared}{bb af iter:Expr}{bc:List Expr}{scope:Scope}{pos:Pos}{I:Addr}{wr:ZP}{α:Type}{φ:α->PV}{items:List α}
  {te:α->Bool} {f:α->PV} {xs:List Str} {bd:α->List (Str×PV)} {RR:Value->Addr->Result->Shared->Prop}
  (S:FS H.H Z env) (F:FI H Z env ρ s_1) (k12:Kp N0 s_1 s_2)
  (hwr:∀ a,wr a->s_1.heap.get? a=none/\∃ o,s_2.heap.get? a=some o)
  (hsrc:∀ Z':Addr->Prop,(∀ a,Z a->Z' a)->(∀ a,wr a->Z' a)->(∀ a,Z' a->Z a\/wr a\/s_2.heap.get? a=none)->∃ St,St 0 s_2.heap/\Src aa w A H Z' af (.ref I) wr (items.map φ) St)
  (hkind:scope.kind=.function) (bp:∀ x∈scope.names,scope.names.lookup x.1=some x.2)
  (hfree:∀ x∈scope.names,x.2=.free->(env.cells.lookup x.1).isSome=true/\env.kindOf x.1≠some .local)
  (hxs:∀ y∈xs,scope.names.lookup y=some .local\/scope.names.lookup y=some .cell)
  (hbd:∀ p∈items,∀ y q,(capt scope ρ).lookup y=some q->(bd p++capt scope ρ).lookup y=some q)
  (turn:∀(C:Addr) (Z':ZP),(∀ a,Z a->Z' a)->FS H.H Z' (aC scope env C)->∀ p∈items,
   BD aa w A H Z' (aC scope env C) (capt scope ρ) af xs (φ p) (bd p++capt scope ρ)/\CT aa w A H Z' (aC scope env C) (bd p++capt scope ρ) bc (te p) /\
   (te p=true->EX aa w A H Z' (aC scope env C) (bd p++capt scope ρ) bb (f p)))
  (hsz:items.length<=sizeLine)
  (hRR:∀ D C s' m,Kp N0 s_1 s'->Rp (fun a=>Z a\/a=C) s'.heap (.lst ((items.filter te).map f)) (.ref D)->s_1.heap.get? C=none->s_1.heap.get? D=none->s'.heap.Ns C m->RR (.ref D) C (.ok .next) s') :
  wpAny (model aa w) A (newList []) (fun acc s₃=>wpAny (model aa w) A (newFunctionEnv scope env.globals (jW scope env) [] env.qual none .none (some env)) (fun cenv s_4 =>
   codeAny (model aa w) A (.compStart (.ListComp bb [⟨af,iter,bc,0⟩] scope pos) 0 (.ref I) acc {cenv with scope:=relabel scope env}) (RR acc cenv.locals) s_4) E s₃) E s_2:=by
 refine Aj (sO ?_)
 dsimp only
 obtain⟨Z',St,cf⟩:=lT {cls:=.type "list",dict:=none,data:=.seq ([]:List Value).toArray} rfl S F k12 hwr hsrc hkind bp hfree hxs
 have hC:(s_2.heap.push {cls:=.type "list",dict:=none,data:=.seq ([]:List Value).toArray}).objs.size=s_2.heap.objs.size+1:=Es ..
 rw[hC]
 generalize hD:s_2.heap.objs.size=D at *
 generalize hH4:pushCells ((s_2.heap.push {cls:=.type "list",dict:=none,data:=.seq ([]:List Value).toArray}).push {cls:=.type "dict",data:=.dict #[]}) scope.names=H4 at *
 obtain⟨hsub,st0,W,S',F',k1,eD,fr,z'b,fz,wf,dZ,dW,dF,bz,wz',dNZ⟩:=id cf
 have kNew:∀{X:ZP} {sa sb:Shared},Kp N0 s_1 sa->Kp X sa sb->(∀ a,X a->Z' a/\¬Z a)->Kp N0 s_1 sb:=fun ka kb hx=>cf.kNew ka kb hx
 have fgt:∀{p:α},p∈items->∀{s:Shared},FI H Z' (aC scope env (D+1)) (bd p++capt scope ρ) s->FI H Z' (aC scope env (D+1)) (capt scope ρ) s:=fun{p} hp {s} F=>FI.forget F (hbd _ hp)
 have loop:∀ tk,s_2.toks<=tk->codeAny (model aa w) A (.compLoop (.ListComp bb [⟨af,iter,bc,0⟩] scope pos) 0 (.ref I) (.ref D) (aC scope env (D+1)))
   (RR (.ref D) (D+1)) {s_2 with heap:=H4,toks:=tk}:=by
  intro tk htk
  refine oI (fun k s'=>∃ i ys,k=items.length+1-i/\i<=items.length/\St i s'.heap/\s'.heap.PlainList D ys /\
   Paired (Rp Z' s'.heap) (((items.take i).filter te).map f) ys.toList/\FI H Z' (aC scope env (D+1)) (capt scope ρ) s'/\Kp N0 s_1 s') ?_ (items.length+1)
   ⟨0,#[],rfl,Ap _,st0,⟨0,eD⟩,.nil,F' tk htk,k1 tk htk⟩
  rintro k s' ⟨i,ys,rfl,hi,st,pl,pr,FF,kk⟩
  rcases C4 i items.length with hlt|hge
  ·have hg:items[i]? = some items[i]:=Al hlt
   have hg':(items.map φ)[i]? = some (φ items[i]):=by rw[List.getElem?_map,hg];rfl
   have hmem:items[i]∈items:=Co hlt
   refine wpM (W.item i _ s' _ hg' FF.toGT st) (fun r s₃ h_3=>?_)
   obtain⟨v,rfl,h_3⟩:=h_3
   refine wpM h_3 (fun _ s₃ h_3=>?_)
   obtain⟨rv,st3,k_3⟩:=h_3
   obtain⟨B,T,X⟩:=turn (D+1) Z' hsub S' _ hmem
   have wex:∀ a,wr a->∃ o,s₃.heap.get? a=some o:=W.ex _ _ st3
   have F_3:=FF.frame S' k_3 (fun a q=>⟨(wz' a q).1,wf a q⟩) (fun a q=>F.free (hwr a q).1) wex
   have pl3:s₃.heap.PlainList D ys:=pl.at fun o e=>k_3.get dW e
   refine wpM (B s₃ _ v F_3 rv) (fun _ s_4 h_4=>?_)
   obtain⟨F4,k_4⟩:=h_4
   have st4:St (i+1) s_4.heap:=W.frame _ _ _ st3 fun b o hb e=>k_4.get (fun q=>hb.elim (fun q'=>wf b q' q.fa) fun q'=>q' (fz b q.fa)) e
   have pl4:s_4.heap.PlainList D ys:=pl3.at fun o e=>k_4.get (fun q=>dF q.fa) e
   refine wpM (T.run s_4 _ F4) (fun ok s5 h_5=>?_)
   obtain⟨rfl,k5⟩:=h_5
   have kA:Kp N0 s_1 s5:=(kNew (kNew kk k_3 wz') k_4 bz).trans k5
   have kB:Kp Z' s' s5:=(k_3.weak fun a q=>(wz' a q).1).trans ((k_4.weak fun a q=>fz a q.fa).trans k5.z)
   have prB:Paired (Rp Z' s5.heap) (((items.take i).filter te).map f) ys.toList:=by
    have:∀{ps:List PV} {vs:List Value},Paired (Rp Z' s'.heap) ps vs->Paired (Rp Z' s5.heap) ps vs:=fun x=>by
     induction x with
     |nil=>exact .nil
     |cons h _ ih=>exact .cons (h.kp kB) ih
    exact this pr
   have tk1:items.take (i+1)=items.take i++[items[i]]:=by rw[List.take_add_one,hg];rfl
   cases hp:te items[i]with
   |false =>
    simp only[Bool.false_eq_true,if_false]
    refine⟨_,?_,i+1,ys,rfl,hlt,W.frame _ _ _ st4 (fun b o _ e=>k5.get (fun q=>q) e),pl4.at fun o e=>k5.get (fun q=>q) e,?_,fgt hmem (F4.kp0 k5),kA⟩
    ·omega
    ·rw[tk1,List.filter_append];simpa[hp]using prB
   |true =>
    simp only[if_true]
    refine wpM ((X hp).run s5 _ (F4.kp0 k5)) (fun y s_6 h_6=>?_)
    obtain⟨ry,k_6⟩:=h_6
    have pl6:s_6.heap.PlainList D ys:=(pl4.at fun o e=>k5.get (fun q=>q) e).at fun o e=>k_6.get (fun q=>q) e
    have hys:ys.size<=sizeLine:=by
     have e1:=(a8 pr).1
     rw[List.length_map]at e1
     have e2:((items.take i).filter te).length<=(items.take i).length:=E4 _ _
     rw[List.length_take]at e2
     have e4:ys.toList.length=ys.size:=by simp
     omega
    refine wpAny_list_append_plain (hsz:=hys) pl6 fun h_7 pl7 hs7=>?_
    have k7:Kp (fun a=>a=D) s_6 {s_6 with heap:=h_7}:=Kp.mk (tk:=s_6.toks) fun b o z e=>(hs7.2 b z).trans e
    refine⟨_,?_,i+1,ys.push y,rfl,hlt,?_,pl7,?_,?_,?_⟩
    ·omega
    ·exact W.frame _ _ _ st4 fun b o hb e=>k7.get (fun q=>by
      subst q
      exact hb.elim dW fun q'=>q' dZ) (k_6.get (fun q=>q) (k5.get (fun q=>q) e))
    ·rw[tk1,List.filter_append]
     simp only[hp,List.filter_cons,List.filter_nil,if_true,List.map_append,List.map_cons,List.map_nil,Array.toList_push]
     have kC:Kp Z' s5 {s_6 with heap:=h_7}:=(k_6.z).trans (k7.weak fun a q=>q▸dZ)
     have:∀{ps:List PV} {vs:List Value},Paired (Rp Z' s5.heap) ps vs->Paired (Rp Z' h_7) ps vs:=fun x=>by
      induction x with
      |nil=>exact .nil
      |cons h _ ih=>exact .cons (h.kp kC) ih
     exact Paired.snoc (this prB) (ry.kp (k7.weak fun a q=>q▸dZ))
    ·have F6:FI H Z' (aC scope env (D+1)) (capt scope ρ) s_6:=fgt hmem ((F4.kp0 k5).kp0 k_6)
     exact F6.frame S' k7 (fun a q=>by subst q;exact⟨dZ,dF⟩) (fun a q=>by subst q;exact F.free (fr _ (A4 _))) fun a q=>by obtain⟨n,e⟩:=pl7;exact⟨_,q▸e⟩
    ·exact kNew (kA.trans k_6) k7 fun a q=>by subst q;exact⟨dZ,dNZ⟩
  ·have hin:i=items.length:=Ef hi hge
   subst hin
   refine wpM (W.done s' _ FF.toGT (by rw[List.length_map];exact st)) (fun r s₃ h_3=>?_)
   obtain⟨rfl,k_3⟩:=h_3
   have pl3:s₃.heap.PlainList D ys:=pl.at fun o e=>k_3.get dW e
   obtain⟨m,hn,_⟩:=FF.ns
   refine hRR D (D+1) s₃ m (kNew kk k_3 wz') ?_ ?_ ?_ (hn.at' fun o e=>k_3.get (fun q=>wf _ q (.inl rfl)) e)
   ·obtain⟨n,eD'⟩:=pl3
    obtain⟨p1,p2⟩:=a8 pr
    rw[List.take_length]at p1 p2
    refine .lst (fun q=>q.elim dNZ fun q=>absurd q (Au (Cd _))) eD' rfl rfl (by simpa using p1) fun j p v e1 e2=>?_
    exact((p2 j p v e1 (by simpa using e2)).kp (k_3.weak fun a q=>(wz' a q).1)).sub fun a o _ q=>q.elim (hsub a) fun q=>q▸S'.zl
   ·exact fr _ (Ad _)
   ·exact fr _ (A4 _)
 refine codeAny_compStart_list (loop _ (A4 _)) ?_
 refine wpM (W.self 0 _ _ st0) (fun v s' h=>?_)
 obtain⟨rfl,rfl⟩:=h
 exact loop _ (A4 _)
structure CS(scope:Scope)(env:Env)(xs:List Str):Prop where
 kind:scope.kind=.function
 nm:∀ x∈scope.names,scope.names.lookup x.1=some x.2
 free:∀ x∈scope.names,x.2=.free->(env.cells.lookup x.1).isSome=true/\env.kindOf x.1≠some .local
 own:∀ y∈xs,scope.names.lookup y=some .local\/scope.names.lookup y=some .cell
def wC(aa:Program)(w:World)(A:Around)(H:Ctx)(Z:ZP)(env:Env)(ρ:List (Str×PV))(scope:Scope)(af:Expr)(xs:List Str)(bc:List Expr)(bb:Expr)(p:PV)(bd:List (Str×PV))(te:Bool)(f:PV):Prop :=
 ∀(C:Addr) (Z':ZP),(∀ a,Z a->Z' a)->FS H.H Z' (aC scope env C) ->
   BD aa w A H Z' (aC scope env C) (capt scope ρ) af xs p (bd++capt scope ρ)/\CT aa w A H Z' (aC scope env C) (bd++capt scope ρ) bc te /\
   (te=true->EX aa w A H Z' (aC scope env C) (bd++capt scope ρ) bb f)
theorem EX.lcomp{bb af iter:Expr}{bc:List Expr}{scope:Scope}{pos:Pos}{xs:List Str}{α:Type}{φ:α->PV}{items:List α}{bd:α->List (Str×PV)}{te:α->Bool}{f:α->PV}
  (S:FS H.H Z env) (C:CS scope env xs) (hI:IX aa w A H Z env ρ af iter (items.map φ))
  (turn:∀ p∈items,wC aa w A H Z env ρ scope af xs bc bb (φ p) (bd p) (te p) (f p))
  (hbd:∀ p∈items,∀ y q,(capt scope ρ).lookup y=some q->(bd p++capt scope ρ).lookup y=some q)
  (hsz:items.length<=sizeLine)
  (hs:∀ x,foldedSetIterable iter env x=pure x) :
  EX aa w A H Z env ρ (.ListComp bb [⟨af,iter,bc,0⟩] scope pos) (.lst ((items.filter te).map f)):=by
 refine⟨fun s E F=>?_⟩
 rw[eval_ListComp]
 refine Di (use:=none) rfl hs (eU fun x hx hk=>(C.free x hx hk).1) C.kind (fun y hy hl=>hl▸C.nm y hy) ?_
 refine wpM (hI.run s E F) (fun v s_1 h_1=>?_)
 refine wpM h_1 (fun it s_2 h_2=>?_)
 obtain⟨k12,I,rfl,wr,wI,hwr,hsrc⟩:=h_2
 refine lZ (RR:=fun acc C=>compPost (model aa w) A E none _ acc C) S F k12 hwr hsrc C.kind C.nm C.free C.own hbd (fun C Z' hz S' p hp=>turn p hp C Z' hz S') hsz ?_
 intro D C' s' m k r n1 n2 hn
 refine⟨m,hn,fun h' hs'=>⟨?_,?_⟩⟩
 ·exact(r.keep fun b o z e=>(hs'.2 b (fun q=>z (.inr q))).trans e).sub fun a o _ q=>.inl q
 ·exact k.join (Kp.mk (Z:=fun _=>True) (h':=h') (tk:=s'.toks) fun b o z e=>absurd trivial z) fun b o z e=>(hs'.2 b (fun q=>by subst q;rw[n1]at e;cases e)).trans (k.get z e)
def lI:List String:=["enumerate","zip","dict_itemiterator","dict_reverseitemiterator","odict_iterator","itertools.zip_longest","itertools.pairwise"]
theorem z9{s:Shared}{E:ZV}{Q:Unit->Shared->Prop}{tgt:Expr}{I:Addr}{v:Value}{o:Obj}{n:String}(e:s.heap.get? I=some o)(hc:o.cls=.type n)(hn:lI.contains n=false)(h:Q () s) :
  wpAny (model aa w) A (letOwnedTupleGo tgt (.ref I) v) Q E s:=by
 unfold letOwnedTupleGo
 split
 ·split
  ·rename_i r a hq
   cases hq
   refine A0 (Ct e ?_)
   obtain⟨c,dd,d,sl⟩:=o
   dsimp only at hc ⊢
   subst hc
   cases d with
   |fields vs =>
    dsimp only
    rw[show(["enumerate","zip","dict_itemiterator","dict_reverseitemiterator","odict_iterator","itertools.zip_longest","itertools.pairwise"].contains n)=false from hn,Bool.false_and]
    exact A1 h
   |_=>exact A1 h
  ·exact A1 h
 ·split
  ·rename_i r a hq
   cases hq
   refine A0 (Ct e ?_)
   obtain⟨c,dd,d,sl⟩:=o
   dsimp only at hc ⊢
   subst hc
   cases d with
   |fields vs =>
    dsimp only
    rw[show(["enumerate","zip","dict_itemiterator","dict_reverseitemiterator","odict_iterator","itertools.zip_longest","itertools.pairwise"].contains n)=false from hn,Bool.false_and]
    exact A1 h
   |_=>exact A1 h
  ·exact A1 h
 ·exact A1 h
theorem Src.of{tgt:Expr}{I:Addr}{n:Nat}{fp:List Addr}{P:Nat->Value->Prop}{St:Nat->Heap->Prop}(W:Walks aa w A I fp [I] n P St)(zI:Z I)(hfp:∀ b∈fp,b=I\/¬Z b)
  (hex:∀ i h,St i h->∃ o n,h.get? I=some o/\o.cls=.type n/\lI.contains n=false) (items:List PV) (hn:items.length=n) (Rep:Heap->Prop) (hRep:∀ h h',Rep h->(∀ b o,¬Z b->h.get? b=some o->h'.get? b=some o)->Rep h')
  (hP:∀ i p v h,items[i]? = some p->P i v->Rep h->Rp Z h p v):Src aa w A H Z tgt (.ref I) (fun a=>a=I) items (fun i h=>St i h/\Rep h) where
 wz:=fun a ha=>by subst ha;exact zI
 ex:=fun i h st a ha=>by subst ha;let⟨o,_,e,_⟩:=hex i h st.1;exact⟨o,e⟩
 frame:=fun i h h' st hk=>⟨W.frame i h h' st.1 fun b hb o e=>hk b o (hfp b hb) e,hRep h h' st.2 fun b o z e=>hk b o (.inr z) e⟩
 item:=fun i p s E hp G st=>by
  have hi:i<n:=hn▸(A8.mp hp).1
  refine Ao (A4 _) (W.item i s _ _ hi st.1 fun v h' tk pv st' hk htk=>?_)
  have htk:s.toks<=tk:=htk
  have k:∀ b o,b≠I->s.heap.get? b=some o->h'.get? b=some o:=fun b o nb e=>hk b o (by simpa using nb) e
  have r':Rep h':=hRep _ _ st.2 fun b o z e=>k b o (fun q=>z (q▸zI)) e
  obtain⟨o,n,e1,e2,e3⟩:=hex _ _ st'
  exact⟨v,rfl,z9 e1 e2 e3 ⟨hP i p v h' hp pv r',⟨st',r'⟩,Kp.mk fun b o nb e=>k b o nb e⟩⟩
 done:=fun s E G st=>Ao (A4 _) <|W.done s _ _ (hn▸st.1) fun h' tk hk (htk:s.toks<=tk)=>⟨rfl,Kp.mk fun b o nb e=>hk b o (by simpa using nb) e⟩
 self:=fun i s E st=>W.self i s _ _ st.1 ⟨rfl,rfl⟩
def jP(x:Str):List PV:=x.cps.toList.map fun c=>.str ⟨#[c]⟩
theorem It.mk{tgt:Expr}{items:List PV}{s:Shared}{o:Obj}{fp:List Addr}{n:Nat}{P:Nat->Value->Prop}{St:Nat->Heap->Prop}{Rep:(Addr->Prop)->Heap->Prop}(hf:o.isFreed=false)
  (W:Walks aa w A s.heap.objs.size fp [s.heap.objs.size] n P St) (hfp:∀ b∈fp,b=s.heap.objs.size\/(¬Z b/\∃ o,s.heap.get? b=some o))
  (hex:∀ i h,St i h->∃ o n,h.get? s.heap.objs.size=some o/\o.cls=.type n/\lI.contains n=false) (hn:items.length=n)
  (hRep:∀ Z' h h',Rep Z' h->(∀ b o,¬Z' b->h.get? b=some o->h'.get? b=some o)->Rep Z' h') (hP:∀ Z' i p v h,items[i]? = some p->P i v->Rep Z' h->Rp Z' h p v)
  (hR0:∀ Z':Addr->Prop,(∀ a o',s.heap.get? a=some o'->Z' a->Z a)->Rep Z' (s.heap.push o)) (st:St 0 (s.heap.push o)) :
  Kp N0 s {s with heap:=s.heap.push o}/\Got aa w A H Z tgt items s (.ref s.heap.objs.size) {s with heap:=s.heap.push o}:=by
 have old:∀ Z':Addr->Prop,(∀ a,Z' a->Z a\/a=s.heap.objs.size\/(s.heap.push o).get? a=none)->∀ a o',s.heap.get? a=some o'->Z' a->Z a:=fun Z' h3 a o' e q=>by
  rcases h3 a q with q|q|q
  ·exact q
  ·subst q;exact absurd (Ac e) (At _)
  ·rw[Heap.get?_push_of_some _ e]at q;cases q
 refine⟨Kp.push _ _ _,_,rfl,fun a=>a=s.heap.objs.size,rfl,fun a ha=>?_,fun Z' h1 h2 h3=>⟨_,⟨st,hR0 Z' (old Z' h3)⟩,Src.of W (h2 _ rfl) (fun b hb=>?_) hex items hn (Rep Z') (hRep Z') (hP Z')⟩⟩
 ·subst ha;exact⟨aE _ (A4 _),_,A3 _ hf⟩
 ·rcases hfp b hb with q|⟨q1,o',q2⟩
  ·exact .inl q
  ·exact .inr fun z=>q1 (old Z' h3 b o' q2 z)
theorem It.str{tgt:Expr}{x:Str}(hA:A.handled=none):It aa w A H Z tgt (.str x) (jP x):=by
 intro s E v G hv
 cases hv with
 |str x t =>
 have hP:∀(Z':ZP) i p v (h:Heap),(jP x)[i]? = some p->SignAt x i v->True->Rp Z' h p v:=by
  intro Z' i p v h hp pv _
  obtain⟨c,u,hc,rfl⟩:=pv
  have e:(jP x)[i]? = some (.str ⟨#[c]⟩):=by simp[jP,hc]
  rw[e]at hp
  cases hp
  exact .str _ _
 cases ha:x.cps.all (· < 128)
 ·exact wpAny_pyIter_wide ha (It.mk (items:=jP x) (Rep:=fun _ _=>True) rfl (Walks.strWide hA _ x t) (fun b hb=>.inl (by simpa using hb)) (fun i h st=>let⟨o,e,c,_⟩:=st;⟨o,_,e,c,by decide⟩) (by simp[jP]) (fun _ _ _ r _=>r) hP (fun _ _=>trivial) ⟨_,A3 _ rfl,rfl,rfl⟩)
 ·exact wpAny_pyIter_ascii ha (It.mk (items:=jP x) (Rep:=fun _ _=>True) rfl (Walks.strAscii hA _ x t) (fun b hb=>.inl (by simpa using hb)) (fun i h st=>let⟨o,e,c,_⟩:=st;⟨o,_,e,c,by decide⟩) (by simp[jP]) (fun _ _ _ r _=>r) hP (fun _ _=>trivial) ⟨_,A3 _ rfl,rfl,rfl⟩)
theorem It.lst{tgt:Expr}{l:List PV}(hA:A.handled=none):It aa w A H Z tgt (.lst l) l:=by
 intro s E v G hv
 obtain⟨a,o,items,n,rfl,z,e,c,d,hs,hi⟩:=Rp.lstI hv
 have bn:a≠s.heap.objs.size:=Au (Ac e)
 refine wpAny_pyIter_list ⟨o,e,c,n,d⟩ (It.mk (items:=l) (Rep:=fun Z' h=>∀(i:Nat) p v,l[i]? = some p->items[i]? = some v->Rp Z' h p v) rfl (Walks.list hA _ a bn items) (fun b hb=>?_) (fun i h st=>let⟨o,e,c,_⟩:=st.1;⟨o,_,e,c,by decide⟩) hs.symm
  (fun Z' h h' r k i p v e1 e2=>(r i p v e1 e2).keep k) (fun Z' i p v h hp hv r=>r i p v hp hv) (fun Z' h3 i p v e1 e2=>?_) ⟨⟨_,A3 _ rfl,rfl,rfl⟩,⟨o,A2 _ e,c,n,d⟩⟩)
 ·simp at hb
  rcases hb with rfl|rfl
  ·exact .inl rfl
  ·exact .inr ⟨z,_,e⟩
 ·exact((hi i p v e1 e2).sub h3).keep fun b o' _ e'=>A2 _ e'
theorem It.tup{tgt:Expr}{l:List PV}(hA:A.handled=none):It aa w A H Z tgt (.tup l) l:=by
 intro s E v G hv
 obtain⟨a,o,items,n,rfl,z,e,c,d,hs,hi⟩:=Rp.tupI hv
 have bn:a≠s.heap.objs.size:=Au (Ac e)
 refine wpAny_pyIter_tuple ⟨o,e,c,n,d⟩ (It.mk (items:=l) (Rep:=fun Z' h=>∀(i:Nat) p v,l[i]? = some p->items[i]? = some v->Rp Z' h p v) rfl (Walks.tuple hA _ a bn items) (fun b hb=>?_) (fun i h st=>let⟨o,e,c,_⟩:=st.1;⟨o,_,e,c,by decide⟩) hs.symm
  (fun Z' h h' r k i p v e1 e2=>(r i p v e1 e2).keep k) (fun Z' i p v h hp hv r=>r i p v hp hv) (fun Z' h3 i p v e1 e2=>?_) ⟨⟨_,A3 _ rfl,rfl,rfl⟩,⟨o,A2 _ e,c,n,d⟩⟩)
 ·simp at hb
  rcases hb with rfl|rfl
  ·exact .inl rfl
  ·exact .inr ⟨z,_,e⟩
 ·exact((hi i p v e1 e2).sub h3).keep fun b o' _ e'=>A2 _ e'
def iY(a:Int)(n:Nat):List PV:=(List.range n).map fun(i:Nat)=>.int (a+(i:Int))
theorem It.rng{tgt:Expr}{a b:Int}(hA:A.handled=none)(hs:Builtin.Range.small a b 1=true):It aa w A H Z tgt (.rng a b) (iY a (b-a).toNat):=by
 intro s E v G hv
 cases hv with
 | @rng r _ _ t u v z e =>
 have hsz:Builtin.Range.rangeSize a b 1=(((b-a).toNat:Nat):Int):=by
  unfold Builtin.Range.rangeSize
  rw[if_pos ‹d›]
  split <;> omega
 refine wpAny_pyIter_range e hs ?_
 rw[hsz]
 refine It.mk (items:=iY a (b-a).toNat) (Rep:=fun _ _=>True) rfl (Walks.range hA _ a 1 (b-a).toNat) (fun b hb=>.inl (by simpa using hb)) (fun i h st=>⟨_,_,st,rfl,by decide⟩) (by simp[iY]) (fun _ _ _ r _=>r) ?_ (fun _ _=>trivial) ?_
 ·intro Z' i p v h hp pv _
  obtain⟨t,rfl⟩:=pv
  have hi:=(A8.mp hp).1
  have e:(iY a (b-a).toNat)[i]? = some (.int (a+i)):=by
   simp only[iY,List.length_map,List.length_range]at hi
   simp[iY,hi]
  rw[e]at hp;cases hp
  rw[Int.mul_one];exact .int _ _
 ·simp only[Int.natCast_zero,Int.zero_mul,Int.add_zero,Int.sub_zero]
  exact A3 _ rfl
def CB(aa:Program)(w:World)(A:Around)(H:Ctx)(Z:ZP)(f:Value)(ps:List PV)(r:PV):Prop :=
 ∀(s:Shared) (E:ZV) vs,GS H Z s->Paired (Rp Z s.heap) ps vs->wpAny (model aa w) A (call f vs) (fun v s'=>Rp Z s'.heap r v/\Kp N0 s s') E s
structure GMs(aa:Program)(w:World)(A:Around)(name:Str)(id:String):Prop where
 run:∀(s:Shared) (E:ZV) (x:Str) (t:Tok) (pl:Sem Bool) (Q:Value×List Value->Shared->Prop) (m:Sem (Value×List Value)),m=getMethod (.str x t) name pl->Q (.builtin id,[.str x t]) s->wpAny (model aa w) A m Q E s
theorem EX.sm0{o:Expr}{name:Str}{aq pos:Pos}{id:String}{x:Str}{r:PV}{pl:Sem Bool}(ho:EX aa w A H Z env ρ o (.str x))(hm:GMs aa w A name id)(hc:CB aa w A H Z (.builtin id) [.str x] r)
  (he:eval (.Call (.Attribute o name aq) [] [] pos) env=(do
   let ov <-eval o env
   standAt aq.atName
   let(f,first) <-holding [ov] (getMethod ov name pl)
   callWith pos f first (backTo pos (starEach [] env)) [])):EX aa w A H Z env ρ (.Call (.Attribute o name aq) [] [] pos) r:=by
 refine⟨fun s E F=>?_⟩
 refine Br (pl:=pl) (wpM (ho.run s E F) (fun v s_1 h_1=>?_)) he
 obtain⟨hv,k⟩:=h_1
 cases hv with
 |str x t =>
 refine hm.run s_1 E x t pl _ _ rfl (callWith_method0 ?_)
 exact wpM (hc s_1 E _ (F.kp0 k).toGS (.cons (.str _ _) .nil)) (fun y s_2 h_2=>⟨h_2.1,k.trans h_2.2⟩)
theorem EX.sm1{o e:Expr}{ai:List Expr}{name:Str}{aq pos:Pos}{id:String}{x:Str}{ps:List PV}{r:PV}{pl:Sem Bool}(ho:EX aa w A H Z env ρ o (.str x))(hm:GMs aa w A name id)(hl:LX aa w A H Z env ρ pos (e::ai) ps)
  (hc:CB aa w A H Z (.builtin id) (.str x::ps) r)
  (he:eval (.Call (.Attribute o name aq) (e::ai) [] pos) env=(do
   let ov <-eval o env
   standAt aq.atName
   let(f,first) <-holding [ov] (getMethod ov name pl)
   callWith pos f first (backTo pos (starEach (e::ai) env)) []))
  (hs:starEach (e::ai) env=(false,eval e env)::starEach ai env) (hplain:(backTo pos (starEach ai env)).any (·.1)=false):EX aa w A H Z env ρ (.Call (.Attribute o name aq) (e::ai) [] pos) r:=by
 refine⟨fun s E F=>?_⟩
 refine Br (pl:=pl) (wpM (ho.run s E F) (fun v s_1 h_1=>?_)) he
 obtain⟨hv,k⟩:=h_1
 cases hv with
 |str x t =>
 refine hm.run s_1 E x t pl _ _ rfl (Bx (wpM (hl.run s_1 E (F.kp0 k)) (fun vs s_2 h_2=>?_)) hs hplain)
 exact wpM (hc s_2 E _ ((F.kp0 k).kp0 h_2.2).toGS (.cons (.str _ _) h_2.1)) (fun y s₃ h_3=>⟨h_3.1,k.trans (h_2.2.trans h_3.2)⟩)
theorem GMs.join:GMs aa w A "join" "str.join":=⟨fun s E x t pl Q m e h=>by rw[e];exact GM.join h⟩
theorem GMs.upper:GMs aa w A "upper" "str.upper":=⟨fun s E x t pl Q m e h=>by rw[e];exact GM.upper h⟩
theorem GMs.lower:GMs aa w A "lower" "str.lower":=⟨fun s E x t pl Q m e h=>by rw[e];exact GM.lower h⟩
theorem sJ{Z:ZP}{h:Heap}:∀(xs:List Str) (vs:List Value),vs.length=xs.length->(∀(i:Nat) p v,(xs.map PV.str)[i]? = some p->vs[i]? = some v->Rp Z h p v)->∃ l:List (Str×Tok),l.map (·.1)=xs/\strValues l=vs
 |[],[],_,_=>⟨[],rfl,rfl⟩
 |[],_::_,e,_=>by simp at e
 |_::_,[],e,_=>by simp at e
 |x::xs,v::vs,e,hi=>by
  obtain⟨l,h1,h2⟩:=sJ xs vs (by simpa using e) fun i p v e1 e2=>hi (i+1) p v (by simpa using e1) (by simpa using e2)
  have h0:=hi 0 (.str x) v ‹s› ‹s›
  cases h0 with
  |str x t=>exact⟨(x,t)::l,by simp[h1],by simp[strValues]at h2 ⊢;exact h2⟩
theorem CB.join{sep:Str}{xs:List Str}(hok:JoinOk sep xs=true):CB aa w A H Z (.builtin "str.join") [.str sep,.lst (xs.map .str)] (.str (Txt.join sep xs)):=by
 intro s E vs G hp
 obtain⟨_,_,rfl,h1,hp⟩:=aI hp
 obtain⟨_,_,rfl,h2,hp⟩:=aI hp
 cases hp
 cases h1
 obtain⟨a,o,items,n,rfl,z,e,c,d,hs,hi⟩:=Rp.lstI h2
 obtain⟨l,e1,e2⟩:=sJ xs items.toList (by simpa using hs) fun i p v q1 q2=>hi i p v q1 (by simpa using q2)
 refine Ao (A4 _) (SC.join (l:=l) (texts:=xs) ⟨o,e,c,n,?_⟩ e1 hok fun t' k (htk:s.toks<=k)=>⟨.str _ _,Kp.toks _ _ _⟩)
 rw[d,e2]
theorem O2.addS{x y:Str}(h:x.length+y.length<=sizeLine):O2 aa w A H Z (binaryOp .Add) (.str x) (.str y) (.str (x++y)):=by
 intro s E v u G hv hu
 cases hv;cases hu
 exact Ao (A4 _) (add_str (fun t' tk (htk:s.toks<=tk)=>⟨.str _ _,Kp.toks _ _ _⟩) h)
def eH(x y:Str):Bool:=!(Builtin.Str.occurrences x y 0 x.length 1).isEmpty
theorem O2.inS{x y:Str}:O2 aa w A H Z (compareOp .In) (.str y) (.str x) (.bool (eH x y)):=by
 intro s E v u G hv hu
 cases hv;cases hu
 exact in_str ⟨.bool _,Kp.refl _ _⟩
theorem O2.notInS{x y:Str}:O2 aa w A H Z (compareOp .NotIn) (.str y) (.str x) (.bool (!eH x y)):=by
 intro s E v u G hv hu
 cases hv;cases hu
 exact notIn_str ⟨.bool _,Kp.refl _ _⟩
theorem O2.eqS{x y:Str}:O2 aa w A H Z (compareOp .Eq) (.str x) (.str y) (.bool (x==y)):=by
 intro s E v u G hv hu
 cases hv;cases hu
 exact eq_str ⟨.bool _,Kp.refl _ _⟩
theorem O2.neS{x y:Str}:O2 aa w A H Z (compareOp .NotEq) (.str x) (.str y) (.bool (x != y)):=by
 intro s E v u G hv hu
 cases hv;cases hu
 exact ne_str ⟨.bool _,Kp.refl _ _⟩
def PV.py:PV->PyData
 | .none=>.none
 | .bool b=>.bool b
 | .int i=>.int i
 | .str x=>.str x
 | .tup l=>.tuple (pys l)
 | .lst l=>.list (pys l)
 | .rng _ _=>.none
 | .raw _=>.none
 | .stk x _=>.str x
 | .own _=>.none
where pys:List PV->List PyData
 |[]=>[]
 |p::r=>p.py::pys r
def PV.plain:PV->Bool
 | .none| .bool _| .int _| .str _=>true
 | .tup l=>plains l
 | .lst l=>plains l
 | .rng _ _=>false
 | .raw _=>false
 | .stk _ _=>false
 | .own _=>false
where plains:List PV->Bool
 |[]=>true
 |p::r=>p.plain&&plains r
end
theorem j3{h:Heap}:∀(l:List PV) (vs:List Value),vs.length=l.length->(∀(i:Nat) p v,l[i]? = some p->vs[i]? = some v->p.plain=true->∃ as,Reads h v p.py as)->PV.plain.plains l=true ->
  ∃ as,ReadsAll h vs (PV.py.pys l) as
 |[],[],_,_,_=>⟨[],.nil⟩
 |[],_::_,e,_,_=>by simp at e
 |_::_,[],e,_,_=>by simp at e
 |p::l,v::vs,e,hi,hp=>by
  have hp':(p.plain&&PV.plain.plains l)=true:=hp
  obtain⟨h1,h2⟩:=A6.mp hp'
  obtain⟨as,ha⟩:=hi 0 p v ‹s› ‹s› h1
  obtain⟨bs,hb⟩:=j3 l vs (by simpa using e) (fun i p v e1 e2=>hi (i+1) p v (by simpa using e1) (by simpa using e2)) h2
  exact⟨as++bs,.cons ha hb⟩
theorem Rp.reads{Z:ZP}{h:Heap}{p:PV}{v:Value}(x:Rp Z h p v):p.plain=true->∃ as,Reads h v p.py as:=by
 induction x with
 |none=>exact fun _=>⟨_,.none⟩
 |bool b=>exact fun _=>⟨_,.bool b⟩
 |int i t=>exact fun _=>⟨_,.int i t⟩
 |str x t=>exact fun _=>⟨_,.str x t⟩
 | @tup l a o items n z e c d hs hi ih =>
  intro hp
  obtain⟨as,ha⟩:=j3 l items.toList (by simpa using hs) (fun i p v e1 e2=>ih i p v e1 (by simpa using e2)) hp
  exact⟨_,.tuple e c d ha⟩
 | @lst l a o items n z e c d hs hi ih =>
  intro hp
  obtain⟨as,ha⟩:=j3 l items.toList (by simpa using hs) (fun i p v e1 e2=>ih i p v e1 (by simpa using e2)) hp
  exact⟨_,.list e c d ha⟩
 |rng z e=>exact fun h=>by cases h
 |raw v=>exact fun h=>by cases h
 |stk x P t q=>exact fun h=>by cases h
 |own P v q=>exact fun h=>by cases h
structure Pl(p:PV):Prop where
 plain:p.plain=true
 lay:p.py.canLay0=true
 deep:p.py.depth<=8
section
theorem O2.eqD{p q:PV}(hp:Pl p)(hq:Pl q)(hu:A.units+16<cLine):O2 aa w A H Z (compareOp .Eq) p q (.bool (PyData.eqv p.py q.py)):=by
 intro s E v u G hv hu'
 obtain⟨as,ra⟩:=hv.reads hp.plain
 obtain⟨bs,rb⟩:=hu'.reads hq.plain
 exact SeqAt.compareEq_reads ra rb hp.lay hq.lay (by have:=hp.deep;omega) ⟨.bool _,Kp.refl _ _⟩
theorem O2.neD{p q:PV}(hp:Pl p)(hq:Pl q)(hu:A.units+16<cLine):O2 aa w A H Z (compareOp .NotEq) p q (.bool (!PyData.eqv p.py q.py)):=by
 intro s E v u G hv hu'
 obtain⟨as,ra⟩:=hv.reads hp.plain
 obtain⟨bs,rb⟩:=hu'.reads hq.plain
 exact SeqAt.compareNe_reads ra rb hp.lay hq.lay (by have:=hp.deep;omega) ⟨.bool _,Kp.refl _ _⟩
theorem O2.inT{p:PV}{l:List PV}(hp:Pl p)(hq:Pl (.tup l))(hu:A.units+16<cLine):O2 aa w A H Z (compareOp .In) p (.tup l) (.bool ((PV.py.pys l).any fun y=>PyData.eqv y p.py)):=by
 intro s E v u G hv hu'
 obtain⟨as,ra⟩:=hv.reads hp.plain
 obtain⟨bs,rb⟩:=hu'.reads hq.plain
 exact SeqAt.in_tuple_reads rb ra hq.lay hp.lay (by have:=hp.deep;omega) ⟨.bool _,Kp.refl _ _⟩
theorem dJ{xs:List Str}(h:∀ x∈xs,PyData.strOk x=true):Pl (.lst (xs.map .str)):=by
 have h1:∀ xs:List Str,PV.plain.plains (xs.map .str)=true:=fun xs=>by
  induction xs with
  |nil=>rfl
  |cons x r ih=>exact A6.mpr ⟨rfl,ih⟩
 have h2:∀ xs:List Str,(∀ x∈xs,PyData.strOk x=true)->PyData.canLayAll0 (PV.py.pys (xs.map .str))=true:=fun xs=>by
  induction xs with
  |nil=>intro _;rfl
  |cons x r ih =>
   intro h
   show(PyData.canLay0 (.str x)&&_)=true
   exact A6.mpr ⟨by rw[PyData.canLay0];exact h x Ah,ih fun y hy=>h y (Ae _ hy)⟩
 have h3:∀ xs:List Str,PyData.depthAll (PV.py.pys (xs.map .str))=0:=fun xs=>by
  induction xs with
  |nil=>rfl
  |cons x r ih =>
   show max (PyData.depth (.str x)) (PyData.depthAll (PV.py.pys (r.map .str)))=0
   rw[ih,PyData.depth];rfl
 exact⟨h1 xs,by show PyData.canLay0 (.list _)=true;rw[PyData.canLay0];exact h2 xs h,by show PyData.depth (.list _)<=8;rw[PyData.depth,h3];decide⟩
theorem rL(xs:List Str):PyData.eqv (PV.lst (xs.map .str)).py (PV.lst []).py=xs.isEmpty:=by
 cases xs with
 |nil=>rfl
 |cons x r=>rfl
end
abbrev Led:=List (Addr×MO)
abbrev Ctx.at(H:Ctx)(L:Led):Ctx:=⟨H.H,H.D,L,H.tk⟩
inductive Out where
 |next (L:Led) (ρ:List (Str×PV))
 |cont (L:Led) (ρ:List (Str×PV))
 |brk (L:Led) (ρ:List (Str×PV))
 |ret (L:Led) (p:PV)
def kO(H:Ctx)(Z:ZP)(env:Env):Out->Flow->Shared->Prop
 | .next L ρ,f,s=>f=.next/\FI (H.at L) Z env ρ s
 | .cont L ρ,f,s=>f=.cont/\FI (H.at L) Z env ρ s
 | .brk L ρ,f,s=>f=.brk/\FI (H.at L) Z env ρ s
 | .ret L p,f,s=>∃ v,f=.ret v/\Rp Z s.heap p v/\GS (H.at L) Z s
theorem kO.at{H:Ctx}{L:Led}{Z:ZP}{env:Env}{o:Out}{f:Flow}{s:Shared}(h:kO (H.at L) Z env o f s):kO H Z env o f s:=by
 cases o <;> exact h
def Tn(H:Ctx)(env:Env)(a:Addr):Prop:=Fa env a\/H.D a
section
variable(aa:Program)(w:World)(A:Around)(H:Ctx)(Z:ZP)(env:Env)(ρ:List (Str×PV))
structure SX(st:Stmt)(o:Out):Prop where
 run:∀ s (E:ZV),FI H Z env ρ s->wpAny (model aa w) A (exec st env) (fun f s'=>kO H Z env o f s'/\Kp (Tn H env) s s') E s
structure SXs(ss:List Stmt)(o:Out):Prop where
 run:∀ s (E:ZV),FI H Z env ρ s->wpAny (model aa w) A (execs ss env) (fun f s'=>kO H Z env o f s'/\Kp (Tn H env) s s') E s
end
abbrev Ctx.atK(H:Ctx)(K:Nat)(L:Led):Ctx:=⟨H.H,H.D,L,K⟩
section
theorem FI.raise{K:Nat}(F:FI H Z env ρ s)(h:K<=s.toks):FI (H.atK K H.L) Z env ρ s:=⟨⟨⟨F.top,F.zex⟩,h,F.dz,F.ld⟩,F.ns,F.cl,F.zc,F.lf⟩
theorem FI.lower{K:Nat}{L:Led}(F:FI (H.atK K L) Z env ρ s)(h:H.tk<=K):FI (H.at L) Z env ρ s:=⟨⟨⟨F.top,F.zex⟩,A7 h F.tk,F.dz,F.ld⟩,F.ns,F.cl,F.zc,F.lf⟩
theorem SXs.nil:SXs aa w A H Z env ρ [] (.next H.L ρ):=⟨fun s E F=>C8 ⟨⟨rfl,F⟩,Kp.refl _ _⟩⟩
theorem SXs.cons{st:Stmt}{ai:List Stmt}{o:Out}{L:Led}(h:SX aa w A H Z env ρ st (.next L ρ'))(hr:SXs aa w A (H.at L) Z env ρ' ai o):SXs aa w A H Z env ρ (st::ai) o:=by
 refine⟨fun s E F=>?_⟩
 refine Aq (wpM (h.run s E F) (fun f s_1 h_1=>?_))
 obtain⟨⟨rfl,F_1⟩,k⟩:=h_1
 exact wpM (hr.run s_1 E F_1) (fun f s_2 h_2=>⟨h_2.1.at,k.trans h_2.2⟩)
theorem SXs.ret{st:Stmt}{ai:List Stmt}{L:Led}{p:PV}(h:SX aa w A H Z env ρ st (.ret L p)):SXs aa w A H Z env ρ (st::ai) (.ret L p):=by
 refine⟨fun s E F=>?_⟩
 refine Aq (wpM (h.run s E F) (fun f s_1 h_1=>?_))
 obtain⟨⟨v,rfl,r⟩,k⟩:=h_1
 exact⟨⟨v,rfl,r⟩,k⟩
theorem SXs.cont{st:Stmt}{ai:List Stmt}{L:Led}(h:SX aa w A H Z env ρ st (.cont L ρ')):SXs aa w A H Z env ρ (st::ai) (.cont L ρ'):=by
 refine⟨fun s E F=>?_⟩
 refine Aq (wpM (h.run s E F) (fun f s_1 h_1=>?_))
 obtain⟨⟨rfl,r⟩,k⟩:=h_1
 exact⟨⟨rfl,r⟩,k⟩
theorem SXs.brk{st:Stmt}{ai:List Stmt}{L:Led}(h:SX aa w A H Z env ρ st (.brk L ρ')):SXs aa w A H Z env ρ (st::ai) (.brk L ρ'):=by
 refine⟨fun s E F=>?_⟩
 refine Aq (wpM (h.run s E F) (fun f s_1 h_1=>?_))
 obtain⟨⟨rfl,r⟩,k⟩:=h_1
 exact⟨⟨rfl,r⟩,k⟩
theorem SXs.one{st:Stmt}{o:Out}(h:SX aa w A H Z env ρ st o):SXs aa w A H Z env ρ [st] o:=by
 cases o with
 |next L ρ'=>exact SXs.cons h SXs.nil
 |cont L ρ'=>exact SXs.cont h
 |brk L ρ'=>exact SXs.brk h
 |ret L p=>exact SXs.ret h
theorem Kp.fb{xs:List Str}{s s':Shared}(k:Kp (Fb xs env) s s'):Kp (Tn H env) s s':=k.weak fun _ h=>.inl h.fa
def Bds(env:Env)(x:Str):Prop:=env.kindOf x=some .local\/(env.kindOf x=some .cell/\(env.cells.lookup x).isSome=true)
theorem SX.assign{x:Str}{px pos:Pos}{e:Expr}{p:PV}(S:FS H.H Z env)(h:EX aa w A H Z env ρ e p)(hk:Bds env x)
  (hs:swapsWith e (some (.Name x px)) pos.line env=pure false):SX aa w A H Z env ρ (.Assign [.Name x px] e pos) (.next H.L ((x,p)::ρ)):=by
 refine⟨fun s E F=>?_⟩
 refine By (wpM (h.run s E F) (fun v s_1 h_1=>?_)) hs
 exact wpM (FI.store S (F.kp0 h_1.2) h_1.1 hk) (fun _ s_2 h_2=>⟨⟨rfl,h_2.1⟩,h_1.2.z.trans h_2.2.fb⟩)
theorem SX.retn{pos:Pos}{e:Expr}{p:PV}(h:EX aa w A H Z env ρ e p):SX aa w A H Z env ρ (.Return (some e) pos) (.ret H.L p):=by
 refine⟨fun s E F=>?_⟩
 exact Fg (wpM (h.run s E F) (fun v s_1 h_1=>⟨⟨v,rfl,h_1.1,(F.kp0 h_1.2).toGS⟩,h_1.2.z⟩))
theorem SX.ite{t:Expr}{body orelse:List Stmt}{pos:Pos}{b:Bool}{o:Out}(ht:TX aa w A H Z env ρ t b)(h1:b=true->SXs aa w A H Z env ρ body o)(h2:b=false->SXs aa w A H Z env ρ orelse o) :
  SX aa w A H Z env ρ (.If t body orelse pos) o:=by
 refine⟨fun s E F=>?_⟩
 refine wpAny_If (wpM (ht.run s E F) (fun c s_1 h_1=>?_))
 obtain⟨rfl,k⟩:=h_1
 cases c with
 |true=>exact wpM ((h1 rfl).run s_1 E (F.kp0 k)) (fun f s_2 h_2=>⟨h_2.1,k.z.trans h_2.2⟩)
 |false=>exact wpM ((h2 rfl).run s_1 E (F.kp0 k)) (fun f s_2 h_2=>⟨h_2.1,k.z.trans h_2.2⟩)
theorem SX.forget{st:Stmt}{o:Out}(h:SX aa w A H Z env ρ' st o)(hs:∀ y q,ρ'.lookup y=some q->ρ.lookup y=some q):SX aa w A H Z env ρ st o:=⟨fun s E F=>h.run s E (F.forget hs)⟩
theorem SXs.forget{st:List Stmt}{o:Out}(h:SXs aa w A H Z env ρ' st o)(hs:∀ y q,ρ'.lookup y=some q->ρ.lookup y=some q):SXs aa w A H Z env ρ st o:=⟨fun s E F=>h.run s E (F.forget hs)⟩
theorem SXs.next_forget{st:List Stmt}{L:Led}{ρ'':List (Str×PV)}(h:SXs aa w A H Z env ρ st (.next L ρ'))(hs:∀ y q,ρ''.lookup y=some q->ρ'.lookup y=some q):SXs aa w A H Z env ρ st (.next L ρ'') :=
 ⟨fun s E F=>wpM (h.run s E F) (fun f s_1 h_1=>⟨⟨h_1.1.1,h_1.1.2.forget hs⟩,h_1.2⟩)⟩
theorem SXs.cont_forget{st:List Stmt}{L:Led}{ρ'':List (Str×PV)}(h:SXs aa w A H Z env ρ st (.cont L ρ'))(hs:∀ y q,ρ''.lookup y=some q->ρ'.lookup y=some q):SXs aa w A H Z env ρ st (.cont L ρ'') :=
 ⟨fun s E F=>wpM (h.run s E F) (fun f s_1 h_1=>⟨⟨h_1.1.1,h_1.1.2.forget hs⟩,h_1.2⟩)⟩
inductive Stp (σ:Type) where
 |go (st:σ)
 |brk (st:σ)
 |ret (L:Led) (p:PV)
def runFor{σ α:Type}(step:σ->α->Stp σ):List α->σ->σ ⊕ (Led×PV)
 |[],st=>.inl st
 |p::r,st=>match step st p with
  | .go st'=>runFor step r st'
  | .brk st'=>.inl st'
  | .ret L q=>.inr (L,q)
def nJ{σ:Type}(g:σ->Led)(f:σ->List (Str×PV)):σ ⊕ (Led×PV)->Out
 | .inl st=>.next (g st) (f st)
 | .inr (L,p)=>.ret L p
theorem FI.shrink{Z':ZP}{s s_0:Shared}{ρ0:List (Str×PV)}{L:Led}(F_0:FI (H.at L) Z env ρ0 s_0)(F:FI H Z' env ρ s)(hz:∀ a,Z a->Z' a):FI H Z env ρ s:=by
 refine⟨⟨⟨F.top,fun a z=>F.zex a (hz a z)⟩,F.tk,F_0.dz,fun a m e=>⟨(F.ld a m e).1,(F.ld a m e).2.sub fun a o _ q=>hz a q⟩⟩,?_,fun y p e l=>?_,fun y c e=>⟨(F_0.zc y c e).1,(F.zc y c e).2⟩,F.lf⟩
 ·obtain⟨m,hn,hm⟩:=F.ns
  refine⟨m,hn,fun y p e l=>?_⟩
  obtain⟨v,e1,e2⟩:=hm y p e l
  exact⟨v,e1,e2.sub fun a o _ q=>hz a q⟩
 ·obtain⟨q,c,v,e1,e2,e3⟩:=F.cl y p e l
  exact⟨q,c,v,e1,e2,e3.sub fun a o _ q=>hz a q⟩
theorem FI.widen{Z':ZP}{s_1 s:Shared}(F:FI H Z env ρ s_1)(k:Kp N0 s_1 s)(hz:∀ a,Z a->Z' a)(hn:∀ a,Z' a->¬Z a->s_1.heap.get? a=none)(hx:∀ a,Z' a->∃ o,s.heap.get? a=some o):FI H Z' env ρ s:=by
 have old:∀ a o,s_1.heap.get? a=some o->Z' a->Z a:=fun a o e q=>Cj fun nz=>by rw[hn a q nz]at e;cases e
 have rp:∀{p:PV} {v:Value},Rp Z s_1.heap p v->Rp Z' s.heap p v:=fun x=>(x.sub old).kp0 k
 have G:=F.kp0 k
 refine⟨⟨⟨G.top,hx⟩,A7 F.tk k.tk,fun a d=>hz a (F.dz a d),fun a m e=>⟨(F.ld a m e).1,((F.ld a m e).2.sub old).keep (fun o e=>k.get (fun q=>q) e) fun b o _ e=>k.get (fun q=>q) e⟩⟩,?_,fun y p e l=>?_,fun y c e=>⟨hz c (F.zc y c e).1,(G.zc y c e).2⟩,F.lf⟩
 ·obtain⟨m,hn,hm⟩:=F.ns
  refine⟨m,hn.at' fun o e=>k.get (fun q=>q) e,fun y p e l=>?_⟩
  obtain⟨v,e1,e2⟩:=hm y p e l
  exact⟨v,e1,rp e2⟩
 ·obtain⟨q,c,v,e1,e2,e3⟩:=F.cl y p e l
  exact⟨q,c,v,e1,e2.keeps (fun b o e=>k.get (fun q=>q) e),rp e3⟩
theorem FI.after{Z' W:ZP}{s s' s_0:Shared}{ρ0:List (Str×PV)}{L:Led}(F_0:FI (H.at L) Z env ρ0 s_0)(S':FS H.H Z' env)(F:FI H Z' env ρ s)(k:Kp W s s')(hz:∀ a,Z a->Z' a)(hw:∀ a,W a->Z' a/\¬Fa env a/\¬Z a):FI H Z env ρ s':=by
 have nf:∀ a,Fa env a->¬W a:=fun a f q=>(hw a q).2.1 f
 have kz:∀ b o,¬Z' b->s.heap.get? b=some o->s'.heap.get? b=some o:=fun b o z e=>k.get (fun q=>z (hw b q).1) e
 have dz:∀ a,H.D a->Z a:=F_0.dz
 refine⟨⟨⟨fun b o e=>?_,fun a z=>?_⟩,A7 F.tk k.tk,dz,fun a m e=>⟨(F.ld a m e).1,?_⟩⟩,?_,fun y p e l=>?_,fun y c e=>?_,F.lf⟩
 ·exact kz b o (fun z=>by rw[S'.zt b z]at e;cases e) (F.top b o e)
 ·obtain⟨o,e⟩:=F.zex a (hz a z)
  exact⟨o,k.get (fun q=>(hw a q).2.2 z) e⟩
 ·exact((F.ld a m e).2.keep (fun o e'=>k.get (fun q=>(hw a q).2.2 (dz a (F.ld a m e).1)) e') kz).sub fun a o _ q=>hz a q
 ·obtain⟨m,hn,hm⟩:=F.ns
  refine⟨m,hn.at' fun o e=>k.get (nf _ (.inl rfl)) e,fun y p e l=>?_⟩
  obtain⟨v,e1,e2⟩:=hm y p e l
  exact⟨v,e1,(e2.keep kz).sub fun a o _ q=>hz a q⟩
 ·obtain⟨q,c,v,e1,⟨o,e2,e2'⟩,e3⟩:=F.cl y p e l
  exact⟨q,c,v,e1,⟨o,k.get (nf _ (.inr ⟨y,e1⟩)) e2,e2'⟩,(e3.keep kz).sub fun a o _ q=>hz a q⟩
 ·obtain⟨_,v,o,e1,e1'⟩:=F.zc y c e
  exact⟨(F_0.zc y c e).1,v,o,k.get (nf _ (.inr ⟨y,e⟩)) e1,e1'⟩
theorem SX.forR{R:Nat->Prop}{σ:Type}{af iter:Expr}{body:List Stmt}{pos:Pos}{xs:List Str}{α:Type}{φ:Nat->α->PV}{items:List α}{step:σ->α->Stp σ}{f:σ->List (Str×PV)}{g:σ->Led}{bd:Nat->α->List (Str×PV)}{Inv:Nat->σ->Prop}{st₀:σ}
  (S:FS H.H Z env) (hg:H.L=g st₀) (hI:∀ s (E:ZV),FI H Z env (f st₀) s->wpAny (model aa w) A (eval iter env) (fun v s_1=>wpAny (model aa w) A (pyIter v) (fun it s_2=>Kp N0 s s_2/\∃ K,H.tk<=K/\K<=s_2.toks/\R K/\Got aa w A H Z af (items.map (φ K)) s it s_2) E s_1) E s) (h0:Inv 0 st₀)
  (turn:∀ K,H.tk<=K->R K->∀ Z':Addr->Prop,(∀ a,Z a->Z' a)->FS H.H Z' env->∀ i st p,Inv i st->items[i]? = some p ->
   BD aa w A (H.atK K (g st)) Z' env (f st) af xs (φ K p) (bd K p++f st) /\
   match step st p with
   | .go st'=>Inv (i+1) st'/\(SXs aa w A (H.atK K (g st)) Z' env (bd K p++f st) body (.next (g st') (f st'))\/SXs aa w A (H.atK K (g st)) Z' env (bd K p++f st) body (.cont (g st') (f st')))
   | .brk st'=>SXs aa w A (H.atK K (g st)) Z' env (bd K p++f st) body (.brk (g st') (f st'))
   | .ret L q=>SXs aa w A (H.atK K (g st)) Z' env (bd K p++f st) body (.ret L q))
  (hs:∀ x,foldedSetIterable iter env x=pure x) :
  SX aa w A H Z env (f st₀) (.For af iter body [] pos) (nJ g f (runFor step items st₀)):=by
 refine⟨fun s E F=>?_⟩
 show wpAny _ A (do
  standAt pos
  let x <-foldedSetIterable iter env (<-eval iter env)
  standAt iter.pos
  runOwn (.forLoop af (<-holding [x] (pyIter x)) body [] env) env) _ _ s
 refine A0 (Ag (A0 (wpM (hI s E F) (fun v s_1 h_1=>?_))))
 refine A0 (Aa (hs v) ?_)
 refine A0 (Ag (A0 (A5 ?_)))
 refine wpM h_1 (fun it s_2 h_2=>?_)
 obtain⟨k02,K,hK1,hK2,hR,I,rfl,wr,wI,hwr,hsrc⟩:=h_2
 let Z':Addr->Prop:=fun a=>Z a\/wr a
 have hzz:∀ a,Z a->Z' a:=fun a z=>.inl z
 have hzn:∀ a,Z' a->¬Z a->s.heap.get? a=none:=fun a q nz=>q.elim (fun z=>absurd z nz) fun q=>(hwr a q).1
 obtain⟨St,st0,W⟩:=hsrc Z' hzz (fun a q=>.inr q) (fun a q=>q.elim .inl fun q=>.inr (.inl q))
 have S':FS H.H Z' env:=⟨fun a q=>q.elim (S.zt a) fun q=>F.none (hwr a q).1,S.fn,S.gl,S.bl,.inl S.zl,S.ap⟩
 have F_2:FI (H.atK K (g st₀)) Z' env (f st₀) s_2:=by
  have:FI H Z' env (f st₀) s_2:=F.widen k02 hzz hzn fun a q=>by
   rcases q with q|q
   ·obtain⟨o,e⟩:=F.zex a q;exact⟨o,k02.get (fun q=>q) e⟩
   ·exact(hwr a q).2
  rw[<-hg];exact this.raise hK2
 have faZ:∀ a,Fa env a->Z a:=fun a q=>by
  rcases q with q|⟨y,q⟩
  ·subst q;exact S.zl
  ·exact(F.zc y a q).1
 have wZ:∀ a,wr a->¬Z a:=fun a q z=>by obtain⟨o,e⟩:=F.zex a z;rw[(hwr a q).1]at e;cases e
 have wf:∀ a,wr a->¬Fa env a:=fun a q f=>wZ a q (faZ a f)
 have tnZ:∀ a,Tn H env a->Z a:=fun a q=>q.elim (faZ a) (F.dz a)
 have wt:∀ a,wr a->¬Tn H env a:=fun a q f=>wZ a q (tnZ a f)
 refine wpAny_runOwn (h:=none) ?_
 refine codeAny_forLoop_any (fun k s'=>∃ i st,k=items.length+1-i/\i<=items.length/\runFor step (items.drop i) st=runFor step items st₀/\Inv i st/\St i s'.heap/\FI (H.atK K (g st)) Z' env (f st) s'/\Kp (Tn H env) s s') ?_ (items.length+1)
  ⟨0,st₀,rfl,Ap _,rfl,h0,st0,F_2,k02.z⟩
 rintro k s' ⟨i,st,rfl,hi',hrun,hinv,hst,FF,kk⟩
 have kNew:∀{sa sb:Shared},Kp (Tn H env) s sa->Kp wr sa sb->Kp (Tn H env) s sb:=fun{sa sb} ka kb=>by
  refine ka.join kb fun b o nf e=>kb.get (fun q=>?_) (ka.get nf e)
  rw[(hwr b q).1]at e;cases e
 rcases C4 i items.length with hlt|hge
 ·have hgt:items[i]? = some items[i]:=Al hlt
  have hgt':(items.map (φ K))[i]? = some (φ K items[i]):=by rw[List.getElem?_map,hgt];rfl
  have hmem:items[i]∈items:=Co hlt
  refine wpM (W.item i _ s' _ hgt' FF.toGT hst) (fun r s₃ h_3=>?_)
  obtain⟨u,rfl,h_3⟩:=h_3
  refine wpM h_3 (fun _ s₃ h_3=>?_)
  obtain⟨ru,st3,k_3⟩:=h_3
  have F_3:=FI.frame (H:=H.atK K (g st)) S' FF k_3 (fun a q=>⟨.inr q,wf a q⟩) (fun a q d=>wZ a q (F.dz a d)) (W.ex _ _ st3)
  obtain⟨B,T⟩:=turn K hK1 hR Z' hzz S' i st items[i] hinv hgt
  refine wpM (B s₃ _ u F_3 ru) (fun _ s_4 h_4=>?_)
  obtain⟨F4,k_4⟩:=h_4
  have st4:St (i+1) s_4.heap:=W.frame _ _ _ st3 fun b o hb e=>k_4.get (fun q=>hb.elim (fun q'=>wf b q' q.fa) fun q'=>q' (.inl (faZ b q.fa))) e
  have k04:Kp (Tn H env) s s_4:=(kNew kk k_3).trans (Kp.fb k_4)
  have hd:items.drop i=items[i]::items.drop (i+1):=Ez hlt
  rw[hd,runFor]at hrun
  have fin:∀{st':σ} {s5:Shared},FI (H.atK K (g st')) Z' env (f st') s5->FI (H.at (g st')) Z env (f st') s5:=fun{st' s5} F5=>FI.shrink (H:=H.at (g st')) (L:=H.L) F (F5.lower hK1) hzz
  cases hst':step st items[i]with
  |go st' =>
   rw[hst']at T hrun
   obtain⟨hinv',T⟩:=T
   rcases T with T|T
   ·refine wpM (T.run s_4 _ F4) (fun g s5 h_5=>?_)
    obtain⟨⟨rfl,F5⟩,k5⟩:=h_5
    exact⟨_,by omega,i+1,st',rfl,hlt,hrun,hinv',W.frame _ _ _ st4 (fun b o hb e=>k5.get (fun q=>hb.elim (fun q'=>wt b q' q) fun q'=>q' (.inl (tnZ b q))) e),F5,k04.trans k5⟩
   ·refine wpM (T.run s_4 _ F4) (fun g s5 h_5=>?_)
    obtain⟨⟨rfl,F5⟩,k5⟩:=h_5
    exact⟨_,by omega,i+1,st',rfl,hlt,hrun,hinv',W.frame _ _ _ st4 (fun b o hb e=>k5.get (fun q=>hb.elim (fun q'=>wt b q' q) fun q'=>q' (.inl (tnZ b q))) e),F5,k04.trans k5⟩
  |brk st' =>
   rw[hst']at T hrun
   refine wpM (T.run s_4 _ F4) (fun g s5 h_5=>?_)
   obtain⟨⟨rfl,F5⟩,k5⟩:=h_5
   dsimp only
   rw[<-hrun]
   exact⟨⟨rfl,fin F5⟩,k04.trans k5⟩
  |ret L q =>
   rw[hst']at T hrun
   refine wpM (T.run s_4 _ F4) (fun g s5 h_5=>?_)
   obtain⟨⟨u',rfl,r5,G5⟩,k5⟩:=h_5
   dsimp only
   rw[<-hrun]
   refine⟨⟨u',rfl,r5.sub fun a o _ q=>hzz a q,⟨⟨G5.top,fun a z=>G5.zex a (hzz a z)⟩,A7 hK1 G5.tk,F.dz,fun a m e=>⟨(G5.ld a m e).1,(G5.ld a m e).2.sub fun a o _ q=>hzz a q⟩⟩⟩,k04.trans k5⟩
 ·have hin:i=items.length:=Ef hi' hge
  subst hin
  refine wpM (W.done s' _ FF.toGT (by rw[List.length_map];exact hst)) (fun r s₃ h_3=>?_)
  obtain⟨rfl,k_3⟩:=h_3
  refine C8 ?_
  rw[List.drop_length,runFor]at hrun
  dsimp only
  rw[<-hrun]
  exact⟨⟨rfl,FI.after (H:=H.at (g st)) (L:=H.L) F S' (FF.lower hK1) k_3 hzz fun a q=>⟨.inr q,wf a q,wZ a q⟩⟩,kNew kk k_3⟩
theorem SX.for{σ:Type}{af iter:Expr}{body:List Stmt}{pos:Pos}{xs:List Str}{α:Type}{φ:α->PV}{items:List α}{step:σ->α->Stp σ}{f:σ->List (Str×PV)}{g:σ->Led}{bd:α->List (Str×PV)}{Inv:Nat->σ->Prop}{st₀:σ}
  (S:FS H.H Z env) (hg:H.L=g st₀) (hI:IX aa w A H Z env (f st₀) af iter (items.map φ)) (h0:Inv 0 st₀)
  (turn:∀ Z':Addr->Prop,(∀ a,Z a->Z' a)->FS H.H Z' env->∀ i st p,Inv i st->items[i]? = some p ->
   BD aa w A (H.at (g st)) Z' env (f st) af xs (φ p) (bd p++f st) /\
   match step st p with
   | .go st'=>Inv (i+1) st'/\(SXs aa w A (H.at (g st)) Z' env (bd p++f st) body (.next (g st') (f st'))\/SXs aa w A (H.at (g st)) Z' env (bd p++f st) body (.cont (g st') (f st')))
   | .brk st'=>SXs aa w A (H.at (g st)) Z' env (bd p++f st) body (.brk (g st') (f st'))
   | .ret L q=>SXs aa w A (H.at (g st)) Z' env (bd p++f st) body (.ret L q))
  (hs:∀ x,foldedSetIterable iter env x=pure x) :
  SX aa w A H Z env (f st₀) (.For af iter body [] pos) (nJ g f (runFor step items st₀)) :=
 SX.forR (R:=fun K=>K=H.tk) (φ:=fun _=>φ) (bd:=fun _=>bd) S hg (fun s E F=>wpM (hI.run s E F) (fun v s_1 h=>wpM h (fun it s_2 h=>⟨h.1,H.tk,A4 _,A7 F.tk h.1.tk,rfl,h.2⟩))) h0 (fun K _ e=>by subst e;exact turn) hs
end
def FN(aa:Program)(w:World)(T:Heap)(f:Value)(n:Nat)(ps:List PV)(r:PV):Prop :=
 ∀(A:Around) (Z D:ZP) (L:Led) (tk:Nat),Rm n A->(∀ a,Z a->T.get? a=none)->CB aa w A ⟨T,D,L,tk⟩ Z f ps r
theorem Rm.deeper{n:Nat}{A:Around}{env:Env}(x:Rm (n+1) A):Rm n (A.deeper env) :=
 ⟨x.hd,by have:=x.dp;show A.depth+1+8*n+8<_;omega,by have:=x.un;show A.units+3+32*n+64<_;omega⟩
theorem Rm.le{n m:Nat}{A:Around}(x:Rm n A)(h:m<=n):Rm m A:=⟨x.hd,by have:=x.dp;omega,by have:=x.un;omega⟩
theorem FN.le{aa:Program}{w:World}{T:Heap}{f:Value}{n m:Nat}{ps:List PV}{r:PV}(x:FN aa w T f n ps r)(h:n<=m):FN aa w T f m ps r:=fun A Z D L tk R hz=>x A Z D L tk (R.le h) hz
theorem jU{k:Str->Option NameKind}:∀{binds:List (Str×Value)} {m:Str->Option Value} {x:Str},x∉binds.map (·.1)->bindL k binds m x=m x
 |[],_,_,_=>rfl
 |(y,v)::r,m,x,h=>by
  rw[List.map_cons,List.mem_cons,not_or]at h
  unfold bindL
  rw[jU h.2]
  split
  ·exact if_neg h.1
  ·rfl
theorem fA{k:Str->Option NameKind}:∀{binds:List (Str×Value)} {m:Str->Option Value} {x:Str} {v:Value},(binds.map (·.1)).Nodup->(x,v)∈binds->k x=some .local->bindL k binds m x=some v
 |(y,u)::r,m,x,v,hn,hm,hk=>by
  rw[List.map_cons,List.nodup_cons]at hn
  unfold bindL
  rcases Ab.mp hm with e|e
  ·cases e
   rw[jU hn.1,if_pos hk];exact if_pos rfl
  ·exact fA hn.2 e hk
theorem jQ{k:Str->Option NameKind}:∀{binds:List (Str×Value)} {m:Str->Option Value} {x:Str},x∉binds.map (·.1)->bindC k binds m x=m x
 |[],_,_,_=>rfl
 |(y,v)::r,m,x,h=>by
  rw[List.map_cons,List.mem_cons,not_or]at h
  unfold bindC
  rw[jQ h.2]
  split
  ·rfl
  ·exact if_neg h.1
theorem eV{k:Str->Option NameKind}:∀{binds:List (Str×Value)} {m:Str->Option Value} {x:Str} {v:Value},(binds.map (·.1)).Nodup->(x,v)∈binds->k x≠some .local->bindC k binds m x=some v
 |(y,u)::r,m,x,v,hn,hm,hk=>by
  rw[List.map_cons,List.nodup_cons]at hn
  unfold bindC
  rcases Ab.mp hm with e|e
  ·cases e
   rw[jQ hn.1,if_neg hk];exact if_pos rfl
  ·exact eV hn.2 e hk
theorem bQ{α β:Type}{F:α->β->Prop}{x:Str}{p:α}:∀{names:List Str} {ps:List α} {vs:List β},Paired F ps vs->(names.zip ps).lookup x=some p->∃ v,(x,v)∈names.zip vs/\F p v
 |[],_,_,_,h=>by simp at h
 |y::names,_,_,.nil,h=>by simp at h
 |y::names,_,_,.cons (a:=q) (b:=u) hq hr,h=>by
  rw[List.zip_cons_cons,a7]at h
  by_cases hy:x=y
  ·rw[if_pos hy]at h;cases h;subst hy
   exact⟨u,Ah,hq⟩
  ·rw[if_neg hy]at h
   obtain⟨v,h1,h2⟩:=bQ hr h
   exact⟨v,Ae _ h1,h2⟩
structure Df(T:Heap)(a:Addr)(fd:FuncData)(body:List Stmt)(names:List Str):Prop where
 obj:∃ o,T.get? a=some o/\o.data=.func fd
 code:T.CodeRec fd.code fd.qualname
 body:fd.body=.stmts body
 bind:∀ ba:List Value,ba.length=names.length->bindArgs fd ⟨ba,[]⟩=pure (names.zip ba)
 clo:fd.closure=[]
 gl:fd.globals=mainGlobals
 bl:fd.builtins=builtinsNs
 nd:names.Nodup
 kinds:∀ L,∀ x∈names,fd.scope.names.lookup x=some .local\/(fd.scope.names.lookup x=some .cell/\((cellsFrom (L+1) fd.scope.names []).lookup x).isSome=true)
 co:fd.scope.isCoroutine=false
 gen:fd.scope.isGenerator=false
 kind:fd.scope.kind=.function
def kU:Out->Option PV
 | .next _ _=>some .none
 | .ret _ p=>some p
 |_=>none
theorem Kp.from{Z W:ZP}{s s_1 s':Shared}{h_1:Heap}{t_1:Nat}(hs_1:s_1={s with heap:=h_1,toks:=t_1})(k:Kp W s_1 s')(ht:s.toks<=s'.toks)(hk:∀ b o,¬Z b->s.heap.get? b=some o->s'.heap.get? b=some o):Kp Z s s':=by
 subst hs_1
 obtain⟨h2,t2,g2,rfl,k2,c2⟩:=k
 exact⟨h2,t2,g2,rfl,hk,c2.1,ht⟩
theorem FN.of{aa:Program}{w:World}{T:Heap}{a:Addr}{fd:FuncData}{body:List Stmt}{names:List Str}{n:Nat}{ps:List PV}{r:PV}{out:Out}(hlim:T.NoLimit)(D:Df T a fd body names)(bo:ps.length=names.length)
  (hr:kU out=some r) (h:∀(A:Around) (Z:ZP) (L:Addr),Rm n A->FS T Z (callEnvC fd L a)->SXs aa w A ⟨T,N0,[],0⟩ Z (callEnvC fd L a) (names.zip ps) body out):FN aa w T (.ref a) (n+1) ps r:=by
 intro A Z D' Ld tk R hz s E vs G P
 obtain⟨o,ho,hd⟩:=D.obj
 have hvl:vs.length=names.length:=by rw[(a8 P).1,bo]
 have hm:(names.zip vs).map (·.1)=names:=by
  rw[List.map_fst_zip];omega
 have top:∀ b o,T.get? b=some o->s.heap.get? b=some o:=G.top
 refine Ao (A4 _) ?_
 refine B6 (codeAny_call_cells (by have:=R.dp;omega) (top _ _ ho) hd (hlim.keeps top) (D.code.keeps top) D.body (D.bind vs hvl) D.clo (fun x hx=>D.kinds _ x.1 ?_) (fun s_1 X=>?_) D.co D.gen D.kind)
 ·have:x.1∈(names.zip vs).map (·.1):=Bp hx
  rwa [hm]at this
 ·generalize hL:s.heap.objs.size=L at *
  let Z':Addr->Prop:=fun b=>Z b\/Fa (callEnvC fd L a) b
  have hloc:(callEnvC fd L a).locals=L:=rfl
  have hcel:∀ x c,(callEnvC fd L a).cells.lookup x=some c->L<c:=fun x c e=>by
   rcases aF e with q|q
   ·simp at q
   ·exact q
  have hfa:∀ b,Fa (callEnvC fd L a) b->L<=b:=fun b q=>by
   rcases q with q|⟨y,q⟩
   ·rw[q,hloc];exact A4 _
   ·exact Dw (hcel y b q)
  have hnew:∀ b,Fa (callEnvC fd L a) b->s.heap.get? b=none:=fun b q=>aE _ (hL▸hfa b q)
  have S':FS T Z' (callEnvC fd L a):=by
   refine⟨fun b q=>q.elim (hz b) fun q=>G.none (hnew b q),D.kind,D.gl,D.bl,.inr (.inl rfl),?_⟩
   exact bK (fun x y c h=>by simp at h) (fun x c h=>by simp at h)
  obtain⟨h_1,t_1,hs_1,keep⟩:=X.done
  have keep':∀ b o,s.heap.get? b=some o->s_1.heap.get? b=some o:=fun b o e=>by rw[hs_1];exact keep b o e
  have F':FI ⟨T,N0,[],0⟩ Z' (callEnvC fd L a) (names.zip ps) s_1:=by
   have rp:∀{p:PV} {v:Value},Rp Z s.heap p v->Rp Z' s_1.heap p v:=fun x=>(x.sub fun b o e q=>q.elim id fun q=>by rw[hnew b q]at e;cases e).keep fun b o _ e=>keep' b o e
   refine⟨⟨⟨fun b o e=>keep' b o (top b o e),fun b q=>?_⟩,Ap _,fun a d=>d.elim,fun a m e=>by simp at e⟩,⟨_,X.toInCall.ns,fun x p e l=>?_⟩,fun x p e l=>?_,fun x c e=>⟨.inr (.inr ⟨x,e⟩),_,X.cell x c e⟩,fun a d=>d.elim⟩
   ·rcases q with q|q|⟨y,q⟩
    ·obtain⟨o,e⟩:=G.zex b q;exact⟨o,keep' b o e⟩
    ·subst q;obtain⟨o,_,_,e,_⟩:=X.toInCall.ns;exact⟨o,e⟩
    ·obtain⟨o,e,_⟩:=X.cell y b q;exact⟨o,e⟩
   ·obtain⟨v,hv,rv⟩:=bQ P e
    exact⟨v,fA (by rw[hm];exact D.nd) hv l,rp rv⟩
   ·obtain⟨v,hv,rv⟩:=bQ P e
    have hx:x∈names:=by
     have:=Bp (f:=Prod.fst) hv
     rwa [hm]at this
    have l':fd.scope.names.lookup x≠some .local:=l
    rcases D.kinds L x hx with q|⟨q1,q2⟩
    ·exact absurd q l'
    ·obtain⟨c,hc⟩:=Ar.mp q2
     refine⟨.inl q1,c,v,hc,?_,rp rv⟩
     have:=X.cell x c hc
     rwa [eV (by rw[hm];exact D.nd) hv l]at this
  refine wpM ((h _ Z' L R.deeper S').run s_1 _ F') (fun f s' q=>?_)
  obtain⟨q,k⟩:=q
  have kk:s.toks<=s'.toks->Kp N0 s s':=fun ht=>Kp.from hs_1 k ht fun b o _ e=>k.get (fun f=>by
   rcases f with f|f
   ·rw[hnew b f]at e;cases e
   ·exact f) (keep' b o e)
  cases out with
  |next L ρ =>
   obtain⟨rfl,_⟩:=q
   cases hr
   exact fun ht=>⟨.none,kk ht⟩
  |cont L ρ=>cases hr
  |brk L ρ=>cases hr
  |ret L p =>
   obtain⟨v,rfl,rv,_⟩:=q
   cases hr
   exact fun ht=>⟨rv.sub fun b o _ q=>.inl q,kk ht⟩
section
def Gl(T:Heap)(x:Str)(v:Value):Prop:=∃ m,T.Ns mainGlobals m/\m x=some v
def Bi(T:Heap)(x:Str)(v:Value):Prop:=∃ m mb,T.Ns mainGlobals m/\m x=none/\T.Ns builtinsNs mb/\mb x=some v
def NM(aa:Program)(w:World)(A:Around)(H:Ctx)(Z:ZP)(env:Env)(x:Str)(v:Value):Prop :=
 ∀(s:Shared) (E:ZV) (ρ:List (Str×PV)) (pos:Pos),FI H Z env ρ s->wpAny (model aa w) A (eval (.Name x pos) env) (fun u s'=>u=v/\s'=s) E s
theorem NM.glob{x:Str}{v:Value}(S:FS H.H Z env)(hx:env.kindOf x=some .globalImplicit)(h:Gl H.H x v)(hd:(x==("__debug__" : Str))=false):NM aa w A H Z env x v:=by
 intro s E ρ pos F
 obtain⟨m,hn,hv⟩:=h
 exact Be S.fn hx (Eb (by rw[S.gl];exact hn.keeps F.top) hv ⟨rfl,rfl⟩) hd
theorem NM.bi{x:Str}{v:Value}(S:FS H.H Z env)(hx:env.kindOf x=some .globalImplicit)(h:Bi H.H x v)(hd:(x==("__debug__" : Str))=false):NM aa w A H Z env x v:=by
 intro s E ρ pos F
 obtain⟨m,mb,hn,hv,hb,hw⟩:=h
 exact Be S.fn hx (Cp (by rw[S.gl];exact hn.keeps F.top) hv (by rw[S.bl];exact hb.keeps F.top) hw ⟨rfl,rfl⟩) hd
theorem EX.raw{x:Str}{v:Value}{pos:Pos}(h:NM aa w A H Z env x v):EX aa w A H Z env ρ (.Name x pos) (.raw v):=⟨fun s E F =>
 wpM (h s E ρ pos F) (fun u s' q=>by obtain⟨rfl,rfl⟩:=q;exact⟨.raw _,Kp.refl _ _⟩)⟩
theorem EX.call{x:Str}{aj pos:Pos}{e:Expr}{ai:List Expr}{a:Addr}{fd:FuncData}{n:Nat}{ps:List PV}{r:PV}(S:FS H.H Z env)(R:Rm n A)(hf:NM aa w A H Z env x (.ref a))(hd:∃ o,H.H.get? a=some o/\o.data=.func fd)
  (hl:LX aa w A H Z env ρ pos (e::ai) ps) (hc:FN aa w H.H (.ref a) n ps r)
  (hs:starEach (e::ai) env=(false,eval e env)::starEach ai env)
  (he:eval (.Call (.Name x aj) (e::ai) [] pos) env=(do callWith pos (<-eval (.Name x aj) env) [] (backTo pos (starEach (e::ai) env)) (backToKw pos (keywordEach [] env)))) :
  EX aa w A H Z env ρ (.Call (.Name x aj) (e::ai) [] pos) r:=by
 refine⟨fun s E F=>?_⟩
 refine Call_ (wpM (hf s E ρ aj F) (fun u s' q=>?_)) he
 obtain⟨rfl,rfl⟩:=q
 obtain⟨o,ho,hdat⟩:=hd
 refine callWith_def hdat (wpM (hl.run s' E F) (fun vs s_2 h_2=>⟨(F.kp0 h_2.2).top _ _ ho,?_⟩)) hs
 exact wpM (hc A Z H.D H.L H.tk R S.zt s_2 E vs (F.kp0 h_2.2).toGS h_2.1) (fun v s₃ h_3=>⟨h_3.1,h_2.2.trans h_3.2⟩)
theorem EX.callB{x:Str}{aj pos:Pos}{e:Expr}{ai:List Expr}{id:String}{ps:List PV}{r:PV}(hf:NM aa w A H Z env x (.builtin id))
  (hl:LX aa w A H Z env ρ pos (e::ai) ps) (hc:CB aa w A H Z (.builtin id) ps r)
  (hs:starEach (e::ai) env=(false,eval e env)::starEach ai env) (hplain:(backTo pos (starEach ai env)).any (·.1)=false)
  (he:eval (.Call (.Name x aj) (e::ai) [] pos) env=(do callWith pos (<-eval (.Name x aj) env) [] (backTo pos (starEach (e::ai) env)) (backToKw pos (keywordEach [] env)))) :
  EX aa w A H Z env ρ (.Call (.Name x aj) (e::ai) [] pos) r:=by
 refine⟨fun s E F=>?_⟩
 refine Call_ (wpM (hf s E ρ aj F) (fun u s' q=>?_)) he
 obtain⟨rfl,rfl⟩:=q
 refine callWith_builtin1 (wpM (hl.run s' E F) (fun vs s_2 h_2=>?_)) hs hplain
 exact wpM (hc s_2 E vs (F.kp0 h_2.2).toGS h_2.1) (fun v s₃ h_3=>⟨h_3.1,h_2.2.trans h_3.2⟩)
theorem EX.callT{x:Str}{aj pos:Pos}{e:Expr}{ai:List Expr}{T:String}{ps:List PV}{r:PV}(hf:NM aa w A H Z env x (.type T))
  (hl:LX aa w A H Z env ρ pos (e::ai) ps) (hc:CB aa w A H Z (.type T) ps r)
  (hs:starEach (e::ai) env=(false,eval e env)::starEach ai env) (hplain:(backTo pos (starEach ai env)).any (·.1)=false)
  (he:eval (.Call (.Name x aj) (e::ai) [] pos) env=(do callWith pos (<-eval (.Name x aj) env) [] (backTo pos (starEach (e::ai) env)) (backToKw pos (keywordEach [] env)))) :
  EX aa w A H Z env ρ (.Call (.Name x aj) (e::ai) [] pos) r:=by
 refine⟨fun s E F=>?_⟩
 refine Call_ (wpM (hf s E ρ aj F) (fun u s' q=>?_)) he
 obtain⟨rfl,rfl⟩:=q
 refine callWith_type1 (wpM (hl.run s' E F) (fun vs s_2 h_2=>?_)) hs hplain
 exact wpM (hc s_2 E vs (F.kp0 h_2.2).toGS h_2.1) (fun v s₃ h_3=>⟨h_3.1,h_2.2.trans h_3.2⟩)
theorem iO(s:Shared)(o:Obj)(t:Nat)(ht:s.toks<=t:=by first|exact A4 _|exact Ad _|assumption|omega):Kp N0 s {s with heap:=s.heap.push o,toks:=t}:=Kp.mk (fun _ _ _ e=>A2 _ e) ht
theorem CB.range1{n:Int}:CB aa w A H Z (.type "range") [.int n] (.rng 0 n):=by
 intro s E vs G P
 obtain⟨_,_,rfl,h1,P⟩:=aI P
 obtain rfl:=cX P
 cases h1
 exact call_range_1 ⟨.rng G.new (A3 _ rfl),iO _ _ _⟩
theorem CB.range2{a b:Int}:CB aa w A H Z (.type "range") [.int a,.int b] (.rng a b):=by
 intro s E vs G P
 obtain⟨_,_,rfl,h1,P⟩:=aI P
 obtain⟨_,_,rfl,h2,P⟩:=aI P
 obtain rfl:=cX P
 cases h1;cases h2
 exact call_range_2 ⟨.rng G.new (A3 _ rfl),iO _ _ _⟩
structure AT(aa:Program)(w:World)(A:Around)(H:Ctx)(Z:ZP)(env:Env)(ρ:List (Str×PV))(op:BoolOp)(es:List Expr)(b:Bool):Prop where
 run:∀ s (E:ZV),FI H Z env ρ s->wpAny (model aa w) A (allTrue op es env) (fun v s'=>v=b/\Kp N0 s s') E s
theorem AT.nilAnd:AT aa w A H Z env ρ .And [] true:=⟨fun s E F=>wpAny_allTrue_And_nil ⟨rfl,Kp.refl _ _⟩⟩
theorem AT.nilOr:AT aa w A H Z env ρ .Or [] false:=⟨fun s E F=>wpAny_allTrue_Or_nil ⟨rfl,Kp.refl _ _⟩⟩
theorem AT.consAnd{e:Expr}{es:List Expr}{b c:Bool}(h:TX aa w A H Z env ρ e b)(hs:b=true->AT aa w A H Z env ρ .And es c):AT aa w A H Z env ρ .And (e::es) (b&&c):=by
 refine⟨fun s E F=>?_⟩
 refine wpAny_allTrue_And_cons (wpM (h.run s E F) (fun v s_1 h_1=>?_))
 obtain⟨rfl,k⟩:=h_1
 cases v with
 |true=>exact wpM ((hs rfl).run s_1 E (F.kp0 k)) (fun v s_2 h_2=>⟨h_2.1,k.trans h_2.2⟩)
 |false=>exact⟨rfl,k⟩
theorem AT.consOr{e:Expr}{es:List Expr}{b c:Bool}(h:TX aa w A H Z env ρ e b)(hs:b=false->AT aa w A H Z env ρ .Or es c):AT aa w A H Z env ρ .Or (e::es) (b||c):=by
 refine⟨fun s E F=>?_⟩
 refine wpAny_allTrue_Or_cons (wpM (h.run s E F) (fun v s_1 h_1=>?_))
 obtain⟨rfl,k⟩:=h_1
 cases v with
 |false=>exact wpM ((hs rfl).run s_1 E (F.kp0 k)) (fun v s_2 h_2=>⟨h_2.1,k.trans h_2.2⟩)
 |true=>exact⟨rfl,k⟩
theorem TX.all{op:BoolOp}{es:List Expr}{pos:Pos}{b:Bool}(h:AT aa w A H Z env ρ op es b):TX aa w A H Z env ρ (.BoolOp op es pos) b:=⟨fun s E F=>wpAny_isTrue_BoolOp (h.run s E F)⟩
theorem Rp.tuple{h:Heap}{l:List PV}{v:Value}(x:Rp Z h (.tup l) v):∃ a items,v=.ref a/\¬Z a/\h.IsTuple a items/\Paired (Rp Z h) l items.toList:=by
 obtain⟨a,o,items,n,rfl,z,e,c,d,hs,hi⟩:=Rp.tupI x
 refine⟨a,items,rfl,z,⟨o,e,c,n,d⟩,?_⟩
 have:∀(l:List PV) (vs:List Value),vs.length=l.length->(∀(i:Nat) p v,l[i]? = some p->vs[i]? = some v->Rp Z h p v)->Paired (Rp Z h) l vs:=by
  intro l
  induction l with
  |nil=>intro vs e _;cases vs with
   |nil=>exact .nil
   |cons _ _=>simp at e
  |cons p l ih=>intro vs e hi;cases vs with
   |nil=>simp at e
   |cons v vs=>exact .cons (hi 0 p v rfl rfl) (ih vs (by simpa using e) fun i p v e1 e2=>hi (i+1) p v (by simpa using e1) (by simpa using e2))
 exact this l items.toList (by simpa using hs) fun i p v e1 e2=>hi i p v e1 (by simpa using e2)
def BDs(aa:Program)(w:World)(A:Around)(H:Ctx)(Z:ZP)(env:Env)(ρ:List (Str×PV))(ts:List Expr)(xs:List Str)(ps:List PV)(ρ':List (Str×PV)):Prop :=
 ∀ s (E:ZV) vs,FI H Z env ρ s->Paired (Rp Z s.heap) ps vs->wpAny (model aa w) A (assignInOrder ((assignEach ts env).map (·.2)) vs) (fun _ s'=>FI H Z env ρ' s'/\Kp (Fb xs env) s s') E s
theorem BDs.nil:BDs aa w A H Z env ρ [] [] [] ρ:=by
 intro s E vs F P
 cases P
 exact A1 ⟨F,Kp.refl _ _⟩
theorem Fb.sub{xs ys:List Str}(h:∀ x∈xs,x∈ys):∀ a,Fb xs env a->Fb ys env a:=fun a q=>q.elim .inl fun⟨y,hy,e⟩=>.inr ⟨y,h y hy,e⟩
theorem BDs.cons{x:Str}{px:Pos}{ts:List Expr}{xs:List Str}{p:PV}{ps:List PV}{ρ':List (Str×PV)}(S:FS H.H Z env)(hk:Bds env x)(hs:BDs aa w A H Z env ((x,p)::ρ) ts xs ps ρ') :
  BDs aa w A H Z env ρ (.Name x px::ts) (x::xs) (p::ps) ρ':=by
 intro s E vs F P
 cases P with
 | @cons _ v _ vs hv hvs =>
 show wpAny _ A (do holding vs (assign (.Name x px) env v);assignInOrder ((assignEach ts env).map (·.2)) vs) _ _ _
 refine A0 (A5 (Dv (wpM (FI.store S F hv hk) (fun _ s_1 h_1=>?_))))
 have hz:∀ a,Fb [x] env a->Z a:=fun a q=>by
  rcases q with q|⟨y,_,q⟩
  ·subst q;exact S.zl
  ·exact(F.zc y a q).1
 refine wpM (hs s_1 E vs h_1.1 (aA (fun _ _ r=>r.kp (h_1.2.weak hz)) hvs)) (fun _ s_2 h_2=>⟨h_2.1,?_⟩)
 exact(h_1.2.weak (Fb.sub ‹s›)).trans (h_2.2.weak (Fb.sub (by simp_all)))
theorem BD.tuple{ts:List Expr}{k:Nat}{pos:Pos}{xs:List Str}{ps:List PV}{ρ':List (Str×PV)}(hA:A.handled=none)(h:BDs aa w A H Z env ρ ts xs ps ρ')(hn:(assignEach ts env).length=ps.length)(hst:(assignEach ts env).findIdx? (·.1)=none) :
  BD aa w A H Z env ρ (.Tuple ts k pos) xs (.tup ps) ρ':=by
 intro s E v F hv
 obtain⟨a,items,rfl,z,it,P⟩:=hv.tuple
 refine wpAny_assign_Tuple hA it (by rw[hn,<-(a8 P).1];simp) hst fun h' hx=>?_
 have k:Kp N0 s {s with heap:=h'}:=Kp.mk (tk:=s.toks) fun b o _ e=>hx b o (fun q=>by subst q;exact absurd (Ac e) (At _)) e
 refine wpM (h _ E _ (F.kp0 k) (aA (fun _ _ r=>r.kp0 k) P)) (fun _ s_2 h_2=>⟨h_2.1,k.z.trans h_2.2⟩)
theorem SX.assignT{t:Expr}{xs:List Str}{pos:Pos}{e:Expr}{p:PV}{ρ':List (Str×PV)}(h:EX aa w A H Z env ρ e p)(hb:BD aa w A H Z env ρ t xs p ρ')
  (ha:(assignEach [t] env).map (·.2)=[PySem.assign t env]) (hs:swapsWithSole [t] e pos.line env=pure false) (hw:swappedStores [t] e env=pure none):SX aa w A H Z env ρ (.Assign [t] e pos) (.next H.L ρ'):=by
 refine⟨fun s E F=>?_⟩
 refine Dd (wpM (h.run s E F) (fun v s_1 h_1=>?_)) hs hw
 rw[ha]
 show wpAny _ A (PySem.assign t env v) _ _ _
 exact wpM (hb s_1 E v (F.kp0 h_1.2) h_1.1) (fun _ s_2 h_2=>⟨⟨rfl,h_2.1⟩,h_1.2.z.trans (Kp.fb h_2.2)⟩)
theorem SX.assignComp{x:Str}{px:Pos}{bb af iter:Expr}{bc:List Expr}{scope:Scope}{pos spos:Pos}{xs:List Str}{α:Type}{φ:α->PV}{items:List α}{bd:α->List (Str×PV)}{te:α->Bool}{f:α->PV}
  (S:FS H.H Z env) (hk:Bds env x) (C:CS scope env xs) (hI:IX aa w A H Z env ρ af iter (items.map φ))
  (turn:∀ p∈items,wC aa w A H Z env ρ scope af xs bc bb (φ p) (bd p) (te p) (f p))
  (hbd:∀ p∈items,∀ y q,(capt scope ρ).lookup y=some q->(bd p++capt scope ρ).lookup y=some q)
  (hsz:items.length<=sizeLine)
  (hs:∀ x,foldedSetIterable iter env x=pure x)
  (hsw:swapsWith (.ListComp bb [⟨af,iter,bc,0⟩] scope pos) (some (.Name x px)) spos.line env=pure true) :
  SX aa w A H Z env ρ (.Assign [.Name x px] (.ListComp bb [⟨af,iter,bc,0⟩] scope pos) spos) (.next H.L ((x,.lst ((items.filter te).map f))::ρ)):=by
 refine⟨fun s E F=>?_⟩
 rw[exec_Assign_Name_used _ _ _ _ hsw]
 refine A0 (Ag (A0 ?_))
 show wpAny _ A (do let _ <-comprehension (.ListComp bb [⟨af,iter,bc,0⟩] scope pos) scope env _ (newList []) false (eval iter env) (some (PySem.assign (.Name x px) env))) _ _ s
 refine A0 (B1 (Di (use:=some (PySem.assign (.Name x px) env)) (Q:=fun _ s'=>kO H Z env (.next H.L ((x,.lst ((items.filter te).map f))::ρ)) .next s'/\Kp (Tn H env) s s') rfl hs (eU fun x hx hk=>(C.free x hx hk).1) C.kind (fun y hy hl=>hl▸C.nm y hy) ?_) (fun _ s' hq=>A1 (A1 hq)) fun _ _ e=>e)
 refine wpM (hI.run s E F) (fun v s_1 h_1=>?_)
 refine wpM h_1 (fun it s_2 h_2=>?_)
 obtain⟨k12,I,rfl,wr,wI,hwr,hsrc⟩:=h_2
 refine lZ (RR:=fun acc C=>compPost (model aa w) A E (some (PySem.assign (.Name x px) env)) (fun _ s'=>kO H Z env (.next H.L ((x,.lst ((items.filter te).map f))::ρ)) .next s'/\Kp (Tn H env) s s') acc C) S F k12 hwr hsrc C.kind C.nm C.free C.own hbd (fun C Z' hz S' p hp=>turn p hp C Z' hz S') hsz ?_
 intro D C' s' m k r n1 n2 hn
 have faZ:∀ a,Fa env a->Z a:=fun a q=>by
  rcases q with q|⟨y,q⟩
  ·subst q;exact S.zl
  ·exact(F.zc y a q).1
 have nC:¬Fa env C':=fun q=>by
  obtain⟨o,e⟩:=F.zex _ (faZ _ q)
  rw[n1]at e;cases e
 let Z'':Addr->Prop:=fun a=>Z a\/a=C'
 have S'':FS H.H Z'' env:=⟨fun a q=>q.elim (S.zt a) fun q=>by subst q;exact F.none n1,S.fn,S.gl,S.bl,.inl S.zl,S.ap⟩
 have F'':FI H Z'' env ρ s':=F.widen k (fun a z=>.inl z) (fun a q nz=>q.elim (fun z=>absurd z nz) fun q=>by subst q;exact n1) fun a q=>by
  rcases q with q|q
  ·obtain⟨o,e⟩:=F.zex a q;exact⟨o,k.get (fun q=>q) e⟩
  ·subst q;obtain⟨o,_,_,e,_⟩:=hn;exact⟨o,e⟩
 show wpAny _ A (PySem.assign (.Name x px) env (.ref D)) _ _ _
 refine Dv (wpM (FI.store S'' F'' r hk) (fun _ s₃ h_3=>?_))
 obtain⟨F_3,k_3⟩:=h_3
 refine⟨m,hn.at' fun o e=>k_3.get (fun q=>nC q.fa) e,fun h' hs'=>?_⟩
 have k_4:Kp (fun a=>a=C') s₃ {s₃ with heap:=h'}:=Kp.mk (tk:=s₃.toks) fun b o z e=>(hs'.2 b z).trans e
 have nZ:¬Z C':=fun z=>by obtain⟨o,e⟩:=F.zex _ z;rw[n1]at e;cases e
 refine⟨⟨rfl,FI.after (L:=H.L) F S'' F_3 k_4 (fun a z=>.inl z) fun a q=>by subst q;exact⟨.inr rfl,nC,nZ⟩⟩,?_⟩
 exact(k.join (Z:=fun _=>True) k_3 fun b o z e=>absurd trivial z).join k_4 fun b o z e=>(hs'.2 b fun q=>by subst q;rw[n1]at e;cases e).trans (k_3.get (fun q=>z (.inl q.fa)) (k.get (fun q=>q) e))
end
structure EO(env:Env)(sc:List (Str×NameKind)):Prop where
 kind:∀ x,env.kindOf x=sc.lookup x
 cell:∀ x k,sc.lookup x=some k->(k=.cell\/k=.free)->(env.cells.lookup x).isSome=true
def aS(sc:List (Str×NameKind))(x:Str):Bool:=match sc.lookup x with|some .local|some .cell=>true|_=>false
theorem EO.bds{env:Env}{sc:List (Str×NameKind)}{x:Str}(eo:EO env sc)(h:aS sc x=true):Bds env x:=by
 unfold aS at h
 unfold Bds
 rw[eo.kind x]
 split at h
 ·rename_i e;exact .inl e
 ·rename_i e;exact .inr ⟨e,eo.cell x _ e (.inl rfl)⟩
 ·cases h
theorem EO.fn{fd:FuncData}{L a:Addr}(hf:fd.scope.names.all (fun x=>x.2 != .free)=true):EO (callEnvC fd L a) fd.scope.names:=by
 refine⟨fun x=>rfl,fun x k e h=>?_⟩
 rcases h with rfl|rfl
 ·exact cM (.inl (mem_of_lookup e))
 ·have:=A9.mp hf _ (mem_of_lookup e)
  cases this
def e8(names sc:List (Str×NameKind)):List (Str×NameKind):=names.map fun x=>if x.2==.free&&sc.lookup x.1==some .cell then(x.1,.cell)else x
theorem uW{env:Env}{sc:List (Str×NameKind)}(hk:env.scope.kind=.function)(eo:EO env sc)(names:List (Str×NameKind)) :
  (names.map fun(n,k)=>if(k==NameKind.free&&env.scope.kind==.function&&env.kindOf n==some .cell)then(n,NameKind.cell)else(n,k))=e8 names sc:=by
 unfold e8
 congr 1
 funext ⟨n,k⟩
 simp only[hk,eo.kind n]
 simp
def kG(scope:Scope)(sc:List (Str×NameKind))(xs:List Str):Bool :=
 scope.kind==.function&&scope.names.all (fun x=>scope.names.lookup x.1==some x.2)&&scope.names.all (fun x=>x.2 != .free||(match sc.lookup x.1 with|some .cell|some .free=>true|_=>false))&&xs.all (aS scope.names)
theorem CS.of{scope:Scope}{env:Env}{sc:List (Str×NameKind)}{xs:List Str}(eo:EO env sc)(h:kG scope sc xs=true):CS scope env xs:=by
 unfold kG at h
 simp only[Bool.and_eq_true]at h
 obtain⟨⟨⟨h1,h2⟩,h3⟩,h4⟩:=h
 refine⟨Ai.mp h1,fun x hx=>Ai.mp (A9.mp h2 x hx),fun x hx hf=>?_,fun y hy=>?_⟩
 ·have:=A9.mp h3 x hx
  rw[hf]at this
  have this:(match sc.lookup x.1 with|some .cell|some .free=>true|_=>false)=true:=by simpa using this
  rw[eo.kind x.1]
  split at this
  ·rename_i e;exact⟨eo.cell _ _ e (.inl rfl),by rw[e];decide⟩
  ·rename_i e;exact⟨eo.cell _ _ e (.inr rfl),by rw[e];decide⟩
  ·cases this
 ·have:=A9.mp h4 y hy
  unfold aS at this
  split at this
  ·rename_i e;exact .inl e
  ·rename_i e;exact .inr e
  ·cases this
theorem iX{sc:List (Str×NameKind)}{y:Str}{k:NameKind}:∀{names:List (Str×NameKind)},(e8 names sc).lookup y=some k->∃ k',names.lookup y=some k'/\(k=k'\/(k'=.free/\k=.cell))
 |[],h=>by simp[e8]at h
 |(n,j)::r,h=>by
  unfold e8 at h
  rw[List.map_cons]at h
  by_cases hy:y=n
  ·subst hy
   split at h
   ·rename_i hc
    rw[a7,if_pos rfl]at h
    cases h
    simp at hc
    exact⟨j,by rw[a7,if_pos rfl],.inr ⟨hc.1,rfl⟩⟩
   ·rw[a7,if_pos rfl]at h
    exact⟨j,by rw[a7,if_pos rfl],.inl (Bk h).symm⟩
  ·have h':(e8 r sc).lookup y=some k:=by
    split at h
    ·rwa [a7,if_neg hy]at h
    ·rwa [a7,if_neg hy]at h
   obtain⟨k',e,q⟩:=iX h'
   exact⟨k',by rw[a7,if_neg hy];exact e,q⟩
theorem EO.comp{scope:Scope}{env:Env}{sc:List (Str×NameKind)}{C:Addr}(hk:env.scope.kind=.function)(eo:EO env sc):EO (aC scope env C) (e8 scope.names sc):=by
 refine⟨fun x=>?_,fun x k e h=>?_⟩
 ·show(scope.names.map fun(n,k)=>if(k==NameKind.free&&env.scope.kind==.function&&env.kindOf n==some .cell)then(n,NameKind.cell)else(n,k)).lookup x=_
  rw[uW hk eo]
 ·show((cellsFrom (C+1) scope.names (jW scope env)).lookup x).isSome=true
  obtain⟨k',e',q⟩:=iX e
  have:k'=.cell\/k'=.free:=by
   rcases q with q|⟨q,_⟩
   ·subst q;exact h
   ·exact .inr q
  rcases this with rfl|rfl
  ·exact cM (.inl (mem_of_lookup e'))
  ·obtain⟨c,hc⟩:=nF (env:=env) e'
   exact cM (.inr (by rw[hc];rfl))
def Lk(ρ:List (Str×PV))(x:Str)(p:PV):Prop:=ρ.lookup x=some p
theorem Lk.here{ρ:List (Str×PV)}{x:Str}{p:PV}:Lk ((x,p)::ρ) x p:=by unfold Lk;rw[a7,if_pos rfl]
theorem Lk.there{ρ:List (Str×PV)}{x y:Str}{p q:PV}(h:Lk ρ x p)(hn:(x==y)=false):Lk ((y,q)::ρ) x p:=by
 unfold Lk;rw[a7,if_neg (by simpa using hn)];exact h
theorem Lk.capt{scope:Scope}{x:Str}{p:PV}(hf:scope.names.lookup x=some .free):∀{ρ:List (Str×PV)},Lk ρ x p->Lk (capt scope ρ) x p
 |[],h=>by unfold Lk at h;simp at h
 |(y,q)::r,h=>by
  unfold Lk at h ⊢
  rw[a7]at h
  unfold Mine.capt
  rw[List.filter_cons]
  by_cases hy:x=y
  ·subst hy
   rw[if_pos rfl]at h;cases h
   have:(scope.names.lookup x==some NameKind.free)=true:=by rw[hf];rfl
   rw[this]
   exact Lk.here
  ·rw[if_neg hy]at h
   have ih:=Lk.capt hf (ρ:=r) h
   split
   ·rw[a7,if_neg hy];exact ih
   ·exact ih
def Sub(ρ' ρ:List (Str×PV)):Prop:=∀ y q,ρ'.lookup y=some q->ρ.lookup y=some q
theorem Sub.nil{ρ:List (Str×PV)}:Sub [] ρ:=fun y q h=>by simp at h
theorem Sub.cons{ρ r:List (Str×PV)}{x:Str}{p:PV}(h:Lk ρ x p)(hr:Sub r ρ):Sub ((x,p)::r) ρ:=fun y q e=>by
 rw[a7]at e
 by_cases hy:y=x
 ·rw[if_pos hy]at e;cases e;subst hy;exact h
 ·rw[if_neg hy]at e;exact hr y q e
theorem Sub.refl(ρ:List (Str×PV)):Sub ρ ρ:=fun _ _ e=>e
section
theorem EX.nm{x:Str}{pos:Pos}{p:PV}(S:FS H.H Z env)(hx:Lk ρ x p)(hd:((x==("__debug__" : Str))||(x==("__classdict__" : Str)))=false):EX aa w A H Z env ρ (.Name x pos) p:=by
 obtain⟨h1,h2⟩:=Bool.or_eq_false_iff.mp hd
 exact EX.name S hx h1 h2
theorem SX.set{x:Str}{px pos:Pos}{e:Expr}{p:PV}(S:FS H.H Z env)(eo:EO env sc)(h:EX aa w A H Z env ρ e p)(hk:aS sc x=true)
  (hs:swapsWith e (some (.Name x px)) pos.line env=pure false):SX aa w A H Z env ρ (.Assign [.Name x px] e pos) (.next H.L ((x,p)::ρ)):=SX.assign S h (eo.bds hk) hs
theorem jA{scope:Scope}{x:Str}{p:PV}(hx:aS scope.names x=true):∀ y q,(capt scope ρ).lookup y=some q->([(x,p)]++capt scope ρ).lookup y=some q:=by
 intro y q e
 obtain⟨e1,_⟩:=cY e
 show List.lookup y ((x,p)::capt scope ρ)=some q
 rw[a7,if_neg (fun h=>by subst h;unfold aS at hx;rw[e1]at hx;cases hx)]
 exact e
theorem gG{scope:Scope}{sc:List (Str×NameKind)}{x:Str}(h:kG scope sc [x]=true):aS scope.names x=true:=by
 unfold kG at h
 simp only[Bool.and_eq_true]at h
 exact A9.mp h.2 x (Ay.mpr rfl)
theorem iG{sc:List (Str×NameKind)}{x:Str}{k:NameKind}(hk:k≠.free):∀{names:List (Str×NameKind)},names.lookup x=some k->(e8 names sc).lookup x=some k
 |[],h=>by simp at h
 |(n,j)::r,h=>by
  rw[a7]at h
  by_cases hx:x=n
  ·subst hx
   rw[if_pos rfl]at h
   have hjk:j=k:=Bk h
   have:(j==NameKind.free)=false:=Aw.mpr (hjk▸hk)
   show List.lookup x ((if(j==NameKind.free&&sc.lookup x==some .cell)=true then(x,.cell)else(x,j))::e8 r sc)=some k
   rw[this,Bool.false_and,if_neg Bool.false_ne_true,a7,if_pos rfl,hjk]
  ·rw[if_neg hx]at h
   have ih:=iG (sc:=sc) hk h
   show List.lookup x ((if(j==NameKind.free&&sc.lookup n==some .cell)=true then(n,.cell)else(n,j))::e8 r sc)=some k
   split
   ·rw[a7,if_neg hx];exact ih
   ·rw[a7,if_neg hx];exact ih
theorem hF{scope:Scope}{x:Str}(h:aS scope.names x=true):aS (e8 scope.names sc) x=true:=by
 unfold aS at h ⊢
 split at h
 ·rename_i e;rw[iG ‹d› e]
 ·rename_i e;rw[iG ‹d› e]
 ·cases h
def T1(aa:Program)(w:World)(A:Around)(H:Ctx)(Z:ZP)(env:Env)(ρ:List (Str×PV))(sc:List (Str×NameKind))(scope:Scope)(x:Str)(bc:List Expr)(bb:Expr)(p:PV)(te:Bool)(f:PV):Prop :=
 ∀(C:Addr) (Z':ZP),FS H.H Z' (aC scope env C)->EO (aC scope env C) (e8 scope.names sc) ->
  CT aa w A H Z' (aC scope env C) ((x,p)::capt scope ρ) bc te/\(te=true->EX aa w A H Z' (aC scope env C) ((x,p)::capt scope ρ) bb f)
theorem T1.turn{scope:Scope}{x:Str}{px:Pos}{bc:List Expr}{bb:Expr}{p f:PV}{te:Bool}(S:FS H.H Z env)(eo:EO env sc)(hc:kG scope sc [x]=true)(h:T1 aa w A H Z env ρ sc scope x bc bb p te f) :
  wC aa w A H Z env ρ scope (.Name x px) [x] bc bb p [(x,p)] te f:=by
 intro C Z' hz S'
 have eo':=EO.comp (scope:=scope) (C:=C) S.fn eo
 obtain⟨h1,h2⟩:=h C Z' S' eo'
 exact⟨BD.name S' (eo'.bds (hF (gG hc))),h1,h2⟩
theorem EX.comp1{bb iter:Expr}{bc:List Expr}{scope:Scope}{x:Str}{px pos:Pos}{α:Type}{φ:α->PV}{items:List α}{te:α->Bool}{f:α->PV}
  (S:FS H.H Z env) (eo:EO env sc) (hc:kG scope sc [x]=true) (hI:IX aa w A H Z env ρ (.Name x px) iter (items.map φ))
  (turn:∀ p∈items,T1 aa w A H Z env ρ sc scope x bc bb (φ p) (te p) (f p))
  (hsz:items.length<=sizeLine) (hs:∀ x,foldedSetIterable iter env x=pure x) :
  EX aa w A H Z env ρ (.ListComp bb [⟨.Name x px,iter,bc,0⟩] scope pos) (.lst ((items.filter te).map f)) :=
 EX.lcomp (bd:=fun p=>[(x,φ p)]) S (CS.of eo hc) hI (fun p hp=>(turn p hp).turn S eo hc) (fun p _=>jA (gG hc)) hsz hs
theorem SX.comp1{y:Str}{py spos:Pos}{bb iter:Expr}{bc:List Expr}{scope:Scope}{x:Str}{px pos:Pos}{α:Type}{φ:α->PV}{items:List α}{te:α->Bool}{f:α->PV}
  (S:FS H.H Z env) (eo:EO env sc) (hk:aS sc y=true) (hc:kG scope sc [x]=true) (hI:IX aa w A H Z env ρ (.Name x px) iter (items.map φ))
  (turn:∀ p∈items,T1 aa w A H Z env ρ sc scope x bc bb (φ p) (te p) (f p))
  (hsz:items.length<=sizeLine) (hs:∀ x,foldedSetIterable iter env x=pure x)
  (hsw:swapsWith (.ListComp bb [⟨.Name x px,iter,bc,0⟩] scope pos) (some (.Name y py)) spos.line env=pure true) :
  SX aa w A H Z env ρ (.Assign [.Name y py] (.ListComp bb [⟨.Name x px,iter,bc,0⟩] scope pos) spos) (.next H.L ((y,.lst ((items.filter te).map f))::ρ)) :=
 SX.assignComp (bd:=fun p=>[(x,φ p)]) S (eo.bds hk) (CS.of eo hc) hI (fun p hp=>(turn p hp).turn S eo hc) (fun p _=>jA (gG hc)) hsz hs hsw
theorem eF{σ α:Type}{h:σ->α->σ}:∀{items:List α} {st:σ},runFor (fun st p=>.go (h st p)) items st=.inl (items.foldl h st)
 |[],_=>rfl
 |p::r,st=>by rw[runFor,List.foldl_cons];exact eF
theorem SX.for1{σ α:Type}{φ:α->PV}{items:List α}{h:σ->α->σ}{f:σ->List (Str×PV)}{Inv:Nat->σ->Prop}{st₀:σ}{x:Str}{px pos:Pos}{iter:Expr}{body:List Stmt}
  (S:FS H.H Z env) (eo:EO env sc) (hx:aS sc x=true) (h0:Inv 0 st₀) (hf:Sub (f st₀) ρ) (hI:IX aa w A H Z env (f st₀) (.Name x px) iter (items.map φ))
  (turn:∀ Z':Addr->Prop,FS H.H Z' env->∀ i st p,Inv i st->items[i]? = some p->Inv (i+1) (h st p)/\∃ ρ',SXs aa w A H Z' env ((x,φ p)::f st) body (.next H.L ρ')/\Sub (f (h st p)) ρ')
  (hs:∀ x,foldedSetIterable iter env x=pure x) :
  SX aa w A H Z env ρ (.For (.Name x px) iter body [] pos) (.next H.L (f (items.foldl h st₀))):=by
 have:=SX.for (aa:=aa) (w:=w) (A:=A) (H:=H) (Z:=Z) (env:=env) (af:=.Name x px) (body:=body) (pos:=pos) (xs:=[x]) (step:=fun st p=>.go (h st p)) (f:=f) (g:=fun _=>H.L) (bd:=fun p=>[(x,φ p)]) (Inv:=Inv) S rfl hI h0
  (fun Z' hz S' i st p hi hp=>⟨BD.name S' (eo.bds hx),by
   obtain⟨h1,ρ',h2,h3⟩:=turn Z' S' i st p hi hp
   exact⟨h1,.inl (h2.next_forget h3)⟩⟩) hs
 rw[eF]at this
 exact this.forget hf
def ch(c:Nat):Str:=⟨#[c]⟩
theorem IX.str{tgt e:Expr}{x:Str}(hA:A.handled=none)(h:EX aa w A H Z env ρ e (.str x)):IX aa w A H Z env ρ tgt e (x.cps.toList.map fun c=>.str (ch c)):=IX.of h (It.str hA)
theorem IX.lst{α:Type}{φ:α->PV}{l:List α}{tgt e:Expr}(hA:A.handled=none)(h:EX aa w A H Z env ρ e (.lst (l.map φ))):IX aa w A H Z env ρ tgt e (l.map φ):=IX.of h (It.lst hA)
theorem IX.tup{α:Type}{φ:α->PV}{l:List α}{tgt e:Expr}(hA:A.handled=none)(h:EX aa w A H Z env ρ e (.tup (l.map φ))):IX aa w A H Z env ρ tgt e (l.map φ):=IX.of h (It.tup hA)
theorem IX.rng{a b:Int}(n:Nat)(hn:(b-a).toNat=n){tgt e:Expr}(hA:A.handled=none)(h:EX aa w A H Z env ρ e (.rng a b))(hs:Builtin.Range.small a b 1=true):IX aa w A H Z env ρ tgt e ((List.range n).map fun(i:Nat)=>.int (a+(i:Int))):=by
 subst hn;exact IX.of h (It.rng hA hs)
theorem kN{x:Str}(h:PyData.strOk x=true){c:Nat}(hc:c∈x.cps.toList):PyData.strOk (ch c)=true:=by
 have:∀ c∈x.cps.toList,c<0x110000:=by
  unfold PyData.strOk at h
  rw[<-Array.all_toList]at h
  intro c hc
  simpa using A9.mp h c hc
 have:=this c hc
 simpa[PyData.strOk,ch]using this
theorem TX.neNil{α:Type}{xs:List α}{g:α->Str}{e:Expr}{lp pos:Pos}(h:EX aa w A H Z env ρ e (.lst (xs.map fun a=>.str (g a))))(hok:∀ a∈xs,PyData.strOk (g a)=true)(hu:A.units+16<cLine) :
  TX aa w A H Z env ρ (.Compare e [.NotEq] [.List [] lp] pos) (!xs.isEmpty):=by
 have e1:(xs.map fun a=>PV.str (g a))=(xs.map g).map .str:=by rw[List.map_map];rfl
 rw[e1]at h
 have:=TX.cmp (pos:=pos) h (EX.list (pos:=lp) LX.nil (Ap _)) (O2.neD (dJ (xs:=xs.map g) fun x hx=>by
  obtain⟨a,ha,rfl⟩:=Bn.mp hx;exact hok a ha) (dJ (xs:=[]) fun _ h=>by cases h) hu) rfl
 rwa [rL,List.isEmpty_map]at this
theorem TX.eqNil{α:Type}{xs:List α}{g:α->Str}{e:Expr}{lp pos:Pos}(h:EX aa w A H Z env ρ e (.lst (xs.map fun a=>.str (g a))))(hok:∀ a∈xs,PyData.strOk (g a)=true)(hu:A.units+16<cLine) :
  TX aa w A H Z env ρ (.Compare e [.Eq] [.List [] lp] pos) xs.isEmpty:=by
 have e1:(xs.map fun a=>PV.str (g a))=(xs.map g).map .str:=by rw[List.map_map];rfl
 rw[e1]at h
 have:=TX.cmp (pos:=pos) h (EX.list (pos:=lp) LX.nil (Ap _)) (O2.eqD (dJ (xs:=xs.map g) fun x hx=>by
  obtain⟨a,ha,rfl⟩:=Bn.mp hx;exact hok a ha) (dJ (xs:=[]) fun _ h=>by cases h) hu) rfl
 rwa [rL,List.isEmpty_map]at this
theorem t8{l:List Nat}(h:l.length<=sizeLine):JoinOk ("" : Str) (l.map ch)=true:=by
 unfold JoinOk Builtin.Str.tooLong
 rw[List.foldl_toArray]
 have e:("" : Str).length=0:=⋯
 have:(l.map ch).foldl (fun a x=>a+x.length+("" : Str).length) 0=l.length:=by
  rw[e]
  have:∀(l:List Nat) (n:Nat),(l.map ch).foldl (fun a x=>a+x.length+0) n=n+l.length:=by
   intro l
   induction l with
   |nil=>intro n;rfl
   |cons c r ih=>intro n;rw[List.map_cons,List.foldl_cons,ih,List.length_cons];show n+1+0+r.length=_;omega
  rw[this,Nat.zero_add]
 rw[this]
 simpa using h
theorem x7(l:List Nat):Txt.join ("" : Str) (l.map ch)=⟨l.toArray⟩:=by
 have e:("" : Str).cps=#[]:=⋯
 unfold Txt.join Builtin.Str.glued
 have key:∀(l:List Nat) (acc:Array Nat),(l.map ch).foldl (fun acc p=>acc++("" : Str).cps++p.cps) acc=acc++l.toArray:=by
  intro l
  induction l with
  |nil=>intro acc;simp
  |cons c r ih =>
   intro acc
   rw[List.map_cons,List.foldl_cons,ih,e]
   simp[ch]
 cases l with
 |nil=>rfl
 |cons c r =>
  rw[List.map_cons,List.drop_one,List.tail_cons,key]
  simp[ch]
theorem EX.joinC{pl:Sem Bool}{e:Expr}{aq aj pos:Pos}{k:Nat}{l:List Nat}(h:EX aa w A H Z env ρ e (.lst (l.map fun c=>.str (ch c))))(hl:l.length<=sizeLine)
  (he:eval (.Call (.Attribute (.Constant (.str "") k aj) "join" aq) [e] [] pos) env=(do
   let ov <-eval (.Constant (.str "") k aj) env
   standAt aq.atName
   let(f,first) <-holding [ov] (getMethod ov "join" pl)
   callWith pos f first (backTo pos (starEach [e] env)) [])) (hs:starEach [e] env=(false,eval e env)::starEach [] env) :
  EX aa w A H Z env ρ (.Call (.Attribute (.Constant (.str "") k aj) "join" aq) [e] [] pos) (.str ⟨l.toArray⟩):=by
 have e1:(l.map fun c=>PV.str (ch c))=(l.map ch).map .str:=by rw[List.map_map];rfl
 rw[e1]at h
 have:=EX.sm1 (pl:=pl) (x:=("" : Str)) EX.cstr GMs.join (LX.cons h LX.nil hs) (CB.join (t8 hl)) he hs rfl
 rwa [x7]at this
theorem AT.oneAnd{e:Expr}{b:Bool}(h:TX aa w A H Z env ρ e b):AT aa w A H Z env ρ .And [e] b:=by
 have:=AT.consAnd h fun _=>AT.nilAnd
 rwa [Bool.and_true]at this
theorem AT.oneOr{e:Expr}{b:Bool}(h:TX aa w A H Z env ρ e b):AT aa w A H Z env ρ .Or [e] b:=by
 have:=AT.consOr h fun _=>AT.nilOr
 rwa [Bool.or_false]at this
def vQ(scope:Scope)(sc:List (Str×NameKind))(t:Str)(tp p:Pos):Bool:=sc.lookup t==some .local&&tp.line==p.line && !(scope.names.any fun(n,k)=>n==t&&(k==.local||k==.cell))
theorem iE{bb:Expr}{gs:List Comprehension}{scope:Scope}{p tp:Pos}{t:Str}{n:Nat}(S:FS H.H Z env)(eo:EO env sc)(h:vQ scope sc t tp p=true):swapsWith (.ListComp bb gs scope p) (some (.Name t tp)) n env=pure true:=by
 show(pure (env.blockKind==.function&&env.kindOf t==some .local&&tp.line==p.line && !(scope.names.any fun(n,k)=>n==t&&(k==.local||k==.cell))):Sem Bool)=pure true
 have e1:env.blockKind=.function:=by unfold Env.blockKind;rw[S.fn];rfl
 unfold vQ at h
 rw[e1,eo.kind t]
 congr 1
theorem lK{l:List Nat}(h:∀ c∈l,c<0x110000):PyData.strOk ⟨l.toArray⟩=true:=by
 unfold PyData.strOk
 rw[<-Array.all_toList]
 exact A9.mpr fun c hc=>B8 (h c hc)
theorem j9{x:Str}(h:PyData.strOk x=true):∀ c∈x.cps.toList,c<0x110000:=by
 unfold PyData.strOk at h
 rw[<-Array.all_toList]at h
 intro c hc
 exact of_decide_eq_true (A9.mp h c hc)
theorem tD{x y:Str}(hx:PyData.strOk x=true)(hy:PyData.strOk y=true):PyData.strOk (x++y)=true:=by
 have e:x++y=⟨(x.cps.toList++y.cps.toList).toArray⟩:=by
  show(⟨x.cps++y.cps⟩:Str)=_
  simp
 rw[e]
 refine lK fun c hc=>?_
 rcases Cl.mp hc with h|h
 ·exact j9 hx c h
 ·exact j9 hy c h
theorem d0(x y:Str):(x++y).length=x.length+y.length:=by
 show(x.cps++y.cps).size=_
 simp[Str.length]
theorem uC(l:List Nat):(⟨l.toArray⟩:Str).length=l.length:=by simp[Str.length]
theorem len_list(x:Str):x.cps.toList.length=x.length:=by simp[Str.length]
end
section
open Lean Meta Elab Tactic
def isDef(x:Str):Stmt->Bool
 | .FunctionDef n ..=>n==x
 |_=>false
def noScope:Scope:={kind:=.module,names:=[],isGenerator:=false,isCoroutine:=false,more:=[]}
def noArgs:Arguments:={posonlyargs:=[],args:=[],vararg:=none,kwonlyargs:=[],kw_defaults:=[],kwarg:=none,defaults:=[]}
def bodyIn:Option Stmt->List Stmt
 |some (.FunctionDef _ _ b ..)=>b
 |some (.ClassDef _ _ _ b ..)=>b
 |_=>[]
def scopeIn:Option Stmt->Scope
 |some (.FunctionDef _ _ _ _ _ _ s ..)=>s
 |_=>noScope
def argsIn:Option Stmt->Arguments
 |some (.FunctionDef _ a ..)=>a
 |_=>noArgs
def defOf(x:Str):Option Stmt:=PySem.Challenge.pw_wy0058_01.main.body.find? (isDef x)
def methOf(c x:Str):Option Stmt:=(bodyIn (PySem.Challenge.pw_wy0058_01.main.body.find? fun s=>match s with| .ClassDef n ..=>n==c|_=>false)).find? (isDef x)
theorem prgMade:True:=by
 run_tac do
  for (n,c,x) in[("typed","","_law_typed"),("read","","_law_read"),("chained","","_law_chained"),("struck","","_law_struck"),("way","","_law_way"),("stands","","_law_stands"),("law","","law"),("restore","","restore"),("inb1","","in_table_b1"),("mapb3","","map_table_b3"),("accInit","_Accumulator","__init__"),("accPush","_Accumulator","push"),("accPop","_Accumulator","pop_from"),("accLen","_Accumulator","__len__"),("accStr","_Accumulator","__str__"),("hdInit","Headers","__init__"),("hdConv","Headers","_convert_string_type"),("hdGet","Headers","get"),("smInit","SequenceMatcher","__init__"),("smSeqs","SequenceMatcher","set_seqs"),("smSeq1","SequenceMatcher","set_seq1"),("smSeq2","SequenceMatcher","set_seq2"),("smChain","SequenceMatcher","__chain_b"),("smFind","SequenceMatcher","find_longest_match"),("maNew","Match","__new__")] do
   let s (x:String):=mkApp (mkConst ``PySem.Str.ofString) (mkStrLit x)
   let d:=if c == "" then mkApp (mkConst ``defOf) (s x)else mkApp2 (mkConst ``methOf) (s c) (s x)
   for (k,f) in[("B",``bodyIn),("S",``scopeIn),("P",``argsIn)] do
    let e:=mkApp (mkConst f) d
    let ty <-inferType e
    addDecl (.defnDecl {name:=(`Mine).str (n++k),levelParams:=[],type:=ty,value:=<-ofExceptKernelException (Kernel.whnf (<-getEnv) {} e),hints:=.regular 1,safety:=.safe})
 trivial
end
structure Fun(T:Heap)(nm:Str)(B:List Stmt)(S:Scope)(names:List Str)(a:Addr):Prop where
 gl:Gl T nm (.ref a)
 df:∃ fd,Df T a fd B names/\fd.scope=S
theorem FN.mk{aa:Program}{w:World}{T:Heap}{nm:Str}{B:List Stmt}{S:Scope}{names:List Str}{a:Addr}{n:Nat}{ps:List PV}{r:PV}{out:Out}(hlim:T.NoLimit)(F:Fun T nm B S names a)
  (hS:S.names.all (fun x=>x.2 != .free)=true) (bo:ps.length=names.length) (hr:kU out=some r)
  (h:∀(A:Around) (Z:ZP) (env:Env),Rm n A->FS T Z env->EO env S.names->SXs aa w A ⟨T,N0,[],0⟩ Z env (names.zip ps) B out):FN aa w T (.ref a) (n+1) ps r:=by
 obtain⟨fd,D,rfl⟩:=F.df
 exact FN.of hlim D bo hr fun A Z L R S'=>h A Z _ R S' (EO.fn hS)
section
theorem EX.fn{x:Str}{aj pos:Pos}{e:Expr}{ai:List Expr}{B:List Stmt}{Sc:Scope}{names:List Str}{a:Addr}{n:Nat}{ps:List PV}{r:PV}(S:FS H.H Z env)(eo:EO env sc)(R:Rm n A)(F:Fun H.H x B Sc names a)
  (hx:sc.lookup x=some .globalImplicit) (hd:(x==("__debug__" : Str))=false)
  (hl:LX aa w A H Z env ρ pos (e::ai) ps) (hc:FN aa w H.H (.ref a) n ps r)
  (hs:starEach (e::ai) env=(false,eval e env)::starEach ai env)
  (he:eval (.Call (.Name x aj) (e::ai) [] pos) env=(do callWith pos (<-eval (.Name x aj) env) [] (backTo pos (starEach (e::ai) env)) (backToKw pos (keywordEach [] env)))) :
  EX aa w A H Z env ρ (.Call (.Name x aj) (e::ai) [] pos) r:=by
 obtain⟨fd,D,_⟩:=F.df
 exact EX.call S R (NM.glob S (by rw[eo.kind];exact hx) F.gl hd) D.obj hl hc hs he
theorem NM.b{x:Str}{v:Value}(S:FS H.H Z env)(eo:EO env sc)(h:Bi H.H x v)(hx:sc.lookup x=some .globalImplicit)(hd:(x==("__debug__" : Str))=false):NM aa w A H Z env x v:=NM.bi S (by rw[eo.kind];exact hx) h hd
theorem O2.addI{a b:Int}:O2 aa w A H Z (binaryOp .Add) (.int a) (.int b) (.int (a+b)):=by
 intro s E v u G hv hu
 cases hv;cases hu
 exact PyProof.Rows.add_int ⟨.int _ _,Kp.toks _ _ _⟩
theorem O2.subI{a b:Int}:O2 aa w A H Z (binaryOp .Sub) (.int a) (.int b) (.int (a-b)):=by
 intro s E v u G hv hu
 cases hv;cases hu
 exact PyProof.Rows.sub_int ⟨.int _ _,Kp.toks _ _ _⟩
theorem O2.mulI{a b:Int}(hm:IntMulOk a b):O2 aa w A H Z (binaryOp .Mult) (.int a) (.int b) (.int (a*b)):=by
 intro s E v u G hv hu
 cases hv;cases hu
 exact PyProof.Rows.mul_int ⟨.int _ _,Kp.toks _ _ _⟩ hm
theorem O2.modI{a b:Int}(hb:b≠0):O2 aa w A H Z (binaryOp .Mod) (.int a) (.int b) (.int (a.fmod b)):=by
 intro s E v u G hv hu
 cases hv;cases hu
 exact PyProof.Rows.mod_int' hb ⟨.int _ _,Kp.toks _ _ _⟩
theorem O2.fdivI{a b:Int}(hb:b≠0)(hp:Builtin.divisionGoesByPylong a b=false):O2 aa w A H Z (binaryOp .FloorDiv) (.int a) (.int b) (.int (a.fdiv b)):=by
 intro s E v u G hv hu
 cases hv;cases hu
 exact PyProof.Rows.floordiv_int hb ⟨.int _ _,Kp.toks _ _ _⟩ (.inl hp)
theorem O2.powI{a n:Int}(hn:0<=n)(hn2:n<=1000000)(ha:a.natAbs<2^64):O2 aa w A H Z (binaryOp .Pow) (.int a) (.int n) (.int (a^n.toNat)):=by
 intro s E v u G hv hu
 cases hv;cases hu
 exact PyProof.Rows.pow_int_small hn hn2 ha ⟨.int _ _,Kp.toks _ _ _⟩
theorem O2.eqI{a b:Int}:O2 aa w A H Z (compareOp .Eq) (.int a) (.int b) (.bool (a==b)):=by
 intro s E v u G hv hu
 cases hv;cases hu
 exact PyProof.Rows.eq_int ⟨.bool _,Kp.refl _ _⟩
theorem O2.ltI{a b:Int}:O2 aa w A H Z (compareOp .Lt) (.int a) (.int b) (.bool (decide (a<b))):=by
 intro s E v u G hv hu
 cases hv;cases hu
 exact PyProof.Rows.lt_int ⟨.bool _,Kp.refl _ _⟩
theorem O2.gtI{a b:Int}:O2 aa w A H Z (compareOp .Gt) (.int a) (.int b) (.bool (decide (b<a))):=by
 intro s E v u G hv hu
 cases hv;cases hu
 exact PyProof.Rows.gt_int ⟨.bool _,Kp.refl _ _⟩
theorem CB.ord{c:Nat}:CB aa w A H Z (.builtin "ord") [.str (ch c)] (.int c):=by
 intro s E vs G P
 cases P with
 |cons h1 P =>
 cases P
 cases h1
 exact P.ord_of_char ⟨.int _ _,Kp.toks _ _ _⟩
theorem CB.chr{i:Int}(hi:(decide (i<0)||decide (i>0x10FFFF))=false):CB aa w A H Z (.builtin "chr") [.int i] (.str (ch i.toNat)):=by
 intro s E vs G P
 cases P with
 |cons h1 P =>
 cases P
 cases h1
 exact P.chr_of_int hi ⟨.str _ _,Kp.toks _ _ _⟩
theorem CB.lenS{x:Str}(hx:¬(x.length:Int)≥2^63):CB aa w A H Z (.builtin "len") [.str x] (.int x.length):=by
 intro s E vs G P
 obtain⟨_,_,rfl,h1,P⟩:=aI P
 cases P
 cases h1
 exact PyProof.Rows.len_str hx ⟨.int _ _,Kp.toks _ _ _⟩
theorem Rp.list{h:Heap}{l:List PV}{v:Value}(x:Rp Z h (.lst l) v):∃ a items,v=.ref a/\¬Z a/\h.IsList a items/\Paired (Rp Z h) l items.toList:=by
 obtain⟨a,o,items,n,rfl,z,e,c,d,hs,hi⟩:=Rp.lstI x
 have y:Rp Z h (.tup l) (.ref a)->True:=fun _=>trivial
 refine⟨a,items,rfl,z,⟨o,e,c,n,d⟩,?_⟩
 have:∀(l:List PV) (vs:List Value),vs.length=l.length->(∀(i:Nat) p v,l[i]? = some p->vs[i]? = some v->Rp Z h p v)->Paired (Rp Z h) l vs:=by
  intro l
  induction l with
  |nil=>intro vs e _;cases vs with
   |nil=>exact .nil
   |cons _ _=>simp at e
  |cons p l ih=>intro vs e hi;cases vs with
   |nil=>simp at e
   |cons v vs=>exact .cons (hi 0 p v rfl rfl) (ih vs (by simpa using e) fun i p v e1 e2=>hi (i+1) p v (by simpa using e1) (by simpa using e2))
 exact this l items.toList (by simpa using hs) fun i p v e1 e2=>hi i p v e1 (by simpa using e2)
theorem CB.lenL{l:List PV}(hx:(l.length:Int)<2^63):CB aa w A H Z (.builtin "len") [.lst l] (.int l.length):=by
 intro s E vs G P
 obtain⟨_,_,rfl,h1,P⟩:=aI P
 cases P
 obtain⟨a,items,rfl,z,it,pr⟩:=h1.list
 have hs:items.size=l.length:=by have:=(a8 pr).1;simpa using this
 exact PyProof.Rows.len_list it (by rw[hs];exact hx) ⟨by rw[hs];exact .int _ _,Kp.toks _ _ _⟩
def SB(aa:Program)(w:World)(A:Around)(H:Ctx)(Z:ZP)(value slice:Expr)(p q r:PV):Prop :=
 ∀ s (E:ZV) v u,GS H Z s->Rp Z s.heap p v->Rp Z s.heap q u->wpAny (model aa w) A (subscriptTail value slice v u) (fun y s'=>Rp Z s'.heap r y/\Kp N0 s s') E s
theorem EX.sub{value slice:Expr}{pos:Pos}{p q r:PV}(hv:EX aa w A H Z env ρ value p)(hs:EX aa w A H Z env ρ slice q)(h:SB aa w A H Z value slice p q r):EX aa w A H Z env ρ (.Subscript value slice pos) r:=by
 refine⟨fun s E F=>?_⟩
 refine Et (wpM (hv.run s E F) (fun v s_1 h_1=>wpM (hs.run s_1 E (F.kp0 h_1.2)) (fun u s_2 h_2=>wpM (h s_2 E v u ((F.kp0 h_1.2).kp0 h_2.2).toGS (h_1.1.kp0 h_2.2) h_2.1) (fun z s₃ h_3=>⟨h_3.1,h_1.2.trans (h_2.2.trans h_3.2)⟩))))
theorem SB.list{value slice:Expr}{l:List PV}{k:Int}{p:PV}(h0:0<=k)(hk:k<2^63)(hp:l[k.toNat]? = some p)
  (hs:∀ a u,subscripted slice false (.ref a) (.int k u)=operate [.ref a,.int k u] (getItem (.ref a) (.int k u))) (hg:∀ a r,letTemporaryGo value (.ref a) r=pure ()):SB aa w A H Z value slice (.lst l) (.int k) p:=by
 intro s E v u G hv hu
 obtain⟨a,items,rfl,z,it,pr⟩:=hv.list
 obtain⟨t,rfl⟩:=Rp.intI hu
 obtain⟨hl,hi⟩:=a8 pr
 have hlt:k.toNat<items.toList.length:=by rw[hl];exact(A8.mp hp).1
 have hx:items.toList[k.toNat]? = some (items.toList[k.toNat]):=Al hlt
 exact item_list it h0 hk (by simpa using hx) ⟨hi _ _ _ hp hx,Kp.refl _ _⟩ (hs a t) (hg a)
theorem SB.str{value slice:Expr}{x:Str}{k:Int}{c:Nat}(hr:(decide (k < -(2^63:Int))||decide (k≥2^63))=false)(hc:(seqIndex? k x.length).bind (x.cps[·]?)=some c)
  (hs:∀ t u,subscripted slice false (.str x t) (.int k u)=operate [.str x t,.int k u] (getItem (.str x t) (.int k u))) (hg:∀ t r,letTemporaryGo value (.str x t) r=pure ()):SB aa w A H Z value slice (.str x) (.int k) (.str (ch c)):=by
 intro s E v u G hv hu
 obtain⟨t,rfl⟩:=Rp.strI hv
 obtain⟨t',rfl⟩:=Rp.intI hu
 exact subscriptTail_builtin (Eu _ _ _) slot_str_getitem.lookup (PyProof.Rows.getItem_str hr hc ⟨.str _ _,Kp.toks _ _ _⟩) (hs t t') (hg t)
theorem GMs.find:GMs aa w A "find" "str.find":=⟨fun s E x t pl Q m e h=>by rw[e];exact GM.find h⟩
theorem GMs.index:GMs aa w A "index" "str.index":=⟨fun s E x t pl Q m e h=>by rw[e];exact GM.index h⟩
theorem GMs.split:GMs aa w A "split" "str.split":=⟨fun s E x t pl Q m e h=>by rw[e];exact GM.split h⟩
theorem GMs.replace:GMs aa w A "replace" "str.replace":=⟨fun s E x t pl Q m e h=>by rw[e];exact GM.replace h⟩
theorem fM{s:Shared}{E:ZV}{value slice:Expr}{o i:Value}{T id:String}{ops:List Value}{Q:ZV}(hT:s.TypeIs o T)
  (hl:typeLookup (.type T) "__getitem__" = pure (some (.builtin id))) (h:wpAny (model aa w) A (getItem o i) Q E s) (hs:subscripted slice false o i=operate ops (getItem o i)) :
  wpAny (model aa w) A (subscriptTail value slice o i) Q E s:=by
 unfold subscriptTail
 refine A0 ?_
 rw[getitemInPython_of_ne hT.not_modules]
 refine A0 (Bu hT hl ?_)
 have fin:wpAny (model aa w) A (subscripted slice false o i) (fun r s₃=>wpAny (model aa w) A (letTemporaryGo value o r >>= fun _=>pure r) Q E s₃) E s:=by
  rw[hs]
  exact wpAny_operating (wpM h (fun r s₃ h_3=>A0 (Ec (A1 h_3))))
 first
  |exact A1 (A0 fin)
  |exact A0 (A1 (A0 fin))
  |exact A0 fin
theorem SB.item{value slice:Expr}{l:List PV}{k:Int}{p:PV}(h0:0<=k)(hk:k<2^63)(hp:l[k.toNat]? = some p)
  (hs:∀ a u,subscripted slice false (.ref a) (.int k u)=operate [.ref a,.int k u] (getItem (.ref a) (.int k u))):SB aa w A H Z value slice (.lst l) (.int k) p:=by
 intro s E v u G hv hu
 obtain⟨a,items,rfl,z,it,pr⟩:=hv.list
 obtain⟨t,rfl⟩:=Rp.intI hu
 obtain⟨hl,hi⟩:=a8 pr
 have hlt:k.toNat<items.toList.length:=by rw[hl];exact(A8.mp hp).1
 have hx:items.toList[k.toNat]? = some (items.toList[k.toNat]):=Al hlt
 exact fM it.typeIs slot_list_getitem.lookup (wpAny_getItem_list it h0 hk (by simpa using hx) ⟨hi _ _ _ hp hx,Kp.refl _ _⟩) (hs a t)
theorem SB.itemT{value slice:Expr}{l:List PV}{k:Int}{j:Nat}{p:PV}(hlo:-(2^63)<=k)(hhi:k<2^63)(hj:seqIndex? k l.length=some j)(hp:l[j]? = some p)
  (hs:∀ a u,subscripted slice false (.ref a) (.int k u)=operate [.ref a,.int k u] (getItem (.ref a) (.int k u))) (hg:∀ a r,letTemporaryGo value (.ref a) r=pure ()):SB aa w A H Z value slice (.tup l) (.int k) p:=by
 intro s E v u G hv hu
 obtain⟨a,o,items,n,rfl,z,e,c,d,hsz,hi⟩:=Rp.tupI hv
 obtain⟨t,rfl⟩:=Rp.intI hu
 have hlt:j<items.size:=by rw[hsz];exact(A8.mp hp).1
 exact item_tuple ⟨o,e,c,n,d⟩ hlo hhi (by rw[hsz];exact hj) (Ck hlt) ⟨hi _ _ _ hp (Ck hlt),Kp.refl _ _⟩ (hs a t) (hg a)
structure PX(aa:Program)(w:World)(A:Around)(H:Ctx)(Z:ZP)(env:Env)(ρ:List (Str×PV))(e:Option Expr)(b:Option Int):Prop where
 run:∀ s (E:ZV),FI H Z env ρ s->wpAny (model aa w) A (evalPart e env) (fun v s'=>(∃ t,v=partValue (b.map fun i=>(i,t)))/\Kp N0 s s') E s
theorem PX.none:PX aa w A H Z env ρ .none .none:=⟨fun s E F=>A1 ⟨⟨0,rfl⟩,Kp.refl _ _⟩⟩
theorem PX.some{e:Expr}{i:Int}(h:EX aa w A H Z env ρ e (.int i)):PX aa w A H Z env ρ (.some e) (.some i):=⟨fun s E F =>
 wpM (h.run s E F) (fun v s_1 h_1=>by
  obtain⟨hv,k⟩:=h_1
  cases hv with
  |int _ t=>exact⟨⟨t,rfl⟩,k⟩)⟩
def SLC(aa:Program)(w:World)(A:Around)(H:Ctx)(Z:ZP)(p:PV)(lo hi:Option Int)(r:PV):Prop :=
 ∀ s (E:ZV) v t u sl,GS H Z s->Rp Z s.heap p v->s.heap.get? sl=some {cls:=.type "slice",data:=.fields #[partValue (lo.map fun i=>(i,t)),partValue (hi.map fun i=>(i,u)),.none]} ->
  ∃ T id,s.TypeIs v T/\typeLookup (.type T) "__getitem__" = pure (some (.builtin id))/\wpAny (model aa w) A (getItem v (.ref sl)) (fun y s'=>Rp Z s'.heap r y/\Kp N0 s s') E s
theorem EX.slice{value:Expr}{lower upper:Option Expr}{p pos:Pos}{x r:PV}{lo hi:Option Int}(hv:EX aa w A H Z env ρ value x)(hl:PX aa w A H Z env ρ lower lo)(hu:PX aa w A H Z env ρ upper hi)
  (h:SLC aa w A H Z x lo hi r):EX aa w A H Z env ρ (.Subscript value (.Slice lower upper .none p) pos) r:=by
 refine⟨fun s E F=>?_⟩
 refine Et (wpM (hv.run s E F) (fun v s_1 h_1=>?_))
 have F_1:=F.kp0 h_1.2
 refine Gc (wpM (hl.run s_1 E F_1) (fun vl s_2 h_2=>wpM (hu.run s_2 E (F_1.kp0 h_2.2)) (fun vu s₃ h_3=>?_)))
 rw[evalPart_none]
 obtain⟨⟨t,rfl⟩,k_2⟩:=h_2
 obtain⟨⟨u,rfl⟩,k_3⟩:=h_3
 refine A1 ?_
 have F_3:=(F_1.kp0 k_2).kp0 k_3
 have k_4:Kp N0 s₃ {s₃ with heap:=s₃.heap.push {cls:=.type "slice",data:=.fields #[partValue (lo.map fun i=>(i,t)),partValue (hi.map fun i=>(i,u)),.none]}}:=Kp.push _ _ _
 obtain⟨T,id,hT,hlk,hw⟩:=h _ E v t u s₃.heap.objs.size (F_3.kp0 k_4).toGS (((h_1.1.kp0 k_2).kp0 k_3).kp0 k_4) (A3 _ rfl)
 exact fM hT hlk (wpM hw (fun y s5 h_5=>⟨h_5.1,h_1.2.trans (k_2.trans (k_3.trans (k_4.trans h_5.2)))⟩)) rfl
theorem w0{b:Option Int}{t:Tok}:IsPart (partValue (b.map fun i=>(i,t))) b:=by
 cases b with
 |none=>exact .none
 |some i=>exact .int i t
def i0{α:Type}(l:List α)(lo hi:Option Int):List α:=(sliceRange (sliceBounds lo hi none l.length).1 (sliceBounds lo hi none l.length).2.1 (sliceBounds lo hi none l.length).2.2).filterMap (l[·]?)
theorem kT{Z:ZP}{h:Heap}{l:List PV}{vs:List Value}(x:Paired (Rp Z h) l vs)(is:List Nat):Paired (Rp Z h) (is.filterMap (l[·]?)) (is.filterMap (vs[·]?)):=by
 obtain⟨hl,hi⟩:=a8 x
 induction is with
 |nil=>exact .nil
 |cons i r ih =>
  rw[List.filterMap_cons,List.filterMap_cons]
  rcases C4 i l.length with hlt|hge
  ·have e1:l[i]? = some l[i]:=Al hlt
   have e2:vs[i]? = some (vs[i]'(by rw[hl];exact hlt)):=Al _
   rw[e1,e2]
   exact .cons (hi i _ _ e1 e2) ih
  ·rw[List.getElem?_eq_none hge,List.getElem?_eq_none (by rw[hl];exact hge)]
   exact ih
theorem Rp.newList{Z:ZP}{s:Shared}{l:List PV}{vs:Array Value}(hz:¬Z s.heap.objs.size)(x:Paired (Rp Z s.heap) l vs.toList) :
  Rp Z (s.heap.push {cls:=.type "list",data:=.seq vs}) (.lst l) (.ref s.heap.objs.size):=by
 obtain⟨hl,hi⟩:=a8 x
 exact .lst hz (A3 _ rfl) rfl rfl (by simpa using hl) fun i p v e1 e2=>(hi i p v e1 (by simpa using e2)).keep fun b o _ e=>A2 _ e
theorem Rp.newTuple{Z:ZP}{s:Shared}{l:List PV}{vs:Array Value}(hz:¬Z s.heap.objs.size)(x:Paired (Rp Z s.heap) l vs.toList) :
  Rp Z (s.heap.push {cls:=.type "tuple",data:=.seq vs}) (.tup l) (.ref s.heap.objs.size):=by
 obtain⟨hl,hi⟩:=a8 x
 exact .tup hz (A3 _ rfl) rfl rfl (by simpa using hl) fun i p v e1 e2=>(hi i p v e1 (by simpa using e2)).keep fun b o _ e=>A2 _ e
theorem SLC.list{l:List PV}{lo hi:Option Int}(hsz:l.length<=sizeLine):SLC aa w A H Z (.lst l) lo hi (.lst (i0 l lo hi)):=by
 intro s E v t u sl G hv hs
 obtain⟨a,items,rfl,z,it,pr⟩:=hv.list
 have e1:items.size=l.length:=by have:=(a8 pr).1;simpa using this
 refine⟨_,_,it.typeIs,slot_list_getitem.lookup,wpAny_getItem_list_slice it ⟨_,hs,rfl,rfl⟩ w0 w0 .none ‹s› ⟨Rp.newList G.new ?_,Kp.push _ _ _⟩ (by rw[e1];exact hsz)⟩
 have:=kT pr (sliceRange (sliceBounds lo hi none l.length).1 (sliceBounds lo hi none l.length).2.1 (sliceBounds lo hi none l.length).2.2)
 unfold slicePick i0
 rw[e1]
 simpa using this
def jD(x:Str)(lo hi:Option Int):Str:=Txt.slice x lo hi
theorem SLC.str{x:Str}{lo hi:Option Int}(hsz:x.length<=sizeLine):SLC aa w A H Z (.str x) lo hi (.str (jD x lo hi)):=by
 intro s E v t u sl G hv hs
 obtain⟨tx,rfl⟩:=Rp.strI hv
 refine⟨_,_,Eu _ _ _,slot_str_getitem.lookup,wpAny_getItem_str_slice (l:=lo.map fun i=>(i,t)) (u:=hi.map fun i=>(i,u)) (st:=none) ⟨_,hs,rfl,rfl⟩ rfl ?_⟩
 have e1:∀(b:Option Int) (t:Tok),(b.map fun i=>(i,t)).map (·.1)=b:=fun b t=>by cases b <;> rfl
 unfold sliceMade slicePicked jD Txt.slice
 rw[e1,e1]
 simp only[Option.map_none,Option.getD_none]
 split
 ·exact⟨.str _ _,Kp.refl _ _⟩
 ·refine⟨?_,.str _ _,Kp.toks _ _ _⟩
  refine A7 ?_ hsz
  show((List.filterMap _ _).toArray).size<=_
  rw[List.size_toArray]
  exact A7 (Fj _ _) (sliceIndices_le _ _ _)
structure GMp(aa:Program)(w:World)(A:Around)(H:Ctx)(Z:ZP)(p:PV)(name:Str)(id:String):Prop where
 run:∀(s:Shared) (E:ZV) (v:Value) (pl:Sem Bool) (Q:Value×List Value->Shared->Prop) (m:Sem (Value×List Value)),m=getMethod v name pl->GS H Z s->Rp Z s.heap p v->Q (.builtin id,[v]) s->wpAny (model aa w) A m Q E s
theorem GMs.p{name:Str}{id:String}{x:Str}(h:GMs aa w A name id):GMp aa w A H Z (.str x) name id:=by
 refine⟨fun s E v pl Q m e G hv hq=>?_⟩
 cases hv with
 |str _ t=>exact h.run s E x t pl Q m e hq
theorem EX.mc0{o:Expr}{name:Str}{aq pos:Pos}{id:String}{p r:PV}{pl:Sem Bool}(ho:EX aa w A H Z env ρ o p)(hm:GMp aa w A H Z p name id)(hc:CB aa w A H Z (.builtin id) [p] r)
  (he:eval (.Call (.Attribute o name aq) [] [] pos) env=(do
   let ov <-eval o env
   standAt aq.atName
   let(f,first) <-holding [ov] (getMethod ov name pl)
   callWith pos f first (backTo pos (starEach [] env)) [])):EX aa w A H Z env ρ (.Call (.Attribute o name aq) [] [] pos) r:=by
 refine⟨fun s E F=>?_⟩
 refine Br (pl:=pl) (wpM (ho.run s E F) (fun v s_1 h_1=>?_)) he
 obtain⟨hv,k⟩:=h_1
 refine hm.run s_1 E v pl _ _ rfl (F.kp0 k).toGS hv (callWith_method0 ?_)
 exact wpM (hc s_1 E _ (F.kp0 k).toGS (.cons hv .nil)) (fun y s_2 h_2=>⟨h_2.1,k.trans h_2.2⟩)
theorem EX.mc1{o e:Expr}{ai:List Expr}{name:Str}{aq pos:Pos}{id:String}{p:PV}{ps:List PV}{r:PV}{pl:Sem Bool}(ho:EX aa w A H Z env ρ o p)(hm:GMp aa w A H Z p name id)(hl:LX aa w A H Z env ρ pos (e::ai) ps)
  (hc:CB aa w A H Z (.builtin id) (p::ps) r)
  (he:eval (.Call (.Attribute o name aq) (e::ai) [] pos) env=(do
   let ov <-eval o env
   standAt aq.atName
   let(f,first) <-holding [ov] (getMethod ov name pl)
   callWith pos f first (backTo pos (starEach (e::ai) env)) []))
  (hs:starEach (e::ai) env=(false,eval e env)::starEach ai env) (hplain:(backTo pos (starEach ai env)).any (·.1)=false):EX aa w A H Z env ρ (.Call (.Attribute o name aq) (e::ai) [] pos) r:=by
 refine⟨fun s E F=>?_⟩
 refine Br (pl:=pl) (wpM (ho.run s E F) (fun v s_1 h_1=>?_)) he
 obtain⟨hv,k⟩:=h_1
 refine hm.run s_1 E v pl _ _ rfl (F.kp0 k).toGS hv (Bx (wpM (hl.run s_1 E (F.kp0 k)) (fun vs s_2 h_2=>?_)) hs hplain)
 exact wpM (hc s_2 E _ ((F.kp0 k).kp0 h_2.2).toGS (.cons (hv.kp0 h_2.2) h_2.1)) (fun y s₃ h_3=>⟨h_3.1,k.trans (h_2.2.trans h_3.2)⟩)
theorem CB.upper{x:Str}(hx:x.length<=5592405):CB aa w A H Z (.builtin "str.upper") [.str x] (.str (Txt.upper x)):=by
 intro s E vs G P
 obtain⟨_,_,rfl,h1,P⟩:=aI P
 obtain rfl:=cX P
 cases h1
 exact SC.upper (fit_upper hx) ⟨.str _ _,Kp.toks _ _ _⟩
theorem CB.lower{x:Str}(hx:x.length<=5592405):CB aa w A H Z (.builtin "str.lower") [.str x] (.str (Txt.lower x)):=by
 intro s E vs G P
 obtain⟨_,_,rfl,h1,P⟩:=aI P
 obtain rfl:=cX P
 cases h1
 exact SC.lower (fit_lower hx) ⟨.str _ _,Kp.toks _ _ _⟩
theorem O2.inSet{a:Addr}{S:Int->Bool}{n:Nat}{i:Int}(hS:H.H.SetOf (intKind aa w) a S n):O2 aa w A H Z (compareOp .In) (.int i) (.raw (.ref a)) (.bool (S i)):=by
 intro s E v u G hv hu
 cases hu
 obtain⟨t,rfl⟩:=Rp.intI hv
 obtain⟨o,es,ep,tb,ho,r⟩:=hS
 exact wpAny_inSet_of (knd:=intKind aa w) (k:=i) (S:=S) (n:=n) (by simp[intKind,Value.isInt]) rfl ⟨o,es,ep,tb,G.top _ _ ho,r⟩ ⟨.bool _,Kp.toks _ _ _⟩
def j4(aa:Program)(w:World)(T:Heap)(a:Addr)(m:Int->Option Str):Prop :=
 (a==sysModules)=false/\∃ f,T.MapOf (intKind aa w) a f/\∀ k,match m k with
  |some x=>∃ t,f k=some (.str x t)
  |none=>f k=none
abbrev optS:Option Str->PV
 |some x=>.str x
 |none=>.none
theorem fN{K:Type}[DecidableEq K]{knd:KeyKind aa w K}{h h':Heap}{a:Addr}{f:K->Option Value}(x:h.MapOf knd a f)(hk:∀ b o,h.get? b=some o->h'.get? b=some o):h'.MapOf knd a f :=
 let⟨o,es,ep,ho,r⟩:=x;⟨o,es,ep,hk _ _ ho,r⟩
theorem GMp.dictGet{a:Addr}{m:Int->Option Str}(h:j4 aa w H.H a m):GMp aa w A H Z (.raw (.ref a)) "get" "dict.get":=by
 refine⟨fun s E v pl Q m e G hv hq=>?_⟩
 subst e
 cases hv
 obtain⟨_,f,hf,_⟩:=h
 have M:=fN hf (h':=s.heap) G.top
 exact Dx M.typeIs F.plainAttrs_dict F.slot_dict_get F.type_dict_get M.noDict hq
theorem CB.dictGet{a:Addr}{m:Int->Option Str}{k:Int}(h:j4 aa w H.H a m):CB aa w A H Z (.builtin "dict.get") [.raw (.ref a),.int k] (optS (m k)):=by
 intro s E vs G P
 obtain⟨_,_,rfl,h1,P⟩:=aI P
 obtain⟨_,_,rfl,h2,P⟩:=aI P
 obtain rfl:=cX P
 cases h1
 obtain⟨t,rfl⟩:=Rp.intI h2
 obtain⟨hd,f,hf,hm⟩:=h
 have M:=fN hf (h':=s.heap) G.top
 refine call_meetsIn F.slot_dict_get M.typeIs F.entry_dict_get (F.args_dict_get_2 _ _) (meets_dict_get (intKind aa w) (k:=k) a (by simp[intKind,Value.isInt]) hd) ⟨f,M,?_⟩
 have hk:=hm k
 cases hmk:m k with
 |none =>
  rw[hmk]at hk
  show Rp _ _ _ ((f k).getD .none)/\_
  rw[show f k=none from hk];exact⟨.none,Kp.toks _ _ _⟩
 |some x =>
  rw[hmk]at hk
  obtain⟨t',e⟩:=hk
  show Rp _ _ _ ((f k).getD .none)/\_
  rw[e];exact⟨.str _ _,Kp.toks _ _ _⟩
def isNil:PV->Option Bool
 | .none=>some true
 | .raw _=>none
 | .own _=>none
 |_=>some false
theorem Rp.isNil{h:Heap}{p:PV}{v:Value}{b:Bool}(x:Rp Z h p v)(hb:isNil p=some b):(v==.none)=b:=by
 cases x <;> cases hb <;> rfl
theorem O2.isNone{p:PV}{b:Bool}(hb:Mine.isNil p=some b):O2 aa w A H Z (compareOp .Is) p .none (.bool b):=by
 intro s E v u G hv hu
 cases hu
 exact PySem.is_none ⟨by rw[hv.isNil hb];exact .bool _,Kp.refl _ _⟩
theorem O2.isNotNone{p:PV}{b:Bool}(hb:Mine.isNil p=some b):O2 aa w A H Z (compareOp .IsNot) p .none (.bool (!b)):=by
 intro s E v u G hv hu
 cases hu
 exact PySem.isNot_none ⟨by rw[hv.isNil hb];exact .bool _,Kp.refl _ _⟩
theorem O2.isNotBool{b c:Bool}:O2 aa w A H Z (compareOp .IsNot) (.bool b) (.bool c) (.bool (!(b==c))):=by
 intro s E v u G hv hu
 cases hv;cases hu
 show wpAny _ A (do return Value.bool (!(<-isSame (Value.bool b) (Value.bool c)))) _ _ _
 rw[show isSame (Value.bool b) (Value.bool c)=pure (b==c)from by cases b <;> cases c <;> rfl]
 exact A0 (A1 (A1 ⟨Rp.bool _,Kp.refl _ _⟩))
theorem bJ{α β:Type}{F:α->β->Prop}{l m:List α}{vs us:List β}(x:Paired F l vs)(y:Paired F m us):Paired F (l++m) (vs++us):=by
 induction x with
 |nil=>exact y
 |cons h _ ih=>exact .cons h ih
theorem O2.addL{l m:List PV}(h:l.length+m.length<=sizeLine):O2 aa w A H Z (binaryOp .Add) (.lst l) (.lst m) (.lst (l++m)):=by
 intro s E v u G hv hu
 obtain⟨a,xs,rfl,z1,it1,p1⟩:=hv.list
 obtain⟨b,ys,rfl,z2,it2,p2⟩:=hu.list
 have e1:xs.size=l.length:=by have:=(a8 p1).1;simpa using this
 have e2:ys.size=m.length:=by have:=(a8 p2).1;simpa using this
 obtain⟨⟨cls,dd,data,sl⟩,ho,hc,n,hd⟩:=id it1
 obtain⟨⟨cls2,dd2,data2,sl2⟩,ho2,hc2,n2,hd2⟩:=id it2
 simp only at hc hd hc2 hd2
 subst hc hd hc2 hd2
 refine G7 ⟨_,ho,rfl⟩ ⟨_,ho2,rfl⟩ noFill_list_add seq_list_add PySem.F.slot_list_add PySem.F.entry_list_add (PySem.F.args_list_add_2 _ _) (list_addW a b xs ys n n2 dd dd2 sl sl2 (by rw[e1,e2];exact h)) ⟨ho,ho2,Rp.newList G.new ?_,Kp.push _ _ _⟩
 simpa using bJ p1 p2
theorem O2.addT{l m:List PV}(h:l.length+m.length<=sizeLine):O2 aa w A H Z (binaryOp .Add) (.tup l) (.tup m) (.tup (l++m)):=by
 intro s E v u G hv hu
 have hv0:=hv
 have hu0:=hu
 obtain⟨a,xs,rfl,z1,it1,p1⟩:=hv.tuple
 obtain⟨b,ys,rfl,z2,it2,p2⟩:=hu.tuple
 have e1:xs.size=l.length:=by have:=(a8 p1).1;simpa using this
 have e2:ys.size=m.length:=by have:=(a8 p2).1;simpa using this
 obtain⟨⟨cls,dd,data,sl⟩,ho,hc,n,hd⟩:=id it1
 obtain⟨⟨cls2,dd2,data2,sl2⟩,ho2,hc2,n2,hd2⟩:=id it2
 simp only at hc hd hc2 hd2
 subst hc hd hc2 hd2
 by_cases h1:xs.isEmpty=true
 ·have:l=[]:=by
   have h1':xs.size=0:=by simpa using h1
   exact Fq.mp ‹o›
  subst this
  exact G7 ⟨_,ho,rfl⟩ ⟨_,ho2,rfl⟩ Fs Gr Dy Dp (Dj _ _) (tuple_addW0 a b xs ys n n2 dd dd2 sl sl2 h1) ⟨ho,ho2,hu0,Kp.refl _ _⟩
 ·by_cases h2:ys.isEmpty=true
  ·have:m=[]:=by
    have h2':ys.size=0:=by simpa using h2
    exact Fq.mp ‹o›
   subst this
   rw[List.append_nil]
   exact G7 ⟨_,ho,rfl⟩ ⟨_,ho2,rfl⟩ Fs Gr Dy Dp (Dj _ _) (tuple_addW1 a b xs ys n n2 dd dd2 sl sl2 h1 h2) ⟨ho,ho2,hv0,Kp.refl _ _⟩
  ·refine G7 ⟨_,ho,rfl⟩ ⟨_,ho2,rfl⟩ Fs Gr Dy Dp (Dj _ _) (tuple_addW2 a b xs ys n n2 dd dd2 sl sl2 h1 h2 (by rw[e1,e2];exact h)) ⟨ho,ho2,Rp.newTuple G.new ?_,Kp.push _ _ _⟩
   simpa using bJ p1 p2
theorem CB.find{x y:Str}:CB aa w A H Z (.builtin "str.find") [.str x,.str y] (.int (Txt.find x y)):=by
 intro s E vs G P
 obtain⟨_,_,rfl,h1,P⟩:=aI P
 obtain⟨_,_,rfl,h2,P⟩:=aI P
 obtain rfl:=cX P
 cases h1;cases h2
 exact SC.find ⟨.int _ _,Kp.toks _ _ _⟩
theorem CB.index{x y:Str}{i:Nat}{ai:List Nat}(ho:Builtin.Str.occurrences x y 0 x.length 1=i::ai):CB aa w A H Z (.builtin "str.index") [.str x,.str y] (.int i):=by
 intro s E vs G P
 obtain⟨_,_,rfl,h1,P⟩:=aI P
 obtain⟨_,_,rfl,h2,P⟩:=aI P
 obtain rfl:=cX P
 cases h1;cases h2
 exact SC.index ho ⟨.int _ _,Kp.toks _ _ _⟩
theorem jS{h:Heap}:∀(l:List (Str×Tok)),Paired (Rp Z h) ((l.map (·.1)).map PV.str) (strValues l)
 |[]=>.nil
 |(x,t)::r=>.cons (.str x t) (jS r)
theorem CB.split0{x:Str}(hx:x.length<=sizeLine)(hn:(Builtin.Str.spaceWords x (x.length+1)).length<=sizeLine):CB aa w A H Z (.builtin "str.split") [.str x] (.lst ((Txt.words x).map .str)):=by
 intro s E vs G P
 obtain⟨_,_,rfl,h1,P⟩:=aI P
 obtain rfl:=cX P
 obtain⟨t,rfl⟩:=Rp.strI h1
 refine call_meets F.slot_str_split (Eu _ _ _) F.entry_str_split (F.args_str_split_1 _) (meets_str_split_space x t hx hn) ?_
 cases hw:Builtin.Str.spaceWords x (x.length+1)==[(0,x.length)]
 ·simp only[Bool.false_eq_true,if_false]
  rw[strsFrom_eq]
  have e:Txt.words x=(numbered s.toks (PySem.wordsOf x)).map (·.1):=((numbered_texts _ _).trans (if_neg (ne_true_of_eq_false hw)).symm).symm
  refine⟨?_,iO _ _ _⟩
  rw[e]
  exact Rp.newList G.new (by simpa using jS _)
 ·simp only[if_true]
  have e:Txt.words x=[x]:=if_pos hw
  rw[e]
  exact⟨Rp.newList (l:=[.str x]) G.new (.cons (.str x t) .nil),Kp.push _ _ _⟩
theorem Src.ofT{elts:List Expr}{k:Nat}{pos:Pos}{I:Addr}{n:Nat}{fp wr:List Addr}{Pt:Nat->Array Value->Prop}{St:Nat->Heap->Prop}{Mid:Nat->Addr->Heap->Prop}(W:WalksT aa w A I fp wr n Pt St Mid)
  (zwr:∀ b∈wr,Z b) (hfp:∀ b∈fp,b∈wr\/¬Z b)
  (hex:∀ i h,St i h->∀ b∈wr,∃ o,h.get? b=some o) (items:List PV) (hn:items.length=n) (Rep:Heap->Prop) (hRep:∀ h h',Rep h->(∀ b o,¬Z b->h.get? b=some o->h'.get? b=some o)->Rep h')
  (hP:∀ i p ba h,items[i]? = some p->Pt i ba->Rep h->∃ ps,p=.tup ps/\Paired (Rp Z h) ps ba.toList):Src aa w A H Z (.Tuple elts k pos) (.ref I) (fun a=>a∈wr) items (fun i h=>St i h/\Rep h) where
 wz:=zwr
 ex:=fun i h st a ha=>hex i h st.1 a ha
 frame:=fun i h h' st hk=>⟨W.frame i h h' st.1 fun b hb o e=>hk b o (hfp b hb) e,hRep h h' st.2 fun b o z e=>hk b o (.inr z) e⟩
 item:=fun i p s E hp G st=>by
  have hi:i<n:=hn▸(A8.mp hp).1
  refine Ao (A4 _) (W.item i s _ _ hi st.1 fun T ba h' tk pv hT it md hk htk=>?_)
  have htk:s.toks<=tk:=htk
  refine⟨.ref T,rfl,W.go elts k pos i T _ _ _ md fun h'' st' hk'=>?_⟩
  have k0:∀ b o,¬Z b->s.heap.get? b=some o->h''.get? b=some o:=fun b o z e=>hk' b o (fun q=>z (zwr b q)) (hk b o (fun q=>z (zwr b q)) e)
  have r'':Rep h'':=hRep _ _ st.2 k0
  have nT:T∉wr:=W.apart _ _ _ md
  obtain⟨ps,rfl,pr⟩:=hP i p ba h'' hp pv r''
  obtain⟨o,ho,hc,m,hd⟩:=it
  obtain⟨hl,hi2⟩:=a8 pr
  refine⟨.tup (fun z=>absurd (G.lt z) (C1.mpr hT)) (hk' T o nT ho) hc hd (by simpa using hl) fun j q v e1 e2=>hi2 j q v e1 (by simpa using e2),⟨st',r''⟩,Kp.mk fun b o nb e=>hk' b o nb (hk b o nb e)⟩
 done:=fun s E G st=>Ao (A4 _) <|W.done s _ _ (hn▸st.1) fun h' tk hk (htk:s.toks<=tk)=>⟨rfl,Kp.mk fun b o nb e=>hk b o nb e⟩
 self:=fun i s E st=>W.self i s _ _ st.1 ⟨rfl,rfl⟩
def wD(i:Nat)(p:PV):PV:=.tup [.int (i:Int),p]
theorem iF{α:Type}{φ:α->PV}{l:List α}{i:Nat}{p:PV}(h:(l.zipIdx.map fun a=>wD a.2 (φ a.1))[i]? = some p):∃ a,l[i]? = some a/\p=wD i (φ a):=by
 rw[List.getElem?_map]at h
 cases e:l.zipIdx[i]? with
 |none=>rw[e]at h;cases h
 |some q =>
  rw[e]at h
  rw[List.getElem?_zipIdx]at e
  cases e':l[i]? with
  |none=>rw[e']at e;cases e
  |some a =>
   rw[e']at e
   cases e
   cases h
   exact⟨a,rfl,by simp⟩
theorem IX.enumS{x:Str}{e:Expr}{nm:Str}{aj pos tpos:Pos}{elts:List Expr}{k:Nat}(hA:A.handled=none)(hf:NM aa w A H Z env nm (.type "enumerate"))(h:EX aa w A H Z env ρ e (.str x))
  (hs:starEach [e] env=(false,eval e env)::starEach [] env)
  (he:eval (.Call (.Name nm aj) [e] [] pos) env=(do callWith pos (<-eval (.Name nm aj) env) [] (backTo pos (starEach [e] env)) (backToKw pos (keywordEach [] env)))) :
  IX aa w A H Z env ρ (.Tuple elts k tpos) (.Call (.Name nm aj) [e] [] pos) (x.cps.toList.zipIdx.map fun a=>wD a.2 (.str (ch a.1))):=by
 refine⟨fun s E F=>?_⟩
 refine Call_ (wpM (hf s E ρ aj F) (fun u s' q=>?_)) he
 obtain⟨rfl,rfl⟩:=q
 refine callWith_type1 (Gp (wpM (h.run s' E F) (fun v s_1 h_1=>args_nil ?_)) hs) hs rfl
 obtain⟨hv,k1⟩:=h_1
 obtain⟨t,rfl⟩:=Rp.strI hv
 refine call_enumerate_str fun h' hen hit hsz hk=>?_
 have k2:Kp N0 s_1 {s_1 with heap:=h'}:=Kp.mk (tk:=s_1.toks) fun b o _ e=>hk b o e
 have F_1:=F.kp0 k1
 have hei:s_1.heap.objs.size+1≠s_1.heap.objs.size:=C2 _
 refine Fh hen ⟨k1.trans k2,_,rfl,fun a=>a∈[s_1.heap.objs.size+1,s_1.heap.objs.size],by simp,fun a ha=>?_,fun Z' hz hw ho=>?_⟩
 ·have ha':a=s_1.heap.objs.size+1\/a=s_1.heap.objs.size:=by simpa using ha
  refine⟨k1.none (fun q=>q) (aE _ (by rcases ha' with q|q <;> rw[q] <;> first|exact Ad _|exact A4 _)),?_⟩
  rcases ha' with rfl|rfl
  ·exact⟨_,hen⟩
  ·obtain⟨o,e,_⟩:=hit;exact⟨o,e⟩
 ·have nfree:∀ b o,s_1.heap.get? b=some o->Z' b->Z b:=fun b o e q=>by
   rcases ho b q with q|q|q
   ·exact q
   ·have ha':b=s_1.heap.objs.size+1\/b=s_1.heap.objs.size:=by simpa using q
    have hb:(b:Nat)<s_1.heap.objs.size:=Ac e
    exfalso
    rcases ha' with q|q
    ·rw[q]at hb;exact absurd hb (C1.mpr (Ad _))
    ·rw[q]at hb;exact At _ hb
   ·rw[show h'.get? b=some o from hk b o e]at q;cases q
  cases hx:x.cps.all (· < 128)with
  |true =>
   have ht:strIterType x = "str_ascii_iterator":=by unfold strIterType;rw[hx];rfl
   rw[ht]at hit
   refine⟨_,⟨⟨⟨_,hen⟩,hit⟩,trivial⟩,Src.ofT (Dz (Draws.strAscii (A:=A.in1) hA s_1.heap.objs.size x t) (s_1.heap.objs.size+1) hei ‹s› ‹s›) (fun b hb=>hw b hb) (fun b hb=>.inl (by simpa using hb)) (fun i h st b hb=>?_) _ ‹s› (fun _=>True) (fun _ _ _ _=>trivial) (fun i p ba h hp hpt _=>?_)⟩
   ·obtain⟨⟨old,e1⟩,o,e2,_⟩:=st
    rcases Ab.mp hb with rfl|hb
    ·exact⟨_,e1⟩
    ·rw[List.mem_singleton.mp hb];exact⟨o,e2⟩
   ·obtain⟨c,hc,rfl⟩:=iF (φ:=fun c=>.str (ch c)) hp
    obtain⟨t',v,⟨c',u,hc',rfl⟩,rfl⟩:=hpt
    have:c=c':=by
     have:x.cps.toList[i]? = some c':=by simpa using hc'
     rw[hc]at this;exact Bk this
    subst this
    exact⟨_,rfl,.cons (.int _ _) (.cons (.str _ _) .nil)⟩
  |false =>
   have ht:strIterType x = "str_iterator":=by unfold strIterType;rw[hx];rfl
   rw[ht]at hit
   refine⟨_,⟨⟨⟨_,hen⟩,hit⟩,trivial⟩,Src.ofT (Dz (Draws.strWide (A:=A.in1) hA s_1.heap.objs.size x t) (s_1.heap.objs.size+1) hei ‹s› ‹s›) (fun b hb=>hw b hb) (fun b hb=>.inl (by simpa using hb)) (fun i h st b hb=>?_) _ ‹s› (fun _=>True) (fun _ _ _ _=>trivial) (fun i p ba h hp hpt _=>?_)⟩
   ·obtain⟨⟨old,e1⟩,o,e2,_⟩:=st
    rcases Ab.mp hb with rfl|hb
    ·exact⟨_,e1⟩
    ·rw[List.mem_singleton.mp hb];exact⟨o,e2⟩
   ·obtain⟨c,hc,rfl⟩:=iF (φ:=fun c=>.str (ch c)) hp
    obtain⟨t',v,⟨c',u,hc',rfl⟩,rfl⟩:=hpt
    have:c=c':=by
     have:x.cps.toList[i]? = some c':=by simpa using hc'
     rw[hc]at this;exact Bk this
    subst this
    exact⟨_,rfl,.cons (.int _ _) (.cons (.str _ _) .nil)⟩
def qJ(aa:Program)(w:World)(A:Around)(H:Ctx)(Z:ZP)(env:Env){σ:Type}(g:σ->Led)(f:σ->List (Str×PV))(Inv:σ->Prop)(ρ:List (Str×PV))(body:List Stmt):Stp σ->Prop
 | .go st'=>Inv st'/\((∃ ρ',SXs aa w A H Z env ρ body (.next (g st') ρ')/\Sub (f st') ρ')\/(∃ ρ',SXs aa w A H Z env ρ body (.cont (g st') ρ')/\Sub (f st') ρ'))
 | .brk st'=>∃ ρ',SXs aa w A H Z env ρ body (.brk (g st') ρ')/\Sub (f st') ρ'
 | .ret L q=>SXs aa w A H Z env ρ body (.ret L q)
theorem SXs.brk_forget{st:List Stmt}{L:Led}{ρ' ρ'':List (Str×PV)}(h:SXs aa w A H Z env ρ st (.brk L ρ'))(hs:∀ y q,ρ''.lookup y=some q->ρ'.lookup y=some q):SXs aa w A H Z env ρ st (.brk L ρ'') :=
 ⟨fun s E F=>wpM (h.run s E F) (fun f s_1 h_1=>⟨⟨h_1.1.1,h_1.1.2.forget hs⟩,h_1.2⟩)⟩
theorem SX.loop1{σ α:Type}{φ:α->PV}{items:List α}{step:σ->α->Stp σ}{g:σ->Led}{f:σ->List (Str×PV)}{Inv:Nat->σ->Prop}{st₀:σ}{x:Str}{px pos:Pos}{iter:Expr}{body:List Stmt}
  (S:FS H.H Z env) (eo:EO env sc) (hx:aS sc x=true) (hg:H.L=g st₀) (h0:Inv 0 st₀) (hf:Sub (f st₀) ρ) (hI:IX aa w A H Z env (f st₀) (.Name x px) iter (items.map φ))
  (turn:∀ Z':Addr->Prop,(∀ a,Z a->Z' a)->FS H.H Z' env->∀ i st p,Inv i st->items[i]? = some p->qJ aa w A (H.at (g st)) Z' env g f (Inv (i+1)) ((x,φ p)::f st) body (step st p))
  (hs:∀ x,foldedSetIterable iter env x=pure x) :
  SX aa w A H Z env ρ (.For (.Name x px) iter body [] pos) (nJ g f (runFor step items st₀)):=by
 have:=SX.for (aa:=aa) (w:=w) (A:=A) (H:=H) (Z:=Z) (env:=env) (af:=.Name x px) (body:=body) (pos:=pos) (xs:=[x]) (step:=step) (f:=f) (g:=g) (bd:=fun p=>[(x,φ p)]) (Inv:=Inv) S hg hI h0
  (fun Z' hz S' i st p hi hp=>⟨BD.name S' (eo.bds hx),by
   have t:=turn Z' hz S' i st p hi hp
   cases e:step st p with
   |go st' =>
    rw[e]at t
    obtain⟨t1,t2⟩:=t
    refine⟨t1,?_⟩
    rcases t2 with⟨ρ',t2,t3⟩|⟨ρ',t2,t3⟩
    ·exact .inl (t2.next_forget t3)
    ·exact .inr (t2.cont_forget t3)
   |brk st' =>
    rw[e]at t
    obtain⟨ρ',t2,t3⟩:=t
    exact t2.brk_forget t3
   |ret L q=>rw[e]at t;exact t⟩) hs
 exact this.forget hf
theorem SX.loop2{σ α:Type}{φ ψ:α->PV}{items:List α}{step:σ->α->Stp σ}{g:σ->Led}{f:σ->List (Str×PV)}{Inv:Nat->σ->Prop}{st₀:σ}{x y:Str}{px py tp pos:Pos}{k:Nat}{iter:Expr}{body:List Stmt}
  (hA:A.handled=none) (S:FS H.H Z env) (eo:EO env sc) (hx:aS sc x=true) (hy:aS sc y=true) (hg:H.L=g st₀) (h0:Inv 0 st₀) (hf:Sub (f st₀) ρ)
  (hI:IX aa w A H Z env (f st₀) (.Tuple [.Name x px,.Name y py] k tp) iter (items.map fun a=>.tup [φ a,ψ a]))
  (turn:∀ Z':Addr->Prop,(∀ a,Z a->Z' a)->FS H.H Z' env->∀ i st p,Inv i st->items[i]? = some p->qJ aa w A (H.at (g st)) Z' env g f (Inv (i+1)) ((y,ψ p)::(x,φ p)::f st) body (step st p))
  (hs:∀ x,foldedSetIterable iter env x=pure x) :
  SX aa w A H Z env ρ (.For (.Tuple [.Name x px,.Name y py] k tp) iter body [] pos) (nJ g f (runFor step items st₀)):=by
 have:=SX.for (aa:=aa) (w:=w) (A:=A) (H:=H) (Z:=Z) (env:=env) (af:=.Tuple [.Name x px,.Name y py] k tp) (body:=body) (pos:=pos) (xs:=[x,y]) (step:=step) (f:=f) (g:=g) (bd:=fun p=>[(y,ψ p),(x,φ p)]) (Inv:=Inv) S hg hI h0
  (fun Z' hz S' i st p hi hp=>⟨BD.tuple hA (BDs.cons S' (eo.bds hx) (BDs.cons S' (eo.bds hy) BDs.nil)) rfl rfl,by
   have t:=turn Z' hz S' i st p hi hp
   cases e:step st p with
   |go st' =>
    rw[e]at t
    obtain⟨t1,t2⟩:=t
    refine⟨t1,?_⟩
    rcases t2 with⟨ρ',t2,t3⟩|⟨ρ',t2,t3⟩
    ·exact .inl (t2.next_forget t3)
    ·exact .inr (t2.cont_forget t3)
   |brk st' =>
    rw[e]at t
    obtain⟨ρ',t2,t3⟩:=t
    exact t2.brk_forget t3
   |ret L q=>rw[e]at t;exact t⟩) hs
 exact this.forget hf
end
structure ZA(z TI TO i1 i2:Addr)(fp1 fp2:List Addr):Prop where
 TIz:TI≠z
 TOz:TO≠z
 i1z:i1≠z
 i2z:i2≠z
 TITO:TI≠TO
 TIi1:TI≠i1
 TIi2:TI≠i2
 TOi1:TO≠i1
 TOi2:TO≠i2
 i12:i1≠i2
 z1:z∉fp1
 z2:z∉fp2
 t1:TO∉fp1
 t2:TO∉fp2
 a1:i1∉fp2
 a2:i2∉fp1
 i1m:i1∈fp1
 i2m:i2∈fp2
section
variable{z TI TO i1 i2:Addr}{fp1 fp2:List Addr}{n:Nat}{P1 P2:Nat->Value->Prop}{St1 St2:Nat->Heap->Prop}
theorem tQ{i:Nat}{a b:Value}{Q:ZV}(D:ZA z TI TO i1 i2 fp1 fp2)(D1:Draws aa w A i1 fp1 n P1 St1)(D2:Draws aa w A i2 fp2 n P2 St2)
  (hz:IsZip s.heap z TI TO .none) (hTI:IsPair s.heap TI (.ref i1) (.ref i2)) (hTO:IsPair s.heap TO a b) (h1:St1 i s.heap) (h2:St2 i s.heap) (hi:i<n)
  (hQ:∀ h' tk x y,P1 i x->P2 i y->IsZip h' z TI TO (rawInt s.heap.objs.size)->IsPair h' TO x y->St1 (i+1) h'->St2 (i+1) h'->IsPair h' s.heap.objs.size x y->h'.objs.size=s.heap.objs.size+1 ->
   (∀ c o,c≠z->c≠TO->c≠i1->c≠i2->s.heap.get? c=some o->h'.get? c=some o)->Q (.ref s.heap.objs.size) {s with heap:=h',toks:=tk}) :
  wpAny (model aa w) A (Builtin.«zip.__next__» ⟨[.ref z],[]⟩) (fun fin s'=>∃ v,fin=.done (.ret v)/\Q v s') E s:=by
 obtain⟨hp,g,d,tk_0,os⟩:=s
 show wpAny _ _ (field (.ref z) 2 >>= _) _ _ _
 refine A0 (An hz rfl (x:=.bool false) rfl ?_)
 show wpAny _ _ (field (.ref z) 3 >>= _) _ _ _
 refine A0 (An hz rfl (x:=.ref TI) rfl ?_)
 refine A0 (Ax hTI rfl ?_)
 show wpAny _ _ (Builtin.SmallTypes.ownedTupleIsFree (.ref z) >>= _) _ _ _
 refine A0 ?_
 unfold Builtin.SmallTypes.ownedTupleIsFree
 refine A0 (An hz rfl (x:=.none) rfl (A1 ?_))
 simp only[if_true]
 refine A0 (Cf ?_)
 refine A0 (An hz rfl (x:=.ref TO) rfl ?_)
 refine A0 (Cu hz ‹s› fun h_1 hz1 hs_1=>?_)
 replace hz1:IsZip h_1 z TI TO .ellipsis:=hz1
 replace hs_1:Heap.SameBut z hp h_1:=hs_1
 have up1:∀ c o,c≠z->hp.get? c=some o->h_1.get? c=some o:=fun c o q e=>(hs_1.2 c q).trans e
 have s1₁:St1 i h_1:=D1.frame _ _ _ h1 fun c hc o e=>up1 c o (fun q=>D.z1 (q▸hc)) e
 have s2₁:St2 i h_1:=D2.frame _ _ _ h2 fun c hc o e=>up1 c o (fun q=>D.z2 (q▸hc)) e
 refine A0 ?_
 simp only[List.zipIdx_cons,List.zipIdx_nil,List.forIn_cons,List.forIn_nil]
 refine A0 (A0 (Ea ?_))
 show wpAny _ _ (Builtin.SmallTypes.nextOf (.ref i1) >>= _) _ _ _
 refine A0 (D1.item i _ _ _ hi s1₁ fun x h_2 tk2 px s1₂ hs_2=>A1 ?_)
 replace hs_2:Heap.SameBut i1 h_1 h_2:=hs_2
 have hTO2:IsPair h_2 TO a b:=(hs_2.2 _ D.TOi1).trans (up1 _ _ D.TOz hTO)
 have s2₂:St2 i h_2:=D2.frame _ _ _ s2₁ fun c hc o e=>(hs_2.2 c fun q=>D.a1 (q▸hc)).trans e
 show wpAny _ _ _ _ _ ⟨h_2,g,d,tk2,os⟩
 refine A0 (Ax hTO2 rfl ?_)
 refine A0 (wpAny_updateSeq_pair hTO2 fun h_3 hTO3 hs_3=>?_)
 replace hTO3:IsPair h_3 TO x b:=hTO3
 replace hs_3:Heap.SameBut TO h_2 h_3:=hs_3
 have s1₃:St1 (i+1) h_3:=D1.frame _ _ _ s1₂ fun c hc o e=>(hs_3.2 c fun q=>D.t1 (q▸hc)).trans e
 have s2₃:St2 i h_3:=D2.frame _ _ _ s2₂ fun c hc o e=>(hs_3.2 c fun q=>D.t2 (q▸hc)).trans e
 refine A0 (D6 (A1 ?_))
 refine A0 (A0 (Ea ?_))
 show wpAny _ _ (Builtin.SmallTypes.nextOf (.ref i2) >>= _) _ _ _
 refine A0 (D2.item i _ _ _ hi s2₃ fun y h_4 tk_4 py s2₄ hs4=>A1 ?_)
 replace hs4:Heap.SameBut i2 h_3 h_4:=hs4
 have hTO4:IsPair h_4 TO x b:=(hs4.2 _ D.TOi2).trans hTO3
 have s1₄:St1 (i+1) h_4:=D1.frame _ _ _ s1₃ fun c hc o e=>(hs4.2 c fun q=>D.a2 (q▸hc)).trans e
 show wpAny _ _ _ _ _ ⟨h_4,g,d,tk_4,os⟩
 refine A0 (Ax hTO4 rfl ?_)
 refine A0 (wpAny_updateSeq_pair hTO4 fun h_5 hTO5 hs5=>?_)
 replace hTO5:IsPair h_5 TO x y:=hTO5
 replace hs5:Heap.SameBut TO h_4 h_5:=hs5
 have s1₅:St1 (i+1) h_5:=D1.frame _ _ _ s1₄ fun c hc o e=>(hs5.2 c fun q=>D.t1 (q▸hc)).trans e
 have s2₅:St2 (i+1) h_5:=D2.frame _ _ _ s2₄ fun c hc o e=>(hs5.2 c fun q=>D.t2 (q▸hc)).trans e
 refine A0 (D6 (A1 (A1 ?_)))
 refine A0 (Ax hTO5 rfl ?_)
 refine A0 (wpAny_newTuple ?_)
 have hsz:h_5.objs.size=hp.objs.size:=by rw[hs5.1,hs4.1,hs_3.1,hs_2.1,hs_1.1]
 have hk5:∀ c o,c≠z->c≠TO->c≠i1->c≠i2->hp.get? c=some o->h_5.get? c=some o:=fun c o c1 c2 c3 c4 e =>
  (hs5.2 c c2).trans ((hs4.2 c c4).trans ((hs_3.2 c c2).trans ((hs_2.2 c c3).trans (up1 c o c1 e))))
 have hz5:IsZip h_5 z TI TO .ellipsis:=(hs5.2 z D.TOz.symm).trans ((hs4.2 z D.i2z.symm).trans ((hs_3.2 z D.TOz.symm).trans ((hs_2.2 z D.i1z.symm).trans hz1)))
 have hzlt:z<h_5.objs.size:=Ac hz5
 have hTOlt:TO<h_5.objs.size:=Ac hTO5
 show wpAny _ _ (Builtin.SmallTypes.ownedTupleHandOut (.ref z) (.ref h_5.objs.size) >>= _) _ _ _
 refine A0 ?_
 unfold Builtin.SmallTypes.ownedTupleHandOut
 have hz6:IsZip (h_5.push {cls:=.type "tuple",data:=.seq #[x,y]}) z TI TO .ellipsis:=A2 _ hz5
 refine A0 (Cu hz6 ‹s› fun h_7 hz7 hs7=>?_)
 replace hz7:IsZip h_7 z TI TO (rawInt h_5.objs.size):=hz7
 refine Cu hz7 ‹s› fun h_8 hz_8 hs8=>?_
 replace hz_8:IsZip h_8 z TI TO (rawInt h_5.objs.size):=hz_8
 have up:∀ c o,c≠z->h_5.get? c=some o->h_8.get? c=some o:=fun c o c1 e=>hs8.extBut _ _ c1 (hs7.extBut _ _ c1 (A2 _ e))
 have hT8:IsPair h_8 h_5.objs.size x y:=hs8.extBut _ _ (G8 hzlt) (hs7.extBut _ _ (G8 hzlt) (A3 _ rfl))
 have hz8:h_8.objs.size=h_5.objs.size+1:=by rw[hs8.1,hs7.1,Heap.size_push]
 rw[hsz]at hz_8 hT8 hz8
 refine A1 ⟨_,rfl,?_⟩
 show Q (.ref h_5.objs.size) _
 rw[hsz]
 exact hQ h_8 tk_4 x y px py hz_8 (up _ _ D.TOz hTO5) (D1.frame _ _ _ s1₅ fun c hc o e=>up c o (fun q=>D.z1 (q▸hc)) e) (D2.frame _ _ _ s2₅ fun c hc o e=>up c o (fun q=>D.z2 (q▸hc)) e) hT8 hz8
  fun c o c1 c2 c3 c4 e=>up c o c1 (hk5 c o c1 c2 c3 c4 e)
theorem vO{a b:Value}{Q:Fin->Shared->Prop}(D:ZA z TI TO i1 i2 fp1 fp2)(D1:Draws aa w A i1 fp1 n P1 St1)
  (hz:IsZip s.heap z TI TO .none) (hTI:IsPair s.heap TI (.ref i1) (.ref i2)) (hTO:IsPair s.heap TO a b) (h1:St1 n s.heap)
  (hE:∀ h' e,(∀ c o,c≠z->c≠TO->c≠i1->c≠i2->s.heap.get? c=some o->h'.get? c=some o)->(∃ o,h'.get? e=some o/\o.cls=.type "StopIteration")->E (.ref e) {s with heap:=h'}) :
  wpAny (model aa w) A (Builtin.«zip.__next__» ⟨[.ref z],[]⟩) Q E s:=by
 obtain⟨hp,g,d,tk_0,os⟩:=s
 show wpAny _ _ (field (.ref z) 2 >>= _) _ _ _
 refine A0 (An hz rfl (x:=.bool false) rfl ?_)
 show wpAny _ _ (field (.ref z) 3 >>= _) _ _ _
 refine A0 (An hz rfl (x:=.ref TI) rfl ?_)
 refine A0 (Ax hTI rfl ?_)
 show wpAny _ _ (Builtin.SmallTypes.ownedTupleIsFree (.ref z) >>= _) _ _ _
 refine A0 ?_
 unfold Builtin.SmallTypes.ownedTupleIsFree
 refine A0 (An hz rfl (x:=.none) rfl (A1 ?_))
 simp only[if_true]
 refine A0 (Cf ?_)
 refine A0 (An hz rfl (x:=.ref TO) rfl ?_)
 refine A0 (Cu hz ‹s› fun h_1 hz1 hs_1=>?_)
 replace hz1:IsZip h_1 z TI TO .ellipsis:=hz1
 replace hs_1:Heap.SameBut z hp h_1:=hs_1
 have s1₁:St1 n h_1:=D1.frame _ _ _ h1 fun c hc o e=>(hs_1.2 c fun q=>D.z1 (q▸hc)).trans e
 refine A0 ?_
 simp only[List.zipIdx_cons,List.zipIdx_nil,List.forIn_cons,List.forIn_nil]
 refine A0 (A0 (Ea ?_))
 show wpAny _ _ (Builtin.SmallTypes.nextOf (.ref i1) >>= _) _ _ _
 refine A0 (D1.done _ _ _ s1₁ fun h_2 e hs_2 he=>?_)
 obtain⟨oe,hoe,hce⟩:=he
 have hz_2:IsZip h_2 z TI TO .ellipsis:=hs_2 _ _ D.i1z.symm hz1
 have hez:e≠z:=fun x=>by subst x;rw[hz_2]at hoe;cases hoe;simp at hce
 refine Cu hz_2 ‹s› fun h_3 _ hs_3=>hE h_3 e (fun c o c1 _ c3 _ x=>hs_3.extBut _ _ c1 (hs_2 _ _ c3 ((hs_1.2 c c1).trans x))) ⟨oe,hs_3.extBut _ _ hez hoe,hce⟩
theorem zipD(D:ZA z TI TO i1 i2 fp1 fp2)(D1:Draws aa w A.in1 i1 fp1 n P1 St1)(D2:Draws aa w A.in1 i2 fp2 n P2 St2) :
  WalksT aa w A z ([z,TI,TO]++fp1++fp2) [z,TO,i1,i2] n
   (fun i ba=>∃ x y,P1 i x/\P2 i y/\ba=#[x,y])
   (fun i h=>IsZip h z TI TO .none/\IsPair h TI (.ref i1) (.ref i2)/\(∃ a b,IsPair h TO a b)/\St1 i h/\St2 i h)
   (fun i T h=>IsZip h z TI TO (rawInt T)/\IsPair h TI (.ref i1) (.ref i2)/\(∃ a b,IsPair h TO a b)/\St1 (i+1) h/\St2 (i+1) h/\T≠z/\T≠TO/\T≠i1/\T≠i2) where
 sub:=fun c hc=>by
  simp only[List.mem_cons,List.not_mem_nil,or_false]at hc
  simp only[List.mem_append,List.mem_cons,List.not_mem_nil,or_false]
  rcases hc with rfl|rfl|rfl|rfl
  ·simp
  ·simp
  ·exact .inl (.inr D.i1m)
  ·exact .inr D.i2m
 frame:=fun i h h' hst hk=>by
  obtain⟨hz,hTI,⟨a,b,hTO⟩,h1,h2⟩:=hst
  exact⟨hk z ‹s› _ hz,hk TI ‹s› _ hTI,⟨a,b,hk TO ‹s› _ hTO⟩,D1.frame _ _ _ h1 fun c hc o e=>hk c (by simp[hc]) o e,D2.frame _ _ _ h2 fun c hc o e=>hk c (by simp[hc]) o e⟩
 item:=fun i s Q E hi hst hQ=>by
  obtain⟨hz,hTI,⟨a,b,hTO⟩,h1,h2⟩:=hst
  have hT:s.TypeIs (.ref z) "zip":=⟨_,hz,rfl⟩
  have lt:∀{c o},s.heap.get? c=some o->s.heap.objs.size≠c:=fun e=>G8 (Ac e)
  have l1:s.heap.objs.size≠i1:=let⟨o,e⟩:=D1.live _ _ h1;lt e
  have l2:s.heap.objs.size≠i2:=let⟨o,e⟩:=D2.live _ _ h2;lt e
  unfold pyNext
  refine A0 (Bl (B0 (name:=Str.ofString "__next__") hT Eg
   (B3 Eg hT F.entry_zip_next (tQ D D1 D2 hz hTI hTO h1 h2 hi fun h' tk x y px py a1 a2 a3 a4 a5 a6 hk=>A1 ?_) (F.args_zip_next_1 _))))
  exact hQ s.heap.objs.size #[x,y] h' tk ⟨_,_,px,py,rfl⟩ (A4 _) ⟨_,a5,rfl,_,rfl⟩
   ⟨a1,hk _ _ D.TIz D.TITO D.TIi1 D.TIi2 hTI,⟨_,_,a2⟩,a3,a4,lt hz,lt hTO,l1,l2⟩
   fun c o hc e=>hk c o (fun x=>hc (by simp[x])) (fun x=>hc (by simp[x])) (fun x=>hc (by simp[x])) (fun x=>hc (by simp[x])) e
 go:=fun elts k pos i T s Q E hm hQ=>by
  obtain⟨hz,hTI,⟨a,b,hTO⟩,h1,h2,_⟩:=hm
  refine wpAny_letOwnedTupleGo_zip hz fun h' hz' hs'=>hQ h' ⟨hz',hs'.extBut _ _ D.TIz hTI,⟨a,b,hs'.extBut _ _ D.TOz hTO⟩,D1.frame _ _ _ h1 fun c hc o e=>hs'.extBut _ _ (fun q=>D.z1 (q▸hc)) e,
   D2.frame _ _ _ h2 fun c hc o e=>hs'.extBut _ _ (fun q=>D.z2 (q▸hc)) e⟩ fun c o hc e=>hs'.extBut _ _ (fun x=>hc (by simp[x])) e
 apart:=fun i T h hm hT=>by
  obtain⟨_,_,_,_,_,t1,t2,t3,t4⟩:=hm
  simp at hT
  rcases hT with rfl|rfl|rfl|rfl
  ·exact t1 rfl
  ·exact t2 rfl
  ·exact t3 rfl
  ·exact t4 rfl
 done:=fun s Q E hst hQ=>by
  obtain⟨hz,hTI,⟨a,b,hTO⟩,h1,h2⟩:=hst
  have hT:s.TypeIs (.ref z) "zip":=⟨_,hz,rfl⟩
  unfold pyNext
  refine A0 (Bl (B0 (name:=Str.ofString "__next__") hT Eg
   (B3 Eg hT F.entry_zip_next (vO D D1 hz hTI hTO h1 fun h' e hk he=>?_) (F.args_zip_next_1 _))))
  obtain⟨o,ho,hc⟩:=he
  refine A0 (Bo (T := "StopIteration") (b:=true) ⟨o,ho,hc⟩ Ev (A1 ?_))
  exact hQ _ s.toks fun c o hc e=>hk c o (fun x=>hc (by simp[x])) (fun x=>hc (by simp[x])) (fun x=>hc (by simp[x])) (fun x=>hc (by simp[x])) e
 self:=fun i s Q E hst hQ=>wpAny_pyIter_zip hst.1 hQ
end
abbrev zS1(h:Heap)(x:Str)(t:Tok):Heap:=h.push {cls:=.type (strIterType x),data:=.fields #[.str x t,.int 0 0]}
abbrev zS2(h:Heap)(x:Str)(t:Tok)(l:Addr):Heap:=(zS1 h x t).push {cls:=.type "list_iterator",data:=.fields #[.ref l,.int 0 0]}
abbrev zS3(h:Heap)(x:Str)(t:Tok)(l:Addr):Heap:=(zS2 h x t l).push {cls:=.type "tuple",data:=.seq #[.ref h.objs.size,.ref (zS1 h x t).objs.size]}
abbrev zS4(h:Heap)(x:Str)(t:Tok)(l:Addr):Heap:=(zS3 h x t l).push {cls:=.type "tuple",data:=.seq #[.none,.none]}
abbrev zS5(h:Heap)(x:Str)(t:Tok)(l:Addr):Heap:=(zS4 h x t l).push {cls:=.type "zip",data:=.fields #[.none,.bool false,.bool false,.ref (zS2 h x t l).objs.size,.ref (zS3 h x t l).objs.size]}
theorem lY(x:Str)(t:Tok)(l:Addr)(ys:Array Value) :
  Meets (Builtin.«zip.__new__» ⟨[.type "zip",.str x t,.ref l],[]⟩) (fun _ R s=>s.heap.IsList l ys /\
   R (.ok (.ret (.ref (zS4 s.heap x t l).objs.size))) {s with heap:=zS5 s.heap x t l}) :=
 .of_wp fun aa w A R s h=>by
  obtain⟨hp,g,d,tk,os⟩:=s;obtain⟨hl2,h⟩:=h
  have hsub:=sub_zip
  have hL2:Heap.IsList (Shared.heap ⟨hp.push {cls:=.type (strIterType x),data:=.fields #[.str x t,.int 0 0]},g,d,tk,os⟩) l ys:=Heap.IsList.push hl2 _
  repeat (first|with_reducible apply wpAny_pyIter_strU|with_reducible apply wpAny_pyIter_list hL2|(with_reducible first|refine A1 ?_|refine A0 ?_|refine A5 ?_|refine Ag ?_|refine Bl ?_|refine Aa hsub ?_)|wp_delta|wp_step)
  exact⟨_,rfl,h⟩
section
theorem tU{x:Str}{t:Tok}{l2:Addr}{ys:Array Value}{Q:ZV}(hl2:s.heap.IsList l2 ys)
  (h:∀ h',IsZip h' (s.heap.objs.size+4) (s.heap.objs.size+2) (s.heap.objs.size+3) .none->IsPair h' (s.heap.objs.size+2) (.ref s.heap.objs.size) (.ref (s.heap.objs.size+1)) ->
   IsPair h' (s.heap.objs.size+3) .none .none->h'.IsStrIter s.heap.objs.size (strIterType x) x t 0->h'.IsListIter (s.heap.objs.size+1) l2 0->h'.objs.size=s.heap.objs.size+5 ->
   (∀ c o,s.heap.get? c=some o->h'.get? c=some o)->Q (.ref (s.heap.objs.size+4)) {s with heap:=h'}) :
  wpAny (model aa w) A (call (.type "zip") [.str x t,.ref l2]) Q E s:=by
 refine callType_new F.called_zip ‹d› (F.typeCall_zip_2 _ _) (F.newCall_zip_2 _ _) (fun obj=>F.args_object_init_3 obj _ _) F.entry_zip_new
  (lY x t l2 ys) ⟨hl2,?_⟩
 have z1:(zS1 s.heap x t).objs.size=s.heap.objs.size+1:=Es ..
 have z2:(zS2 s.heap x t l2).objs.size=s.heap.objs.size+2:=by rw[Heap.size_push,z1]
 have z3:(zS3 s.heap x t l2).objs.size=s.heap.objs.size+3:=by rw[Heap.size_push,z2]
 have z4:(zS4 s.heap x t l2).objs.size=s.heap.objs.size+4:=by rw[Heap.size_push,z3]
 have z5:(zS5 s.heap x t l2).objs.size=s.heap.objs.size+5:=by rw[Heap.size_push,z4]
 have g5:(zS5 s.heap x t l2).get? (zS4 s.heap x t l2).objs.size=some _:=A3 _ rfl
 have g4:(zS5 s.heap x t l2).get? (zS3 s.heap x t l2).objs.size=some _:=A2 _ (A3 _ rfl)
 have g3:(zS5 s.heap x t l2).get? (zS2 s.heap x t l2).objs.size=some _:=A2 _ (A2 _ (A3 _ rfl))
 have g2:(zS5 s.heap x t l2).get? (zS1 s.heap x t).objs.size=some _:=A2 _ (A2 _ (A2 _ (A3 _ rfl)))
 have g1:(zS5 s.heap x t l2).get? s.heap.objs.size=some _:=A2 _ (A2 _ (A2 _ (A2 _ (A3 _ rfl))))
 show _/\_
 rw[z2,z3,z4]at g5
 rw[z1,z2]at g3
 rw[z3]at g4
 rw[z1]at g2
 rw[z4]
 exact⟨⟨_,g5,rfl⟩,h _ g5 g3 g4 ⟨_,g1,rfl,rfl⟩ ⟨_,g2,rfl,rfl⟩ z5 fun c o x =>
  A2 _ (A2 _ (A2 _ (A2 _ (A2 _ x))))⟩
theorem tE(hA:A.handled=none)(it:Addr)(x:Str)(t:Tok):Draws aa w A it [it] x.cps.size (fun i v=>∃ c u,x.cps[i]? = some c/\v=.str ⟨#[c]⟩ u) (fun i h=>h.IsStrIter it (strIterType x) x t i):=by
 cases hx:x.cps.all (· < 128)with
 |true =>
  have ht:strIterType x = "str_ascii_iterator":=by unfold strIterType;rw[hx];rfl
  rw[ht];exact Draws.strAscii hA it x t
 |false =>
  have ht:strIterType x = "str_iterator":=by unfold strIterType;rw[hx];rfl
  rw[ht];exact Draws.strWide hA it x t
theorem za_of(N la:Nat)(h:la<N):ZA (N+4) (N+2) (N+3) N (N+1) [N] [N+1,la]:=by
 have e:∀(a b:Nat),a≠b->(a:Addr)≠b:=fun _ _ h=>h
 constructor
 all_goals first
  |exact e _ _ ‹o›
  |(intro hm;first
    |(have:=Ay.mp hm;exact absurd this (e _ _ ‹o›))
    |exact(Ab.mp hm).elim (fun q=>absurd q (e _ _ ‹o›)) fun q=>absurd (Ay.mp q) (e _ _ ‹o›))
  |simp
theorem IX.zipS{x:Str}{l:List PV}{e1 e2:Expr}{nm:Str}{aj pos tpos:Pos}{elts:List Expr}{k:Nat}(hA:A.handled=none)(hf:NM aa w A H Z env nm (.type "zip"))(h1:EX aa w A H Z env ρ e1 (.str x))(h2:EX aa w A H Z env ρ e2 (.lst l))
  (hl:l.length=x.cps.size)
  (hs:starEach [e1,e2] env=(false,eval e1 env)::starEach [e2] env) (hs2:starEach [e2] env=(false,eval e2 env)::starEach [] env)
  (he:eval (.Call (.Name nm aj) [e1,e2] [] pos) env=(do callWith pos (<-eval (.Name nm aj) env) [] (backTo pos (starEach [e1,e2] env)) (backToKw pos (keywordEach [] env)))) :
  IX aa w A H Z env ρ (.Tuple elts k tpos) (.Call (.Name nm aj) [e1,e2] [] pos) ((x.cps.toList.zip l).map fun a=>.tup [.str (ch a.1),a.2]):=by
 refine⟨fun s E F=>?_⟩
 refine Call_ (wpM (hf s E ρ aj F) (fun u s' q=>?_)) he
 obtain⟨rfl,rfl⟩:=q
 refine callWith_type1 (Gp (wpM (h1.run s' E F) (fun v s_1 h_1=>Gp (wpM (h2.run s_1 E (F.kp0 h_1.2)) (fun u s_2 h_2=>args_nil ?_)) hs2)) hs) hs (by rw[hs2];rfl)
 obtain⟨hv,k1⟩:=h_1
 obtain⟨hu,k2⟩:=h_2
 obtain⟨t,rfl⟩:=Rp.strI hv
 obtain⟨la,ys,rfl,zl,itl,prl⟩:=hu.list
 have hys:ys.size=x.cps.size:=by have:=(a8 prl).1;rw[<-hl,<-this];simp
 refine tU itl fun h' hz hTI hTO hi1 hi2 hsz hk=>?_
 have k3:Kp N0 s_2 {s_2 with heap:=h'}:=Kp.mk (tk:=s_2.toks) fun b o _ e=>hk b o e
 have kA:=(k1.trans k2).trans k3
 have F_2:=(F.kp0 k1).kp0 k2
 generalize hN:s_2.heap.objs.size=N at *
 have lN:la<N:=by obtain⟨o,e,_⟩:=itl;rw[<-hN];exact Ac e
 refine wpAny_pyIter_zip hz ⟨kA,_,rfl,fun a=>a∈[N+4,N+3,N,N+1],by simp,fun a ha=>?_,fun Z' hzz hw ho=>?_⟩
 ·have ha':a=N+4\/a=N+3\/a=N\/a=N+1:=by simpa using ha
  refine⟨k1.none (fun q=>q) (k2.none (fun q=>q) (aE _ (by rw[hN];rcases ha' with q|q|q|q <;> rw[q] <;> first|exact E7 _ _|exact A4 _))),?_⟩
  rcases ha' with rfl|rfl|rfl|rfl
  ·exact⟨_,hz⟩
  ·exact⟨_,hTO⟩
  ·obtain⟨o,e,_⟩:=hi1;exact⟨o,e⟩
  ·obtain⟨o,e,_⟩:=hi2;exact⟨o,e⟩
 ·have nfree:∀ b o,s_2.heap.get? b=some o->Z' b->Z b:=fun b o e q=>by
   have hb:(b:Nat)<N:=by rw[<-hN];exact Ac e
   rcases ho b q with q|q|q
   ·exact q
   ·exfalso
    have ha':b=N+4\/b=N+3\/b=N\/b=N+1:=by simpa using q
    rcases ha' with q|q|q|q <;>(rw[q]at hb;exact absurd hb (C1.mpr (by first|exact E7 _ _|exact A4 _)))
   ·rw[show h'.get? b=some o from hk b o e]at q;cases q
  have zla:¬Z' la:=fun q=>by
   obtain⟨o,e,_⟩:=itl
   exact zl (nfree la o e q)
  have TIZ:¬Z' (N+2):=fun q=>by
   rcases ho _ q with q|q|q
   ·obtain⟨o,e⟩:=F_2.zex _ q
    have:(N+2:Nat)<N:=by have:=Ac e;rwa [hN]at this
    exact absurd this ‹o›
   ·have:(N+2:Nat)=N+4\/(N+2:Nat)=N+3\/(N+2:Nat)=N\/(N+2:Nat)=N+1:=by
     rcases Ab.mp q with q|q
     ·exact .inl q
     rcases Ab.mp q with q|q
     ·exact .inr (.inl q)
     rcases Ab.mp q with q|q
     ·exact .inr (.inr (.inl q))
     ·exact .inr (.inr (.inr (Ay.mp q)))
    exact absurd this ‹o›
   ·rw[hTI]at q;cases q
  have D1:=tE (aa:=aa) (w:=w) (A:=A.in1) hA N x t
  have D2:Draws aa w A.in1 (N+1) [N+1,la] x.cps.size (fun i v=>ys[i]? = some v) (fun i h=>h.IsListIter (N+1) la i/\h.IsList la ys):=by
   rw[<-hys];exact Draws.list (A:=A.in1) hA (N+1) la (Au (C6 lN)) ys
  have DA:ZA (N+4) (N+2) (N+3) N (N+1) [N] [N+1,la]:=by
   exact za_of N la lN
  have r0:∀(i:Nat) p v,l[i]? = some p->ys[i]? = some v->Rp Z' h' p v:=fun i p v e1 e2 =>
   (((a8 prl).2 i p v e1 (by simpa using e2)).sub nfree).keep fun b o _ e=>hk b o e
  refine⟨_,⟨⟨hz,hTI,⟨_,_,hTO⟩,hi1,hi2,Heap.IsList.at itl fun o e=>hk la o e⟩,r0⟩,
   Src.ofT (zipD DA D1 D2) (fun b hb=>hw b hb) (fun b hb=>?_) (fun i h st b hb=>?_) _ ?_ (fun h=>∀(i:Nat) p v,l[i]? = some p->ys[i]? = some v->Rp Z' h p v) (fun h h'' r k i p v e1 e2=>(r i p v e1 e2).keep k) (fun i p ba h hp hpt hr=>?_)⟩
  ·simp only[List.mem_append,List.mem_cons,List.not_mem_nil,or_false]at hb
   rcases hb with(((rfl|rfl|rfl)|rfl)|(rfl|rfl))
   ·exact .inl ‹s›
   ·exact .inr TIZ
   ·exact .inl ‹s›
   ·exact .inl ‹s›
   ·exact .inl ‹s›
   ·exact .inr zla
  ·obtain⟨e1,e2,⟨_,_,e3⟩,⟨o4,e4,_⟩,⟨o5,e5,_⟩,_⟩:=st
   have ha':b=N+4\/b=N+3\/b=N\/b=N+1:=by simpa using hb
   rcases ha' with rfl|rfl|rfl|rfl
   ·exact⟨_,e1⟩
   ·exact⟨_,e3⟩
   ·exact⟨_,e4⟩
   ·exact⟨_,e5⟩
  ·rw[List.length_map,List.length_zip,hl,Array.length_toList,Nat.min_self]
  ·rw[List.getElem?_map]at hp
   cases e:(x.cps.toList.zip l)[i]? with
   |none=>rw[e]at hp;cases hp
   |some q =>
    rw[e]at hp
    cases hp
    obtain⟨e1,e2⟩:=List.getElem?_zip_eq_some.mp e
    obtain⟨v,u,⟨c,tk,hc,rfl⟩,hu',rfl⟩:=hpt
    have:q.1=c:=by
     have h':x.cps.toList[i]? = some c:=by simpa using hc
     rw[e1]at h';exact Bk h'
    subst this
    exact⟨_,rfl,.cons (.str _ _) (.cons (hr i _ _ e2 hu') .nil)⟩
theorem EX.as{e:Expr}{p q:PV}(h:EX aa w A H Z env ρ e p)(hq:p=q):EX aa w A H Z env ρ e q:=hq▸h
theorem IX.as{tgt e:Expr}{l m:List PV}(h:IX aa w A H Z env ρ tgt e l)(hq:l=m):IX aa w A H Z env ρ tgt e m:=hq▸h
theorem dG{α:Type}(l:List α):(l.filter fun _=>true)=l:=by induction l <;> simp
theorem lL{scope:Scope}:∀{bd:List (Str×PV)},(∀ x p,(x,p)∈bd->aS scope.names x=true)->∀ y q,(capt scope ρ).lookup y=some q->(bd++capt scope ρ).lookup y=some q
 |[],_,y,q,e=>e
 |(x,p)::bd,h,y,q,e=>by
  have ih:=lL (bd:=bd) (fun x p hm=>h x p (Ae _ hm)) y q e
  have hx:=h x p Ah
  obtain⟨e1,_⟩:=cY e
  show List.lookup y ((x,p)::(bd++capt scope ρ))=some q
  rw[a7,if_neg (fun h=>by subst h;unfold aS at hx;rw[e1]at hx;cases hx)]
  exact ih
theorem n7{scope:Scope}{sc:List (Str×NameKind)}{xs:List Str}(h:kG scope sc xs=true):∀ x∈xs,aS scope.names x=true:=by
 unfold kG at h
 simp only[Bool.and_eq_true]at h
 exact fun x hx=>A9.mp h.2 x hx
def T2(aa:Program)(w:World)(A:Around)(H:Ctx)(Z:ZP)(env:Env)(ρ:List (Str×PV))(sc:List (Str×NameKind))(scope:Scope)(x y:Str)(bc:List Expr)(bb:Expr)(p q:PV)(te:Bool)(f:PV):Prop :=
 ∀(C:Addr) (Z':ZP),FS H.H Z' (aC scope env C)->EO (aC scope env C) (e8 scope.names sc) ->
  CT aa w A H Z' (aC scope env C) ((y,q)::(x,p)::capt scope ρ) bc te/\(te=true->EX aa w A H Z' (aC scope env C) ((y,q)::(x,p)::capt scope ρ) bb f)
theorem T2.turn{scope:Scope}{x y:Str}{px py pt:Pos}{k:Nat}{bc:List Expr}{bb:Expr}{p q f:PV}{te:Bool}(hA:A.handled=none)(S:FS H.H Z env)(eo:EO env sc)(hc:kG scope sc [x,y]=true)(h:T2 aa w A H Z env ρ sc scope x y bc bb p q te f) :
  wC aa w A H Z env ρ scope (.Tuple [.Name x px,.Name y py] k pt) [x,y] bc bb (.tup [p,q]) [(y,q),(x,p)] te f:=by
 intro C Z' hz S'
 have eo':=EO.comp (scope:=scope) (C:=C) S.fn eo
 obtain⟨h1,h2⟩:=h C Z' S' eo'
 have ow:=n7 hc
 exact⟨BD.tuple hA (BDs.cons S' (eo'.bds (hF (ow x ‹s›))) (BDs.cons S' (eo'.bds (hF (ow y ‹s›))) BDs.nil)) rfl rfl,h1,h2⟩
theorem EX.comp2{bb iter:Expr}{bc:List Expr}{scope:Scope}{x y:Str}{px py pt pos:Pos}{k:Nat}{α:Type}{φ ψ:α->PV}{items:List α}{te:α->Bool}{f:α->PV}(hA:A.handled=none)
  (S:FS H.H Z env) (eo:EO env sc) (hc:kG scope sc [x,y]=true) (hI:IX aa w A H Z env ρ (.Tuple [.Name x px,.Name y py] k pt) iter (items.map fun a=>.tup [φ a,ψ a]))
  (turn:∀ p∈items,T2 aa w A H Z env ρ sc scope x y bc bb (φ p) (ψ p) (te p) (f p))
  (hsz:items.length<=sizeLine) (hs:∀ x,foldedSetIterable iter env x=pure x) :
  EX aa w A H Z env ρ (.ListComp bb [⟨.Tuple [.Name x px,.Name y py] k pt,iter,bc,0⟩] scope pos) (.lst ((items.filter te).map f)) :=
 EX.lcomp (bd:=fun p=>[(y,ψ p),(x,φ p)]) S (CS.of eo hc) hI (fun p hp=>(turn p hp).turn hA S eo hc) (fun p _=>lL fun z r hm=>by
  have ow:=n7 hc
  rcases Ab.mp hm with e|hm
  ·cases e;exact ow _ ‹s›
  ·cases Ay.mp hm;exact ow _ ‹s›) hsz hs
theorem CB.listRng{a b:Int}(n:Nat)(hn:(b-a).toNat=n)(hA:A.handled=none)(hs:Builtin.Range.small a b 1=true)(hl:n<=2^24):CB aa w A H Z (.type "list") [.rng a b] (.lst ((List.range n).map fun(i:Nat)=>.int (a+(i:Int)))):=by
 intro s E vs G P
 obtain⟨_,_,rfl,h1,P⟩:=aI P
 cases P
 cases h1 with
 | @rng r _ _ t u v z e =>
 have hsz:Builtin.Range.rangeSize a b 1=(n:Int):=by
  unfold Builtin.Range.rangeSize
  rw[if_pos ‹d›]
  split <;> omega
 refine Ao (A4 _) (call_list_range hA e hs hsz hl fun h' tk acc' c' hk hS hacc (htk:s.toks<=tk)=>?_)
 refine⟨.lst G.new hS rfl rfl (by simpa using hacc.1) fun i p v e1 e2=>?_,Kp.mk fun b o _ e=>hk b o e⟩
 obtain⟨t,rfl⟩:=hacc.2 i v e2
 have hi:i<n:=by
  have:=(A8.mp e1).1
  simpa using this
 have:((List.range n).map fun(i:Nat)=>PV.int (a+(i:Int)))[i]? = some (.int (a+i)):=by simp[hi]
 rw[this]at e1
 cases e1
 rw[Int.mul_one]
 exact .int _ _
theorem CB.replace{x y z:Str}{P R:Nat->Prop}(hPR:∀ t u,P t->R u->t≠0/\u≠0/\t≠u)(hb:x.length+(x.length+1)*z.length<=16777216)(hnb:NoneBooked H.H) :
  CB aa w A H Z (.builtin "str.replace") [.str x,.stk y P,.stk z R] (.str (Txt.replace x y z)):=by
 intro s E vs G P
 cases P with
 |cons h1 P =>
 cases P with
 |cons h2 P =>
 obtain⟨_,_,rfl,h3,P⟩:=aI P
 cases P
 cases h1;obtain⟨u,rfl,hu⟩:=Rp.stkI h2
 obtain⟨v,rfl,hv⟩:=Rp.stkI h3
 have hnb':NoneBooked s.heap:=by
  obtain⟨mc,hn,hk⟩:=hnb
  exact⟨mc,hn.keeps G.top,hk⟩
 obtain⟨q1,q2,q3⟩:=hPR u v hu hv
 refine Ao (A4 _) (SC.replaceA q1 q2 q3 hb (fun t' k (htk:s.toks<=k)=>⟨.str _ _,Kp.toks _ _ _⟩) hnb')
theorem kK(x y z:Str):(Txt.replace x y z).length<=x.length+(x.length+1)*z.length:=by
 unfold Txt.replace
 split
 ·exact E7 _ _
 ·have h1:=StrLaws.occ_length_le x y 0 x.length (x.length+1)
  have hy:(Builtin.Str.glued y (Builtin.Str.partsBetween x (Builtin.Str.occurrences x y 0 x.length (x.length+1)) y.length)).length=x.length:=by rw[StrLaws.glued_between_self]
  rw[size_glued,length_partsBetween,Nat.add_sub_cancel]at hy
  rw[size_glued,length_partsBetween,Nat.add_sub_cancel]
  have h2:(Builtin.Str.occurrences x y 0 x.length (x.length+1)).length*z.length<=(x.length+1)*z.length:=Nat.mul_le_mul_right _ h1
  omega
theorem CB.chrK{i:Int}(hi:(decide (i<0)||decide (i>0x10FFFF))=false):CB aa w A H Z (.builtin "chr") [.int i] (.stk (ch i.toNat) fun t=>H.tk<=t):=by
 intro s E vs G P
 cases P with
 |cons h1 P =>
 cases P
 cases h1
 exact P.chr_of_int hi ⟨.stk _ _ _ G.tk,Kp.toks _ _ _⟩
end
section
variable(aa:Program)(w:World)(A:Around)(H:Ctx)(Z:ZP)(env:Env)(ρ:List (Str×PV))
structure EXk(e:Expr)(p:Nat->PV):Prop where
 run:∀ s (E:ZV),FI H Z env ρ s->wpAny (model aa w) A (eval e env) (fun v s'=>(∀ K,s'.toks<=K->Rp Z s'.heap (p K) v)/\Kp N0 s s') E s
structure LXk(pos:Pos)(es:List Expr)(ps:Nat->List PV):Prop where
 run:∀ s (E:ZV),FI H Z env ρ s->wpAny (model aa w) A (spliced (backTo pos (starEach es env))) (fun vs s'=>(∀ K,s'.toks<=K->Paired (Rp Z s'.heap) (ps K) vs)/\Kp N0 s s') E s
structure IXk(tgt e:Expr)(items:Nat->List PV):Prop where
 run:∀ s (E:ZV),FI H Z env ρ s->wpAny (model aa w) A (eval e env) (fun v s_1=>wpAny (model aa w) A (pyIter v) (fun it s_2=>Kp N0 s s_2/\∃ K,H.tk<=K/\K<=s_2.toks/\Got aa w A H Z tgt (items K) s it s_2) E s_1) E s
end
section
theorem LXk.nil{pos:Pos}:LXk aa w A H Z env ρ pos [] (fun _=>[]):=⟨fun s E F=>Bt ⟨fun _ _=>.nil,Kp.refl _ _⟩⟩
theorem LXk.cons{pos:Pos}{e:Expr}{es:List Expr}{p:Nat->PV}{ps:Nat->List PV}(h:EXk aa w A H Z env ρ e p)(hs:LXk aa w A H Z env ρ pos es ps)(he:starEach (e::es) env=(false,eval e env)::starEach es env):LXk aa w A H Z env ρ pos (e::es) (fun K=>p K::ps K):=by
 refine⟨fun s E F=>?_⟩
 exact B2 (wpM (h.run s E F) (fun v s_1 h_1=>wpM (hs.run s_1 E (F.kp0 h_1.2)) (fun vs s_2 h_2=>⟨fun K hK=>.cons ((h_1.1 K (A7 h_2.2.tk hK)).kp0 h_2.2) (h_2.1 K hK),h_1.2.trans h_2.2⟩))) he
theorem EXk.list{es:List Expr}{pos:Pos}{ps:Nat->List PV}{n:Nat}(h:LXk aa w A H Z env ρ pos es ps)(hl:∀ K,(ps K).length=n)(hn:n<=sizeLine):EXk aa w A H Z env ρ (.List es pos) (fun K=>.lst (ps K)):=by
 refine⟨fun s E F=>?_⟩
 refine wpAny_List (wpM (h.run s E F) (fun vs s_1 h_1=>?_))
 have G:=(F.kp0 h_1.2).toGS
 have k:=Kp.push N0 s_1 {cls:=.type "list",data:=.seq vs.toArray}
 refine⟨by rw[(a8 (h_1.1 _ (Nat.le_refl _))).1,hl];exact hn,fun K hK=>?_,h_1.2.trans k⟩
 obtain⟨hl',hi⟩:=a8 (h_1.1 K hK)
 refine .lst G.new (A3 _ rfl) rfl rfl (by simpa using hl') (fun i p v e1 e2=>?_)
 exact(hi i p v e1 (by simpa using e2)).kp0 k
theorem IXk.as{tgt e:Expr}{l m:Nat->List PV}(h:IXk aa w A H Z env ρ tgt e l)(hq:l=m):IXk aa w A H Z env ρ tgt e m:=hq▸h
theorem IXk.slice{tgt value:Expr}{lower upper:Option Expr}{p pos:Pos}{l:Nat->List PV}{n:Nat}{lo hi:Option Int}(hA:A.handled=none)(hv:EXk aa w A H Z env ρ value fun K=>.lst (l K))(hll:∀ K,(l K).length=n)(hln:n<=sizeLine)
  (hl:PX aa w A H Z env ρ lower lo) (hu:PX aa w A H Z env ρ upper hi):IXk aa w A H Z env ρ tgt (.Subscript value (.Slice lower upper .none p) pos) (fun K=>i0 (l K) lo hi):=by
 refine⟨fun s E F=>?_⟩
 refine Et (wpM (hv.run s E F) (fun v s_1 h_1=>?_))
 have F_1:=F.kp0 h_1.2
 refine Gc (wpM (hl.run s_1 E F_1) (fun vl s_2 h_2=>wpM (hu.run s_2 E (F_1.kp0 h_2.2)) (fun vu s₃ h_3=>?_)))
 rw[evalPart_none]
 obtain⟨⟨t,rfl⟩,k_2⟩:=h_2
 obtain⟨⟨u,rfl⟩,k_3⟩:=h_3
 refine A1 ?_
 have F_3:=(F_1.kp0 k_2).kp0 k_3
 have k_4:Kp N0 s₃ {s₃ with heap:=s₃.heap.push {cls:=.type "slice",data:=.fields #[partValue (lo.map fun i=>(i,t)),partValue (hi.map fun i=>(i,u)),.none]}}:=Kp.push _ _ _
 have hK0:s_1.toks<=s₃.toks:=A7 k_2.tk k_3.tk
 obtain⟨T,id,hT,hlk,hw⟩:=SLC.list (aa:=aa) (w:=w) (A:=A) (H:=H) (Z:=Z) (l:=l s₃.toks) (lo:=lo) (hi:=hi) (by rw[hll];exact hln) _ E v t u s₃.heap.objs.size (F_3.kp0 k_4).toGS ((((h_1.1 _ hK0).kp0 k_2).kp0 k_3).kp0 k_4) (A3 _ rfl)
 refine fM hT hlk (wpM hw (fun y s5 h_5=>?_)) rfl
 have kk:=h_1.2.trans (k_2.trans (k_3.trans (k_4.trans h_5.2)))
 refine wpM (It.lst (tgt:=tgt) hA s5 E y (F.kp0 kk).toGT h_5.1) (fun it s_6 h_6=>?_)
 obtain⟨k,I,hI,wr,w1,w2,w3⟩:=h_6
 have k36:s₃.toks<=s_6.toks:=A7 (A7 k_4.tk h_5.2.tk) k.tk
 exact⟨kk.trans k,s₃.toks,F_3.tk,k36,I,hI,wr,w1,fun a q=>⟨kk.none (fun q=>q) (w2 a q).1,(w2 a q).2⟩,w3⟩
theorem SX.forK{σ:Type}{af iter:Expr}{body:List Stmt}{pos:Pos}{xs:List Str}{α:Type}{φ:Nat->α->PV}{items:List α}{step:σ->α->Stp σ}{f:σ->List (Str×PV)}{g:σ->Led}{bd:Nat->α->List (Str×PV)}{Inv:Nat->σ->Prop}{st₀:σ}
  (S:FS H.H Z env) (hg:H.L=g st₀) (hI:IXk aa w A H Z env (f st₀) af iter (fun K=>items.map (φ K))) (h0:Inv 0 st₀)
  (turn:∀ K,H.tk<=K->∀ Z':Addr->Prop,(∀ a,Z a->Z' a)->FS H.H Z' env->∀ i st p,Inv i st->items[i]? = some p ->
   BD aa w A (H.atK K (g st)) Z' env (f st) af xs (φ K p) (bd K p++f st) /\
   match step st p with
   | .go st'=>Inv (i+1) st'/\(SXs aa w A (H.atK K (g st)) Z' env (bd K p++f st) body (.next (g st') (f st'))\/SXs aa w A (H.atK K (g st)) Z' env (bd K p++f st) body (.cont (g st') (f st')))
   | .brk st'=>SXs aa w A (H.atK K (g st)) Z' env (bd K p++f st) body (.brk (g st') (f st'))
   | .ret L q=>SXs aa w A (H.atK K (g st)) Z' env (bd K p++f st) body (.ret L q))
  (hs:∀ x,foldedSetIterable iter env x=pure x) :
  SX aa w A H Z env (f st₀) (.For af iter body [] pos) (nJ g f (runFor step items st₀)) :=
 SX.forR (R:=fun _=>True) S hg (fun s E F=>wpM (hI.run s E F) (fun v s_1 h=>wpM h (fun it s_2 h=>⟨h.1,h.2.imp fun K q=>⟨q.1,q.2.1,trivial,q.2.2⟩⟩))) h0 (fun K h _=>turn K h) hs
theorem EXk.pairIS{i:Int}{x:Str}{k1 k2 k3:Nat}{p1 p2 pos:Pos}:EXk aa w A H Z env ρ (.Tuple [.Constant (.int i) k1 p1,.Constant (.str x) k2 p2] k3 pos) (fun K=>.tup [.int i,.stk x fun t=>1<=t/\t<K]):=by
 refine⟨fun s E F=>?_⟩
 refine wpAny_Tuple (B2 (Ce (B2 (Av (Bt ?_)) rfl)) rfl)
 have F2:FI H Z env ρ {s with toks:=s.toks+1+1}:=F.kp0 (Kp.toks _ _ _ (A7 (Ad _) (Ad _)))
 refine⟨by show 2<=sizeLine;decide,fun K hK=>.tup F2.new (A3 _ rfl) rfl rfl rfl (fun j p v e1 e2=>?_),?_⟩
 ·rcases j with _|_|j
  ·simp at e1 e2;subst e1 e2;exact .int _ _
  ·simp at e1 e2;subst e1 e2;exact .stk _ _ _ ⟨Nat.le_add_left _ _,hK⟩
  ·simp at e1
 ·exact iO s _ _ (A7 (Ad _) (Ad _))
def yI:Expr->Option Int
 | .Constant (.int i) _ _=>some i
 |_=>none
def oG:List Expr->Option (List Int)
 |[]=>some []
 |e::es=>match yI e,oG es with
  |some i,some is=>some (i::is)
  |_,_=>none
theorem LX.ints{pos:Pos}:∀{es:List Expr} {is:List Int},oG es=some is->LX aa w A H Z env ρ pos es (is.map .int)
 |[],is,h=>by cases h;exact LX.nil
 |e::es,is,h=>by
  unfold oG at h
  split at h
  ·rename_i i js h1 h2
   cases h
   unfold yI at h1
   split at h1
   ·cases h1
    exact LX.cons EX.cint (LX.ints h2) rfl
   ·cases h1
  ·cases h
theorem EX.ints{es:List Expr}{is:List Int}{pos:Pos}(h:oG es=some is)(hn:is.length<=sizeLine):EX aa w A H Z env ρ (.List es pos) (.lst (is.map .int)):=EX.list (LX.ints h) (by rw[List.length_map];exact hn)
theorem SX.fold2{σ α:Type}{φ ψ:α->PV}{items:List α}{h:σ->α->σ}{f:σ->List (Str×PV)}{Inv:Nat->σ->Prop}{st₀:σ}{x y:Str}{px py tp pos:Pos}{k:Nat}{iter:Expr}{body:List Stmt}
  (hA:A.handled=none) (S:FS H.H Z env) (eo:EO env sc) (hx:aS sc x=true) (hy:aS sc y=true) (h0:Inv 0 st₀) (hf:Sub (f st₀) ρ)
  (hI:IX aa w A H Z env (f st₀) (.Tuple [.Name x px,.Name y py] k tp) iter (items.map fun a=>.tup [φ a,ψ a]))
  (turn:∀ Z':Addr->Prop,FS H.H Z' env->∀ i st p,Inv i st->items[i]? = some p->Inv (i+1) (h st p)/\∃ ρ',SXs aa w A H Z' env ((y,ψ p)::(x,φ p)::f st) body (.next H.L ρ')/\Sub (f (h st p)) ρ')
  (hs:∀ x,foldedSetIterable iter env x=pure x) :
  SX aa w A H Z env ρ (.For (.Tuple [.Name x px,.Name y py] k tp) iter body [] pos) (.next H.L (f (items.foldl h st₀))):=by
 have:=SX.loop2 (aa:=aa) (w:=w) (A:=A) (H:=H) (Z:=Z) (env:=env) (ρ:=ρ) (px:=px) (py:=py) (tp:=tp) (pos:=pos) (k:=k) (body:=body) (step:=fun st p=>.go (h st p)) (f:=f) (g:=fun _=>H.L) (Inv:=Inv) hA S eo hx hy rfl h0 hf hI
  (fun Z' hz S' i st p hi hp=>by
   obtain⟨h1,ρ',h2,h3⟩:=turn Z' S' i st p hi hp
   exact⟨h1,.inl ⟨ρ',h2,h3⟩⟩) hs
 rw[eF]at this
 exact this
theorem SX.foldK2{σ α:Type}{φ:α->PV}{ψ:Nat->α->PV}{items:List α}{h:σ->α->σ}{f:σ->List (Str×PV)}{Inv:Nat->σ->Prop}{st₀:σ}{x y:Str}{px py tp pos:Pos}{k:Nat}{iter:Expr}{body:List Stmt}
  (hA:A.handled=none) (S:FS H.H Z env) (eo:EO env sc) (hx:aS sc x=true) (hy:aS sc y=true) (h0:Inv 0 st₀) (hf:Sub (f st₀) ρ)
  (hI:IXk aa w A H Z env (f st₀) (.Tuple [.Name x px,.Name y py] k tp) iter (fun K=>items.map fun a=>.tup [φ a,ψ K a]))
  (turn:∀ K,H.tk<=K->∀ Z':Addr->Prop,FS H.H Z' env->∀ i st p,Inv i st->items[i]? = some p->Inv (i+1) (h st p)/\∃ ρ',SXs aa w A (H.atK K H.L) Z' env ((y,ψ K p)::(x,φ p)::f st) body (.next H.L ρ')/\Sub (f (h st p)) ρ')
  (hs:∀ x,foldedSetIterable iter env x=pure x) :
  SX aa w A H Z env ρ (.For (.Tuple [.Name x px,.Name y py] k tp) iter body [] pos) (.next H.L (f (items.foldl h st₀))):=by
 have:=SX.forK (aa:=aa) (w:=w) (A:=A) (H:=H) (Z:=Z) (env:=env) (af:=.Tuple [.Name x px,.Name y py] k tp) (body:=body) (pos:=pos) (xs:=[x,y]) (step:=fun st p=>.go (h st p)) (f:=f) (g:=fun _=>H.L) (φ:=fun K a=>.tup [φ a,ψ K a]) (bd:=fun K p=>[(y,ψ K p),(x,φ p)]) (Inv:=Inv) S rfl hI h0
  (fun K hK Z' hz S' i st p hi hp=>⟨BD.tuple hA (BDs.cons S' (eo.bds hx) (BDs.cons S' (eo.bds hy) BDs.nil)) rfl rfl,by
   obtain⟨h1,ρ',h2,h3⟩:=turn K hK Z' S' i st p hi hp
   exact⟨h1,.inl (h2.next_forget h3)⟩⟩) hs
 rw[eF]at this
 exact this.forget hf
end
def KB(n_0:Heap)(g_0:Nat)(Zc:ZP)(s s':Shared):Prop:=∃ h' tk g,s'={s with heap:=h',toks:=tk,gens:=g}/\(∀ b o,((∃ o',n_0.get? b=some o')\/Zc b)->s.heap.get? b=some o->h'.get? b=some o) /\
 (∀(i:Nat) (x:GenState),i<g_0->s.gens[i]? = some x->g[i]? = some x)/\(∀(i:Nat) (x:GenState),g[i]? = some x->s.gens[i]? = some x\/x.bare=true)/\s.toks<=tk
theorem KB.trans{n_0:Heap}{g_0:Nat}{Zc:ZP}{s s' s'':Shared}(x:KB n_0 g_0 Zc s s')(y:KB n_0 g_0 Zc s' s''):KB n_0 g_0 Zc s s'':=by
 obtain⟨h1,t1,g1,rfl,k1,c1,b1,l1⟩:=x
 obtain⟨h2,t2,g2,rfl,k2,c2,b2,l2⟩:=y
 exact⟨h2,t2,g2,rfl,fun b o z e=>k2 b o z (k1 b o z e),fun i x l e=>c2 i x l (c1 i x l e),fun i x e=>(b2 i x e).elim (fun e=>b1 i x e) .inr,A7 l1 l2⟩
theorem KB.weak{n_0:Heap}{g_0:Nat}{Zc Zd:ZP}{s s':Shared}(x:KB n_0 g_0 Zc s s')(hz:∀ a,Zd a->Zc a):KB n_0 g_0 Zd s s':=by
 obtain⟨h1,t1,g1,rfl,k1,c1,b1,l1⟩:=x
 exact⟨h1,t1,g1,rfl,fun b o z e=>k1 b o (z.imp_right (hz b)) e,c1,b1,l1⟩
theorem KB.of{n_0:Heap}{g_0:Nat}{Zc Z:ZP}{s s':Shared}(k:Kp Z s s')(hz:∀ a,Z a->n_0.get? a=none/\¬Zc a):KB n_0 g_0 Zc s s':=by
 obtain⟨h1,t1,g1,rfl,k1,c1,l1⟩:=k
 exact⟨h1,t1,g1,rfl,fun b o z e=>k1 b o (fun q=>z.elim (fun⟨o',e'⟩=>by rw[(hz b q).1]at e';cases e') (hz b q).2) e,fun i x _ e=>c1.1 i x e,c1.2,l1⟩
theorem KB.kp{s s_1 s':Shared}(k:Kp N0 s s_1)(x:KB s.heap s.gens.size N0 s_1 s'):Kp N0 s s':=by
 obtain⟨h0,t0,g0,rfl,k0,c0,l0⟩:=k
 obtain⟨h1,t1,g1,rfl,k1,c1,b1,l1⟩:=x
 refine⟨h1,t1,g1,rfl,fun b o z e=>k1 b o (.inl ⟨o,e⟩) (k0 b o z e),⟨fun i x e=>c1 i x ?_ (c0.1 i x e),fun i x e=>(b1 i x e).elim (fun e=>c0.2 i x e) .inr⟩,A7 l0 l1⟩
 rcases C4 i s.gens.size with h' |h'
 ·exact h'
 ·rw[Array.getElem?_eq_none h']at e;cases e
section
variable(aa:Program)(w:World)(A:Around)(n_0:Heap)(g_0:Nat)(Zc:ZP)(I:Addr)
def GSt:List Str->Shared->Prop
 |[],s=>∀ s_1,Kp Zc s s_1->(∀ a,Zc a->∃ o,s_1.heap.get? a=some o)->∀(E:ZV),wpAny (model aa w) A (pyNext (.ref I)) (fun r s'=>r=none/\KB n_0 g_0 Zc s_1 s') E s_1
 |x::xs,s=>∀ s_1,Kp Zc s s_1->(∀ a,Zc a->∃ o,s_1.heap.get? a=some o)->∀(E:ZV),wpAny (model aa w) A (pyNext (.ref I)) (fun r s'=>∃ t,r=some (.str x t)/\KB n_0 g_0 Zc s_1 s'/\GSt xs s') E s_1
end
theorem GSt.kp{aa:Program}{w:World}{A:Around}{n_0:Heap}{g_0:Nat}{Zc:ZP}{I:Addr}{xs:List Str}{s s':Shared}(x:GSt aa w A n_0 g_0 Zc I xs s)(k:Kp Zc s s'):GSt aa w A n_0 g_0 Zc I xs s':=by
 cases xs with
 |nil=>exact fun s_1 k'=>x s_1 (k.trans k')
 |cons y ys=>exact fun s_1 k'=>x s_1 (k.trans k')
structure GA(aa:Program)(w:World)(n:Nat)(n_0:Heap)(g_0:Nat)(I:Addr)(xs:List Str)(s:Shared):Prop where
 is:∃ g,s.heap.IsGen I g
 keep:∀ b o,n_0.get? b=some o->s.heap.get? b=some o
 st:∀ A:Around,Rm n A->∀ Zc:Addr->Prop,(∀ a,Zc a->s.heap.get? a=none)->∀ s_1,Kp N0 s s_1->(∀ a,Zc a->∃ o,s_1.heap.get? a=some o)->GSt aa w A n_0 g_0 Zc I xs s_1
theorem Rm.in2{n:Nat}{A:Around}(x:Rm (n+1) A):Rm n A.in1.in1:=⟨x.hd,by have:=x.dp;show A.depth+8*n+8<recursionLimit;omega,by have:=x.un;show A.units+1+1+32*n+64<_;omega⟩
theorem Rm.in1{n:Nat}{A:Around}(x:Rm (n+1) A):Rm n A.in1:=⟨x.hd,by have:=x.dp;show A.depth+8*n+8<recursionLimit;omega,by have:=x.un;show A.units+1+32*n+64<_;omega⟩
section
variable{n:Nat}{n_0:Heap}{g_0:Nat}{I S:Addr}{R:Result->Shared->Prop}
theorem iM(hS_0:n_0.get? S=none)(res:Value):∀(xs:List Str) (s:Shared) (l:List (Str×Tok)) (c:Nat),GSt aa w A.in1 n_0 g_0 (fun a=>a=S) I xs s ->
  s.heap.get? S=some {cls:=.type "list",dict:=none,data:=.seq (strValues l).toArray c,slots:=#[]}->l.length+xs.length<=sizeLine ->
  (∀ s' l' c',KB n_0 g_0 N0 s s'->s'.heap.get? S=some {cls:=.type "list",dict:=none,data:=.seq (strValues l').toArray c',slots:=#[]}->l'.map (·.1)=l.map (·.1)++xs->R (.ok (.ret res)) s') ->
  codeAny (model aa w) A (.builtin "list.extend.loop" ⟨[.ref S,.ref I,res],[]⟩) R s
 |[],s,l,c,G,hS,hn,hR=>by
  refine Bv El ?_
  rw[Around.under_plainId F.plain_extend_loop _]
  show wpAny _ A.in1 (pyNext (.ref I) >>= _) _ _ s
  refine A0 (wpM (G s (Kp.refl _ _) (fun a q=>⟨_,q▸hS⟩) _) (fun r s' h=>?_))
  obtain⟨rfl,k⟩:=h
  obtain⟨h1,t1,g1,rfl,k1,c1,b1,l1⟩:=id k
  exact A1 (hR _ l c (k.weak fun _ q=>q.elim) (k1 S _ (.inr rfl) hS) ‹s›)
 |x::xs,s,l,c,G,hS,hn,hR=>by
  refine Bv El ?_
  rw[Around.under_plainId F.plain_extend_loop _]
  show wpAny _ A.in1 (pyNext (.ref I) >>= _) _ _ s
  refine A0 (wpM (G s (Kp.refl _ _) (fun a q=>⟨_,q▸hS⟩) _) (fun r s' h=>?_))
  obtain⟨t,rfl,k,G'⟩:=h
  have hS':s'.heap.get? S=some {cls:=.type "list",dict:=none,data:=.seq (strValues l).toArray c,slots:=#[]}:=by
   obtain⟨h1,t1,g1,rfl,k1,c1,b1,l1⟩:=k
   exact k1 S _ (.inr rfl) hS
  have bo:(strValues l).toArray.size=l.length:=by simp[strValues]
  rw[List.length_cons]at hn
  show wpAny _ A.in1 (updateSeq S (·.push (.str x t)) >>= _) _ _ _
  refine A0 ?_
  refine Bc hS' rfl (A1 ⟨Cb Em _,iM hS_0 res xs _ (l++[(x,t)]) (if((strValues l).toArray.push (Value.str x t)).size==(strValues l).toArray.size then c else c+1) (G'.kp ?_) ?_ (by simp;omega) fun s'' l' c' k' hS'' hl'=>?_⟩)
   (by rw[bo];omega) (by show((strValues l).toArray.push _).size<=sizeLine+1;rw[Array.size_push,bo];omega)
  ·exact Kp.mk (tk:=s'.toks) fun b o hb e=>(Am _ _ (Ci hb)).trans e
  ·have e:(strValues (l++[(x,t)])).toArray=(strValues l).toArray.push (.str x t):=by simp[strValues]
   rw[e]
   exact Af (Obj.mapSeq (·.push (.str x t))) hS' rfl
  ·refine hR s'' l' c' ((k.weak fun _ q=>q.elim).trans (KB.trans (KB.of (Z:=fun a=>a=S) (Kp.mk (tk:=s'.toks) fun b o hb e=>(Am _ _ (Ci hb)).trans e) fun a q=>⟨q▸hS_0,fun q=>q⟩) k')) hS'' ?_
   rw[hl'];simp
theorem sB{xs:List Str}{s:Shared}{c_0:Nat}(hS_0:n_0.get? S=none)(hSI:S≠I)(res:Value)(hT:∃ g,s.heap.IsGen I g)(hG:GSt aa w A.in1 n_0 g_0 (fun a=>a=S) I xs s)
  (hS:s.heap.get? S=some {cls:=.type "list",data:=.seq #[] c_0}) (hn:xs.length<=sizeLine)
  (hR:∀ s' l' c',KB n_0 g_0 N0 s s'->s'.heap.get? S=some {cls:=.type "list",dict:=none,data:=.seq (strValues l').toArray c',slots:=#[]}->l'.map (·.1)=xs->R (.ok (.ret res)) s') :
  wpAny (model aa w) A.in1 (Builtin.List.listExtendWith (.ref S) (.ref I) res)
   (fun fin s'=>match fin with| .done f=>R (.ok f) s' | .again c'=>c'.quiet=true/\codeAny (model aa w) A c' R s') (fun e s'=>R (.error e) s') s:=by
 obtain⟨g,hg⟩:=hT
 have hty:=hg.typeIs
 unfold Builtin.List.listExtendWith
 refine A0 (C9 hty ?_)
 have h1:Builtin.List.listSameRef (.ref S) (.ref I)=false:=by simp[Builtin.List.listSameRef,hSI]
 have h2:(Value.type "generator" == Value.type "list")=false:=by decide
 have h3:(Value.type "generator" == Value.type "tuple")=false:=by decide
 simp only[h1,h2,h3,Bool.or_false,Bool.false_eq_true,if_false]
 refine A0 (Ft hg ?_)
 refine A0 (A5 ?_)
 unfold Builtin.List.listLengthHint
 refine A0 (Bu hty F.gen_no_len ?_)
 show wpAny _ A.in1 (specialOf (Value.ref I) (Str.ofString "__length_hint__") >>= _) _ _ _
 refine A0 (Bu hty F.gen_no_hint ?_)
 refine A1 ?_
 show wpAny _ A.in1 (rule "list.extend.makes-room" >>= fun _=>Builtin.List.listTouch (.ref S) >>= fun _ =>
  again (.builtin "list.extend.loop" ⟨[.ref S,.ref I,res],[]⟩)) _ _ _
 refine A0 (Cf ?_)
 refine A0 ?_
 show wpAny _ A.in1 (updateSeq S (·.push .none) >>= fun _=>updateSeq S (·.pop)) _ _ _
 refine A0 (Bc hS rfl ?_)
 have hS2:=Af (Obj.mapSeq (·.push Value.none)) hS rfl
 refine Bc (hz:=by seq_fits) hS2 rfl ?_
 have hS3:=Af (Obj.mapSeq (·.pop)) hS2 rfl
 have oth:∀ b o,b≠S->s.heap.get? b=some o->((s.heap.update S (Obj.mapSeq (·.push Value.none))).update S (Obj.mapSeq (·.pop))).get? b=some o :=
  fun b o hb e=>(Am _ _ (Ci hb)).trans ((Am _ _ (Ci hb)).trans e)
 have kk:Kp (fun a=>a=S) s {s with heap:=(s.heap.update S (Obj.mapSeq (·.push Value.none))).update S (Obj.mapSeq (·.pop))}:=Kp.mk (tk:=s.toks) fun b o hb e=>oth b o hb e
 refine A1 ⟨Cb Em _,iM hS_0 res xs _ [] _ (hG.kp kk) hS3 (by simpa using hn) fun s' l' c' k hS' hl=>?_⟩
 exact hR s' l' c' ((KB.of kk fun a q=>⟨q▸hS_0,fun q=>q⟩).trans k) hS' (by simpa using hl)
theorem qV{xs:List Str}{s:Shared}{Q:ZV}(Rr:Rm (n+1) A)(G:GA aa w n n_0 g_0 I xs s)(hn:xs.length<=sizeLine)
  (hQ:∀ s' l' c',KB n_0 g_0 N0 s s'->s'.heap.get? s.heap.objs.size=some {cls:=.type "list",dict:=none,data:=.seq (strValues l').toArray c',slots:=#[]}->l'.map (·.1)=xs->Q (.ref s.heap.objs.size) s') :
  wpAny (model aa w) A (call (.type "list") [.ref I]) Q E s:=by
 have hn_0:n_0.get? s.heap.objs.size=none:=by
  cases e:n_0.get? s.heap.objs.size with
  |none=>rfl
  |some o=>exact absurd (Ac (G.keep _ _ e)) (At _)
 generalize hSs:s.heap.objs.size=S at *
 have hSI:S≠I:=fun e=>by
  obtain⟨g,o,_,_,h,_⟩:=G.is
  exact absurd (Ac h) (by rw[hSs,e];exact At _)
 refine callType_codes (Q₁:=fun obj s_1=>obj=.ref S/\s_1={s with heap:=s.heap.push {cls:=.type "list",data:=.seq #[]}}) F.called_list (F.typeCall_list_1 _) F.entry_list_init
  (code_list_new _ ⟨by rw[hSs],rfl⟩) fun obj s_1 h_1=>?_
 obtain⟨rfl,rfl⟩:=h_1
 have hS:(s.heap.push {cls:=.type "list",data:=.seq #[]}).get? S=some {cls:=.type "list",data:=.seq #[]}:=hSs▸A3 _ rfl
 refine⟨⟨_,hS,rfl⟩,F.args_list_init_2 _ _,?_⟩
 have k0:Kp N0 s {s with heap:=s.heap.push {cls:=.type "list",data:=.seq #[]}}:=Kp.push N0 s _
 have G0:=G.st _ Rr.in2 (fun a=>a=S) (fun a q=>by rw[q];exact aE _ ‹o›) _ k0 fun a q=>⟨{cls:=.type "list",data:=.seq #[]},by subst q;exact hS⟩
 show wpAny _ A.in1.in1 (do let old <-Builtin.List.listItems (.ref S);Builtin.List.listUpdate (.ref S) (fun _=>#[]);letGo old.toList.reverse;Builtin.List.listExtendWith (.ref S) (.ref I) .none) _ _ _
 refine A0 ?_
 unfold Builtin.List.listItems
 refine A0 (Ax hS rfl (A1 ?_))
 show wpAny _ A.in1.in1 (updateSeq S (fun _=>#[]) >>= fun _=>letGo (#[]:Array Value).toList.reverse >>= fun _=>Builtin.List.listExtendWith (.ref S) (.ref I) .none) _ _ _
 refine A0 (Bc hS rfl ?_)
 have hS2:=Af (Obj.mapSeq (fun _=>(#[]:Array Value))) hS rfl
 have k1:Kp (fun a=>a=S) {s with heap:=s.heap.push {cls:=.type "list",data:=.seq #[]}} {s with heap:=(s.heap.push {cls:=.type "list",data:=.seq #[]}).update S (Obj.mapSeq (fun _=>(#[]:Array Value)))} :=
  Kp.mk (tk:=s.toks) fun b o hb e=>(Am _ _ (Ci hb)).trans e
 refine A0 (D6 ?_)
 refine sB (A:=A.in1) hn_0 hSI .none ?_ (G0.kp k1) hS2 hn fun s' l' c' k hS' hl=>?_
 ·obtain⟨g,hg⟩:=G.is
  exact⟨g,hg.keeps fun b o e=>k1.get (fun q=>by subst q;rw[aE _ ‹o›]at e;cases e) (k0.get (fun q=>q) e)⟩
 ·exact⟨rfl,hQ s' l' c' (((KB.of k0 fun a q=>q.elim).trans (KB.of k1 fun a q=>⟨q▸hn_0,fun q=>q⟩)).trans k) hS' hl⟩
theorem uF{xs:List Str}{s:Shared}{Q:List Value->Shared->Prop}(Rr:Rm (n+1) A)(G:GA aa w n n_0 g_0 I xs s)(hn:xs.length<=sizeLine)
  (hQ:∀ s' (l':List (Str×Tok)),KB n_0 g_0 N0 s s'->l'.map (·.1)=xs->Q (strValues l') s'):wpAny (model aa w) A (collect (.ref I)) Q E s:=by
 have hn_0:n_0.get? s.heap.objs.size=none:=by
  cases e:n_0.get? s.heap.objs.size with
  |none=>rfl
  |some o=>exact absurd (Ac (G.keep _ _ e)) (At _)
 generalize hSs:s.heap.objs.size=S at *
 have hSI:S≠I:=fun e=>by
  obtain⟨g,o,_,_,h,_⟩:=G.is
  exact absurd (Ac h) (by rw[hSs,e];exact At _)
 unfold collect
 refine A0 (Gd (Bv F.entry_proto_collect ?_))
 rw[Around.under_plainId F.plain_proto_collect _]
 show wpAny _ A.in1 (newList [] >>= fun l=>again (.builtin "list.__iadd__" ⟨[l,.ref I],[]⟩)) _ _ s
 refine A0 (Aj ?_)
 rw[hSs]
 refine A1 ⟨Cb F.plain_list_iadd _,Bv F.entry_list_iadd ?_⟩
 rw[Around.under_plainId F.plain_list_iadd _]
 have hS:(s.heap.push {cls:=.type "list",data:=.seq #[]}).get? S=some {cls:=.type "list",data:=.seq #[]}:=hSs▸A3 _ rfl
 have k0:Kp N0 s {s with heap:=s.heap.push {cls:=.type "list",data:=.seq #[]}}:=Kp.push N0 s _
 have G0:=G.st _ Rr.in1 (fun a=>a=S) (fun a q=>by rw[q];exact aE _ ‹o›) _ k0 fun a q=>⟨{cls:=.type "list",data:=.seq #[]},by subst q;exact hS⟩
 show wpAny _ A.in1 (Builtin.List.listExtendWith (.ref S) (.ref I) (.ref S)) _ _ _
 have hG0:∃ g,({s with heap:=s.heap.push {cls:=.type "list",data:=.seq #[]}}:Shared).heap.IsGen I g:=by
  obtain⟨g,hg⟩:=G.is
  exact⟨g,hg.keeps fun b o e=>k0.get (fun q=>q) e⟩
 have X:=sB (A:=A) (R:=fun r s'=>r=.ok (.ret (.ref S))/\∃ l c',KB n_0 g_0 N0 s s'/\s'.heap.get? S=some {cls:=.type "list",dict:=none,data:=.seq (strValues l).toArray c',slots:=#[]}/\l.map (·.1)=xs)
  hn_0 hSI (.ref S) hG0 G0 hS hn fun s' l' c' k hS' hl=>⟨rfl,l',c',(KB.of k0 fun a q=>q.elim).trans k,hS',hl⟩
 have fin:∀ s':Shared,(∃ l c',KB n_0 g_0 N0 s s'/\s'.heap.get? S=some {cls:=.type "list",dict:=none,data:=.seq (strValues l).toArray c',slots:=#[]}/\l.map (·.1)=xs) ->
   wpAny (model aa w) A (load S >>= fun o=>match o.data with| .seq xs _=>pure xs.toList|_=>unsupported "internal:collect") Q E s':=by
  rintro s' ⟨l,c',k,hS',hl⟩
  exact A0 (Ct hS' (A1 (hQ s' l k hl)))
 refine B1 X (fun f s' h=>?_) fun e s' h=>by cases h.1
 cases f with
 |done f=>obtain⟨e,h⟩:=h;cases e;exact fin s' h
 |again c' =>
  refine⟨h.1,Ca h.2 fun r s_2 h_2=>?_⟩
  obtain⟨rfl,h_2⟩:=h_2
  exact fin s_2 h_2
open Builtin Builtin.Str in
theorem qM{sep:Str}{t:Tok}{xs:List Str}{s:Shared}{Q:ZV}(Rr:Rm (n+1) A.in1)(G:GA aa w n n_0 g_0 I xs s)(hn:xs.length<=sizeLine)(hok:JoinOk sep xs=true)
  (hQ:∀ s' u,KB n_0 g_0 N0 s s'->Q (.str (Txt.join sep xs) u) s'):wpAny (model aa w) A (call (.builtin "str.join") [.str sep t,.ref I]) Q E s:=by
 obtain⟨g,hg⟩:=G.is
 refine Ao (A4 s.toks) ?_
 refine B6 (Ba F.slot_str_join.plain F.entry_str_join (F.slot_str_join.check _ _ _ _ _ _ _ _ (Eu _ _ _) (F.args_str_join_2 _ _) ?_))
 rw[join_tree_other]
 refine A0 (C9 hg.typeIs ?_)
 show wpAny _ A.in1 ((pyIter (.ref I)).tryCatch _ >>= fun it=>collect it >>= fun items=>joinTail sep items) _ _ s
 refine A0 (wpAny_tryCatch (Ft hg ?_))
 refine A0 (uF Rr G hn fun s' l k hl=>?_)
 have hok':JoinOk sep (l.map (·.1))=true:=by rw[hl];exact hok
 have hok2:=hok'
 unfold JoinOk at hok'
 rw[Bool.not_eq_true']at hok'
 have gg:Gives (joinTail sep (strValues l)) (joinMade sep l):=by
  have g0:=gives_joinTail sep l hok'
  cases l with
  |nil=>exact g0
  |cons p r=>cases r with
   |nil=>exact g0
   |cons q r'=>exact g0
 refine gg aa w A (wants (fun v s''=>s.toks<=s''.toks->Q v s'') (fun e s''=>s.toks<=s''.toks->E e s'')) s' (post_join l ⟨joinFit_length hok',fun t' tk=>?_⟩)
 rw[hl]
 intro h2
 obtain⟨h',tk',g',rfl,q1,q2,q3,q4⟩:=id k
 exact hQ _ t' ⟨h',tk,g',rfl,q1,q2,q3,h2⟩
end
structure GX(aa:Program)(w:World)(A:Around)(H:Ctx)(Z:ZP)(env:Env)(ρ:List (Str×PV))(e:Expr)(n:Nat)(xs:List Str):Prop where
 run:∀ s (E:ZV),FI H Z env ρ s->wpAny (model aa w) A (eval e env) (fun v s'=>∃ I,v=.ref I/\Kp N0 s s'/\GA aa w n s.heap s.gens.size I xs s') E s
section
variable{n:Nat}{xs:List Str}
theorem EX.listG{x:Str}{aj pos:Pos}{e:Expr}(R:Rm (n+1) A)(hf:NM aa w A H Z env x (.type "list"))(h:GX aa w A H Z env ρ e n xs)(hn:xs.length<=sizeLine)
  (hs:starEach [e] env=(false,eval e env)::starEach [] env) (hplain:(backTo pos (starEach [] env)).any (·.1)=false)
  (he:eval (.Call (.Name x aj) [e] [] pos) env=(do callWith pos (<-eval (.Name x aj) env) [] (backTo pos (starEach [e] env)) (backToKw pos (keywordEach [] env)))) :
  EX aa w A H Z env ρ (.Call (.Name x aj) [e] [] pos) (.lst (xs.map .str)):=by
 refine⟨fun s E F=>?_⟩
 refine Call_ (wpM (hf s E ρ aj F) (fun u s' q=>?_)) he
 obtain⟨rfl,rfl⟩:=q
 refine callWith_type1 (B2 (wpM (h.run s' E F) (fun v s_1 h_1=>Bt ?_)) hs) hs hplain
 obtain⟨I,rfl,k,G⟩:=h_1
 refine qV R G hn fun s_2 l c k' hS hl=>?_
 have kk:=k'.kp k
 refine⟨.lst (F.kp0 k).toGS.new hS rfl rfl (by simp[<-hl,strValues]) fun i p v e1 e2=>?_,kk⟩
 rw[<-hl]at e1
 simp only[List.map_map,List.getElem?_map,strValues,List.getElem?_toArray]at e1 e2
 cases hi:l[i]? with
 |none=>rw[hi]at e1;cases e1
 |some y=>rw[hi]at e1 e2;cases e1;cases e2;exact .str _ _
end
def Wo(n_0:Heap)(Zd:ZP)(a:Addr):Prop:=n_0.get? a=none/\¬Zd a
def GY(n_0:Heap)(Zc Zd:ZP)(all:List Str):Protocol:=fun m s_0 v s kap =>
 (∃ x t,all.reverse[m]? = some x/\v=.str x t)/\Kp (Wo n_0 Zd) s_0 s/\∀ s'',Kp Zc s s''->(∀ a,Zc a->∃ o,s''.heap.get? a=some o)->kap (.send .none) s''
abbrev GR(n_0:Heap)(Zd:ZP):GenEnd:=fun n s_0 r s_1=>r=.ok (.ret .none)/\(n=0/\Kp (Wo n_0 Zd) s_0 s_1)
section
theorem eT{a:Addr}{g n:Nat}{gs:GenState}{P:Nat->Shared->Shared->Prop}{Y:Protocol}{Q:Option Value->Shared->Prop}(hh:A.handled=none)
  (hl:s.heap.NoLimit) (hroom:A.depth<recursionLimit)
  (hg:s.heap.IsGen a g) (hgs:s.gens[g]? = some gs)
  (hgo:gs.Goes (model aa w) A.in1 (fun n s_0 r s_1=>r=.ok (.ret .none)/\P n s_0 s_1) Y n (.send .none) (s.setGen g .running))
  (hY:∀ v s_1 gs',gs'.bare=true->Y (n-1) (s.setGen g .running) v s_1 (fun r' s''=>match n with
    |0=>False
    |m+1=>gs'.Goes (model aa w) A.in1 (fun n s_0 r s_1=>r=.ok (.ret .none)/\P n s_0 s_1) Y m r' s'')->Q (some v) (s_1.setGen g gs'))
  (hP:∀ s_1,P n (s.setGen g .running) s_1->∀ h',(∀ b o,s_1.heap.get? b=some o->h'.get? b=some o)->Q none {s_1.setGen g .finished with heap:=h'}) :
  wpAny (model aa w) A (pyNext (.ref a)) Q E s:=by
 unfold pyNext
 refine A0 (Bl (B0 (name:=Str.ofString "__next__") hg.typeIs Fk
  (B3 Fk hg.typeIs entry_gen_next ?_ (args_gen_next _))))
 show wpAny _ A.in1 (Builtin.Generator.genWake (.ref a) (.send .none)) _ _ s
 unfold Builtin.Generator.genWake
 refine A0 (A5 (wpAny_genNumber hg (A0 (wpAny_genState hgs ?_))))
 cases gs with
 |running=>exact hgo.elim
 |finished=>exact hgo.elim
 |_ =>
  refine A0 (wpAny_roomToWake hl hroom ?_)
  show wpAny _ A.in1 (.resume g (.send .none) [] _) _ _ s
  refine wpAny_resumeQ hgs hgo (fun x s_1 hx=>?_) (fun v s_1 gs' hb hv=>?_)
  ·obtain⟨rfl,hp⟩:=hx
   show wpAny _ A.in1 (newExc (.type "StopIteration") [] >>= _) _ _ _
   refine A0 ?_
   simp only[newExc,newTuple]
   refine A0 (Aj ?_ (by size_fits))
   refine A0 (m:=firstArgMember _ _) (Aa (a:=Value.none) (by first|rfl|(simp only[firstArgMember];rfl)) ?_)
   refine Aj ?_ (by size_fits)
   simp only[raiseNew]
   refine A0 (A0 (Fl ?_))
   first|rw[show A.in1.handled=none from hh]|rw[hh]
   refine Ed ?_
   refine A0 (Bo (T := "StopIteration") (b:=true) ⟨_,A3 _ rfl,rfl⟩ Ev ?_)
   exact A1 (hP s_1 hp _ fun b o hb=>A2 _ (A2 _ hb))
  ·exact A1 ⟨v,rfl,A1 (hY v s_1 gs' hb hv)⟩
end
theorem bA{s:Shared}{g i:Nat}{x:GenState}:(s.setGen g x).gens[i]? = if i=g then(if g<s.gens.size then some x else none)else s.gens[i]?:=by
 by_cases h:i=g
 ·subst h
  rw[if_pos rfl]
  by_cases hlt:i<s.gens.size
  ·rw[if_pos hlt];simp[Shared.setGen,hlt]
  ·rw[if_neg hlt];simp[Shared.setGen,hlt]
 ·rw[if_neg h];simp[Shared.setGen,Ne.symm h]
theorem eQ{s:Shared}{g:Nat}{x:GenState}(h:s.gens[g]? = some x):g<s.gens.size:=by
 rcases C4 g s.gens.size with h' |h'
 ·exact h'
 ·rw[Array.getElem?_eq_none h']at h;cases h
theorem KB.turn{n_0:Heap}{g_0 g:Nat}{Zc Zd:ZP}{s s_2 s₃:Shared}{gs gs':GenState}{h':Heap}(hg:g_0<=g)(hgs:s.gens[g]? = some gs)(hb:gs'.bare=true)(hz:∀ a,Zc a->Zd a)
  (k:Kp (Wo n_0 Zd) (s.setGen g .running) s_2) (hh:∀ b o,s_2.heap.get? b=some o->h'.get? b=some o):KB n_0 g_0 Zc s {s_2.setGen g gs' with heap:=h'}:=by
 obtain⟨h2,t2,g2,rfl,k2,c2,l2⟩:=k
 refine⟨h',t2,_,rfl,fun b o q e=>hh b o (k2 b o (fun⟨q1,q2⟩=>q.elim (fun⟨o',e'⟩=>by rw[q1]at e';cases e') fun q=>q2 (hz b q)) e),fun i x hi e=>?_,fun i x e=>?_,l2⟩
 ·have bn:i≠g:=by omega
  have e1:(s.setGen g .running).gens[i]? = some x:=by rw[bA,if_neg bn];exact e
  have e2:=c2.1 i x e1
  have:=bA (s:={s with heap:=h2,toks:=t2,gens:=g2}) (g:=g) (i:=i) (x:=gs')
  rw[if_neg bn]at this
  exact this.trans e2
 ·have h3:=bA (s:={s with heap:=h2,toks:=t2,gens:=g2}) (g:=g) (i:=i) (x:=gs')
  have e':(({s with heap:=h2,toks:=t2,gens:=g2}:Shared).setGen g gs').gens[i]? = some x:=e
  rw[h3]at e'
  by_cases bn:i=g
  ·rw[if_pos bn]at e'
   split at e'
   ·cases e';exact .inr hb
   ·cases e'
  ·rw[if_neg bn]at e'
   rcases c2.2 i x e' with q|q
   ·rw[bA,if_neg bn]at q;exact .inl q
   ·exact .inr q
theorem GSt.of{aa:Program}{w:World}{A:Around}{n_0:Heap}{g_0 g:Nat}{Zc Zd:ZP}{I:Addr}{T:Heap}{all:List Str}(hh:A.handled=none)(hroom:A.depth<recursionLimit)(hg:g_0<=g)(hzc:∀ a,Zd a↔Zc a\/a=I)(hI:¬Zc I)(hlim:T.NoLimit)(hT:∀ b o,T.get? b=some o->(∃ o',n_0.get? b=some o')/\¬Zc b) :
  ∀(xs:List Str) (s:Shared) (gs:GenState),(∃ pre,all=pre++xs)->s.heap.IsGen I g->(∀ b o,T.get? b=some o->s.heap.get? b=some o)->s.gens[g]? = some gs ->
   (∀ s'',Kp Zc s s''->(∀ a,Zc a->∃ o,s''.heap.get? a=some o)->gs.Goes (model aa w) A.in1 (GR n_0 Zd) (GY n_0 Zc Zd all) xs.length (.send .none) (s''.setGen g .running))->GSt aa w A n_0 g_0 Zc I xs s
 |[],s,gs,hpre,hi,ht,hgs,hgo=>by
  intro s_1 k hx E
  have hgs1:s_1.gens[g]? = some gs:=by obtain⟨h1,t1,g1,rfl,k1,c1,l1⟩:=k;exact c1.1 g gs hgs
  have hi_1:s_1.heap.IsGen I g:=by obtain⟨o,nm,qn,ho,r⟩:=hi;exact⟨o,nm,qn,k.get hI ho,r⟩
  have ht_1:∀ b o,T.get? b=some o->s_1.heap.get? b=some o:=fun b o e=>k.get (hT b o e).2 (ht b o e)
  refine eT (P:=fun n s_0 s_1=>n=0/\Kp (Wo n_0 Zd) s_0 s_1) hh (hlim.keeps ht_1) hroom hi_1 hgs1 (hgo s_1 k hx) (fun v s_2 gs' hb hv=>?_) (fun s_2 hp h' hk=>?_)
  ·exact(hv.2.2 s_2 (Kp.refl _ _) fun a q=>by
    obtain⟨o,e⟩:=hx a q
    exact⟨o,hv.2.1.get (fun z=>z.2 ((hzc a).mpr (.inl q))) e⟩).elim
  ·exact⟨rfl,KB.turn hg hgs1 rfl (fun a q=>(hzc a).mpr (.inl q)) (s₃:=s_2) hp.2 hk⟩
 |x::xs,s,gs,hpre,hi,ht,hgs,hgo=>by
  intro s_1 k hx E
  have hgs1:s_1.gens[g]? = some gs:=by obtain⟨h1,t1,g1,rfl,k1,c1,l1⟩:=k;exact c1.1 g gs hgs
  have hi_1:s_1.heap.IsGen I g:=by obtain⟨o,nm,qn,ho,r⟩:=hi;exact⟨o,nm,qn,k.get hI ho,r⟩
  have ht_1:∀ b o,T.get? b=some o->s_1.heap.get? b=some o:=fun b o e=>k.get (hT b o e).2 (ht b o e)
  refine eT (P:=fun n s_0 s_1=>n=0/\Kp (Wo n_0 Zd) s_0 s_1) hh (hlim.keeps ht_1) hroom hi_1 hgs1 (hgo s_1 k hx) (fun v s_2 gs' hb hv=>?_) (fun s_2 hp h' hk=>?_)
  ·obtain⟨⟨y,t,hy,rfl⟩,k_2,hkap⟩:=hv
   obtain⟨pre,rfl⟩:=hpre
   have:y=x:=by
    have e:(pre++x::xs).reverse=xs.reverse++x::pre.reverse:=by simp
    have hl:(x::xs).length-1=xs.reverse.length:=by simp
    rw[e,hl,List.getElem?_append_right (Nat.le_refl _),Nat.sub_self]at hy
    simpa using hy.symm
   subst this
   have hrun:s_2.gens[g]? = some .running:=by
    obtain⟨h1,t1,g1,rfl,k1,c1,l1⟩:=k_2
    exact c1.1 g _ (by rw[bA,if_pos rfl,if_pos (eQ hgs1)])
   refine⟨t,rfl,KB.turn hg hgs1 hb (fun a q=>(hzc a).mpr (.inl q)) (s₃:=s_2) k_2 fun _ _ e=>e,?_⟩
   refine GSt.of (all:=pre++y::xs) hh hroom hg hzc hI hlim hT xs _ gs' ⟨pre++[y],by simp⟩ ?_ (fun b o e=>?_) ?_ fun s₃ k_3 hx_3=>?_
   ·obtain⟨o,nm,qn,ho,r⟩:=hi_1
    exact⟨o,nm,qn,k_2.get (s:=s_1.setGen g .running) (fun q=>q.2 ((hzc I).mpr (.inr rfl))) ho,r⟩
   ·exact k_2.get (s:=s_1.setGen g .running) (fun q=>by obtain⟨o',e'⟩:=(hT b o e).1;rw[q.1]at e';cases e') (ht_1 b o e)
   ·rw[bA,if_pos rfl,if_pos (eQ hrun)]
   ·refine hkap (s₃.setGen g .running) ?_ hx_3
    obtain⟨h3,t3,g3,rfl,k3,c3,l3⟩:=k_3
    refine⟨h3,t3,_,rfl,k3,⟨fun i z e=>?_,fun i z e=>?_⟩,l3⟩
    ·have q:=bA (s:=({s_2.setGen g gs' with heap:=h3,toks:=t3,gens:=g3}:Shared)) (g:=g) (i:=i) (x:=.running)
     refine q.trans ?_
     by_cases bn:i=g
     ·rw[if_pos bn]
      subst bn
      rw[hrun]at e;cases e
      have:i<g3.size:=eQ (s:=({s_2.setGen i gs' with heap:=h3,toks:=t3,gens:=g3}:Shared)) (c3.1 i gs' (by rw[bA,if_pos rfl,if_pos (eQ hrun)]))
      rw[if_pos this]
     ·rw[if_neg bn]
      exact c3.1 i z (by rw[bA,if_neg bn];exact e)
    ·have q:=bA (s:=({s_2.setGen g gs' with heap:=h3,toks:=t3,gens:=g3}:Shared)) (g:=g) (i:=i) (x:=.running)
     have e':=q.symm.trans e
     by_cases bn:i=g
     ·rw[if_pos bn]at e'
      subst bn
      split at e'
      ·cases e';exact .inr rfl
      ·cases e'
     ·rw[if_neg bn]at e'
      rcases c3.2 i z e' with r|r
      ·rw[bA,if_neg bn]at r;exact .inl r
      ·exact .inr r
  ·exact absurd hp.1 (Nat.succ_ne_zero _)
theorem f6{A:Around}{af:Expr}{it:Value}{body b:List Stmt}{env:Env}{k:Result->Sem Fin}{l:List Value}{p:Pos} :
  A.over (.forLoop af it body [] env) [.ret k none false l (.func b env) p []]=A.over (.func b env) []:=by
 unfold Around.over
 congr 1
section
variable{R:GenEnd}{Y:Protocol}{n:Nat}{s_0:Shared}{c:Code}{fs:List Frame}{K:Flow->Sem Fin}{Hn:Value->Sem Fin}{gd:Bool->Bool}{lv:List Value->List Value}
theorem rI{st:Stmt}{ai:List Stmt}{L:Led}{ρ':List (Str×PV)}{s:Shared}(h:SX aa w (A.over c fs) H Z env ρ st (.next L ρ'))(F:FI H Z env ρ s)
  (hn:∀ s',FI (H.at L) Z env ρ' s'->Kp (Tn H env) s s'->Seg (model aa w) A R Y n s_0 c ((execs ai env).wrap K Hn gd lv) fs s') :
  Seg (model aa w) A R Y n s_0 c ((execs (st::ai) env).wrap K Hn gd lv) fs s:=by
 refine Ew (seg_wrap (wpM (h.run s _ F) (fun f s_1 h_1=>?_)))
 obtain⟨⟨rfl,F_1⟩,k⟩:=h_1
 exact hn s_1 F_1 k
theorem m5{af test e:Expr}{I:Addr}{fb:List Stmt}{wr:ZP}{α:Type}{φ:α->PV}{items:List α}{te:α->Bool}{fx:α->Str}{b:α->List (Str×PV)}{xs:List Str}{St:Nat->Heap->Prop}{ypos epos ipos:Pos}
  {all:List Str} {n_0:Heap} {Zc Zd:ZP} {k0:Result->Sem Fin} {l:List Value} {pp:Pos}
  (W:Src aa w (A.over (.func fb env) []) H Z af (.ref I) wr (items.map φ) St) (S:FS H.H Z env)
  (hZc:∀ a,Zc a->Z a/\¬Fa env a/\¬wr a/\¬H.D a) (hWf:∀ a,wr a->¬Fa env a/\¬H.D a) (hWo:∀ a,(Fa env a\/wr a)->Wo n_0 Zd a)
  (turn:∀ p∈items,BD aa w (A.over (.func fb env) []) H Z env ρ af xs (φ p) (b p++ρ)/\TX aa w (A.over (.func fb env) []) H Z env (b p++ρ) test (te p) /\
   (te p=true->EX aa w (A.over (.func fb env) []) H Z env (b p++ρ) e (.str (fx p))))
  (back:∀ p,∀ y q,ρ.lookup y=some q->(b p++ρ).lookup y=some q) (hco:env.scope.isCoroutine=false) (hint:interactive env=false)
  (fin:∀ s_0 s',Kp (Wo n_0 Zd) s_0 s'->Seg (model aa w) A (GR n_0 Zd) (GY n_0 Zc Zd all) 0 s_0 (.func fb env) (k0 (.ok .next)) [] s') :
  ∀(k i:Nat) (s_0 s:Shared),items.length-i=k->i<=items.length->St i s.heap->FI H Z env ρ s->Kp (Wo n_0 Zd) s_0 s->(∃ pre,all=pre++((items.drop i).filter te).map fx) ->
   Seg (model aa w) A (GR n_0 Zd) (GY n_0 Zc Zd all) ((items.drop i).filter te).length s_0 (.forLoop af (.ref I) [.If test [.Expr (.Yield (some e) ypos) epos] [] ipos] [] env)
    ((model aa w).den (.forLoop af (.ref I) [.If test [.Expr (.Yield (some e) ypos) epos] [] ipos] [] env)) [.ret k0 none false l (.func fb env) pp []] s:=by
 have kwr:∀{sa sb:Shared},Kp wr sa sb->Kp (Wo n_0 Zd) sa sb:=fun k=>k.weak fun a q=>hWo a (.inr q)
 have kfb:∀{sa sb:Shared},Kp (Fb xs env) sa sb->Kp (Wo n_0 Zd) sa sb:=fun k=>k.weak fun a q=>hWo a (.inl q.fa)
 intro k
 induction k with
 |zero =>
  intro i s_0 s hk hi hst F k_0 hall
  have hin:i=items.length:=by omega
  subst hin
  show Seg _ A _ _ _ s_0 _ ((forTurn af (.ref I) [.If test [.Expr (.Yield (some e) ypos) epos] [] ipos] [] env).onRaise (fun x=>do noteFrame x env;theTreesLotGoes x)) _ s
  unfold forTurn
  rw[Sem.onRaise_eq_wrap,List.drop_length]
  refine Bm (Ag ?_)
  refine Bm (Ea ?_)
  rw[f6]
  refine wpM (W.done s _ F.toGT (by rw[List.length_map];exact hst)) (fun r s₃ h_3=>?_)
  obtain⟨rfl,k_3⟩:=h_3
  refine seg_again rfl ?_
  exact seg_leaf (.ok .next) (fin s_0 s₃ (k_0.trans (kwr k_3)))
 |succ k ih =>
  intro i s_0 s hk hi hst F k_0 hall
  have hlt:i<items.length:=by omega
  have hgt:items[i]? = some items[i]:=Al hlt
  have hgt':(items.map φ)[i]? = some (φ items[i]):=by rw[List.getElem?_map,hgt];rfl
  have hmem:items[i]∈items:=Co hlt
  have hd':items.drop i=items[i]::items.drop (i+1):=Ez hlt
  obtain⟨B,T,V⟩:=turn _ hmem
  show Seg _ A _ _ _ s_0 _ ((forTurn af (.ref I) [.If test [.Expr (.Yield (some e) ypos) epos] [] ipos] [] env).onRaise (fun x=>do noteFrame x env;theTreesLotGoes x)) _ s
  unfold forTurn
  rw[Sem.onRaise_eq_wrap]
  refine Bm (Ag ?_)
  refine Bm (Ea ?_)
  rw[f6]
  refine B1 (W.item i _ s _ hgt' F.toGT hst) (fun r s_2 h_2=>?_) fun _ _ x=>Ag x
  obtain⟨u,rfl,h_2⟩:=h_2
  refine Bm ?_
  rw[f6]
  refine wpM h_2 (fun _ s₃ h_3=>?_)
  obtain⟨ru,st3,k_3⟩:=h_3
  have F_3:=FI.frame (H:=H) S F k_3 (fun a q=>⟨W.wz a q,(hWf a q).1⟩) (fun a q=>(hWf a q).2) (W.ex _ _ st3)
  refine Bm ?_
  rw[f6]
  refine wpM (B s₃ _ u F_3 ru) (fun _ s_4 h_4=>?_)
  obtain⟨F4,k_4⟩:=h_4
  have faZ:∀ a,Fa env a->Z a:=fun a q=>by
   rcases q with q|⟨y,q⟩
   ·subst q;exact S.zl
   ·exact(F.zc y a q).1
  have st4:St (i+1) s_4.heap:=W.frame _ _ _ st3 fun b o hb e=>k_4.get (fun q=>hb.elim (fun q'=>(hWf b q').1 q.fa) fun q'=>q' (faZ b q.fa)) e
  rw[Sem.bind_eq_wrap',Sem.wrap_wrap]
  refine Ew ?_
  show Seg _ A _ _ _ s_0 _ ((standAt ipos >>= fun _=>isTrue test env (eval test env) >>= fun c=>if c then execs [.Expr (.Yield (some e) ypos) epos] env else execs [] env).wrap _ _ _ _) _ s_4
  refine Bm (Ag ?_)
  refine Bm ?_
  rw[f6]
  refine wpM (T.run s_4 _ F4) (fun c s5 h_5=>?_)
  obtain⟨rfl,k5⟩:=h_5
  have F5:=F4.kp0 k5
  have st5:St (i+1) s5.heap:=W.frame _ _ _ st4 fun b o _ e=>k5.get (fun q=>q) e
  have k05:Kp (Wo n_0 Zd) s_0 s5:=((k_0.trans (kwr k_3)).trans (kfb k_4)).trans k5.z
  rw[hd']at hall ⊢
  cases hte:te items[i]with
  |false =>
   rw[List.filter_cons_of_neg (by simp[hte])]at hall ⊢
   exact seg_again rfl (ih (i+1) s_0 s5 ‹o› hlt st5 (F5.forget (back _)) k05 hall)
  |true =>
   rw[List.filter_cons_of_pos hte]at hall ⊢
   rw[List.length_cons]
   obtain⟨pre,hpre⟩:=hall
   refine Ew ?_
   refine seg_Expr_Yield rfl rfl rfl ?_ hco hint
   rw[f6]
   refine wpM ((V hte).run s5 _ F5) (fun v s_6 h_6=>?_)
   obtain⟨hv,k_6⟩:=h_6
   have F6:=F5.kp0 k_6
   have st6:St (i+1) s_6.heap:=W.frame _ _ _ st5 fun b o _ e=>k_6.get (fun q=>q) e
   intro kap hkap
   obtain⟨t,rfl⟩:=Rp.strI hv
   refine⟨⟨fx items[i],t,?_,rfl⟩,k05.trans k_6.z,fun s'' k'' hx''=>hkap .none s'' ?_⟩
   ·rw[hpre,List.map_cons]
    have e1:(pre++fx items[i]::List.map fx ((items.drop (i+1)).filter te)).reverse=(List.map fx ((items.drop (i+1)).filter te)).reverse++fx items[i]::pre.reverse:=by simp
    have hl:((items.drop (i+1)).filter te).length=(List.map fx ((items.drop (i+1)).filter te)).reverse.length:=by simp
    rw[e1,hl,List.getElem?_append_right (Nat.le_refl _),Nat.sub_self];rfl
   ·have F'':=FI.frame (H:=H) S F6 k'' (fun a q=>⟨(hZc a q).1,(hZc a q).2.1⟩) (fun a q=>(hZc a q).2.2.2) hx''
    have st'':St (i+1) s''.heap:=W.frame _ _ _ st6 fun b o hb e=>k''.get (fun q=>hb.elim (fun q'=>(hZc b q).2.2.1 q') fun q'=>q' (hZc b q).1) e
    exact seg_again rfl (ih (i+1) s'' s'' ‹o› hlt st'' (F''.forget (back _)) (Kp.refl _ _) ⟨pre++[fx items[i]],by rw[hpre];simp⟩)
end
section
theorem qR{af iter test e:Expr}{fb:List Stmt}{α:Type}{φ:α->PV}{items:List α}{te:α->Bool}{fx:α->Str}{b:α->List (Str×PV)}{xs:List Str}{pos ypos epos ipos:Pos}
  {all:List Str} {n_0:Heap} {Zc Zd:ZP} {s_0 s:Shared} {K:Flow->Sem Fin} {Hn:Value->Sem Fin}
  (S:FS H.H Z env) (hI:IX aa w (A.over (.func fb env) []) H Z env ρ af iter (items.map φ)) (F:FI H Z env ρ s) (hs:∀ x,foldedSetIterable iter env x=pure x)
  (hZc:∀ a,Zc a->Z a/\¬Fa env a/\¬H.D a) (hWo:∀ a,Fa env a->Wo n_0 Zd a) (hZd:∀ a,Zd a->∃ o,s.heap.get? a=some o) (hn_0:∀ b o,n_0.get? b=some o->s.heap.get? b=some o)
  (turn:∀ Z':Addr->Prop,(∀ a,Z a->Z' a)->FS H.H Z' env->∀ p∈items,BD aa w (A.over (.func fb env) []) H Z' env ρ af xs (φ p) (b p++ρ)/\TX aa w (A.over (.func fb env) []) H Z' env (b p++ρ) test (te p) /\
   (te p=true->EX aa w (A.over (.func fb env) []) H Z' env (b p++ρ) e (.str (fx p))))
  (back:∀ p,∀ y q,ρ.lookup y=some q->(b p++ρ).lookup y=some q) (hco:env.scope.isCoroutine=false)
  (fin:∀ s_0 s',Kp (Wo n_0 Zd) s_0 s'->Seg (model aa w) A (GR n_0 Zd) (GY n_0 Zc Zd all) 0 s_0 (.func fb env) (K .next) [] s') (k_0:Kp (Wo n_0 Zd) s_0 s) (hall:all=(items.filter te).map fx) :
  Seg (model aa w) A (GR n_0 Zd) (GY n_0 Zc Zd all) (items.filter te).length s_0 (.func fb env) ((execs [.For af iter [.If test [.Expr (.Yield (some e) ypos) epos] [] ipos] [] pos] env).wrap K Hn id id) [] s:=by
 refine Ew ?_
 show Seg _ A _ _ _ s_0 _ ((standAt pos >>= fun _=>eval iter env >>= fun v=>foldedSetIterable iter env v >>= fun x=>standAt iter.pos >>= fun _=>holding [x] (pyIter x) >>= fun it =>
  runOwn (.forLoop af it [.If test [.Expr (.Yield (some e) ypos) epos] [] ipos] [] env) env).wrap _ _ _ _) _ s
 refine Bm (Ag ?_)
 refine Bm (wpM (hI.run s _ F) (fun v s_1 h_1=>?_))
 refine Bm (Aa (hs v) ?_)
 refine Bm (Ag ?_)
 refine Bm (A5 (wpM h_1 (fun it s_2 h_2=>?_)))
 obtain⟨k02,I,rfl,wr,wI,hwr,hsrc⟩:=h_2
 let Z':Addr->Prop:=fun a=>Z a\/wr a
 have hzz:∀ a,Z a->Z' a:=fun a z=>.inl z
 have hzn:∀ a,Z' a->¬Z a->s.heap.get? a=none:=fun a q nz=>q.elim (fun z=>absurd z nz) fun q=>(hwr a q).1
 obtain⟨St,st0,W⟩:=hsrc Z' hzz (fun a q=>.inr q) (fun a q=>q.elim .inl fun q=>.inr (.inl q))
 have S':FS H.H Z' env:=⟨fun a q=>q.elim (S.zt a) fun q=>F.none (hwr a q).1,S.fn,S.gl,S.bl,.inl S.zl,S.ap⟩
 have F_2:FI H Z' env ρ s_2:=F.widen k02 hzz hzn fun a q=>by
  rcases q with q|q
  ·obtain⟨o,e⟩:=F.zex a q;exact⟨o,k02.get (fun q=>q) e⟩
  ·exact(hwr a q).2
 have faZ:∀ a,Fa env a->Z a:=fun a q=>by
  rcases q with q|⟨y,q⟩
  ·subst q;exact S.zl
  ·exact(F.zc y a q).1
 have wZ:∀ a,wr a->¬Z a:=fun a q z=>by obtain⟨o,e⟩:=F.zex a z;rw[(hwr a q).1]at e;cases e
 refine seg_call fun p=>?_
 refine m5 (St:=St) (wr:=wr) (b:=b) (xs:=xs) (φ:=φ) (fx:=fx) (te:=te) (items:=items) (ρ:=ρ) (Z:=Z') (H:=H) W S' (fun a q=>⟨.inl (hZc a q).1,(hZc a q).2.1,fun q'=>wZ a q' (hZc a q).1,(hZc a q).2.2⟩)
  (fun a q=>⟨fun q'=>wZ a q (faZ a q'),fun q'=>wZ a q (F.dz a q')⟩) (fun a q=>q.elim (hWo a) fun q=>⟨?_,fun q'=>?_⟩) (turn Z' hzz S') back hco (by unfold interactive;rw[S.fn];rfl) ?_ items.length 0 s_0 s_2 (Nat.sub_zero _) (Ap _) st0 F_2 (k_0.trans k02.z) ⟨[],by rw[hall];simp⟩
 ·cases e:n_0.get? a with
  |none=>rfl
  |some o=>have:=hn_0 a o e;rw[(hwr a q).1]at this;cases this
 ·obtain⟨o,e⟩:=hZd a q'
  rw[(hwr a q).1]at e;cases e
 ·exact fun s_0 s' k=>fin s_0 s' k
end
structure Dg(T:Heap)(a:Addr)(fd:FuncData)(body:List Stmt)(names:List Str):Prop where
 obj:∃ o,T.get? a=some o/\o.data=.func fd
 code:T.CodeRec fd.code fd.qualname
 body:fd.body=.stmts body
 bind:∀ ba:List Value,ba.length=names.length->bindArgs fd ⟨ba,[]⟩=pure (names.zip ba)
 clo:fd.closure=[]
 gl:fd.globals=mainGlobals
 bl:fd.builtins=builtinsNs
 nd:names.Nodup
 kinds:∀ L,∀ x∈names,fd.scope.names.lookup x=some .local\/(fd.scope.names.lookup x=some .cell/\((cellsFrom (L+1) fd.scope.names []).lookup x).isSome=true)
 co:fd.scope.isCoroutine=false
 gen:fd.scope.isGenerator=true
 kind:fd.scope.kind=.function
structure oL(T:Heap)(nm:Str)(B:List Stmt)(S:Scope)(names:List Str)(a:Addr):Prop where
 gl:Gl T nm (.ref a)
 df:∃ fd,Dg T a fd B names/\fd.scope=S
def yQ(aa:Program)(w:World)(T:Heap)(n:Nat)(names:List Str)(ps:List PV)(B:List Stmt)(sc:List (Str×NameKind))(xs:List Str):Prop :=
 ∀(A:Around) (Z Zc Zd:ZP) (env:Env) (n_0:Heap) (s:Shared),Rm n (A.over (.func B env) [])->FS T Z env->EO env sc->env.scope.isCoroutine=false->(∀ a,Zc a->Z a/\¬Fa env a)->(∀ a,Fa env a->Wo n_0 Zd a) ->
  (∀ a,Zd a->∃ o,s.heap.get? a=some o)->(∀ b o,n_0.get? b=some o->s.heap.get? b=some o)->FI ⟨T,N0,[],0⟩ Z env (names.zip ps) s ->
  Seg (model aa w) A (GR n_0 Zd) (GY n_0 Zc Zd xs) xs.length s (.func B env) ((model aa w).den (.func B env)) [] s
theorem lX{a b:Array GenState}(x:GnK a b):a.size<=b.size:=by
 rcases C4 b.size a.size with h|h
 ·have:=x.1 b.size _ (Ck h)
  rw[Array.getElem?_eq_none (Nat.le_refl _)]at this;cases this
 ·exact h
theorem Kp.gens{Z:ZP}{s s':Shared}(k:Kp Z s s'):GnK s.gens s'.gens:=by
 obtain⟨h1,t1,g1,rfl,k1,c1,l1⟩:=k
 exact c1
theorem Rm.over{n:Nat}{A:Around}{B:List Stmt}{env:Env}(x:Rm (n+1) A):Rm n (A.in1.over (.func B env) []) :=
 ⟨x.hd,by have:=x.dp;show A.depth+0+1+8*n+8<recursionLimit;omega,by have:=x.un;show A.units+1+0+3+32*n+64<cLine;omega⟩
section
theorem GX.fn{x:Str}{aj pos:Pos}{e:Expr}{ai:List Expr}{B:List Stmt}{Sc:Scope}{names:List Str}{a:Addr}{n:Nat}{ps:List PV}{xs:List Str}(S:FS H.H Z env)(eo:EO env sc)(R:Rm (n+1) A)(hlim:H.H.NoLimit)(F:oL H.H x B Sc names a)
  (hx:sc.lookup x=some .globalImplicit) (hd:(x==("__debug__" : Str))=false) (hS:Sc.names.all (fun x=>x.2 != .free)=true) (bo:ps.length=names.length)
  (hl:LX aa w A H Z env ρ pos (e::ai) ps) (hb:yQ aa w H.H n names ps B Sc.names xs)
  (hs:starEach (e::ai) env=(false,eval e env)::starEach ai env)
  (he:eval (.Call (.Name x aj) (e::ai) [] pos) env=(do callWith pos (<-eval (.Name x aj) env) [] (backTo pos (starEach (e::ai) env)) (backToKw pos (keywordEach [] env)))) :
  GX aa w A H Z env ρ (.Call (.Name x aj) (e::ai) [] pos) (n+1) xs:=by
 obtain⟨fd,D,rfl⟩:=F.df
 refine⟨fun s E FF=>?_⟩
 refine Call_ (wpM ((NM.glob S (by rw[eo.kind];exact hx) F.gl hd) s E ρ aj FF) (fun u s' q=>?_)) he
 obtain⟨rfl,rfl⟩:=q
 obtain⟨o,ho,hdat⟩:=D.obj
 refine callWith_def hdat (wpM (hl.run s' E FF) (fun vs s_2 h_2=>⟨(FF.kp0 h_2.2).top _ _ ho,?_⟩)) hs
 obtain⟨P,k02⟩:=h_2
 have G:=(FF.kp0 k02).toGS
 have hvl:vs.length=names.length:=by rw[(a8 P).1,bo]
 have hm:(names.zip vs).map (·.1)=names:=by
  rw[List.map_fst_zip];omega
 have top:∀ b o,H.H.get? b=some o->s_2.heap.get? b=some o:=G.top
 refine Ao (A4 _) ?_
 refine B6 (codeAny_call_generator (by have:=R.dp;omega) (top _ _ ho) hdat D.co D.gen D.body (D.code.keeps top) ?_)
 rw[D.bind vs hvl,D.clo]
 refine A1 (Da D.kind (fun x hx=>D.kinds _ x.1 ?_) fun genv hge s₃ X=>?_)
 ·have:x.1∈(names.zip vs).map (·.1):=Bp hx
  rwa [hm]at this
 have hge':genv=callEnvC fd s_2.heap.objs.size a:=hge
 clear hge
 subst hge'
 generalize hL:s_2.heap.objs.size=L at *
 have keep3:∀ b o,s_2.heap.get? b=some o->s₃.heap.get? b=some o:=X.toInCall.keep
 refine⟨(hlim.keeps top).keeps keep3,?_⟩
 have hloc:(callEnvC fd L a).locals=L:=rfl
 have hcel:∀ x c,(callEnvC fd L a).cells.lookup x=some c->L<c:=fun x c e=>by
  rcases aF e with q|q
  ·simp at q
  ·exact q
 have hfa:∀ b,Fa (callEnvC fd L a) b->L<=b:=fun b q=>by
  rcases q with q|⟨y,q⟩
  ·rw[q,hloc];exact A4 _
  ·exact Dw (hcel y b q)
 have hnew:∀ b,Fa (callEnvC fd L a) b->s_2.heap.get? b=none:=fun b q=>aE _ (hL▸hfa b q)
 obtain⟨h_1,t_1,hs_1,_⟩:=X.done
 intro htk
 have kfin:Kp N0 s' {s₃ with gens:=s₃.gens.push (.fresh (.func B (callEnvC fd L a))),toks:=s₃.toks+1+1,heap:=s₃.heap.push {cls:=.type "generator",data:=.fields #[.int s₃.gens.size 0,.str fd.name s₃.toks,.str fd.qualname (s₃.toks+1)]}}:=by
  refine k02.trans ?_
  subst hs_1
  refine⟨_,_,_,rfl,fun b o _ e=>A2 _ (keep3 b o e),⟨fun i x e=>?_,fun i x e=>?_⟩,htk⟩
  ·rw[Array.getElem?_push,if_neg (Nat.ne_of_lt (eQ e))];exact e
  ·rw[Array.getElem?_push]at e
   split at e
   ·cases e;exact .inr rfl
   ·exact .inl e
 refine⟨_,rfl,kfin,⟨⟨s₃.gens.size,_,_,_,A3 _ rfl,rfl,rfl,rfl⟩,fun b o e=>kfin.get (fun q=>q) e,?_⟩⟩
 intro A' R' Zc hZc s_4 k_4 hx4
 generalize hI:s₃.heap.objs.size=I at *
 have keep4:∀ b o,s₃.heap.get? b=some o->s_4.heap.get? b=some o:=fun b o e=>k_4.get (fun q=>q) (A2 _ e)
 have hgI:s_4.heap.IsGen I s₃.gens.size:=⟨_,_,_,k_4.get (fun q=>q) (hI▸A3 _ rfl),rfl,rfl,rfl⟩
 have hZI:¬Zc I:=fun q=>by
  have:=hZc I q
  have e2:(s₃.heap.push {cls:=.type "generator",data:=.fields #[.int s₃.gens.size 0,.str fd.name s₃.toks,.str fd.qualname (s₃.toks+1)]}).get? I=some _:=hI▸A3 _ rfl
  rw[show(s₃.heap.push {cls:=.type "generator",data:=.fields #[.int s₃.gens.size 0,.str fd.name s₃.toks,.str fd.qualname (s₃.toks+1)]}).get? I=none from this]at e2
  cases e2
 have hZ3:∀ b o,s₃.heap.get? b=some o->¬Zc b:=fun b o e q=>by
  have:=hZc b q
  have e2:=A2 {cls:=.type "generator",data:=.fields #[.int s₃.gens.size 0,.str fd.name s₃.toks,.str fd.qualname (s₃.toks+1)]} e
  rw[show(s₃.heap.push {cls:=.type "generator",data:=.fields #[.int s₃.gens.size 0,.str fd.name s₃.toks,.str fd.qualname (s₃.toks+1)]}).get? b=none from this]at e2
  cases e2
 have hg0:s'.gens.size<=s₃.gens.size:=by
  have:=lX k02.gens
  subst hs_1;exact this
 have hgs:s_4.gens[s₃.gens.size]? = some (.fresh (.func B (callEnvC fd L a))):=k_4.gens.1 _ _ (Fm ..)
 refine GSt.of (g:=s₃.gens.size) (Zd:=fun a=>Zc a\/a=I) (T:=H.H) (all:=xs) R'.hd (by have:=R'.dp;omega) hg0 (fun a=>Iff.rfl) hZI hlim (fun b o e=>⟨⟨o,FF.top b o e⟩,hZ3 b o (keep3 b o (top b o e))⟩) xs s_4 _ ⟨[],rfl⟩ hgI (fun b o e=>keep4 _ _ (keep3 _ _ (top b o e))) hgs fun s5 k5 hx_5=>⟨rfl,?_⟩
 have keep5:∀ b o,s₃.heap.get? b=some o->s5.heap.get? b=some o:=fun b o e=>k5.get (hZ3 b o e) (keep4 b o e)
 have hfx:∀ b,Fa (callEnvC fd L a) b->∃ o,s₃.heap.get? b=some o:=fun b q=>by
  rcases q with q|⟨y,q⟩
  ·subst q;obtain⟨o,_,_,e,_⟩:=X.toInCall.ns;exact⟨o,e⟩
  ·obtain⟨o,e,_⟩:=X.cell y b q;exact⟨o,e⟩
 refine hb A'.in1 (fun b=>Zc b\/Fa (callEnvC fd L a) b) Zc (fun a=>Zc a\/a=I) (callEnvC fd L a) s'.heap (s5.setGen s₃.gens.size .running) R'.over ?_ (EO.fn hS) D.co (fun b q=>⟨.inl q,fun q'=>?_⟩) (fun b q=>⟨?_,fun q'=>?_⟩) (fun b q=>?_) (fun b o e=>keep5 b o (keep3 b o (k02.get (fun q=>q) e))) ?_
 ·refine⟨fun b q=>q.elim (fun q=>?_) fun q=>G.none (hnew b q),D.kind,D.gl,D.bl,.inr (.inl rfl),?_⟩
  ·cases e:H.H.get? b with
   |none=>rfl
   |some o=>exact absurd q (hZ3 b o (keep3 b o (top b o e)))
  ·exact bK (fun x y c h=>by simp at h) (fun x c h=>by simp at h)
 ·obtain⟨o,e⟩:=hfx b q'
  exact hZ3 b o e q
 ·cases e:s'.heap.get? b with
  |none=>rfl
  |some o=>have:=k02.get (fun q=>q) e;rw[hnew b q]at this;cases this
 ·obtain⟨o,e⟩:=hfx b q
  rcases q' with q' |q'
  ·exact hZ3 b o e q'
  ·rw[q']at e;exact absurd (Ac e) (by rw[hI];exact At _)
 ·rcases q with q|q
  ·exact hx_5 b q
  ·obtain⟨g,o,nm,qn,ho,r⟩:=(⟨_,hgI⟩:∃ g,s_4.heap.IsGen I g)
   exact⟨o,by rw[q];exact k5.get hZI ho⟩
 ·have rp:∀{p:PV} {v:Value},Rp Z s_2.heap p v->Rp (fun b=>Zc b\/Fa (callEnvC fd L a) b) s5.heap p v:=fun x=>(x.sub fun b o e q=>q.elim (fun q=>absurd q (hZ3 b o (keep3 b o e))) fun q=>by rw[hnew b q]at e;cases e).keep fun b o _ e=>keep5 b o (keep3 b o e)
  refine⟨⟨⟨fun b o e=>keep5 b o (keep3 b o (top b o e)),fun b q=>?_⟩,Ap _,fun a d=>d.elim,fun a m e=>by simp at e⟩,⟨_,X.toInCall.ns.keeps keep5,fun x p e l=>?_⟩,fun x p e l=>?_,fun x c e=>⟨.inr (.inr ⟨x,e⟩),_,(X.cell x c e).keeps keep5⟩,fun a d=>d.elim⟩
  ·rcases q with q|q
   ·exact hx_5 b q
   ·obtain⟨o,e⟩:=hfx b q;exact⟨o,keep5 b o e⟩
  ·obtain⟨v,hv,rv⟩:=bQ P e
   exact⟨v,fA (by rw[hm];exact D.nd) hv l,rp rv⟩
  ·obtain⟨v,hv,rv⟩:=bQ P e
   have hx:x∈names:=by
    have:=Bp (f:=Prod.fst) hv
    rwa [hm]at this
   have l':fd.scope.names.lookup x≠some .local:=l
   rcases D.kinds L x hx with q|⟨q1,q2⟩
   ·exact absurd q l'
   ·obtain⟨c,hc⟩:=Ar.mp q2
    refine⟨.inl q1,c,v,hc,?_,rp rv⟩
    have:=(X.cell x c hc).keeps keep5
    rwa [eV (by rw[hm];exact D.nd) hv l]at this
theorem SX.doc{x:Str}{k:Nat}{p pos:Pos}(hi:interactive env=false):SX aa w A H Z env ρ (.Expr (.Constant (.str x) k p) pos) (.next H.L ρ) :=
 ⟨fun s E F=>wpAny_Expr (hi:=hi) (Av ⟨⟨rfl,F.kp0 (Kp.toks N0 s (s.toks+1))⟩,Kp.toks _ _ _⟩)⟩
theorem SX.try{body:List Stmt}{h_0:ExceptHandler}{hs:List ExceptHandler}{pos:Pos}{L:Led}{ρ':List (Str×PV)}(h:SXs aa w A H Z env ρ body (.next L ρ')):SX aa w A H Z env ρ (.Try body (h_0::hs) [] [] pos) (.next L ρ'):=by
 refine⟨fun s E F=>?_⟩
 refine Fu (wpM (h.run s _ F) (fun f s_1 h_1=>?_))
 obtain⟨⟨rfl,F_1⟩,k⟩:=h_1
 exact C8 ⟨⟨rfl,F_1⟩,k⟩
theorem EX.pick2{k1 k2 k:Int}{v1 v2 r:Str}{n1 n2 n3 n4:Nat}{p1 p2 p3 p4 bh pos:Pos}{az:Expr}(hn:k1≠k2)(hi:EX aa w A H Z env ρ az (.int k))(hr:(k=k1/\r=v1)\/(k=k2/\r=v2))
  (hs:∀ a u,subscripted az false (.ref a) (.int k u)=operate [.ref a,.int k u] (getItem (.ref a) (.int k u))) :
  EX aa w A H Z env ρ (.Subscript (.Dict [some (.Constant (.int k1) n1 p1),some (.Constant (.int k2) n2 p2)] [.Constant (.str v1) n3 p3,.Constant (.str v2) n4 p4] bh) az pos) (.str r):=by
 refine⟨fun s E F=>?_⟩
 refine Ao (A4 s.toks) ?_
 refine Et ?_
 have hall:([some (Expr.Constant (.int k1) n1 p1),some (.Constant (.int k2) n2 p2)]:List (Option Expr)).all (·.isSome)=true:=rfl
 have bo:([some (Expr.Constant (.int k1) n1 p1),some (.Constant (.int k2) n2 p2)]:List (Option Expr)).length=[Expr.Constant (.str v1) n3 p3,.Constant (.str v2) n4 p4].length:=rfl
 refine wpAny_Dict_walk (knd:=intKind aa w) hall bo (List.cons_ne_nil _ _) (by show 2<=15;decide) ?_
 refine De ?_
 refine Ce ?_
 refine Av ?_
 refine De ?_
 refine Ce ?_
 refine Av ?_
 refine pairTrees_nil_walk ?_
 have c1:(intKind aa w).is k1 (.int k1 s.toks)=true:=by simp[intKind,Value.isInt]
 have c2:(intKind aa w).is k2 (.int k2 (s.toks+1+1))=true:=by simp[intKind,Value.isInt]
 refine⟨[(k1,Value.str v1 (s.toks+1)),(k2,Value.str v2 (s.toks+1+1+1))],?_,?_,fun h' hd hsb=>?_⟩
 ·exact And.intro c1 (And.intro rfl (And.intro c2 (And.intro rfl trivial)))
 ·exact⟨{cls:=.type "dict",data:=.dict #[]},#[],0,A3 _ rfl,⟨rfl,rfl,rfl⟩,rfl,(fun e he=>by simp at he),Pairs.nil,List.Pairwise.nil⟩
 have k0:Kp N0 s {s with heap:=h',toks:=s.toks+1+1+1+1+2}:=Kp.mk (tk:=s.toks+1+1+1+1+2) fun b o _ e=>hsb.extBut b o (Au (Ac e)) (A2 _ e)
 refine wpM (hi.run _ _ (F.kp0 k0)) (fun u s_2 h_2=>?_)
 obtain⟨hu,k_2⟩:=h_2
 obtain⟨t,rfl⟩:=Rp.intI hu
 have M:=fN hd.mapOf (h':=s_2.heap) fun b o e=>k_2.get (fun q=>q) e
 have hv:∃ t',valueAt (merged [] [(k1,Value.str v1 (s.toks+1)),(k2,Value.str v2 (s.toks+1+1+1))]) k=some (.str r t'):=by
  rw[merged_nil_of_nodup _ (by simp[hn])]
  rcases hr with⟨rfl,rfl⟩|⟨rfl,rfl⟩
  ·exact⟨s.toks+1,by simp[valueAt]⟩
  ·exact⟨s.toks+1+1+1,by simp[valueAt,hn]⟩
 obtain⟨t',hv⟩:=hv
 refine fM M.typeIs slot_dict_getitem.lookup (wpAny_getItem_of (knd:=intKind aa w) (k:=k) (by simp[intKind,Value.isInt]) M hv fun htk=>⟨.str _ _,?_⟩) (hs _ t)
 exact(k0.trans k_2).trans (Kp.toks _ _ _)
end
local macro_rules | `(tactic|walk_at "st")=>do
 let i (n:Lean.Name):Lean.Ident:=Lean.mkIdent n
 `(tactic|repeat (any_goals (first|(with_reducible first|refine A1 ?_|refine A0 ?_|refine A5 ?_|refine Ag ?_|refine Bl ?_|refine Aa $(i `f1) ?_|refine Aa $(i `f2) ?_|refine Aa $(i `f3) ?_|refine Aa $(i `f4) ?_|refine Aa $(i `f5) ?_|refine C9 $(i `hT) ?_)|wp_delta|assumption|wp_step)))
theorem iA:typeLookup (.type "str") "__int__" = pure none:=by rw[typeLookup_type,builtinLookup_eq_fast];kernel_rfl
theorem fB:typeLookup (.type "str") "__index__" = pure none:=by rw[typeLookup_type,builtinLookup_eq_fast];kernel_rfl
theorem fO:typeLookup (.type "str") "__trunc__" = pure none:=by rw[typeLookup_type,builtinLookup_eq_fast];kernel_rfl
theorem vV{M:Model}{A:Around}{α:Type}{t t':Sem α}{Q:α->Shared->Prop}{E:ZV}{s:Shared}(e:t=t')(h:wpAny M A t' Q E s):wpAny M A t Q E s:=e▸h
def nS(x:Str):Option Int:=if x = "1" then some 1 else if x = "2" then some 2 else if x = "3" then some 3 else none
theorem jV(t:Tok):Meets (Builtin.«int.__new__» ⟨[.type "int",.str "1" t],[]⟩) (Made.int 1).spec :=
 Ge fun aa w A R s hs=>by
  obtain⟨hp,g,d,tk,os⟩:=s
  have f1:=Gf
  have f2:=Gg
  have hT:(⟨hp,g,d,tk,os⟩:Shared).TypeIs (.str "1" t) "str":=rfl
  have f3:=iA
  have f4:=fB
  have f5:=fO
  walk_at "st"
  refine vV (t':=mkInt 1) ⋯ ?_
  walk_at "st"
  exact⟨_,rfl,hs⟩
theorem k9(t:Tok):Meets (Builtin.«int.__new__» ⟨[.type "int",.str "2" t],[]⟩) (Made.int 2).spec :=
 Ge fun aa w A R s hs=>by
  obtain⟨hp,g,d,tk,os⟩:=s
  have f1:=Gf
  have f2:=Gg
  have hT:(⟨hp,g,d,tk,os⟩:Shared).TypeIs (.str "2" t) "str":=rfl
  have f3:=iA
  have f4:=fB
  have f5:=fO
  walk_at "st"
  refine vV (t':=mkInt 2) ⋯ ?_
  walk_at "st"
  exact⟨_,rfl,hs⟩
theorem jY(t:Tok):Meets (Builtin.«int.__new__» ⟨[.type "int",.str "3" t],[]⟩) (Made.int 3).spec :=
 Ge fun aa w A R s hs=>by
  obtain⟨hp,g,d,tk,os⟩:=s
  have f1:=Gf
  have f2:=Gg
  have hT:(⟨hp,g,d,tk,os⟩:Shared).TypeIs (.str "3" t) "str":=rfl
  have f3:=iA
  have f4:=fB
  have f5:=fO
  walk_at "st"
  refine vV (t':=mkInt 3) ⋯ ?_
  walk_at "st"
  exact⟨_,rfl,hs⟩
theorem jG{x:Str}{i:Int}(t:Tok)(hx:nS x=some i):Meets (Builtin.«int.__new__» ⟨[.type "int",.str x t],[]⟩) (Made.int i).spec:=by
 unfold nS at hx
 split at hx
 ·rename_i e;cases hx;rw[e];exact jV t
 ·split at hx
  ·rename_i e;cases hx;rw[e];exact k9 t
  ·split at hx
   ·rename_i e;cases hx;rw[e];exact jY t
   ·cases hx
section
theorem CB.intF{x:Str}{i:Int}(hx:nS x=some i):CB aa w A H Z (.type "int") [.str x] (.int i):=by
 intro s E vs G P
 obtain⟨_,_,rfl,h1,P⟩:=aI P
 obtain rfl:=cX P
 obtain⟨t,rfl⟩:=Rp.strI h1
 exact call_int_1 (jG t hx) (show(Made.int i).post _ s from⟨rfl,.int _ _,Kp.toks _ _ _⟩)
theorem CB.intI{i:Int}:CB aa w A H Z (.type "int") [.int i] (.int i):=by
 intro s E vs G P
 obtain⟨_,_,rfl,h1,P⟩:=aI P
 obtain rfl:=cX P
 obtain⟨t,rfl⟩:=Rp.intI h1
 exact call_int_int ⟨.int _ _,Kp.refl _ _⟩
end
structure EXp(aa:Program)(w:World)(A:Around)(H:Ctx)(Z:ZP)(env:Env)(ρ:List (Str×PV))(e:Expr)(p:PV):Prop where
 run:∀ s (E:ZV),FI H Z env ρ s->wpAny (model aa w) A (eval e env) (fun v s'=>Rp Z s'.heap p v/\Kp N0 s s'/\1<=s'.toks) E s
section
variable{n:Nat}{xs:List Str}
theorem EXp.joinG{sep:Str}{k0:Nat}{p0:Pos}{e:Expr}{aq pos:Pos}{pl:Sem Bool}(R:Rm (n+2) A)(h:GX aa w A H Z env ρ e n xs)(hn:xs.length<=sizeLine)(hok:JoinOk sep xs=true)
  (he:eval (.Call (.Attribute (.Constant (.str sep) k0 p0) "join" aq) [e] [] pos) env=(do
   let ov <-eval (.Constant (.str sep) k0 p0) env
   standAt aq.atName
   let(f,first) <-holding [ov] (getMethod ov "join" pl)
   callWith pos f first (backTo pos (starEach [e] env)) []))
  (hs:starEach [e] env=(false,eval e env)::starEach [] env) (hplain:(backTo pos (starEach [] env)).any (·.1)=false):EXp aa w A H Z env ρ (.Call (.Attribute (.Constant (.str sep) k0 p0) "join" aq) [e] [] pos) (.str (Txt.join sep xs)):=by
 refine⟨fun s E F=>?_⟩
 refine Br (pl:=pl) (Av ?_) he
 have k:Kp N0 s {s with toks:=s.toks+1}:=Kp.toks _ _ _
 refine GMs.join.run _ E sep _ pl _ _ rfl (Bx (B2 (wpM (h.run _ E (F.kp0 k)) (fun v s_2 h_2=>Bt ?_)) hs) hs hplain)
 obtain⟨I,rfl,k_2,G⟩:=h_2
 refine qM ⟨R.hd,?_,?_⟩ G hn hok fun s₃ u k'=>⟨.str _ _,k.trans (k'.kp k_2),A7 (Nat.le_add_left 1 s.toks) (k'.kp k_2).tk⟩
 ·have:=R.dp;show A.depth+8*(n+1)+8<recursionLimit;omega
 ·have:=R.un;show A.units+1+32*(n+1)+64<cLine;omega
theorem EX.replC{o:Expr}{x y z:Str}{k1 k2:Nat}{p1 p2 aq pos:Pos}{pl:Sem Bool}(ho:EXp aa w A H Z env ρ o (.str x))(hb:x.length+(x.length+1)*z.length<=16777216)(hnb:NoneBooked H.H)
  (he:eval (.Call (.Attribute o "replace" aq) [.Constant (.str y) k1 p1,.Constant (.str z) k2 p2] [] pos) env=(do
   let ov <-eval o env
   standAt aq.atName
   let(f,first) <-holding [ov] (getMethod ov "replace" pl)
   callWith pos f first (backTo pos (starEach [.Constant (.str y) k1 p1,.Constant (.str z) k2 p2] env)) []))
  (hs:starEach [.Constant (.str y) k1 p1,.Constant (.str z) k2 p2] env=(false,eval (.Constant (.str y) k1 p1) env)::starEach [.Constant (.str z) k2 p2] env)
  (hs2:starEach [.Constant (.str z) k2 p2] env=(false,eval (.Constant (.str z) k2 p2) env)::starEach [] env)
  (hplain:(backTo pos (starEach [.Constant (.str z) k2 p2] env)).any (·.1)=false):EX aa w A H Z env ρ (.Call (.Attribute o "replace" aq) [.Constant (.str y) k1 p1,.Constant (.str z) k2 p2] [] pos) (.str (Txt.replace x y z)):=by
 refine⟨fun s E F=>?_⟩
 refine Br (pl:=pl) (wpM (ho.run s E F) (fun v s_1 h_1=>?_)) he
 obtain⟨hv,k,h1⟩:=h_1
 obtain⟨t,rfl⟩:=Rp.strI hv
 have k2:Kp N0 s_1 {s_1 with toks:=s_1.toks+1+1}:=Kp.toks _ _ _ (A7 (Ad _) (Ad _))
 refine GMs.replace.run s_1 E x t pl _ _ rfl (Bx (B2 (Av (B2 (Av (Bt ?_)) hs2)) hs) hs hplain)
 refine wpM (CB.replace (P:=fun u=>u=s_1.toks) (R:=fun u=>u=s_1.toks+1) (fun t u h1 h2=>by omega) hb hnb _ E _ ((F.kp0 k).kp0 k2).toGS (.cons (.str _ _) (.cons (.stk _ _ _ rfl) (.cons (.stk _ _ _ rfl) .nil)))) (fun v s₃ h_3=>⟨h_3.1,k.trans (k2.trans h_3.2)⟩)
end
section
def nV{α:Type}(l:List α)(lo hi:Option Int):List α :=
 let p:=Builtin.Slice.sliceAdjust lo hi 1 (l.length:Int)
 (List.range (Builtin.Slice.slicePlaces p.1 p.2 1)).filterMap fun(k:Nat)=>l[(p.1+(k:Int)*1).toNat]?
theorem iI{s:Shared}{E:ZV}{sl:Addr}{lo hi:Option Int}{t u:Tok}{n:Nat}{Q:Int×Int×Nat->Shared->Prop}(hs:s.heap.IsSliceOf sl (partValue (lo.map fun i=>(i,t))) (partValue (hi.map fun i=>(i,u))) .none)
  (h:Q ((Builtin.Slice.sliceAdjust lo hi 1 (n:Int)).1,1,Builtin.Slice.slicePlaces (Builtin.Slice.sliceAdjust lo hi 1 (n:Int)).1 (Builtin.Slice.sliceAdjust lo hi 1 (n:Int)).2 1) s) :
  wpAny (model aa w) A (Builtin.Slice.sliceApplied (.ref sl) (pure (n:Int))) Q E s:=by
 obtain⟨os,hos,hcs,hds⟩:=id hs
 have aw:∀{b:Option Int} {t:Tok} {Q:Option Int->Shared->Prop},Q b s->wpAny (model aa w) A (Builtin.Slice.slicePartIndex (partValue (b.map fun i=>(i,t)))) Q E s:=fun{b t Q} q=>by
  cases b with
  |none=>exact slicePart_none q
  |some i=>exact slicePart_int q
 unfold Builtin.Slice.sliceApplied Builtin.Slice.sliceFields
 refine A0 (A0 (An hos hds (x:=partValue (lo.map fun i=>(i,t))) rfl (A0 (An hos hds (x:=partValue (hi.map fun i=>(i,u))) rfl (A0 (An hos hds (x:=.none) rfl (A1 ?_)))))))
 refine A0 (slicePart_none ?_)
 show wpAny _ _ (if((1:Int)==0)=true then _ else _) _ _ s
 rw[if_neg ‹d›]
 exact A0 (aw (A0 (aw (A0 (A1 (A1 h))))))
theorem iZ{Z:ZP}{h:Heap}{l:List PV}{vs:List Value}(x:Paired (Rp Z h) l vs)(f:Nat->Nat)(n:Nat):Paired (Rp Z h) ((List.range n).filterMap fun k=>l[f k]?) ((List.range n).filterMap fun k=>vs[f k]?):=by
 have:=kT x ((List.range n).map f)
 rwa [List.filterMap_map,List.filterMap_map]at this
theorem SLC.tup{l:List PV}{lo hi:Option Int}(hsz:l.length<=sizeLine)
  (hn:((Builtin.Slice.sliceAdjust lo hi 1 (l.length:Int)).1==0&&(1:Int)==1&&Builtin.Slice.slicePlaces (Builtin.Slice.sliceAdjust lo hi 1 (l.length:Int)).1 (Builtin.Slice.sliceAdjust lo hi 1 (l.length:Int)).2 1==l.length)=false)
  (hc:(nV l lo hi).length<=sizeLine):SLC aa w A H Z (.tup l) lo hi (.tup (nV l lo hi)):=by
 intro s E v t u sl G hv hs
 obtain⟨a,items,rfl,z,ht,pr⟩:=hv.tuple
 have e1:items.size=l.length:=by have:=(a8 pr).1;simpa using this
 have hS:s.heap.IsSliceOf sl (partValue (lo.map fun i=>(i,t))) (partValue (hi.map fun i=>(i,u))) .none:=⟨_,hs,rfl,rfl⟩
 obtain⟨os,hos,hcs,hds⟩:=id hS
 have hTs:s.TypeIs (.ref sl) "slice":=⟨os,hos,hcs⟩
 have pk:=iZ pr (fun k=>((Builtin.Slice.sliceAdjust lo hi 1 (l.length:Int)).1+(k:Int)*1).toNat) (Builtin.Slice.slicePlaces (Builtin.Slice.sliceAdjust lo hi 1 (l.length:Int)).1 (Builtin.Slice.sliceAdjust lo hi 1 (l.length:Int)).2 1)
 refine⟨_,_,ht.typeIs,Ex.lookup,?_⟩
 unfold getItem
 try with_reducible refine A5 ?_
 first|refine A0 (A1 ?_)|skip
 refine A0 (wpAny_sequenceKey ht.typeIs ‹d› ?_)
 refine A0 (B0 (name:=Str.ofString "__getitem__") ht.typeIs Ex
  (B3 Ex ht.typeIs entry_tuple_getitem ?_ (args_tuple_getitem _ _)))
 show wpAny _ _ (Builtin.Tuple.tupleItemsOf (.ref a) >>= _) _ _ s
 refine A0 (tupleItemsOf_ ht ?_)
 refine A0 (C9 hTs ?_)
 rw[if_pos ‹d›]
 refine A0 (iI hS ?_)
 rw[e1]
 dsimp only
 rw[if_neg (by rw[hn];decide)]
 have sz:sizeOk (.seq ((List.range (Builtin.Slice.slicePlaces (Builtin.Slice.sliceAdjust lo hi 1 (l.length:Int)).1 (Builtin.Slice.sliceAdjust lo hi 1 (l.length:Int)).2 1)).filterMap fun(k:Nat)=>items[((Builtin.Slice.sliceAdjust lo hi 1 (l.length:Int)).1+(k:Int)*1).toNat]?).toArray):=by
  show _<=sizeLine
  rw[List.size_toArray]
  have:=(a8 pk).1
  simp only[Array.getElem?_toList]at this
  rw[this];exact hc
 have fin:Rp Z (s.heap.push {cls:=.type "tuple",data:=.seq ((List.range (Builtin.Slice.slicePlaces (Builtin.Slice.sliceAdjust lo hi 1 (l.length:Int)).1 (Builtin.Slice.sliceAdjust lo hi 1 (l.length:Int)).2 1)).filterMap fun(k:Nat)=>items[((Builtin.Slice.sliceAdjust lo hi 1 (l.length:Int)).1+(k:Int)*1).toNat]?).toArray}) (.tup (nV l lo hi)) (.ref s.heap.objs.size):=by
  refine Rp.newTuple G.new ?_
  simp only[Array.getElem?_toList]at pk
  exact pk
 first
  |exact A0 (m:=Builtin.Tuple.tupleExact _) (Aj (A1 ⟨_,rfl,A1 ⟨fin,Kp.push _ _ _⟩⟩) sz)
  |exact A0 (m:=Builtin.Tuple.tupleExact _) (Aj (A0 (A1 (A1 ⟨_,rfl,A1 ⟨fin,Kp.push _ _ _⟩⟩))) sz)
  |exact A0 (A0 (m:=Builtin.Tuple.tupleExact _) (Aj (A1 (A1 ⟨_,rfl,A1 ⟨fin,Kp.push _ _ _⟩⟩)) sz))
  |exact A0 (A0 (m:=Builtin.Tuple.tupleExact _) (Aj (A1 ⟨_,rfl,A1 ⟨fin,Kp.push _ _ _⟩⟩) sz))
theorem IX.ifexp{tgt t a b:Expr}{pos:Pos}{c:Bool}{items:List PV}(ht:TX aa w A H Z env ρ t c)(ha:c=true->IX aa w A H Z env ρ tgt a items)(hb:c=false->IX aa w A H Z env ρ tgt b items):IX aa w A H Z env ρ tgt (.IfExp t a b pos) items:=by
 have after:∀{e:Expr} {s s_1:Shared} {E:ZV},Kp N0 s s_1->IX aa w A H Z env ρ tgt e items->FI H Z env ρ s_1->wpAny (model aa w) A (eval e env) (fun v s_2=>wpAny (model aa w) A (pyIter v) (fun it s₃=>Kp N0 s s₃/\Got aa w A H Z tgt items s it s₃) E s_2) E s_1:=fun k h F =>
  wpM (h.run _ _ F) (fun v s_2 h_2=>wpM h_2 (fun it s₃ h_3=>by
   obtain⟨k3,I,hI,wr,w1,w2,w3⟩:=h_3
   exact⟨k.trans k3,I,hI,wr,w1,fun a q=>⟨k.none (fun q=>q) (w2 a q).1,(w2 a q).2⟩,w3⟩))
 refine⟨fun s E F=>wpAny_IfExp (wpM (ht.run s E F) (fun v s_1 h_1=>?_))⟩
 obtain⟨rfl,k⟩:=h_1
 cases v with
 |true=>exact after k (ha rfl) (F.kp0 k)
 |false=>exact after k (hb rfl) (F.kp0 k)
end
def cH(l:List PV):MO:=⟨fun vs o=>o.cls=.type "list"/\o.dict=none/\∃ n,o.data=.seq vs.toArray n,l⟩
theorem MOk.lst{Z:ZP}{h:Heap}{g:Addr}{l:List PV}(x:MOk Z h g (cH l)):∃ its:Array Value,PlainL h g its/\Paired (Rp Z h) l its.toList:=by
 obtain⟨o,vs,e,⟨c,d,n,hd⟩,p⟩:=x
 exact⟨vs.toArray,⟨o,n,e,c,d,hd⟩,p⟩
theorem MOk.ofLst{Z:ZP}{h:Heap}{g:Addr}{l:List PV}{its:Array Value}(x:PlainL h g its)(p:Paired (Rp Z h) l its.toList):MOk Z h g (cH l):=by
 obtain⟨o,n,e,c,d,hd⟩:=x
 exact⟨o,its.toList,e,⟨c,d,n,by simpa using hd⟩,p⟩
section
theorem FI.turn{s:Shared}{h':Heap}{g:Addr}{m m':MO}{L:Led}(S:FS H.H Z env)(F:FI H Z env ρ s)(hL:H.L=(g,m)::L)(hs:Heap.SameBut g s.heap h')(hm:MOk Z h' g m')(tk:Nat)(ht:s.toks<=tk) :
  FI (H.at ((g,m')::L)) Z env ρ {s with heap:=h',toks:=tk}/\Kp H.D s {s with heap:=h',toks:=tk}:=by
 have ng:∀{a m},H.L.lookup a=some m->H.D a:=fun e=>(F.ld _ _ e).1
 have dg:H.D g:=ng (m:=m) (by rw[hL,List.lookup_cons];simp)
 have zg:Z g:=F.dz g dg
 have keep:∀ a,a≠g->∀ o,s.heap.get? a=some o->h'.get? a=some o:=fun a n o e=>(hs.2 a n).trans e
 have kz:∀ b o,¬Z b->s.heap.get? b=some o->h'.get? b=some o:=fun b o z e=>keep b (fun q=>z (q▸zg)) o e
 have nl:∀ a,Fa env a->a≠g:=fun a q e=>F.lf g dg (e▸q)
 refine⟨⟨⟨⟨fun b o e=>?_,fun a z=>?_⟩,A7 F.tk ht,F.dz,fun a m_1 e=>?_⟩,?_,fun y p e l=>?_,fun y c e=>?_,F.lf⟩,Kp.mk fun b o n e=>keep b (fun q=>n (q▸dg)) o e⟩
 ·exact kz b o (fun z=>by rw[S.zt b z]at e;cases e) (F.top b o e)
 ·by_cases q:a=g
  ·subst q;obtain⟨o,_,e,_⟩:=hm;exact⟨o,e⟩
  ·obtain⟨o,e⟩:=F.zex a z;exact⟨o,keep a q o e⟩
 ·have e:List.lookup a ((g,m')::L)=some m_1:=e
  rw[List.lookup_cons]at e
  by_cases q:a=g
  ·subst q;simp at e;subst e;exact⟨dg,hm⟩
  ·have q':(a==g)=false:=Aw.mpr q
   rw[q']at e
   obtain⟨d,k⟩:=F.ld a m_1 (by rw[hL,List.lookup_cons,q'];exact e)
   exact⟨d,k.keep (keep a q) kz⟩
 ·obtain⟨m,hn,hm⟩:=F.ns
  refine⟨m,hn.at' (keep _ (nl _ (.inl rfl))),fun y p e l=>?_⟩
  obtain⟨v,e1,e2⟩:=hm y p e l
  exact⟨v,e1,e2.keep kz⟩
 ·obtain⟨q,c,v,e1,⟨o,e2,e2'⟩,e3⟩:=F.cl y p e l
  exact⟨q,c,v,e1,⟨o,keep c (nl c (.inr ⟨y,e1⟩)) o e2,e2'⟩,e3.keep kz⟩
 ·obtain⟨z,v,o,e1,e1'⟩:=F.zc y c e
  exact⟨z,v,o,keep c (nl c (.inr ⟨y,e⟩)) o e1,e1'⟩
structure EXd(aa:Program)(w:World)(A:Around)(H:Ctx)(Z:ZP)(env:Env)(ρ:List (Str×PV))(e:Expr)(p:PV)(L:Led):Prop where
 run:∀ s (E:ZV),FI H Z env ρ s->wpAny (model aa w) A (eval e env) (fun v s'=>Rp Z s'.heap p v/\FI (H.at L) Z env ρ s'/\Kp H.D s s') E s
theorem EX.d{e:Expr}{p:PV}(h:EX aa w A H Z env ρ e p):EXd aa w A H Z env ρ e p H.L:=⟨fun s E F=>wpM (h.run s E F) (fun v s' q=>⟨q.1,F.kp0 q.2,q.2.z⟩)⟩
theorem Kp.d{s s':Shared}(k:Kp H.D s s'):Kp (Tn H env) s s':=k.weak fun _ h=>.inr h
theorem SX.expr{e:Expr}{p:PV}{L:Led}{pos:Pos}(h:EXd aa w A H Z env ρ e p L)(hi:interactive env=false)(hs:swapsWith e none pos.line env=pure false):SX aa w A H Z env ρ (.Expr e pos) (.next L ρ) :=
 ⟨fun s E F=>wpAny_Expr_any (wpM (h.run s E F) (fun v s' q=>⟨⟨rfl,q.2.1⟩,q.2.2.d⟩)) hi hs⟩
theorem SX.setD{x:Str}{px pos:Pos}{e:Expr}{p:PV}{L:Led}(S:FS H.H Z env)(eo:EO env sc)(h:EXd aa w A H Z env ρ e p L)(hk:aS sc x=true)
  (hs:swapsWith e (some (.Name x px)) pos.line env=pure false:=by rfl):SX aa w A H Z env ρ (.Assign [.Name x px] e pos) (.next L ((x,p)::ρ)):=by
 refine⟨fun s E F=>?_⟩
 refine By (wpM (h.run s E F) (fun v s_1 h_1=>?_)) hs
 obtain⟨r,F_1,k⟩:=h_1
 exact wpM (FI.store (H:=H.at L) S F_1 r (eo.bds hk)) (fun _ s_2 h_2=>⟨⟨rfl,h_2.1⟩,k.d.trans h_2.2.fb⟩)
theorem EXd.append{o bb:Expr}{aq pos:Pos}{g:Addr}{l:List PV}{p:PV}{L:Led}(S:FS H.H Z env)(hL:H.L=(g,cH l)::L)(ho:EX aa w A H Z env ρ o (.raw (.ref g)))(he:EX aa w A H Z env ρ bb p)(hsz:l.length<=sizeLine)
  (hbase:attributeBase o "append" env (eval o env)=eval o env)
  (hfew:((backTo pos (starEach [bb] env)).all (fun x=>!x.1)&&(backToKw pos (keywordEach [] env)).all (fun x=>x.1.isSome)
   && decide (([bb]:List Expr).length+([]:List Keyword).length+(if([]:List Keyword).isEmpty then 0 else 1)<30))=true)
  (hline:(aq.endLine==pos.line)=true)
  (htrees:backTo pos (starEach [bb] env)=[(false,eval bb env)]) :
  EXd aa w A H Z env ρ (.Call (.Attribute o "append" aq) [bb] [] pos) .none ((g,cH (l++[p]))::L):=by
 refine⟨fun s E F=>?_⟩
 have hld:∀{s:Shared},FI H Z env ρ s->MOk Z s.heap g (cH l):=fun F=>(F.ld g _ (by rw[hL,List.lookup_cons];simp)).2
 refine wpAny_Call_append hbase hfew hline htrees (wpM (ho.run s E F) (fun v s_1 h_1=>?_))
 obtain⟨hv,k_1⟩:=h_1
 cases hv
 have F_1:=F.kp0 k_1
 obtain⟨its1,p_1,_⟩:=(hld F_1).lst
 refine⟨g,its1,rfl,p_1,wpM (he.run s_1 E F_1) (fun y s_2 h_2=>?_)⟩
 have F_2:=F_1.kp0 h_2.2
 obtain⟨its,pl,pr⟩:=(hld F_2).lst
 have e1:its.size=l.length:=by have:=(a8 pr).1;simpa using this
 have zg:Z g:=F_2.dz g (F_2.ld g (cH l) (by rw[hL,List.lookup_cons];simp)).1
 refine list_append_plainL pl (fun h' pl' hs=>?_) (by rw[e1];exact hsz)
 have kz:∀ b o,¬Z b->s_2.heap.get? b=some o->h'.get? b=some o:=fun b o z e=>(hs.2 b fun q=>z (q▸zg)).trans e
 obtain⟨F_3,k_3⟩:=F_2.turn S hL hs (MOk.ofLst (l:=l++[p]) pl' (by rw[Array.toList_push];exact(bJ pr (.cons h_2.1 .nil))|> aA fun _ _ r=>r.keep kz)) s_2.toks (A4 _)
 exact⟨.none,F_3,k_1.z.trans (h_2.2.z.trans k_3)⟩
theorem TX.as{e:Expr}{b c:Bool}(h:TX aa w A H Z env ρ e b)(hb:b=c):TX aa w A H Z env ρ e c:=hb▸h
structure EXn(aa:Program)(w:World)(A:Around)(H:Ctx)(Z:ZP)(env:Env)(ρ:List (Str×PV))(e:Expr)(l:List PV):Prop where
 run:∀ s (E:ZV),FI H Z env ρ s->wpAny (model aa w) A (eval e env) (fun v s'=>∃ g its,v=.ref g/\s.heap.get? g=none/\PlainL s'.heap g its/\Paired (Rp (fun a=>Z a\/a=g) s'.heap) l its.toList/\Kp N0 s s') E s
theorem EXn.list{es:List Expr}{pos:Pos}{ps:List PV}(h:LX aa w A H Z env ρ pos es ps)(hn:ps.length<=sizeLine):EXn aa w A H Z env ρ (.List es pos) ps:=by
 refine⟨fun s E F=>?_⟩
 refine wpAny_List (wpM (h.run s E F) (fun vs s_1 h_1=>?_))
 have k:=Kp.push N0 s_1 {cls:=.type "list",data:=.seq vs.toArray}
 refine⟨by rw[(a8 h_1.1).1];exact hn,_,vs.toArray,rfl,h_1.2.none (fun q=>q) (aE _ (A4 _)),⟨_,0,A3 _ rfl,rfl,rfl,rfl⟩,?_,h_1.2.trans k⟩
 exact aA (F:=Rp Z s_1.heap) (fun _ _ r=>(r.sub fun a o e q=>q.elim id fun q=>by subst q;exact absurd (Ac e) (At _)).kp0 k) h_1.1
abbrev Ctx.own(H:Ctx)(g:Addr)(m:MO):Ctx:=⟨H.H,fun a=>H.D a\/a=g,(g,m)::H.L,H.tk⟩
abbrev aX(Z:ZP)(g:Addr):Addr->Prop:=fun a=>Z a\/a=g
theorem FI.grow{s s':Shared}{g:Addr}{m:MO}(S:FS H.H Z env)(F:FI H Z env ρ s)(k:Kp N0 s s')(hg:s.heap.get? g=none)(hm:MOk (aX Z g) s'.heap g m):FI (H.own g m) (aX Z g) env ρ s'/\FS H.H (aX Z g) env:=by
 have nz:¬Z g:=F.toGT.free hg
 have faZ:∀ a,Fa env a->Z a:=fun a q=>by
  rcases q with q|⟨y,q⟩
  ·subst q;exact S.zl
  ·exact(F.zc y a q).1
 have W:FI H (aX Z g) env ρ s':=F.widen k (fun a z=>.inl z) (fun a q n=>q.elim (fun z=>absurd z n) fun q=>q▸hg) fun a q=>by
  rcases q with q|q
  ·obtain⟨o,e⟩:=F.zex a q;exact⟨o,k.get (fun q=>q) e⟩
  ·subst q;obtain⟨o,_,e,_⟩:=hm;exact⟨o,e⟩
 refine⟨⟨⟨W.toGT,W.tk,fun a d=>d.elim (fun d=>.inl (F.dz a d)) .inr,fun a m_1 e=>?_⟩,W.ns,W.cl,W.zc,fun a d=>d.elim (F.lf a) fun q f=>nz (faZ g (q▸f))⟩,⟨fun a q=>q.elim (S.zt a) fun q=>q▸F.none hg,S.fn,S.gl,S.bl,.inl S.zl,S.ap⟩⟩
 have e:List.lookup a ((g,m)::H.L)=some m_1:=e
 rw[List.lookup_cons]at e
 by_cases q:a=g
 ·subst q
  simp at e;subst e
  exact⟨.inr rfl,hm⟩
 ·have q':(a==g)=false:=Aw.mpr q
  rw[q']at e
  obtain⟨d,k⟩:=W.ld a m_1 e
  exact⟨.inl d,k⟩
theorem cW{x:Str}{p p':PV}{r:List (Str×PV)}{y:Str}{q:PV}(e:List.lookup y ((x,p')::r)=some q):(y=x/\q=p')\/(y≠x/\List.lookup y ((x,p)::r)=some q):=by
 rw[a7]at e ⊢
 by_cases h:y=x
 ·rw[if_pos h]at e;cases e;exact .inl ⟨h,rfl⟩
 ·rw[if_neg h]at e ⊢;exact .inr ⟨h,e⟩
theorem FI.freeze{s_0 s:Shared}{ρ0:List (Str×PV)}{g:Addr}{m:MO}{l:List PV}{x:Str}(F_0:FI H Z env ρ0 s_0)(nz:¬Z g)(F:FI ((H.own g m).at ((g,cH l)::H.L)) (aX Z g) env ((x,.raw (.ref g))::ρ) s):FI H Z env ((x,.lst l)::ρ) s:=by
 have hz:∀ a,Z a->aX Z g a:=fun a z=>.inl z
 obtain⟨its,pl,pr⟩:=(F.ld g (cH l) (by show List.lookup g ((g,cH l)::H.L)=_;rw[List.lookup_cons];simp)).2.lst
 have sb:∀{p:PV} {v:Value},Rp (aX Z g) s.heap p v->Rp Z s.heap p v:=fun r=>r.sub fun a o _ q=>hz a q
 have rl:∀{v:Value},Rp (aX Z g) s.heap (.raw (.ref g)) v->Rp Z s.heap (.lst l) v:=fun r=>by
  cases r
  obtain⟨o,n,e,c,d,hd⟩:=pl
  obtain⟨hl,hi⟩:=a8 pr
  exact .lst nz e c hd (by simpa using hl) fun i p v e1 e2=>sb (hi i p v e1 (by simpa using e2))
 refine⟨⟨⟨F.top,fun a z=>F.zex a (hz a z)⟩,F.tk,F_0.dz,fun a m_1 e=>?_⟩,?_,fun y p e lk=>?_,fun y c e=>⟨(F_0.zc y c e).1,(F.zc y c e).2⟩,F_0.lf⟩
 ·have na:a≠g:=fun q=>nz (q▸F_0.dz a (F_0.ld a m_1 e).1)
  obtain⟨_,k⟩:=F.ld a m_1 (by show List.lookup a ((g,cH l)::H.L)=_;rw[List.lookup_cons,beq_eq_false_iff_ne.mpr na];exact e)
  exact⟨(F_0.ld a m_1 e).1,k.sub fun a o _ q=>hz a q⟩
 ·obtain⟨m,hn,hm⟩:=F.ns
  refine⟨m,hn,fun y p e lk=>?_⟩
  rcases cW (p:=.raw (.ref g)) e with⟨rfl,rfl⟩|⟨_,e⟩
  ·obtain⟨v,e1,e2⟩:=hm y _ Lk.here lk
   exact⟨v,e1,rl e2⟩
  ·obtain⟨v,e1,e2⟩:=hm y p e lk
   exact⟨v,e1,sb e2⟩
 ·rcases cW (p:=.raw (.ref g)) e with⟨rfl,rfl⟩|⟨_,e⟩
  ·obtain⟨q,c,v,e1,e2,e3⟩:=F.cl y _ Lk.here lk
   exact⟨q,c,v,e1,e2,rl e3⟩
  ·obtain⟨q,c,v,e1,e2,e3⟩:=F.cl y p e lk
   exact⟨q,c,v,e1,e2,sb e3⟩
theorem SXs.forThen{σ:Type}{st:Stmt}{ai:List Stmt}{g:σ->Led}{f:σ->List (Str×PV)}{r:σ ⊕ (Led×PV)}{o:Out}(h:SX aa w A H Z env ρ st (nJ g f r))
  (h1:∀ x,r=.inl x->SXs aa w A (H.at (g x)) Z env (f x) ai o) (h2:∀ L p,r=.inr (L,p)->o=.ret L p):SXs aa w A H Z env ρ (st::ai) o:=by
 cases r with
 |inl x=>exact SXs.cons h (h1 x rfl)
 |inr q =>
  obtain⟨L,p⟩:=q
  rw[h2 L p rfl]
  exact SXs.ret h
theorem SXs.grow{x:Str}{px pos:Pos}{e:Expr}{l l':List PV}{mid:Stmt}{ai:List Stmt}{o:Out}{ρ':List (Str×PV)}(S:FS H.H Z env)(eo:EO env sc)(hk:aS sc x=true)(h:EXn aa w A H Z env ρ e l)
  (hmid:∀ g,FS H.H (aX Z g) env->SX aa w A (H.own g (cH l)) (aX Z g) env ((x,.raw (.ref g))::ρ) mid (.next ((g,cH l')::H.L) ((x,.raw (.ref g))::ρ')))
  (hrest:SXs aa w A H Z env ((x,.lst l')::ρ') ai o) (hs:swapsWith e (some (.Name x px)) pos.line env=pure false:=by rfl):SXs aa w A H Z env ρ (.Assign [.Name x px] e pos::mid::ai) o:=by
 refine⟨fun s E F=>?_⟩
 refine Aq (By (wpM (h.run s E F) (fun v s_1 h_1=>?_)) hs)
 obtain⟨g,its,rfl,hg,pl,pr,k⟩:=h_1
 obtain⟨F_1,S'⟩:=F.grow S k hg (MOk.ofLst pl pr)
 refine wpM (FI.store (H:=H.own g (cH l)) S' F_1 (.raw _) (eo.bds hk)) (fun _ s_2 h_2=>?_)
 refine Aq (wpM ((hmid g S').run s_2 E h_2.1) (fun f s₃ h_3=>?_))
 obtain⟨⟨rfl,F_3⟩,k_3⟩:=h_3
 have nz:¬Z g:=F.toGT.free hg
 have K:Kp (Tn H env) s s₃:=k.join (Z:=Tn H env) (h_2.2.join (Z:=fun a=>Tn H env a\/a=g) k_3 fun b o n e=>k_3.get (fun q=>n (q.elim (fun q=>.inl (.inl q)) fun q=>q.elim (fun q=>.inl (.inr q)) .inr)) (h_2.2.get (fun q=>n (.inl (.inl q.fa))) e)) fun b o n e=>by
  have ng:b≠g:=fun q=>by subst q;rw[hg]at e;cases e
  refine k_3.get (fun q=>q.elim (fun q=>n (.inl q)) fun q=>q.elim (fun q=>n (.inr q)) ng) (h_2.2.get (fun q=>n (.inl q.fa)) (k.get (fun q=>q) e))
 exact wpM (hrest.run s₃ E (F.freeze nz F_3)) (fun f s_4 h_4=>⟨h_4.1,K.trans h_4.2⟩)
end
def jJ:List DictEntry->List Str->List Value->Prop
 |[],[],[]=>True
 |e::es,y::ns,v::vs=>(∃ t,e.key=.str y t)/\e.val=v/\jJ es ns vs
 |_,_,_=>False
def cV{α:Type}:List Str->List α->Str->Option α
 |y::ns,v::vs,x=>if(y==x)=true then some v else cV ns vs x
 |_,_,_=>none
def jX:List Str->Str->List Str
 |[],x=>[x]
 |y::ns,x=>if(y==x)=true then y::ns else y::jX ns x
def eL{α:Type}:List Str->List α->Str->α->List α
 |y::ns,u::us,x,v=>if(y==x)=true then v::us else u::eL ns us x v
 |_,_,_,v=>[v]
theorem jJ.get{x:Str}:∀{es:List DictEntry} {ns:List Str} {vs:List Value},jJ es ns vs->getL x es=some (cV ns vs x)
 |[],[],[],_=>rfl
 |e::es,y::ns,v::vs,⟨⟨t,hk⟩,hv,h⟩=>by
  have ih:=h.get (x:=x)
  have e1:e.key.isStr x=(y==x):=by rw[hk];rfl
  have e2:e.refKey=false:=by unfold DictEntry.refKey;rw[hk]
  unfold getL at ih ⊢
  unfold cV
  rw[List.find?_cons,e1,List.any_cons,e2]
  cases q:(y==x)with
  |true=>rw[if_pos rfl,<-hv]
  |false=>simp only[Bool.false_or,Bool.false_eq_true,if_false];exact ih
theorem jJ.put{x:Str}{hs:Int}{t:Tok}{v:Value}:∀{es:List DictEntry} {ns:List Str} {vs:List Value},jJ es ns vs->jJ (putL x hs (.str x t) v es) (jX ns x) (eL ns vs x v)/\(putL x hs (.str x t) v es).length=(jX ns x).length
 |[],[],[],_=>⟨⟨⟨t,rfl⟩,rfl,trivial⟩,rfl⟩
 |e::es,y::ns,u::vs,⟨⟨t',hk⟩,hv,h⟩=>by
  have ih:=h.put (x:=x) (hs:=hs) (t:=t) (v:=v)
  have e1:e.key.isStr x=(y==x):=by rw[hk];rfl
  have hl:∀{es:List DictEntry} {ns:List Str} {vs:List Value},jJ es ns vs->es.length=ns.length:=by
   intro es
   induction es with
   |nil=>intro ns vs h;cases ns with
    |nil=>rfl
    |cons _ _=>exact h.elim
   |cons e es ih=>intro ns vs h;cases ns with
    |nil=>exact h.elim
    |cons _ _=>cases vs with
     |nil=>exact h.elim
     |cons _ _=>exact Az (· + 1) (ih h.2.2)
  unfold putL jX eL
  rw[e1]
  cases q:(y==x)with
  |true=>exact⟨⟨⟨t',hk⟩,rfl,h⟩,Az (· + 1) (hl h)⟩
  |false=>exact⟨⟨⟨t',hk⟩,hv,ih.1⟩,Az (· + 1) ih.2⟩
theorem l6{F:PV->Value->Prop}{x:Str}{p:PV}{v:Value}(hp:F p v):∀{ns:List Str} {ps:List PV} {vs:List Value},Paired F ps vs->Paired F (eL ns ps x p) (eL ns vs x v)
 |[],_,_,.nil=>.cons hp .nil
 |[],_,_,.cons _ _=>.cons hp .nil
 |y::ns,_,_,.nil=>.cons hp .nil
 |y::ns,_,_,.cons h r=>by
  unfold eL
  cases(y==x)with
  |true=>exact .cons hp r
  |false=>exact .cons h (l6 hp r)
theorem gC{F:PV->Value->Prop}{x:Str}{p:PV}:∀{ns:List Str} {ps:List PV} {vs:List Value},Paired F ps vs->cV ns ps x=some p->∃ v,cV ns vs x=some v/\F p v
 |[],_,_,.nil,e=>by cases e
 |[],_,_,.cons _ _,e=>by cases e
 |y::ns,_,_,.nil,e=>by cases e
 |y::ns,_,_,.cons (b:=u) h r,e=>by
  unfold cV at e ⊢
  cases q:(y==x)with
  |true=>rw[q,if_pos rfl]at e;cases e;exact⟨u,rfl,h⟩
  |false=>rw[q,if_neg ‹d›]at e;rw[if_neg ‹d›];exact gC r e
theorem cG{α β:Type}{x:Str}:∀{ns:List Str} {ps:List α} {vs:List β},ps.length=vs.length->cV ns ps x=none->cV ns vs x=none
 |[],_,_,_,_=>by unfold cV;rfl
 |y::ns,[],[],_,_=>rfl
 |y::ns,p::ps,v::vs,hl,e=>by
  unfold cV at e ⊢
  cases q:(y==x)with
  |true=>rw[q,if_pos rfl]at e;cases e
  |false=>rw[q,if_neg ‹d›]at e;rw[if_neg ‹d›];exact cG (by simpa using hl) e
def a9(ns:List Str)(ps:List PV):MO:=⟨fun vs o=>∃ es n,o=dictOf es n/\jJ es ns vs,ps⟩
def aG(C x dx:Addr):PV:=.own fun Z h v=>v=.ref x/\¬Z x/\h.get? x=some (instObj C dx)
theorem Rp.ins{Z:ZP}{h:Heap}{C x dx:Addr}{v:Value}(r:Rp Z h (aG C x dx) v):v=.ref x/\¬Z x/\h.get? x=some (instObj C dx):=by
 cases r with
 |own P v q=>exact q Z h (fun _ _ _ e=>e) fun _ _ _ z=>z
theorem Rp.insOf{Z:ZP}{h:Heap}{C x dx:Addr}(z:¬Z x)(e:h.get? x=some (instObj C dx)):Rp Z h (aG C x dx) (.ref x):=.own _ _ fun Z' h' k hz=>⟨rfl,fun q=>z (hz x _ e q),k x _ z e⟩
def vG:PV->Bool
 | .raw v=>handedIn v
 | .own _=>false
 |_=>true
theorem Rp.handed{Z:ZP}{h:Heap}{p:PV}{v:Value}(r:Rp Z h p v)(hp:vG p=true):handedIn v=true:=by
 cases r <;> first|rfl|exact hp|cases hp
def jB(K:Frag)(C:Addr)(name:Str):Bool:=plainGet K C name&&hasDictIn K C&&(match findIn K (.ref C) name with|some a=>noGet K a|none=>false)
def gQ(K:Frag)(C:Addr)(name:Str):Bool:=findIn K (.ref C) "__setattr__" == some (some (.builtin "object.__setattr__"))&&plainOver K C&&takerIn K C name==some none&&hasDictIn K C
section
variable{K:Frag}{C x dx:Addr}{name:Str}
theorem sQ{s:Shared}{E:ZV}{Q:ZV}{expr:Bool}{es:List DictEntry}{n:Nat}{v:Value}(X:K.In s.heap)(hx:s.heap.get? x=some (instObj C dx))(hd:s.heap.get? dx=some (dictOf es n))(hk:jB K C name=true)
  (hl:getL name es=some (some v)) (hv:handedIn v=true) (h:Q v {s with toks:=s.toks+1}):wpAny (model aa w) A (getAttr (.ref x) name expr) Q E s:=by
 obtain⟨h1,h3⟩:=A6.mp hk
 obtain⟨h1,h2⟩:=A6.mp h1
 split at h3
 ·rename_i a ha
  exact get_value X ⟨hx,rfl,rfl,hd⟩ (Cc h1).1 (findObj_own h2 ha h3 (show lookIn name (dictOf es n)=_ from hl)) hv h
 ·cases h3
theorem xZ{s:Shared}{E:ZV}{Q:Unit->Shared->Prop}{es:List DictEntry}{n:Nat}{v:Value}(X:K.In s.heap)(hx:s.heap.get? x=some (instObj C dx))(hd:s.heap.get? dx=some (dictOf es n))(hk:gQ K C name=true)
  (hl:(getL name es).isSome=true) (hz:∀ hs t,(putL name hs (.str name t) v es).length<=1000)
  (h:∀ h' hs t,h'.get? dx=some (dictOf (putL name hs (.str name t) v es) (putN name es n))->Heap.SameBut dx s.heap h'->Q () {s with heap:=h',toks:=s.toks+2}):wpAny (model aa w) A (setAttr (.ref x) name v) Q E s:=by
 simp only[gQ,Bool.and_eq_true,beq_iff_eq]at hk
 obtain⟨⟨⟨h1,h2⟩,h3⟩,h4⟩:=hk
 obtain⟨cd,hc,hcd⟩:=any_some h4
 have I:InstAt s.heap x (instObj C dx) C (some (dictOf es n)):=⟨hx,rfl,rfl,hd⟩
 refine set_plain X I h1 (osa_open (s:={s with toks:=s.toks+1}) X I h2 h3 fun b=>?_)
 refine A0 (A1 (A0 (A0 (Cq hx (A0 (Bq (s:={s with toks:=s.toks+1}) (Gh X hc) ?_))))))
 rw[hcd]
 refine A1 (a:=some dx) (A0 (A1 (A0 ?_)))
 unfold nsSet
 refine A0 (A0 (Fv (A1 (A0 (Eo (A0 (Cq hd ?_)))))))
 have c:(!es.toArray.any (·.key.isStr name)&&es.toArray.any (·.refKey))=false:=by
  rw[<-Array.any_toList,<-Array.any_toList]
  unfold getL at hl
  split at hl
  ·rename_i en he
   rw[List.any_eq_true.mpr ⟨en,List.mem_of_find?_eq_some he,List.find?_some he⟩];rfl
  ·split at hl
   ·cases hl
   ·rename_i z;rw[Bool.not_eq_true]at z;rw[z,Bool.and_false]
 dsimp only
 rw[aRefKeyMayBeTheName_at,c]
 refine wpAny_updatePart hd ?_
 have hp:∀ t,Obj.putName name (PyData.keyHash w.params name) (.str name t) v (dictOf es n)=dictOf (putL name (PyData.keyHash w.params name) (.str name t) v es) (putN name es n):=fun t=>putName_dict ..
 have e':(s.heap.update dx (Obj.putName name (PyData.keyHash w.params name) (.str name (s.toks+1)) v)).get? dx=some (dictOf (putL name (PyData.keyHash w.params name) (.str name (s.toks+1)) v es) (putN name es n)):=by
  rw[<-hp];exact Af _ hd (by rw[hp];rfl)
 refine A0 (wpAny_lookBehind e' (pastItsLine_dict (by rw[List.size_toArray,sizeLine_eq];have:=hz (PyData.keyHash w.params name) (s.toks+1);omega)) ?_)
 exact A1 (h _ _ _ e' (.update ..))
theorem GS.ins{s:Shared}{ns:List Str}{ps:List PV}(G:GS H Z s)(hL:H.L.lookup dx=some (a9 ns ps)):∃ es n vs,s.heap.get? dx=some (dictOf es n)/\jJ es ns vs/\Paired (Rp Z s.heap) ps vs:=by
 obtain⟨o,vs,e1,⟨es,n,rfl,hi⟩,e3⟩:=(G.ld dx _ hL).2
 exact⟨es,n,vs,e1,hi,e3⟩
theorem EX.attrO{o:Expr}{pos:Pos}{ns:List Str}{ps:List PV}{p:PV}(X:K.In H.H)(ho:EX aa w A H Z env ρ o (aG C x dx))(hL:H.L.lookup dx=some (a9 ns ps))(hp:cV ns ps name=some p)(hk:jB K C name=true)
  (hh:∀{Z:ZP} {h:Heap} {v:Value},Rp Z h p v->handedIn v=true) (hb:attributeBase o name env (eval o env)=eval o env) (hg:∀ v r,letTemporaryGo o v r=pure ()):EX aa w A H Z env ρ (.Attribute o name pos) p:=by
 refine⟨fun s E F=>?_⟩
 rw[arm_eval_Attribute,hb]
 refine A0 (wpM (ho.run s E F) (fun v s_1 h_1=>A0 (Ag ?_)))
 obtain⟨rv,k⟩:=h_1
 have F_1:=F.kp0 k
 obtain⟨rfl,_,hx⟩:=rv.ins
 obtain⟨es,n,vs,hd,hi,pr⟩:=F_1.toGS.ins hL
 obtain⟨u,hu,ru⟩:=gC pr hp
 refine A0 (A5 (sQ (X.keeps F_1.top) hx hd hk (by rw[hi.get,hu]) (hh ru) ?_))
 rw[hg]
 exact A0 (A1 (A1 ⟨ru.kp0 (Kp.toks _ _ _),k.trans (Kp.toks _ _ _)⟩))
theorem EX.attr{o:Expr}{pos:Pos}{ns:List Str}{ps:List PV}{p:PV}(X:K.In H.H)(ho:EX aa w A H Z env ρ o (aG C x dx))(hL:H.L.lookup dx=some (a9 ns ps))(hp:cV ns ps name=some p)(hk:jB K C name=true)
  (hh:vG p=true) (hb:attributeBase o name env (eval o env)=eval o env) (hg:∀ v r,letTemporaryGo o v r=pure ()):EX aa w A H Z env ρ (.Attribute o name pos) p:=EX.attrO X ho hL hp hk (fun r=>r.handed hh) hb hg
structure AS(aa:Program)(w:World)(A:Around)(H:Ctx)(Z:ZP)(env:Env)(ρ:List (Str×PV))(t:Expr)(p:PV)(L:Led)(ρ':List (Str×PV)):Prop where
 run:∀ s (E:ZV) v,FI H Z env ρ s->Rp Z s.heap p v->wpAny (model aa w) A (assign t env v) (fun _ s'=>FI (H.at L) Z env ρ' s'/\Rp Z s'.heap p v/\Kp (Tn H env) s s') E s
theorem Fa.z{s:Shared}(S:FS H.H Z env)(F:FI H Z env ρ s){a:Addr}(q:Fa env a):Z a:=by
 rcases q with q|⟨y,q⟩
 ·subst q;exact S.zl
 ·exact(F.zc y a q).1
theorem Tn.z{s:Shared}(S:FS H.H Z env)(F:FI H Z env ρ s){a:Addr}(q:Tn H env a):Z a:=q.elim (Fa.z S F) (F.dz a)
theorem AS.nm{y:Str}{py:Pos}{p:PV}(S:FS H.H Z env)(eo:EO env sc)(hk:aS sc y=true):AS aa w A H Z env ρ (.Name y py) p H.L ((y,p)::ρ):=⟨fun s E v F r =>
 Dv (wpM (FI.store S F r (eo.bds hk)) (fun _ s' h=>⟨h.1,r.kp (h.2.fb.weak fun a q=>Tn.z S F q),h.2.fb⟩))⟩
theorem AS.attr{o:Expr}{pos:Pos}{ns:List Str}{ps:List PV}{p:PV}{L:Led}(S:FS H.H Z env)(X:K.In H.H)(ho:EX aa w A H Z env ρ o (aG C x dx))(hL:H.L=(dx,a9 ns ps)::L)(hk:gQ K C name=true)(hz:(jX ns name).length<=1000) :
  AS aa w A H Z env ρ (.Attribute o name pos) p ((dx,a9 (jX ns name) (eL ns ps name p))::L) ρ:=by
 refine⟨fun s E v F r=>?_⟩
 rw[arm_assign_Attribute]
 refine A0 (A5 (wpM (ho.run s E F) (fun ov s_1 h_1=>A0 (Ag ?_))))
 obtain⟨rv,k⟩:=h_1
 have F_1:=F.kp0 k
 have r_1:=r.kp0 k
 obtain⟨rfl,_,hx⟩:=rv.ins
 have hL':H.L.lookup dx=some (a9 ns ps):=by rw[hL,List.lookup_cons];simp
 obtain⟨es,n,vs,hd,hi,pr⟩:=F_1.toGS.ins hL'
 have zd:Z dx:=F_1.dz dx (F_1.ld dx _ hL').1
 refine A0 (A5 (xZ (X.keeps F_1.top) hx hd hk (by rw[hi.get];rfl) (fun hs t=>by rw[(hi.put (x:=name) (hs:=hs) (t:=t) (v:=v)).2];exact hz) fun h' hs t e' sb=>Gs ?_))
 have kz:∀ b o,¬Z b->s_1.heap.get? b=some o->h'.get? b=some o:=fun b o z e=>(sb.2 b fun q=>z (q▸zd)).trans e
 obtain⟨F_2,k_2⟩:=F_1.turn S hL sb (m':=a9 (jX ns name) (eL ns ps name p)) ⟨_,_,e',⟨_,_,rfl,(hi.put (x:=name) (hs:=hs) (t:=t) (v:=v)).1⟩,l6 (r_1.keep kz) (aA (fun _ _ r=>r.keep kz) pr)⟩ (s_1.toks+2) ‹o›
 exact⟨F_2,r_1.keep kz,k.z.trans k_2.d⟩
theorem SX.as1{t e:Expr}{p:PV}{L L':Led}{pos:Pos}{ρ1:List (Str×PV)}(he:EXd aa w A H Z env ρ e p L)(ht:AS aa w A (H.at L) Z env ρ t p L' ρ1)
  (ha:(assignEach [t] env).map (·.2)=[PySem.assign t env]) (hs:swapsWithSole [t] e pos.line env=pure false) (hw:swappedStores [t] e env=pure none):SX aa w A H Z env ρ (.Assign [t] e pos) (.next L' ρ1):=by
 refine⟨fun s E F=>Dd (wpM (he.run s E F) (fun v s_1 h_1=>?_)) hs hw⟩
 obtain⟨r,F_1,k⟩:=h_1
 rw[ha]
 exact wpM (ht.run s_1 E v F_1 r) (fun _ s_2 h_2=>⟨⟨rfl,h_2.1⟩,k.d.trans h_2.2.2⟩)
theorem SX.as2{t u e:Expr}{p:PV}{L L' L'':Led}{pos:Pos}{ρ1 ρ2:List (Str×PV)}(he:EXd aa w A H Z env ρ e p L)(ht:AS aa w A (H.at L) Z env ρ t p L' ρ1)(hu:AS aa w A (H.at L') Z env ρ1 u p L'' ρ2)
  (ha:(assignEach [t,u] env).map (·.2)=[PySem.assign t env,PySem.assign u env]) (hs:swapsWithSole [t,u] e pos.line env=pure false) (hw:swappedStores [t,u] e env=pure none):SX aa w A H Z env ρ (.Assign [t,u] e pos) (.next L'' ρ2):=by
 refine⟨fun s E F=>Dd (wpM (he.run s E F) (fun v s_1 h_1=>?_)) hs hw⟩
 obtain⟨r,F_1,k⟩:=h_1
 rw[ha]
 refine A0 (A5 (wpM (ht.run s_1 E v F_1 r) (fun _ s_2 h_2=>?_)))
 obtain⟨F_2,r_2,k_2⟩:=h_2
 exact wpM (hu.run s_2 E v F_2 r_2) (fun _ s₃ h_3=>⟨⟨rfl,h_3.1⟩,k.d.trans (k_2.trans h_3.2.2)⟩)
def CBd(aa:Program)(w:World)(A:Around)(H:Ctx)(Z:ZP)(f:Value)(ps:List PV)(kw:List (Str×Value))(r:PV)(L:Led):Prop :=
 ∀(s:Shared) (E:ZV) vs,GS H Z s->Paired (Rp Z s.heap) ps vs->wpAny (model aa w) A (call f vs kw) (fun v s'=>Rp Z s'.heap r v/\GS (H.at L) Z s'/\Kp H.D s s') E s
theorem FI.led{s s':Shared}{L:Led}(S:FS H.H Z env)(F:FI H Z env ρ s)(G:GS (H.at L) Z s')(k:Kp H.D s s'):FI (H.at L) Z env ρ s':=by
 have kz:∀ b o,¬Z b->s.heap.get? b=some o->s'.heap.get? b=some o:=fun b o z e=>k.get (fun q=>z (F.dz b q)) e
 have kf:∀ a,Fa env a->∀ o,s.heap.get? a=some o->s'.heap.get? a=some o:=fun a q o e=>k.get (fun d=>F.lf a d q) e
 refine⟨G,?_,fun y p e l=>?_,fun y c e=>?_,F.lf⟩
 ·obtain⟨m,hn,hm⟩:=F.ns
  refine⟨m,hn.at' (kf _ (.inl rfl)),fun y p e l=>?_⟩
  obtain⟨v,e1,e2⟩:=hm y p e l
  exact⟨v,e1,e2.keep kz⟩
 ·obtain⟨q,c,v,e1,⟨o,e2,e2'⟩,e3⟩:=F.cl y p e l
  exact⟨q,c,v,e1,⟨o,kf c (.inr ⟨y,e1⟩) o e2,e2'⟩,e3.keep kz⟩
 ·obtain⟨z,v,o,e1,e1'⟩:=F.zc y c e
  exact⟨z,v,o,kf c (.inr ⟨y,e⟩) o e1,e1'⟩
def rA(L:Led):Out->Option Led
 | .next L _=>some L
 | .ret L _=>some L
 |_=>none
structure DfK(T:Heap)(a:Addr)(fd:FuncData)(body:List Stmt)(names:List Str):Prop where
 obj:∃ o,T.get? a=some o/\o.data=.func fd
 code:T.CodeRec fd.code fd.qualname
 body:fd.body=.stmts body
 clo:fd.closure=[]
 gl:fd.globals=mainGlobals
 bl:fd.builtins=builtinsNs
 nd:names.Nodup
 kinds:∀ L,∀ x∈names,fd.scope.names.lookup x=some .local\/(fd.scope.names.lookup x=some .cell/\((cellsFrom (L+1) fd.scope.names []).lookup x).isSome=true)
 co:fd.scope.isCoroutine=false
 gen:fd.scope.isGenerator=false
 kind:fd.scope.kind=.function
theorem r8{R:Result->Shared->Prop}{s:Shared}{a:Addr}{o:Obj}{fd:FuncData}{body:List Stmt}{ba:List Value}{kw binds:List (Str×Value)}
  (hroom:A.depth<recursionLimit) (ho:s.heap.get? a=some o) (hdata:o.data=.func fd) (hlim:s.heap.NoLimit) (hcd:s.heap.CodeRec fd.code fd.qualname)
  (hbody:fd.body=.stmts body) (hbind:Looks (model aa w) s.heap (bindArgs fd ⟨ba,kw⟩) binds) (hclo:fd.closure=[])
  (hkind:∀ x∈binds,fd.scope.names.lookup x.1=some .local\/(fd.scope.names.lookup x.1=some .cell/\((cellsFrom (s.heap.objs.size+1) fd.scope.names []).lookup x.1).isSome=true))
  (h:∀ s_1,InCallC s (callEnvC fd s.heap.objs.size a).locals (bindL (callEnvC fd s.heap.objs.size a).kindOf binds fun _=>none) (callEnvC fd s.heap.objs.size a).cells
    (bindC (callEnvC fd s.heap.objs.size a).kindOf binds fun _=>none) s_1 ->
   wpAny (model aa w) (A.deeper (callEnvC fd s.heap.objs.size a)) (execs body (callEnvC fd s.heap.objs.size a)) (fun f s'=>R (.ok (.ret (match f with| .ret v=>v|_=>.none))) s')
    (fun e s'=>wpAny (model aa w) (A.deeper (callEnvC fd s.heap.objs.size a)) (leaving (callEnvC fd s.heap.objs.size a) e) (fun _ s''=>R (.error e) s'') (fun e' s''=>R (.error e') s'') s') s_1)
  (hco:fd.scope.isCoroutine=false) (hgen:fd.scope.isGenerator=false) (hk:fd.scope.kind=.function):codeAny (model aa w) A (.call (.ref a) ⟨ba,kw⟩) R s:=by
 refine codeAny_call_function hroom ho hdata hco hgen hbody hcd ?_
 rw[hclo]
 refine hbind.here (Da hk hkind fun env he s' x=>?_)
 subst he
 exact⟨hlim.keeps x.toInCall.keep,codeAny_func (h s' x)⟩
end
abbrev Ctx.tk0(H:Ctx):Ctx:=⟨H.H,H.D,H.L,0⟩
structure cB(T:Heap)(B:List Stmt)(S:Scope)(names:List Str)(a:Addr):Prop where
 df:∃ fd,DfK T a fd B names/\fd.scope=S
structure aV(T:Heap)(a:Addr)(k:Nat)(kw:List (Str×Value))(names:List Str)(dps:List PV):Prop where
 bind:∃ ds:List Value,k+ds.length=names.length/\(∀ Z h,Paired (Rp Z h) dps ds)/\∀ o fd,T.get? a=some o->o.data=.func fd->∀ vs:List Value,vs.length=k->∀ aa w,Looks (model aa w) T (bindArgs fd ⟨vs,kw⟩) (names.zip (vs++ds))
section
def CBc(aa:Program)(w:World)(A:Around)(H:Ctx)(Z:ZP)(f:Value)(ps:List PV)(kw:List (Str×Value))(r:PV)(L:Led):Prop :=
 ∀(s:Shared) vs,GS H Z s->Paired (Rp Z s.heap) ps vs->codeAny (model aa w) A (.call f ⟨vs,kw⟩) (fun x s'=>match x with| .ok (.ret v)=>Rp Z s'.heap r v/\GS (H.at L) Z s'/\Kp H.D s s' |_=>False) s
theorem CBc.d{f:Value}{ps:List PV}{kw:List (Str×Value)}{r:PV}{L:Led}(h:CBc aa w A H Z f ps kw r L):CBd aa w A H Z f ps kw r L:=fun s E vs G P =>
 B6 (Ca (h s vs G P) fun x s' q=>by rcases x with e|(v|_|_|_) <;> first|exact q|exact q.elim)
theorem CBc.mkF{a:Addr}{B:List Stmt}{Sc:Scope}{names:List Str}{k n:Nat}{kw:List (Str×Value)}{ps dps:List PV}{r:PV}{out:Out}{L':Led}(hlim:H.H.NoLimit)(F:cB H.H B Sc names a)(hbd:aV H.H a k kw names dps)
  (hS:Sc.names.all (fun x=>x.2 != .free)=true) (R:Rm (n+1) A) (hz:∀ a,Z a->H.H.get? a=none) (hk:ps.length=k) (hr:kU out=some r) (hL:rA H.L out=some L')
  (h:∀(A':Around) (Z':ZP) (env:Env),Rm n A'->FS H.H Z' env->EO env Sc.names->(∀ o fd,H.H.get? a=some o->o.data=.func fd->env.code=fd.code)->(∀ l,A.frames=some l->A'.frames=some (env::l))->env.frame=some env.locals->SXs aa w A' H.tk0 Z' env (names.zip (ps++dps)) B out):CBc aa w A H Z (.ref a) ps kw r L':=by
 intro s vs G P
 obtain⟨fd,D,rfl⟩:=F.df
 obtain⟨o,ho,hd⟩:=D.obj
 obtain⟨ds,hdl,hdp,hbind⟩:=hbd.bind
 have hvl:vs.length=k:=by rw[(a8 P).1,hk]
 have P':Paired (Rp Z s.heap) (ps++dps) (vs++ds):=bJ P (hdp Z s.heap)
 have hm:(names.zip (vs++ds)).map (·.1)=names:=by
  rw[List.map_fst_zip];rw[List.length_append];omega
 have top:∀ b o,H.H.get? b=some o->s.heap.get? b=some o:=G.top
 refine Ca (codeAny_toks_of (n:=s.toks) (R:=fun x s'=>s.toks<=s'.toks->match x with| .ok (.ret v)=>Rp Z s'.heap r v/\GS (H.at L') Z s'/\Kp H.D s s' |_=>False) (A4 _) ?_) fun x s' q=>q.2 q.1
 refine(r8 (by have:=R.dp;omega) (top _ _ ho) hd (hlim.keeps top) (D.code.keeps top) D.body ((hbind o fd ho hd vs hvl aa w).keeps top) D.clo (fun x hx=>D.kinds _ x.1 ?_) (fun s_1 X=>?_) D.co D.gen D.kind)
 ·have:x.1∈(names.zip (vs++ds)).map (·.1):=Bp hx
  rwa [hm]at this
 generalize hL0:s.heap.objs.size=L at *
 let Z':Addr->Prop:=fun b=>Z b\/Fa (callEnvC fd L a) b
 have hfa:∀ b,Fa (callEnvC fd L a) b->L<=b:=fun b q=>by
  rcases q with q|⟨y,q⟩
  ·rw[q];exact A4 _
  ·rcases aF q with q|q
   ·simp at q
   ·exact Dw q
 have hnew:∀ b,Fa (callEnvC fd L a) b->s.heap.get? b=none:=fun b q=>aE _ (hL0▸hfa b q)
 have S':FS H.H Z' (callEnvC fd L a):=⟨fun b q=>q.elim (hz b) fun q=>G.none (hnew b q),D.kind,D.gl,D.bl,.inr (.inl rfl),bK (fun x y c h=>by simp at h) (fun x c h=>by simp at h)⟩
 obtain⟨h_1,t_1,hs_1,keep⟩:=X.done
 have keep':∀ b o,s.heap.get? b=some o->s_1.heap.get? b=some o:=fun b o e=>by rw[hs_1];exact keep b o e
 have old:∀ b o,s.heap.get? b=some o->Z' b->Z b:=fun b o e q=>q.elim id fun q=>by rw[hnew b q]at e;cases e
 have rp:∀{p:PV} {v:Value},Rp Z s.heap p v->Rp Z' s_1.heap p v:=fun x=>(x.sub old).keep fun b o _ e=>keep' b o e
 have F':FI H.tk0 Z' (callEnvC fd L a) (names.zip (ps++dps)) s_1:=by
  refine⟨⟨⟨fun b o e=>keep' b o (top b o e),fun b q=>?_⟩,Ap _,fun b d=>.inl (G.dz b d),fun b m e=>⟨(G.ld b m e).1,((G.ld b m e).2.sub old).keep (fun o e=>keep' b o e) fun b o _ e=>keep' b o e⟩⟩,⟨_,X.toInCall.ns,fun x p e l=>?_⟩,fun x p e l=>?_,fun x c e=>⟨.inr (.inr ⟨x,e⟩),_,X.cell x c e⟩,fun b d q=>?_⟩
  ·rcases q with q|q|⟨y,q⟩
   ·obtain⟨o,e⟩:=G.zex b q;exact⟨o,keep' b o e⟩
   ·subst q;obtain⟨o,_,_,e,_⟩:=X.toInCall.ns;exact⟨o,e⟩
   ·obtain⟨o,e,_⟩:=X.cell y b q;exact⟨o,e⟩
  ·obtain⟨v,hv,rv⟩:=bQ P' e
   exact⟨v,fA (by rw[hm];exact D.nd) hv l,rp rv⟩
  ·obtain⟨v,hv,rv⟩:=bQ P' e
   have hx:x∈names:=by
    have:=Bp (f:=Prod.fst) hv
    rwa [hm]at this
   have l':fd.scope.names.lookup x≠some .local:=l
   rcases D.kinds L x hx with q|⟨q1,q2⟩
   ·exact absurd q l'
   ·obtain⟨c,hc⟩:=Ar.mp q2
    refine⟨.inl q1,c,v,hc,?_,rp rv⟩
    have:=X.cell x c hc
    rwa [eV (by rw[hm];exact D.nd) hv l]at this
  ·obtain⟨o,e⟩:=G.zex b (G.dz b d)
   rw[hnew b q]at e;cases e
 refine B1 ((h _ Z' _ R.deeper S' (EO.fn hS) (fun o' fd' e e'=>by rw[ho]at e;cases e;rw[hd]at e';cases e';rfl) (fun l q=>by show A.frames.map _=_;rw[q];rfl) rfl).run s_1 (fun _ _=>False) F') (fun f s' q=>?_) fun _ _ x=>x.elim
 obtain⟨q,kk⟩:=q
 have K:s.toks<=s'.toks->Kp H.D s s':=fun ht=>Kp.from hs_1 kk ht fun b o nd e=>kk.get (fun f=>f.elim (fun f=>by rw[hnew b f]at e;cases e) nd) (keep' b o e)
 have back:∀{L_1:Led},s.toks<=s'.toks->GS (H.tk0.at L_1) Z' s'->GS (H.at L_1) Z s':=fun ht g=>⟨⟨g.top,fun b z=>g.zex b (.inl z)⟩,A7 G.tk ht,G.dz,fun b m e=>⟨(g.ld b m e).1,(g.ld b m e).2.sub fun _ _ _ q=>.inl q⟩⟩
 cases out with
 |next L_1 ρ =>
  obtain⟨rfl,F_1⟩:=q
  cases hr;cases hL
  exact fun ht=>⟨.none,back ht F_1.toGS,K ht⟩
 |cont L_1 ρ=>cases hr
 |brk L_1 ρ=>cases hr
 |ret L_1 p =>
  obtain⟨v,rfl,rv,G1⟩:=q
  cases hr;cases hL
  exact fun ht=>⟨rv.sub fun _ _ _ q=>.inl q,back ht G1,K ht⟩
theorem CBc.mkC{a:Addr}{B:List Stmt}{Sc:Scope}{names:List Str}{k n:Nat}{kw:List (Str×Value)}{ps dps:List PV}{r:PV}{out:Out}{L':Led}(hlim:H.H.NoLimit)(F:cB H.H B Sc names a)(hbd:aV H.H a k kw names dps)
  (hS:Sc.names.all (fun x=>x.2 != .free)=true) (R:Rm (n+1) A) (hz:∀ a,Z a->H.H.get? a=none) (hk:ps.length=k) (hr:kU out=some r) (hL:rA H.L out=some L')
  (h:∀(A':Around) (Z':ZP) (env:Env),Rm n A'->FS H.H Z' env->EO env Sc.names->(∀ o fd,H.H.get? a=some o->o.data=.func fd->env.code=fd.code)->SXs aa w A' H.tk0 Z' env (names.zip (ps++dps)) B out):CBc aa w A H Z (.ref a) ps kw r L' :=
 CBc.mkF hlim F hbd hS R hz hk hr hL fun A' Z' env a b c d _ _=>h A' Z' env a b c d
theorem CBc.mk{a:Addr}{B:List Stmt}{Sc:Scope}{names:List Str}{k n:Nat}{kw:List (Str×Value)}{ps dps:List PV}{r:PV}{out:Out}{L':Led}(hlim:H.H.NoLimit)(F:cB H.H B Sc names a)(hbd:aV H.H a k kw names dps)
  (hS:Sc.names.all (fun x=>x.2 != .free)=true) (R:Rm (n+1) A) (hz:∀ a,Z a->H.H.get? a=none) (hk:ps.length=k) (hr:kU out=some r) (hL:rA H.L out=some L')
  (h:∀(A':Around) (Z':ZP) (env:Env),Rm n A'->FS H.H Z' env->EO env Sc.names->SXs aa w A' H.tk0 Z' env (names.zip (ps++dps)) B out):CBc aa w A H Z (.ref a) ps kw r L' :=
 CBc.mkC hlim F hbd hS R hz hk hr hL fun A' Z' env r s e _=>h A' Z' env r s e
theorem eG{f:Value}{pos:Pos}{es:List Expr}{ps:List PV}(hl:LX aa w A H Z env ρ pos es ps){s:Shared}{E:ZV}(F:FI H Z env ρ s)(hh:(backTo pos (starEach es env))=[]\/∃ y r,backTo pos (starEach es env)=(false,y)::r) :
  wpAny (model aa w) A (evalArgs f true (backTo pos (starEach es env)) []) (fun x s'=>x.kw=[]/\Paired (Rp Z s'.heap) ps x.pos/\Kp N0 s s') E s:=by
 have h:=hl.run s E F
 rcases hh with e|⟨y,r,e⟩
 ·rw[e]at h ⊢
  unfold evalArgs
  refine A0 (wpM h (fun vs s' q=>?_))
  refine A0 (A1 ?_)
  refine A5 ?_
  exact A0 (A1 (A0 (A1 (A1 ⟨rfl,q⟩))))
 ·rw[e]at h ⊢
  exact evalArgs_plain (wpM h (fun vs s' q=>⟨rfl,q⟩))
def dT(K:Frag)(C:Addr)(name:Str)(f:Addr):Bool:=plainGet K C name&&findIn K (.ref C) name==some (some (.ref f))&&isFn K (.ref f)
theorem EXd.meth{K:Frag}{C x dx f:Addr}{name:Str}{o:Expr}{es:List Expr}{aq pos:Pos}{pl:Sem Bool}{ns:List Str}{ps qs:List PV}{r:PV}{L':Led}(S:FS H.H Z env)(X:K.In H.H)(hf:∃ o fd,H.H.get? f=some o/\o.data=.func fd)(ho:EX aa w A H Z env ρ o (aG C x dx))(hk:dT K C name f=true)
  (hL:H.L.lookup dx=some (a9 ns ps)) (hn:cV ns ps name=none) (hl:LX aa w A H Z env ρ pos es qs) (hc:CBd aa w A H Z (.ref f) (aG C x dx::qs) [] r L')
  (hh:(backTo pos (starEach es env))=[]\/∃ y r,backTo pos (starEach es env)=(false,y)::r)
  (he:eval (.Call (.Attribute o name aq) es [] pos) env=(do
   let ov <-eval o env
   standAt aq.atName
   let(f,first) <-holding [ov] (getMethod ov name pl)
   callWith pos f first (backTo pos (starEach es env)) [])):EXd aa w A H Z env ρ (.Call (.Attribute o name aq) es [] pos) r L':=by
 refine⟨fun s E F=>?_⟩
 refine Br (pl:=pl) (wpM (ho.run s E F) (fun v s_1 h_1=>?_)) he
 obtain⟨hv,k⟩:=h_1
 have F_1:=F.kp0 k
 obtain⟨rfl,_,hx⟩:=hv.ins
 obtain⟨es',n,vs,hd,hi,pr⟩:=F_1.toGS.ins hL
 obtain⟨h12,h3⟩:=A6.mp hk
 obtain⟨h1,h2⟩:=A6.mp h12
 obtain⟨of,fd,hof,hfd⟩:=hf
 refine Gq (X.keeps F_1.top) (od:=some (dictOf es' n)) ⟨hx,rfl,rfl,hd⟩ (Cc h1).1 (Cc h1).2 (Ai.mp h2) (Ai.mp h3) (by show(lookIn name (dictOf es' n)).map _=_;rw[lookIn_dict,hi.get,cG (by rw[(a8 pr).1]) hn];rfl) ?_
 refine E0 (o:=of) (fd:=fd) (wpM (eG hl F_1 hh) (fun a s_2 h_2=>?_))
 obtain⟨hkw,pa,k_2⟩:=h_2
 have F_2:=F_1.kp0 k_2
 rw[hkw]
 refine⟨⟨F_2.top _ _ hof,hfd⟩,wpM (hc s_2 E _ F_2.toGS (.cons (hv.kp0 k_2) pa)) (fun y s₃ h_3=>?_)⟩
 exact⟨h_3.1,F_2.led S h_3.2.1 h_3.2.2,k.z.trans (k_2.z.trans h_3.2.2)⟩
theorem Rm.tc{n:Nat}{C:Addr}{vs:List Value}{kw:List (Str×Value)}(x:Rm (n+1) A):Rm n (A.under (.builtin "type.__call__" ⟨.ref C::vs,kw⟩)) :=
 ⟨x.hd,by have:=x.dp;show A.depth+1+8*n+8<_;omega,by
  have:=x.un
  have e:(Code.builtin "type.__call__" ⟨.ref C::vs,kw⟩).cUnits<=16:=Ak ⋯
  show A.units+(Code.builtin "type.__call__" ⟨.ref C::vs,kw⟩).cUnits+32*n+64<_
  omega⟩
abbrev cx0(T:Heap)(tk:Nat):Ctx:=⟨T,N0,[],tk⟩
theorem GS.cx0{s:Shared}(G:GS H Z s):GS (cx0 H.H H.tk) Z s:=⟨G.toGT,G.tk,fun _ d=>d.elim,fun a m e=>by cases e⟩
theorem GS.grow{s s':Shared}{g:Addr}{m:MO}(G:GS H Z s)(k:Kp N0 s s')(hg:s.heap.get? g=none)(hm:MOk (aX Z g) s'.heap g m):GS (H.own g m) (aX Z g) s':=by
 have G':=G.kp0 k
 refine⟨⟨G'.top,fun a q=>?_⟩,G'.tk,fun a d=>d.elim (fun d=>.inl (G.dz a d)) .inr,fun a m_1 e=>?_⟩
 ·rcases q with q|q
  ·exact G'.zex a q
  ·subst q;obtain⟨o,_,e,_⟩:=hm;exact⟨o,e⟩
 ·have e:List.lookup a ((g,m)::H.L)=some m_1:=e
  rw[List.lookup_cons]at e
  by_cases q:a=g
  ·subst q;simp at e;subst e;exact⟨.inr rfl,hm⟩
  ·rw[beq_eq_false_iff_ne.mpr q]at e
   obtain⟨d,y⟩:=G.ld a m_1 e
   exact⟨.inl d,(y.sub fun b o e' z=>z.elim id fun z=>by subst z;rw[hg]at e';cases e').keep (fun o e=>k.get (fun q=>q) e) fun b o _ e=>k.get (fun q=>q) e⟩
def jH(K:Frag)(C f:Addr):Bool:=makesIn K C&&findIn K (.ref C) "__init__" == some (some (.ref f))&&typeIn K (.ref f)==some (.type "function")
def Made(T:Heap)(tk:Nat)(Z:ZP)(C:Addr)(ns:List Str)(qs:List PV)(s:Shared)(v:Value)(s':Shared):Prop :=
 ∃ x dx,v=.ref x/\s.heap.get? x=none/\s.heap.get? dx=none/\Rp (aX Z dx) s'.heap (aG C x dx) v/\GS ((cx0 T tk).own dx (a9 ns qs)) (aX Z dx) s'/\Kp N0 s s'
theorem oY{K:Frag}{C f:Addr}{T:Heap}{tk n:Nat}{ps qs:List PV}{ns:List Str}(X:K.In T)(hk:jH K C f=true)(R:Rm (n+1) A)(hz:∀ a,Z a->T.get? a=none)
  (hinit:∀(A':Around) x dx,Rm n A'->(∀ a,aX Z dx a->T.get? a=none)->CBc aa w A' ((cx0 T tk).own dx (a9 [] [])) (aX Z dx) (.ref f) (aG C x dx::ps) [] .none [(dx,a9 ns qs)])
  (s:Shared) (vs:List Value) (G:GS (cx0 T tk) Z s) (P:Paired (Rp Z s.heap) ps vs):codeAny (model aa w) A (.call (.ref C) ⟨vs,[]⟩) (fun r s'=>match r with| .ok (.ret v)=>Made T tk Z C ns qs s v s' |_=>False) s:=by
 obtain⟨hh,g,d,t,os⟩:=s
 simp only[jH,Bool.and_eq_true,beq_iff_eq]at hk
 obtain⟨⟨hm,hi⟩,hf⟩:=hk
 have XX:K.In hh:=X.keeps G.top
 refine make_core (makes_of XX hm) (Bf XX hi) (fun self=>bind_fn XX self hf) (.inl rfl) ?_
 have kp:Kp N0 (⟨hh,g,d,t,os⟩:Shared) ⟨(hh.push emptyDict).push (instObj C hh.objs.size),g,d,t,os⟩:=Kp.mk (tk:=t) (h':=(hh.push emptyDict).push (instObj C hh.objs.size)) fun b o _ e=>A2 _ (A2 _ e)
 have hg:(⟨hh,g,d,t,os⟩:Shared).heap.get? hh.objs.size=none:=aE _ (A4 _)
 have hx':(⟨hh,g,d,t,os⟩:Shared).heap.get? (hh.objs.size+1)=none:=aE _ (Ad _)
 have hx:((hh.push emptyDict).push (instObj C hh.objs.size)).get? (hh.objs.size+1)=some (instObj C hh.objs.size):=by heap_get
 have hd:((hh.push emptyDict).push (instObj C hh.objs.size)).get? hh.objs.size=some emptyDict:=by heap_get
 have nzx:¬aX Z hh.objs.size (hh.objs.size+1):=fun q=>q.elim (G.toGT.free hx') fun q=>C2 _ q
 have G1:=G.grow kp hg (m:=a9 [] []) ⟨_,[],hd,⟨[],0,rfl,trivial⟩,.nil⟩
 have hz':∀ a,aX Z hh.objs.size a->T.get? a=none:=fun a q=>q.elim (hz a) fun q=>q▸G.none hg
 refine Ca (hinit _ (hh.objs.size+1) hh.objs.size R.tc hz' _ (.ref (hh.objs.size+1)::vs) G1 (.cons (.insOf nzx hx) (aA (fun _ _ r=>(r.sub fun b o e q=>q.elim id fun q=>by subst q;rw[hg]at e;cases e).kp0 kp) P))) fun r s' q=>?_
 rcases r with e|(v|_|_|_) <;> first|exact q.elim|skip
 obtain⟨rv,G_2,k_2⟩:=q
 refine⟨by cases rv;rfl,hh.objs.size+1,hh.objs.size,rfl,hx',hg,?_,?_,?_⟩
 ·refine .insOf nzx (k_2.get (fun q=>q.elim (fun q=>q) fun q=>C2 _ q) hx)
 ·exact G_2
 ·exact kp.join k_2 fun b o _ e=>k_2.get (fun q=>q.elim (fun q=>q) fun q=>by subst q;rw[hg]at e;cases e) (kp.get (fun q=>q) e)
end
def hU(y:Addr):PV->Prop
 | .none| .bool _| .int _| .str _| .raw _=>True
 |p=>∃ C x dx,p=aG C x dx/\x≠y
theorem Rp.dodge{Z:ZP}{h h':Heap}{y:Addr}{p:PV}{v:Value}(d:hU y p)(hs:Heap.SameBut y h h')(r:Rp Z h p v):Rp Z h' p v:=by
 cases p with
 |none=>cases r;exact .none
 |bool b=>cases r;exact .bool b
 |int i=>cases r;exact .int i _
 |str x=>cases r;exact .str x _
 |raw v=>cases r;exact .raw _
 |own P =>
  obtain⟨C,x,dx,e,hx⟩:=d
  rw[e]at r ⊢
  obtain⟨rfl,nz,o⟩:=r.ins
  exact .insOf nz ((hs.2 x hx).trans o)
 |tup l=>obtain⟨C,x,dx,e,hx⟩:=d;cases e
 |lst l=>obtain⟨C,x,dx,e,hx⟩:=d;cases e
 |rng a b=>obtain⟨C,x,dx,e,hx⟩:=d;cases e
 |stk a b=>obtain⟨C,x,dx,e,hx⟩:=d;cases e
section
theorem FI.dodge{s:Shared}{y:Addr}{h':Heap}{tk:Nat}(S:FS H.H Z env)(F:FI H Z env ρ s)(ny:¬Z y)(hT:H.H.get? y=none)(hs:Heap.SameBut y s.heap h')(hρ:∀ x p,ρ.lookup x=some p->hU y p)(hL:∀ a m,H.L.lookup a=some m->∀ p∈m.ps,hU y p)(ht:s.toks<=tk) :
  FI H Z env ρ {s with heap:=h',toks:=tk}:=by
 have kz:∀ a,Z a->∀ o,s.heap.get? a=some o->h'.get? a=some o:=fun a z o e=>(hs.2 a fun q=>ny (q▸z)).trans e
 have kf:∀ a,Fa env a->∀ o,s.heap.get? a=some o->h'.get? a=some o:=fun a q=>kz a (Fa.z S F q)
 refine⟨⟨⟨fun b o e=>(hs.2 b fun q=>by rw[q,hT]at e;cases e).trans (F.top b o e),fun a z=>let⟨o,e⟩:=F.zex a z;⟨o,kz a z o e⟩⟩,A7 F.tk ht,F.dz,fun a m e=>⟨(F.ld a m e).1,?_⟩⟩,?_,fun x p e l=>?_,fun x c e=>?_,F.lf⟩
 ·obtain⟨o,vs,e1,e2,e3⟩:=(F.ld a m e).2
  refine⟨o,vs,kz a (F.dz a (F.ld a m e).1) o e1,e2,?_⟩
  have key:∀{ps:List PV} {vs:List Value},(∀ p∈ps,hU y p)->Paired (Rp Z s.heap) ps vs->Paired (Rp Z h') ps vs:=fun hm x=>by
   induction x with
   |nil=>exact .nil
   |cons r _ ih=>exact .cons (r.dodge (hm _ Ah) hs) (ih fun p hp=>hm p (Ae _ hp))
  exact key (hL a m e) e3
 ·obtain⟨m,hn,hm⟩:=F.ns
  refine⟨m,hn.at' (kf _ (.inl rfl)),fun x p e l=>?_⟩
  obtain⟨v,e1,e2⟩:=hm x p e l
  exact⟨v,e1,e2.dodge (hρ x p e) hs⟩
 ·obtain⟨q,c,v,e1,⟨o,e2,e2'⟩,e3⟩:=F.cl x p e l
  exact⟨q,c,v,e1,⟨o,kf c (.inr ⟨x,e1⟩) o e2,e2'⟩,e3.dodge (hρ x p e) hs⟩
 ·obtain⟨z,v,o,e1,e1'⟩:=F.zc x c e
  exact⟨z,v,o,kf c (.inr ⟨x,e⟩) o e1,e1'⟩
end
def jE(h:Heap)(a:Addr)(is:List Int):Prop:=∃ its,PlainL h a its/\Paired (fun i v=>∃ t,v=Value.int i t) is its.toList
inductive BL (h:Heap) (P:ZP):List (Nat×List Int)->List (Str×Value)->Prop
 |nil:BL h P [] []
 |cons {c:Nat} {is:List Int} {a:Addr} {bs au}:jE h a is->P a->(∀ kv∈au,kv.2≠.ref a)->BL h P bs au->BL h P ((c,is)::bs) ((ch c,.ref a)::au)
def g7:List (Nat×List Int)->Nat->Int->List (Nat×List Int)
 |[],c,i=>[(c,[i])]
 |(d,is)::r,c,i=>if d=c then(d,is++[i])::r else(d,is)::g7 r c i
theorem nX{c d:Nat}(h:ch c=ch d):c=d:=by
 have:(ch c).cps=(ch d).cps:=Az Str.cps h
 have:#[c]=#[d]:=this
 simpa using this
theorem jE.keep{h h':Heap}{a:Addr}{is:List Int}(x:jE h a is)(k:∀ o,h.get? a=some o->h'.get? a=some o):jE h' a is :=
 let⟨its,⟨o,n,e,r⟩,p⟩:=x;⟨its,⟨o,n,k o e,r⟩,p⟩
theorem BL.keep{h h':Heap}{P P':ZP}{bs au}(x:BL h P bs au)(k:∀ a,P a->∀ o,h.get? a=some o->h'.get? a=some o)(hp:∀ a,P a->P' a):BL h' P' bs au:=by
 induction x with
 |nil=>exact .nil
 |cons n p f _ ih=>exact .cons (n.keep (k _ p)) (hp _ p) f ih
theorem BL.live{h:Heap}{P:ZP}{bs au}(x:BL h P bs au):∀ kv∈au,∃ a o,kv.2=.ref a/\h.get? a=some o:=by
 induction x with
 |nil=>intro kv hk;cases hk
 |cons n p f _ ih =>
  intro kv hk
  rcases Ab.mp hk with rfl|hk
  ·obtain⟨its,⟨o,_,e,_⟩,_⟩:=n;exact⟨_,o,rfl,e⟩
  ·exact ih kv hk
theorem BL.len{h:Heap}{P:ZP}{bs au}(x:BL h P bs au):au.length=bs.length:=by
 induction x with
 |nil=>rfl
 |cons n p f _ ih=>simp[ih]
theorem BL.hit{h:Heap}{P:ZP}{c:Nat}{i:Int}{v:Value}{bs au}(x:BL h P bs au):valueAt au (ch c)=some v->∃ a is its,v=.ref a/\P a/\(c,is)∈bs/\PlainL h a its/\its.size=is.length /\
  ∀ h' t,PlainL h' a (its.push (.int i t))->(∀ b,b≠a->P b->∀ o,h.get? b=some o->h'.get? b=some o)->BL h' P (g7 bs c i) au:=by
 induction x with
 |nil=>intro e;cases e
 | @cons d js b bs au n p f r ih =>
  intro e
  unfold valueAt at e
  rw[List.find?_cons]at e
  by_cases q:d=c
  ·subst q
   simp at e;subst e
   obtain⟨its,pl,pr⟩:=n
   refine⟨b,js,its,rfl,p,Ah,pl,by have:=(a8 pr).1;simpa using this,fun h' t pl' hs=>?_⟩
   unfold g7
   rw[if_pos rfl]
   refine .cons ⟨_,pl',by rw[Array.toList_push];exact bJ pr (.cons ⟨t,rfl⟩ .nil)⟩ p f ?_
   clear ih
   induction r with
   |nil=>exact .nil
   |cons n' p' f' _ ih' =>
    refine .cons (n'.keep fun o e=>hs _ (fun q=>f _ Ah (by rw[q])) p' o e) p' f' (ih' fun kv hk=>f kv (Ae _ hk))
  ·have q':decide (ch d=ch c)=false:=Bd fun z=>q (nX z)
   rw[q']at e
   obtain⟨a,is,its,rfl,pa,hm,pl,hl,hk⟩:=ih e
   have hv:valueAt au (ch c)=some (.ref a):=e
   refine⟨a,is,its,rfl,pa,Ae _ hm,pl,hl,fun h' t pl' hs=>?_⟩
   unfold g7
   rw[if_neg q]
   refine .cons (n.keep fun o e'=>hs b (fun z=>?_) p o e') p f (hk h' t pl' hs)
   subst z
   obtain⟨kv,hkv,e2⟩:=Bb.mp hv
   exact f kv (Fc hkv) e2
theorem BL.miss{h:Heap}{P:ZP}{c:Nat}{i:Int}{a:Addr}{bs au}(x:BL h P bs au):valueAt au (ch c)=none->(∀ kv∈au,kv.2≠.ref a)->jE h a [i]->P a->BL h P (g7 bs c i) (stored au (ch c) (.ref a)):=by
 have key:valueAt au (ch c)=none->(∀ kv∈au,kv.2≠.ref a)->jE h a [i]->P a->BL h P (g7 bs c i) (au++[(ch c,.ref a)])/\(au.any fun kv=>kv.1=ch c)=false:=by
  induction x with
  |nil=>intro _ _ n p;exact⟨.cons n p (fun kv hk=>by cases hk) .nil,rfl⟩
  | @cons d js b bs au n p f r ih =>
   intro e nf n' p'
   unfold valueAt at e
   rw[List.find?_cons]at e
   by_cases q:d=c
   ·subst q;simp at e
   ·have q':decide (ch d=ch c)=false:=Bd fun z=>q (nX z)
    rw[q']at e
    obtain⟨r1,r2⟩:=ih e (fun kv hk=>nf kv (Ae _ hk)) n' p'
    unfold g7
    rw[if_neg q]
    refine⟨.cons n p (fun kv hk=>?_) r1,by rw[List.any_cons];simp only[q',r2,Bool.or_false]⟩
    rcases Cl.mp hk with hk|hk
    ·exact f kv hk
    ·rw[List.mem_singleton]at hk;subst hk
     exact fun z=>nf _ Ah z.symm
 intro e nf n p
 obtain⟨r1,r2⟩:=key e nf n p
 unfold stored
 rw[r2,if_neg ‹d›]
 exact r1
section
theorem tZ{x:Str}{e:Expr}{nm:Str}{aj pos:Pos}(hA:A.handled=none)(hx:x.cps.all (· < 128)=true)(hf:NM aa w A H Z env nm (.type "enumerate"))(h:EX aa w A H Z env ρ e (.str x)){s:Shared}{E:ZV}(F:FI H Z env ρ s)
  (hs:starEach [e] env=(false,eval e env)::starEach [] env)
  (he:eval (.Call (.Name nm aj) [e] [] pos) env=(do callWith pos (<-eval (.Name nm aj) env) [] (backTo pos (starEach [e] env)) (backToKw pos (keywordEach [] env)))) :
  wpAny (model aa w) A (eval (.Call (.Name nm aj) [e] [] pos) env) (fun v s_1=>wpAny (model aa w) A (pyIter v) (fun it s_2=>Kp N0 s s_2/\∃ en ir,it=.ref en/\s.heap.get? en=none/\s.heap.get? ir=none /\
   ∃ Pt St Mid,St 0 s_2.heap/\WalksT aa w A en [en,ir] [en,ir] x.cps.toList.length Pt St Mid/\(∀ i ba,Pt i ba->∃(c:Nat) (t u:Tok),x.cps.toList[i]? = some c/\ba=#[.int (i:Int) t,.str (ch c) u])/\(∀ i h,St i h->∀ b∈[en,ir],∃ o,h.get? b=some o)) E s_1) E s:=by
 refine Call_ (wpM (hf s E ρ aj F) (fun u s' q=>?_)) he
 obtain⟨rfl,rfl⟩:=q
 refine callWith_type1 (Gp (wpM (h.run s' E F) (fun v s_1 h_1=>args_nil ?_)) hs) hs rfl
 obtain⟨hv,k1⟩:=h_1
 obtain⟨t,rfl⟩:=Rp.strI hv
 refine call_enumerate_str fun h' hen hit hsz hk=>?_
 have k2:Kp N0 s_1 {s_1 with heap:=h'}:=Kp.mk (tk:=s_1.toks) fun b o _ e=>hk b o e
 have hei:s_1.heap.objs.size+1≠s_1.heap.objs.size:=C2 _
 have ht:strIterType x = "str_ascii_iterator":=by unfold strIterType;rw[hx];rfl
 rw[ht]at hit
 refine Fh hen ?_
 have W:=Dz (@Draws.strAscii aa w A.in1 hA s_1.heap.objs.size x t) (s_1.heap.objs.size+1) hei ‹s› ‹s›
 refine⟨k1.trans k2,s_1.heap.objs.size+1,s_1.heap.objs.size,rfl,k1.none (fun q=>q) (aE _ (Ad _)),k1.none (fun q=>q) (aE _ (A4 _)),_,_,_,?_,by simpa using W,fun i ba hpt=>?_,fun i h st b hb=>?_⟩
 ·exact⟨⟨_,hen⟩,hit⟩
 ·obtain⟨t',v,⟨c',hc',u,rfl⟩,rfl⟩:=hpt
  exact⟨c',t',u,by simpa using hc',rfl⟩
 ·obtain⟨⟨old,e1⟩,o,e2,_⟩:=st
  rcases Ab.mp hb with rfl|hb
  ·exact⟨_,e1⟩
  ·rw[List.mem_singleton.mp hb];exact⟨o,e2⟩
def aK{κ:Type}[DecidableEq κ](knd:KeyKind aa w κ)(D:List (κ×PV)):PV:=.own fun Z h v=>∃ g au,v=.ref g/\¬Z g/\h.DictOf knd g au/\au.map (·.1)=D.map (·.1)/\Paired (Rp Z h) (D.map (·.2)) (au.map (·.2))/\(g==sysModules)=false
theorem DictOf.keep{κ:Type}[DecidableEq κ]{knd:KeyKind aa w κ}{h h':Heap}{g:Addr}{au:List (κ×Value)}(x:h.DictOf knd g au)(k:∀ o,h.get? g=some o->h'.get? g=some o):h'.DictOf knd g au :=
 let⟨o,es,ep,ho,r⟩:=x;⟨o,es,ep,k o ho,r⟩
theorem Rp.fut{Z Z':ZP}{h h':Heap}{p:PV}{v:Value}(x:Rp Z h p v)(k:∀ b o,¬Z b->h.get? b=some o->h'.get? b=some o)(hz:∀ a o,h.get? a=some o->Z' a->Z a):Rp Z' h' p v:=by
 induction x with
 |none=>exact .none
 |bool b=>exact .bool b
 |int i t=>exact .int i t
 |str x t=>exact .str x t
 |tup z e c d hs _ ih=>exact .tup (fun q=>z (hz _ _ e q)) (k _ _ z e) c d hs ih
 |lst z e c d hs _ ih=>exact .lst (fun q=>z (hz _ _ e q)) (k _ _ z e) c d hs ih
 |rng z e=>exact .rng (fun q=>z (hz _ _ e q)) (k _ _ z e)
 |raw v=>exact .raw v
 |stk x P t q=>exact .stk x P t q
 |own P v q=>exact .own P v fun Z'' h'' k' hz'=>q Z'' h'' (fun b o z e=>k' b o (fun q=>z (hz b o e q)) (k b o z e)) fun a o e z''=>Cj fun n=>n (hz a o e (hz' a o (k a o n e) z''))
theorem Rp.dic{κ:Type}[DecidableEq κ]{knd:KeyKind aa w κ}{D:List (κ×PV)}{Z:ZP}{h:Heap}{g:Addr}{au:List (κ×Value)}(z:¬Z g)(x:h.DictOf knd g au)(hk:au.map (·.1)=D.map (·.1))(P:Paired (Rp Z h) (D.map (·.2)) (au.map (·.2)))(hs:(g==sysModules)=false):Rp Z h (aK knd D) (.ref g) :=
 .own _ _ fun Z' h' k hz=>⟨g,au,rfl,fun q=>(by obtain⟨o,_,_,e,_⟩:=x;exact z (hz g o e q)),DictOf.keep x (fun o e=>k g o z e),hk,aA (fun _ _ r=>r.fut k hz) P,hs⟩
theorem Rp.dicOf{κ:Type}[DecidableEq κ]{knd:KeyKind aa w κ}{D:List (κ×PV)}{Z:ZP}{h:Heap}{v:Value}(r:Rp Z h (aK knd D) v):∃ g au,v=.ref g/\¬Z g/\h.DictOf knd g au/\au.map (·.1)=D.map (·.1)/\Paired (Rp Z h) (D.map (·.2)) (au.map (·.2))/\(g==sysModules)=false:=by
 cases r with
 |own P v q=>exact q Z h (fun _ _ _ e=>e) fun _ _ _ z=>z
end
def n9:PV:=.own fun Z h v=>∃ a led,v=.ref a/\¬Z a/\h.get? a=some {cls:=.type "set",dict:=Option.none,data:=.set #[] 0 (.fresh 0 0 led)}
theorem Rp.set{Z:ZP}{h:Heap}{a:Addr}{led:Bool}(z:¬Z a)(e:h.get? a=some {cls:=.type "set",dict:=Option.none,data:=.set #[] 0 (.fresh 0 0 led)}):Rp Z h n9 (.ref a) :=
 .own _ _ fun Z' h' k hz=>⟨a,led,rfl,fun q=>z (hz a _ e q),k a _ z e⟩
theorem Rp.setOf{Z:ZP}{h:Heap}{v:Value}(r:Rp Z h n9 v):∃ a led,v=.ref a/\¬Z a/\h.get? a=some {cls:=.type "set",dict:=Option.none,data:=.set #[] 0 (.fresh 0 0 led)}:=by
 cases r with
 |own P v q=>exact q Z h (fun _ _ _ e=>e) fun _ _ _ z=>z
section
theorem EX.set0{x:Str}{aj pos:Pos}(hf:NM aa w A H Z env x (.type "set")):EX aa w A H Z env ρ (.Call (.Name x aj) [] [] pos) n9:=⟨fun s E F =>
 Call_Name0 (wpM (hf s E ρ aj F) (fun u s' q=>by
  obtain⟨rfl,rfl⟩:=q
  refine callWith_type0 (pos:=pos) (env:=env) (call_set_0 fun led=>?_)
  exact⟨.set F.toGT.new (A3 _ rfl),Kp.push _ _ _⟩))⟩
theorem O2.geI{a b:Int}:O2 aa w A H Z (compareOp .GtE) (.int a) (.int b) (.bool (decide (b<=a))):=by
 intro s E v u G hv hu
 cases hv;cases hu
 exact PyProof.Rows.ge_int ⟨.bool _,Kp.refl _ _⟩
theorem OT.none:OT aa w A H Z .none false:=fun s E v G r=>by
 cases r;exact A1 (a:=false) ⟨rfl,Kp.refl _ _⟩
theorem OT.bool{b:Bool}:OT aa w A H Z (.bool b) b:=fun s E v G r=>by
 cases r;exact Dt ⟨rfl,Kp.refl _ _⟩
end
theorem uE:typeLookup (.type "method_descriptor") "__get__" = pure (some (.builtin "method_descriptor.__get__")):=by rw[typeLookup_type,builtinLookup_eq_fast];kernel_rfl
theorem uA:typeLookup (.type "method_descriptor") "__set__" = pure none:=by rw[typeLookup_type,builtinLookup_eq_fast];kernel_rfl
theorem mW:typeLookup (.type "method_descriptor") "__delete__" = pure none:=by rw[typeLookup_type,builtinLookup_eq_fast];kernel_rfl
theorem u4:entryFor table "method_descriptor.__get__" = some Builtin.«method_descriptor.__get__»:=E8 ⋯
theorem uJ:plainId "method_descriptor.__get__" = true:=by decide +kernel
theorem xA:builtinKind "method_descriptor.__get__" = some .slot:=by decide +kernel
theorem w4:splitId "method_descriptor.__get__" = some ("method_descriptor","__get__"):=by decide +kernel
theorem xY(a b c:Value):argsOk "method_descriptor.__get__" ⟨[a,b,c],[]⟩:=by unfold argsOk;kernel_rfl
theorem yW:isSubtype (.type "method_descriptor") (.type "method_descriptor")=pure true:=by rw[isSubtype_type];kernel_rfl
abbrev bU(id:String)(v:Value):Obj:={cls:=.type "builtin_function_or_method",data:=.fields #[.builtin id,v]}
section
theorem rP{a:Addr}{id T:String}{R:Result->Shared->Prop}(hT:s.TypeIs (.ref a) T)(ht:typeOf (.builtin id)=pure (.type "method_descriptor"))(hs:isSubtype (.type T) (.type T)=pure true)
  (hb:∀(Q:Fin->Shared->Prop) (E:ZV),wpAny (model aa w) A.in1 (isInstance (.ref a) (.type T)) (fun b s'=>b=true/\wpAny (model aa w) A.in1 (newFields "builtin_function_or_method" [.builtin id,.ref a] >>= ret) Q E s') E s->wpAny (model aa w) A.in1 (Builtin.«method_descriptor.__get__» ⟨[.builtin id,.ref a,.type T],[]⟩) Q E s)
  (h:R (.ok (.ret (.ref s.heap.objs.size))) {s with heap:=s.heap.push (bU id (.ref a))}) :
  codeAny (model aa w) A (.call (.builtin "method_descriptor.__get__") ⟨[.builtin id,.ref a,.type T],[]⟩) R s:=by
 have looks:Looks (model aa w) s.heap (isInstance (.builtin id) (.type "method_descriptor")) true:=(Bs ht).andThen (Bs yW)
 refine Ba uJ u4 (@check_slot (model aa w) _ _ s "method_descriptor.__get__" "method_descriptor" "__get__" (.builtin id) [.ref a,.type T] [] _ xA w4 looks (xY _ _ _) ?_)
 obtain⟨o,ho,hc⟩:=hT
 have li:Looks (model aa w) s.heap (isInstance (.ref a) (.type T)) true:=(Cn ho).andThen (by rw[hc];exact Bs hs)
 have fin:wpAny (model aa w) A.in1 (newFields "builtin_function_or_method" [.builtin id,.ref a] >>= ret) (fun fin s'=>match fin with| .done f=>R (.ok f) s' | .again c'=>c'.quiet=true/\codeAny (model aa w) A c' R s') (fun e s'=>R (.error e) s') s :=
  A0 (Aj (A1 h))
 exact hb _ _ (li.here ⟨rfl,fin⟩)
theorem x0{a:Addr}{R:Result->Shared->Prop}(hT:s.TypeIs (.ref a) "dict")(h:R (.ok (.ret (.ref s.heap.objs.size))) {s with heap:=s.heap.push (bU "dict.get" (.ref a))}) :
  codeAny (model aa w) A (.call (.builtin "method_descriptor.__get__") ⟨[.builtin "dict.get",.ref a,.type "dict"],[]⟩) R s:=by
 refine rP hT E5 (by rw[isSubtype_type];kernel_rfl) (fun Q E h=>?_) h
 unfold Builtin.«method_descriptor.__get__»
 refine A0 (Aa (a:=(Value.builtin "dict.get",some (Value.ref a),some (Value.type "dict"))) ⋯ ?_)
 dsimp only
 rw[show Manifest.toldItsClass.contains "dict.get" = false from by kernel_rfl]
 simp only[Bool.false_eq_true,if_false]
 refine A0 ?_
 refine A0 (Aa (a:=((PySem.Str.ofString "get" : Str),Value.type "dict")) ⋯ ?_)
 exact A0 (wpM h (fun b s' q=>by obtain⟨rfl,q⟩:=q;exact A1 q))
theorem xI{a:Addr}{R:Result->Shared->Prop}(hT:s.TypeIs (.ref a) "set")(h:R (.ok (.ret (.ref s.heap.objs.size))) {s with heap:=s.heap.push (bU "set.__contains__" (.ref a))}) :
  codeAny (model aa w) A (.call (.builtin "method_descriptor.__get__") ⟨[.builtin "set.__contains__",.ref a,.type "set"],[]⟩) R s:=by
 refine rP hT Fd (by rw[isSubtype_type];kernel_rfl) (fun Q E h=>?_) h
 unfold Builtin.«method_descriptor.__get__»
 refine A0 (Aa (a:=(Value.builtin "set.__contains__",some (Value.ref a),some (Value.type "set"))) ⋯ ?_)
 dsimp only
 rw[show Manifest.toldItsClass.contains "set.__contains__" = false from by kernel_rfl]
 simp only[Bool.false_eq_true,if_false]
 refine A0 ?_
 refine A0 (Aa (a:=((PySem.Str.ofString "__contains__" : Str),Value.type "set")) ⋯ ?_)
 exact A0 (wpM h (fun b s' q=>by obtain⟨rfl,q⟩:=q;exact A1 q))
theorem nM{a:Addr}{es:Array DictEntry}{k:Nat}{sl:Array (Option Value)}{Q:Fin->Shared->Prop}{u:Tok}(hx:s.heap.get? a=some {cls:=.type "dict",dict:=none,data:=.dict es k,slots:=sl})
  (h:Q (.done (.ret (.ref s.heap.objs.size))) {s with heap:=s.heap.push (bU "dict.get" (.ref a))}):wpAny (model aa w) A (Builtin.«object.__getattribute__» ⟨[.ref a,.str "get" u],[]⟩) Q E s:=by
 obtain⟨hp,g,d,tk,os⟩:=s
 have hT:(⟨hp,g,d,tk,os⟩:Shared).TypeIs (.ref a) "dict":=⟨_,hx,rfl⟩
 have f1:=E6.lookup
 have f2:=E5
 have f3:=uE
 have f4:=uA
 have f5:=mW
 unfold Builtin.«object.__getattribute__»
 walk_at "st"
 exact x0 ⟨_,hx,rfl⟩ (A1 h)
theorem j1:typeLookup (.type "set") "__getattr__" = pure none:=by rw[typeLookup_type,builtinLookup_eq_fast];kernel_rfl
theorem tA:entryFor table "set.__getattribute__" = some Builtin.«object.__getattribute__» :=
 entryFor_alias (id' := "object.__getattribute__") (by rw[fastTable_eq_tree];kernel_rfl) ‹k› ‹k› (by rw[fastTable_eq_tree];kernel_rfl)
theorem pY{a:Addr}{es:Array (Int×Value)}{k:Nat}{lay:SetTable}{sl:Array (Option Value)}{Q:Fin->Shared->Prop}{u:Tok}(hx:s.heap.get? a=some {cls:=.type "set",dict:=none,data:=.set es k lay,slots:=sl})
  (h:Q (.done (.ret (.ref s.heap.objs.size))) {s with heap:=s.heap.push (bU "set.__contains__" (.ref a))}):wpAny (model aa w) A (Builtin.«object.__getattribute__» ⟨[.ref a,.str "__contains__" u],[]⟩) Q E s:=by
 obtain⟨hp,g,d,tk,os⟩:=s
 have hT:(⟨hp,g,d,tk,os⟩:Shared).TypeIs (.ref a) "set":=⟨_,hx,rfl⟩
 have f1:=PySem.F.slot_set_contains.lookup
 have f2:=Fd
 have f3:=uE
 have f4:=uA
 have f5:=mW
 unfold Builtin.«object.__getattribute__»
 walk_at "st"
 exact xI ⟨_,hx,rfl⟩ (A1 h)
theorem vU{a:Addr}{es:Array DictEntry}{k:Nat}{sl:Array (Option Value)}{Q:ZV}(hx:s.heap.get? a=some {cls:=.type "dict",dict:=none,data:=.dict es k,slots:=sl})
  (h:Q (.ref s.heap.objs.size) {s with heap:=s.heap.push (bU "dict.get" (.ref a)),toks:=s.toks+1}):wpAny (model aa w) A (getAttr (.ref a) "get" true) Q E s:=by
 obtain⟨hp,g,d,tk,os⟩:=s
 have hT:∀ tk',(⟨hp,g,d,tk',os⟩:Shared).TypeIs (.ref a) "dict":=fun _=>⟨_,hx,rfl⟩
 have f3:=Cr.lookup
 have f4:=Cr.bind (.ref a)
 have f5:=am_dict_getattr_none
 unfold getAttr getAttrBy
 repeat (any_goals (first|assumption|exact hT _|((with_reducible show wpAny _ _ (call (Value.builtin "dict.__getattribute__") _ _) _ _ _);refine B3 Cr (hT _) am_entry_dict_getattribute (nM hx ⟨_,rfl,?_⟩) (PySem.F.args_dict_getattribute_2 _ _))|wp_step))
theorem wQ{a:Addr}{es:Array (Int×Value)}{k:Nat}{lay:SetTable}{sl:Array (Option Value)}{Q:ZV}(hx:s.heap.get? a=some {cls:=.type "set",dict:=none,data:=.set es k lay,slots:=sl})
  (h:Q (.ref s.heap.objs.size) {s with heap:=s.heap.push (bU "set.__contains__" (.ref a)),toks:=s.toks+1}):wpAny (model aa w) A (getAttr (.ref a) "__contains__" true) Q E s:=by
 obtain⟨hp,g,d,tk,os⟩:=s
 have hT:∀ tk',(⟨hp,g,d,tk',os⟩:Shared).TypeIs (.ref a) "set":=fun _=>⟨_,hx,rfl⟩
 have f3:=Cs.lookup
 have f4:=Cs.bind (.ref a)
 have f5:=j1
 unfold getAttr getAttrBy
 repeat (any_goals (first|assumption|exact hT _|((with_reducible show wpAny _ _ (call (Value.builtin "set.__getattribute__") _ _) _ _ _);refine B3 Cs (hT _) tA (pY hx ⟨_,rfl,?_⟩) (PySem.F.args_set_getattribute_2 _ _))|wp_step))
end
section
variable{κ:Type}[DecidableEq κ]{knd:KeyKind aa w κ}
def fU(D:List (κ×PV))(k:κ):Option PV:=(D.find? fun kv=>kv.1=k).map (·.2)
def g8(D:List (κ×PV))(k:κ)(p:PV):List (κ×PV):=if D.any (fun kv=>kv.1=k)then D.map (fun kv=>if kv.1=k then(kv.1,p)else kv)else D++[(k,p)]
theorem dB{Z:ZP}{h:Heap}{k:κ}:∀{D:List (κ×PV)} {au:List (κ×Value)},au.map (·.1)=D.map (·.1)->Paired (Rp Z h) (D.map (·.2)) (au.map (·.2)) ->
  (match fU D k,valueAt au k with|some p,some v=>Rp Z h p v|none,none=>True|_,_=>False)
 |[],[],_,_=>trivial
 |[],_::_,e,_=>by simp at e
 |_::_,[],e,_=>by simp at e
 |(a,p)::D,(b,v)::au,e,.cons r q=>by
  simp only[List.map_cons,List.cons.injEq]at e
  obtain⟨rfl,e⟩:=e
  have ih:=dB (k:=k) e q
  unfold fU valueAt at ih ⊢
  rw[List.find?_cons,List.find?_cons]
  by_cases h:b=k
  ·simp only[h,decide_true];exact r
  ·simp only[h,decide_false];exact ih
theorem GMp.dget{D:List (κ×PV)}:GMp aa w A H Z (aK knd D) "get" "dict.get":=by
 refine⟨fun s E v pl Q m e G hv hq=>?_⟩
 subst e
 obtain⟨g,au,rfl,nz,hD,_⟩:=hv.dicOf
 exact Dx hD.typeIs Fw E6 E5 hD.mapOf.noDict hq
theorem CB.dget{D:List (κ×PV)}{k:κ}{kp p dp:PV}(hk:∀{Z:ZP} {h:Heap} {v:Value},Rp Z h kp v->knd.is k v=true)(hl:(fU D k).getD dp=p):CB aa w A H Z (.builtin "dict.get") [aK knd D,kp,dp] p:=by
 intro s E vs G P
 cases P with
 |cons h1 P =>
 cases P with
 |cons h2 P =>
 obtain⟨_,_,rfl,h3,P⟩:=aI P
 cases P
 obtain⟨g,au,rfl,nz,hD,bq,hvv,hs⟩:=h1.dicOf
 refine call_meetsIn E6 hD.typeIs PySem.F.entry_dict_get (PySem.F.args_dict_get_3 _ _ _) (meets_dict_get_default knd g (hk h2) hs _) ⟨_,hD.mapOf,?_⟩
 refine⟨?_,Kp.toks _ _ _⟩
 have:=dB (k:=k) bq hvv
 rw[<-hl]
 cases h:fU D k with
 |none =>
  rw[h]at this
  cases h':valueAt au k with
  |none=>exact h3
  |some v=>rw[h']at this;exact this.elim
 |some q =>
  rw[h]at this
  cases h':valueAt au k with
  |none=>rw[h']at this;exact this.elim
  |some v=>rw[h']at this;exact this
theorem EX.dict0{pos:Pos}(hT:∃ o,H.H.get? sysModules=some o):EX aa w A H Z env ρ (.Dict [] [] pos) (aK knd []):=⟨fun s E F=>Fx ⟨by
 have hg:s.heap.get? s.heap.objs.size=none:=aE _ (A4 _)
 exact .dic F.toGT.new (Eh s.heap) rfl .nil (Aw.mpr fun q=>by
  obtain⟨o,e⟩:=hT
  have:=F.none hg
  rw[q,e]at this;cases this),Kp.push _ _ _⟩⟩
def gE(knd:KeyKind aa w κ)(D:List (κ×PV)):PV:=.own fun Z h v=>∃ q g,v=.ref q/\¬Z q/\h.get? q=some (bU "dict.get" (.ref g))/\Rp Z h (aK knd D) (.ref g)
theorem Rp.bnd{D:List (κ×PV)}{Z:ZP}{h:Heap}{q g:Addr}(z:¬Z q)(e:h.get? q=some (bU "dict.get" (.ref g)))(r:Rp Z h (aK knd D) (.ref g)):Rp Z h (gE knd D) (.ref q) :=
 .own _ _ fun Z' h' k hz=>⟨q,g,rfl,fun n=>z (hz q _ e n),k q _ z e,r.fut k hz⟩
theorem Rp.bndOf{D:List (κ×PV)}{Z:ZP}{h:Heap}{v:Value}(r:Rp Z h (gE knd D) v):∃ q g,v=.ref q/\¬Z q/\h.get? q=some (bU "dict.get" (.ref g))/\Rp Z h (aK knd D) (.ref g):=by
 cases r with
 |own P v q=>exact q Z h (fun _ _ _ e=>e) fun _ _ _ z=>z
theorem EX.bget{x:Str}{np pos:Pos}{D:List (κ×PV)}(h:EX aa w A H Z env ρ (.Name x np) (aK knd D)):EX aa w A H Z env ρ (.Attribute (.Name x np) "get" pos) (gE knd D):=by
 refine⟨fun s E F=>?_⟩
 rw[arm_eval_Attribute]
 refine A0 (wpM (h.run s E F) (fun v s_1 h_1=>A0 (Ag ?_)))
 obtain⟨rv,k⟩:=h_1
 have F_1:=F.kp0 k
 obtain⟨g,au,rfl,nz,hD,hr⟩:=rv.dicOf
 obtain⟨o,es,ep,ho,⟨c1,c2,c3⟩,hd,_⟩:=id hD
 obtain⟨oc,od,oda,osl⟩:=o
 simp only at c1 c2 c3 hd
 subst c1 c2 c3 hd
 have k2:Kp N0 s_1 {s_1 with heap:=s_1.heap.push (bU "dict.get" (.ref g)),toks:=s_1.toks+1}:=Kp.mk fun b o _ e=>A2 _ e
 refine A0 (A5 (vU ho (A0 (A1 (A1 ⟨.bnd F_1.toGT.new (A3 _ rfl) (rv.kp0 k2),k.trans k2⟩)))))
theorem qN(T:String)(h:(fastBuiltinMro T).map (·.contains (.type "module"))=some false):isSubtype (.type T) (.type "module")=pure false:=by
 obtain⟨l,a,b⟩:=Bb.mp h
 rw[isSubtype_type,a];exact Az pure b
theorem uZ{q g:Addr}{s:Shared}{vs:List Value}{R:Result->Shared->Prop}{au:List (κ×Value)}(hq:s.heap.get? q=some (bU "dict.get" (.ref g)))(hD:s.heap.DictOf knd g au){a b:Value}(hvs:vs=[a,b])
  (h:wpAny (model aa w) A.in1 (Builtin.«dict.get» ⟨[.ref g,a,b],[]⟩) (fun fin s'=>match fin with| .done f=>R (.ok f) s' | .again c'=>c'.quiet=true/\codeAny (model aa w) A c' R s') (fun e s'=>R (.error e) s') s):codeAny (model aa w) A (.call (.ref q) ⟨vs,[]⟩) R s:=by
 subst hvs
 refine Dl ?_
 show wpAny _ _ (callAny (.ref q) _) _ _ _
 simp only[callAny]
 refine A0 (Ct hq ?_)
 dsimp only
 rw[show((Value.type "builtin_function_or_method" == Value.type "method" ||Value.type "builtin_function_or_method" == Value.type "builtin_function_or_method")||Value.type "builtin_function_or_method" == Value.type "method-wrapper")=true from by decide +kernel]
 rw[if_pos rfl]
 have e:(Value.type "builtin_function_or_method" != Value.type "method")=true:=by decide +kernel
 show wpAny _ _ (if(Value.type "builtin_function_or_method" != Value.type "method")=true then(do checkBoundCall "dict.get" ⟨[.ref g,a,b],[]⟩;again (.builtin "dict.get" ⟨[.ref g,a,b],[]⟩))else _) _ _ _
 rw[if_pos e]
 refine A0 ?_
 have fin:wpAny (model aa w) (A.under (.call (.ref q) ⟨[a,b],[]⟩)) (again (.builtin "dict.get" ⟨[.ref g,a,b],[]⟩)) (fun fin s'=>match fin with| .done f=>R (.ok f) s' | .again c'=>c'.quiet=true/\codeAny (model aa w) A c' R s') (fun e s'=>R (.error e) s') s :=
  A1 ⟨Dn _ ‹k›,Bv PySem.F.entry_dict_get (by rw[Around.under_plainId PySem.F.slot_dict_get.plain];exact h)⟩
 have hT:=hD.typeIs (s:=s)
 obtain⟨o,ho,hc⟩:=id hT
 unfold checkBoundCall
 rw[show Manifest.signature? "dict.get" = some ((Manifest.signature? "dict.get").get ⋯)from by kernel_rfl]
 dsimp only
 rw[show builtinKind "dict.get" = some .method from by kernel_rfl]
 dsimp only
 rw[if_neg ‹d›]
 have l1:Looks (model aa w) s.heap (isInstance (.ref g) (.type "module")) false:=(Cn ho).andThen (by rw[hc];exact Bs (qN "dict" ⋯))
 refine A0 (l1.here ?_)
 rw[show(Manifest.varargsMethods.contains "dict.get" ||false)=false from by kernel_rfl]
 rw[if_neg ‹d›]
 obtain⟨o2,es,ep,ho2,_,hd,_⟩:=hD
 rw[ho]at ho2;cases ho2
 have l2:Looks (model aa w) s.heap (isType (.ref g)) false:=(Cn ho).andThen (by rw[hd];exact .now)
 refine A0 (l2.here ?_)
 rw[if_neg ‹d›]
 have l3:Looks (model aa w) s.heap (typeOf (.ref g)) (.type "dict"):=(Cn ho).andThen (by rw[hc];exact .now)
 refine A0 (l3.here ?_)
 dsimp only
 exact Aa (a:=()) ⋯ fin
theorem EX.bcall{D:List (κ×PV)}{x:Str}{np pos:Pos}{e:Expr}{ai:List Expr}{k:κ}{kp dp p:PV}(hf:EX aa w A H Z env ρ (.Name x np) (gE knd D))(hl:LX aa w A H Z env ρ pos (e::ai) [kp,dp])
  (hk:∀{Z:ZP} {h:Heap} {v:Value},Rp Z h kp v->knd.is k v=true) (hp:(fU D k).getD dp=p)
  (hs:starEach (e::ai) env=(false,eval e env)::starEach ai env) (hplain:(backTo pos (starEach ai env)).any (·.1)=false) (hh:∃ y r,backTo pos (starEach (e::ai) env)=(false,y)::r)
  (he:eval (.Call (.Name x np) (e::ai) [] pos) env=(do callWith pos (<-eval (.Name x np) env) [] (backTo pos (starEach (e::ai) env)) (backToKw pos (keywordEach [] env)))):EX aa w A H Z env ρ (.Call (.Name x np) (e::ai) [] pos) p:=by
 refine⟨fun s E F=>?_⟩
 refine Call_ (wpM (hf.run s E F) (fun v s_1 h_1=>?_)) he
 obtain⟨rv,k_1⟩:=h_1
 have F_1:=F.kp0 k_1
 obtain⟨q,g,rfl,nz,hq,rg⟩:=rv.bndOf
 unfold callWith
 refine A0 (A5 (wpM (eG hl F_1 (.inr hh)) (fun a s_2 h_2=>A0 (Ag ?_))))
 obtain⟨hkw,pa,k_2⟩:=h_2
 have F_2:=F_1.kp0 k_2
 have hq2:=k_2.get (fun q=>q) hq
 have rg2:=rg.kp0 k_2
 have lk:Looks (model aa w) s_2.heap (keeperOf (.ref q)) .machine:=(Cn hq2).andThen (Bs ⋯)
 have st:(backTo pos (starEach (e::ai) env)).any (·.1)=false:=by rw[hs];show(false||(backTo pos (starEach ai env)).any (·.1))=false;rw[hplain];rfl
 rw[st]
 refine A0 (lk.here ?_)
 show wpAny _ _ (do let r <-PySem.call (.ref q) ([]++a.pos) a.kw;holding [r] point;pure r) _ _ _
 rw[hkw,List.nil_append]
 refine A0 (B1 (Q:=fun r s'=>Rp Z s'.heap p r/\Kp N0 s s') ?_ (fun r s₃ h_3=>A0 (A5 (Gi (A1 h_3)))) fun _ _ x=>x)
 cases hap:a.pos with
 |nil=>rw[hap]at pa;cases pa
 |cons u us =>
 rw[hap]at pa
 cases pa with
 |cons r1 pa =>
 obtain⟨_,_,rfl,r2,pa⟩:=aI pa
 cases pa
 obtain⟨g',au,e1,nz',hD,bq,hvv,hs'⟩:=rg2.dicOf
 cases e1
 rename_i v2
 refine B6 (uZ hq2 hD rfl ?_)
 refine meets_dict_get_default knd g (hk r1) hs' v2 A (fun r s'=>match r with| .ok (.ret v)=>Rp Z s'.heap p v/\Kp N0 s s' | .ok _=>False| .error e=>E e s') s_2 ⟨_,hD.mapOf,?_⟩
 refine⟨?_,k_1.trans (k_2.trans (Kp.toks _ _ _))⟩
 have:=dB (k:=k) bq hvv
 rw[<-hp]
 cases h:fU D k with
 |none =>
  rw[h]at this
  cases h':valueAt au k with
  |none=>exact r2
  |some v=>rw[h']at this;exact this.elim
 |some q =>
  rw[h]at this
  cases h':valueAt au k with
  |none=>rw[h']at this;exact this.elim
  |some v=>rw[h']at this;exact this
end
def yF:PV:=.own fun _ _ _=>True
section
variable{κ:Type}[DecidableEq κ]{knd:KeyKind aa w κ}
def eW(knd:KeyKind aa w κ)(D:List (κ×PV)):MO:=⟨fun vs o=>∃ au,o.IsDictOf knd au/\au.map (·.1)=D.map (·.1)/\au.map (·.2)=vs,D.map (·.2)⟩
theorem MOk.dic{Z:ZP}{h:Heap}{g:Addr}{D:List (κ×PV)}(x:MOk Z h g (eW knd D)):∃ au,h.DictOf knd g au/\au.map (·.1)=D.map (·.1)/\Paired (Rp Z h) (D.map (·.2)) (au.map (·.2)):=by
 obtain⟨o,vs,e,⟨au,a,b,rfl⟩,p⟩:=x
 exact⟨au,Heap.dictOf_iff.mpr ⟨o,e,a⟩,b,p⟩
theorem MOk.ofDic{Z:ZP}{h:Heap}{g:Addr}{D:List (κ×PV)}{au:List (κ×Value)}(a:h.DictOf knd g au)(b:au.map (·.1)=D.map (·.1))(p:Paired (Rp Z h) (D.map (·.2)) (au.map (·.2))):MOk Z h g (eW knd D):=by
 obtain⟨o,e,a⟩:=Heap.dictOf_iff.mp a
 exact⟨o,_,e,⟨au,a,b,rfl⟩,p⟩
theorem iU{Z:ZP}{h:Heap}{k:κ}{p:PV}{v:Value}{D:List (κ×PV)}{au:List (κ×Value)}(e:au.map (·.1)=D.map (·.1))(P:Paired (Rp Z h) (D.map (·.2)) (au.map (·.2)))(r:Rp Z h p v) :
  (stored au k v).map (·.1)=(g8 D k p).map (·.1)/\Paired (Rp Z h) ((g8 D k p).map (·.2)) ((stored au k v).map (·.2)):=by
 have ea:au.any (fun kv=>decide (kv.1=k))=D.any (fun kv=>decide (kv.1=k)):=by
  have:∀{l:List (κ×Value)} {m:List (κ×PV)},l.map (·.1)=m.map (·.1)->l.any (fun kv=>decide (kv.1=k))=m.any (fun kv=>decide (kv.1=k)):=by
   intro l
   induction l with
   |nil=>intro m e;cases m with
    |nil=>rfl
    |cons _ _=>simp at e
   |cons a l ih=>intro m e;cases m with
    |nil=>simp at e
    |cons b m =>
     simp only[List.map_cons,List.cons.injEq]at e
     rw[List.any_cons,List.any_cons,ih e.2,e.1]
  exact this e
 unfold stored g8
 rw[ea]
 cases D.any (fun kv=>decide (kv.1=k))with
 |false =>
  simp only[Bool.false_eq_true,if_false,List.map_append,e]
  exact⟨rfl,bJ P (.cons r .nil)⟩
 |true =>
  simp only[if_true]
  clear ea
  induction D generalizing au with
  |nil=>cases au with
   |nil=>exact⟨rfl,.nil⟩
   |cons _ _=>simp at e
  |cons a D ih=>cases au with
   |nil=>simp at e
   |cons b au =>
    simp only[List.map_cons,List.cons.injEq]at e
    cases P with
    |cons ra P =>
    obtain⟨i1,i2⟩:=ih e.2 P
    simp only[List.map_cons]
    rw[e.1]
    by_cases q:a.1=k
    ·rw[if_pos q,if_pos q];exact⟨by rw[i1],.cons r i2⟩
    ·rw[if_neg q,if_neg q];exact⟨by rw[i1,e.1],.cons ra i2⟩
theorem AS.sub{o i:Expr}{pos:Pos}{g:Addr}{D:List (κ×PV)}{k:κ}{kp p:PV}{L:Led}(S:FS H.H Z env)(ho:EX aa w A H Z env ρ o (.raw (.ref g)))(hi:EX aa w A H Z env ρ i kp)(hk:∀{Z:ZP} {h:Heap} {v:Value},Rp Z h kp v->knd.is k v=true)
  (hL:H.L=(g,eW knd D)::L) (hz:D.length<=sizeLine):AS aa w A H Z env ρ (.Subscript o i pos) p ((g,eW knd (g8 D k p))::L) ρ:=by
 refine⟨fun s E v F r=>?_⟩
 rw[arm_assign_Subscript]
 refine A0 (A5 (wpM (ho.run s E F) (fun ov s_1 h_1=>A0 (A5 (wpM (hi.run s_1 E (F.kp0 h_1.2)) (fun iv s_2 h_2=>A0 (Ag ?_)))))))
 obtain⟨rv,k_1⟩:=h_1
 cases rv
 obtain⟨rk,k_2⟩:=h_2
 have F_2:=(F.kp0 k_1).kp0 k_2
 have r_2:=(r.kp0 k_1).kp0 k_2
 have hL':H.L.lookup g=some (eW knd D):=by rw[hL,List.lookup_cons];simp
 obtain⟨hd,hm⟩:=F_2.ld g _ hL'
 obtain⟨au,hD,e,P⟩:=hm.dic
 have zg:=F_2.dz g hd
 have bo:au.length=D.length:=by have:=Az List.length e;simpa using this
 refine A0 (A5 (wpAny_setItem_pairs (hk rk) hD (fun h' hD' sb=>Gs ?_) (by rw[bo];exact hz)))
 have kz:∀ b o,¬Z b->s_2.heap.get? b=some o->h'.get? b=some o:=fun b o z e=>(sb.2 b fun q=>z (q▸zg)).trans e
 obtain⟨e',P'⟩:=iU (k:=k) e (aA (fun _ _ r=>r.keep kz) P) (r_2.keep kz)
 obtain⟨F_3,k_3⟩:=F_2.turn S hL sb (MOk.ofDic hD' e' P') (s_2.toks+1) (Ad _)
 exact⟨F_3,r_2.keep kz,k_1.z.trans (k_2.z.trans k_3.d)⟩
structure pF(aa:Program)(w:World)(A:Around)(H:Ctx)(Z:ZP)(env:Env)(ρ:List (Str×PV))(e:Expr)(m:MO):Prop where
 run:∀ s (E:ZV),FI H Z env ρ s->wpAny (model aa w) A (eval e env) (fun v s'=>∃ g,v=.ref g/\s.heap.get? g=none/\MOk (aX Z g) s'.heap g m/\Kp N0 s s') E s
theorem pF.dict{pos:Pos}:pF aa w A H Z env ρ (.Dict [] [] pos) (eW knd []):=⟨fun s E F=>Fx ⟨_,rfl,aE _ (A4 _),.ofDic (Eh s.heap) rfl .nil,Kp.push _ _ _⟩⟩
theorem FI.freezeG{s_0 s:Shared}{ρ0:List (Str×PV)}{g:Addr}{m m':MO}{p:PV}{x:Str}(F_0:FI H Z env ρ0 s_0)(nz:¬Z g)(hp:∀ h,MOk (aX Z g) h g m'->(g==sysModules)=false->Rp Z h p (.ref g))(gs:(g==sysModules)=false)(F:FI ((H.own g m).at ((g,m')::H.L)) (aX Z g) env ((x,.raw (.ref g))::ρ) s):FI H Z env ((x,p)::ρ) s:=by
 have hz:∀ a,Z a->aX Z g a:=fun a z=>.inl z
 have sb:∀{p:PV} {v:Value},Rp (aX Z g) s.heap p v->Rp Z s.heap p v:=fun r=>r.sub fun a o _ q=>hz a q
 have rl:∀{v:Value},Rp (aX Z g) s.heap (.raw (.ref g)) v->Rp Z s.heap p v:=fun r=>by
  cases r
  exact hp _ (F.ld g m' (by show List.lookup g ((g,m')::H.L)=_;rw[List.lookup_cons];simp)).2 gs
 refine⟨⟨⟨F.top,fun a z=>F.zex a (hz a z)⟩,F.tk,F_0.dz,fun a m_1 e=>?_⟩,?_,fun y q e lk=>?_,fun y c e=>⟨(F_0.zc y c e).1,(F.zc y c e).2⟩,F_0.lf⟩
 ·have na:a≠g:=fun q=>nz (q▸F_0.dz a (F_0.ld a m_1 e).1)
  obtain⟨_,k⟩:=F.ld a m_1 (by show List.lookup a ((g,m')::H.L)=_;rw[List.lookup_cons,beq_eq_false_iff_ne.mpr na];exact e)
  exact⟨(F_0.ld a m_1 e).1,k.sub fun a o _ q=>hz a q⟩
 ·obtain⟨m,hn,hm⟩:=F.ns
  refine⟨m,hn,fun y q e lk=>?_⟩
  rcases cW (p:=.raw (.ref g)) e with⟨rfl,rfl⟩|⟨_,e⟩
  ·obtain⟨v,e1,e2⟩:=hm y _ Lk.here lk
   exact⟨v,e1,rl e2⟩
  ·obtain⟨v,e1,e2⟩:=hm y q e lk
   exact⟨v,e1,sb e2⟩
 ·rcases cW (p:=.raw (.ref g)) e with⟨rfl,rfl⟩|⟨_,e⟩
  ·obtain⟨k,c,v,e1,e2,e3⟩:=F.cl y _ Lk.here lk
   exact⟨k,c,v,e1,e2,rl e3⟩
  ·obtain⟨k,c,v,e1,e2,e3⟩:=F.cl y q e lk
   exact⟨k,c,v,e1,e2,sb e3⟩
theorem SXs.growG{x:Str}{px pos:Pos}{e:Expr}{m m':MO}{p:PV}{mid:Stmt}{ai:List Stmt}{o:Out}{ρ':List (Str×PV)}(S:FS H.H Z env)(eo:EO env sc)(hk:aS sc x=true)(hsm:∃ o,H.H.get? sysModules=some o)(h:pF aa w A H Z env ρ e m)
  (hmid:∀ g,FS H.H (aX Z g) env->SX aa w A (H.own g m) (aX Z g) env ((x,.raw (.ref g))::ρ) mid (.next ((g,m')::H.L) ((x,.raw (.ref g))::ρ')))
  (hp:∀ g h,¬Z g->MOk (aX Z g) h g m'->(g==sysModules)=false->Rp Z h p (.ref g))
  (hrest:SXs aa w A H Z env ((x,p)::ρ') ai o) (hs:swapsWith e (some (.Name x px)) pos.line env=pure false:=by rfl):SXs aa w A H Z env ρ (.Assign [.Name x px] e pos::mid::ai) o:=by
 refine⟨fun s E F=>?_⟩
 refine Aq (By (wpM (h.run s E F) (fun v s_1 h_1=>?_)) hs)
 obtain⟨g,rfl,hg,hm,k⟩:=h_1
 obtain⟨F_1,S'⟩:=F.grow S k hg hm
 refine wpM (FI.store (H:=H.own g m) S' F_1 (.raw _) (eo.bds hk)) (fun _ s_2 h_2=>?_)
 refine Aq (wpM ((hmid g S').run s_2 E h_2.1) (fun f s₃ h_3=>?_))
 obtain⟨⟨rfl,F_3⟩,k_3⟩:=h_3
 have nz:¬Z g:=F.toGT.free hg
 have gs:(g==sysModules)=false:=Aw.mpr fun q=>by
  obtain⟨o,e⟩:=hsm
  rw[<-q,F.none hg]at e;cases e
 have K:Kp (Tn H env) s s₃:=k.join (Z:=Tn H env) (h_2.2.join (Z:=fun a=>Tn H env a\/a=g) k_3 fun b o n e=>k_3.get (fun q=>n (q.elim (fun q=>.inl (.inl q)) fun q=>q.elim (fun q=>.inl (.inr q)) .inr)) (h_2.2.get (fun q=>n (.inl (.inl q.fa))) e)) fun b o n e=>by
  have ng:b≠g:=fun q=>by subst q;rw[hg]at e;cases e
  refine k_3.get (fun q=>q.elim (fun q=>n (.inl q)) fun q=>q.elim (fun q=>n (.inr q)) ng) (h_2.2.get (fun q=>n (.inl q.fa)) (k.get (fun q=>q) e))
 exact wpM (hrest.run s₃ E (F.freezeG nz (fun h hm gs=>hp g h nz hm gs) gs F_3)) (fun f s_4 h_4=>⟨h_4.1,K.trans h_4.2⟩)
theorem r6{D:List (κ×PV)}(g:Addr)(h:Heap)(nz:¬Z g)(m:MOk (aX Z g) h g (eW knd D))(gs:(g==sysModules)=false):Rp Z h (aK knd D) (.ref g):=by
 obtain⟨au,hD,e,P⟩:=m.dic
 exact .dic nz hD e (aA (fun _ _ r=>r.sub fun a o _ q=>.inl q) P) gs
theorem EX.cont{o:Expr}{pos:Pos}(h:EX aa w A H Z env ρ o n9)(hb:attributeBase o "__contains__" env (eval o env)=eval o env):EX aa w A H Z env ρ (.Attribute o "__contains__" pos) yF:=by
 refine⟨fun s E F=>?_⟩
 rw[arm_eval_Attribute,hb]
 refine A0 (wpM (h.run s E F) (fun v s_1 h_1=>A0 (Ag ?_)))
 obtain⟨rv,k⟩:=h_1
 obtain⟨a,led,rfl,nz,ha⟩:=rv.setOf
 refine A0 (A5 (wQ ha (A0 (Ec (A1 ⟨.own _ _ fun _ _ _ _=>trivial,k.trans (Kp.mk fun b o _ e=>A2 _ e)⟩)))))
end
section
theorem SX.whileF{t:Expr}{body:List Stmt}{pos:Pos}(h:TX aa w A H Z env ρ t false):SX aa w A H Z env ρ (.While t body [] pos) (.next H.L ρ):=by
 refine⟨fun s E F=>wpAny_While (codeAny_whileLoop (fun _ s'=>s'=s) (fun n s' e=>?_) 0 rfl)⟩
 subst e
 refine wpM (h.run s' _ F) (fun b s_1 h_1=>?_)
 obtain⟨rfl,k⟩:=h_1
 exact C8 ⟨⟨rfl,F.kp0 k⟩,k.z⟩
def iP(p1 p2 p3:Pos)(sc:List (Str×NameKind))(x y z:Str)(es:List Expr):Bool :=
 p2.line==p1.line&&p3.line==p1.line&&sc.lookup x==some .local&&sc.lookup y==some .local&&sc.lookup z==some .local&&[x,y,z].eraseDups.length==3 && !es.any (fun| .Starred ..=>true|_=>false)&&es.length==3 && !es.all (foldedForSure 8) && !es.all (constantsAlone 8)
theorem uN{p1 p2 p3 tp vp:Pos}{k1 k2:Nat}{x y z:Str}{es:List Expr}(hk:env.scope.kind=.function)(eo:EO env sc)(h:iP p1 p2 p3 sc x y z es=true) :
  swappedStores [.Tuple [.Name x p1,.Name y p2,.Name z p3] k1 tp] (.Tuple es k2 vp) env=pure (some [x,y,z]):=by
 simp only[iP,Bool.and_eq_true,beq_iff_eq,Bool.not_eq_true']at h
 obtain⟨⟨⟨⟨⟨⟨⟨⟨⟨h1,h2⟩,h3⟩,h4⟩,h5⟩,h6⟩,h7⟩,h8⟩,h9⟩,h10⟩:=h
 have e3:env.kindOf x=some .local:=by rw[eo.kind];exact h3
 have e4:env.kindOf y=some .local:=by rw[eo.kind];exact h4
 have e5:env.kindOf z=some .local:=by rw[eo.kind];exact h5
 have bk:env.blockKind=.function:=by unfold Env.blockKind;rw[hk];rfl
 have hf:([.Name x p1,.Name y p2,.Name z p3]:List Expr).filterMap (fun e=>match e with
  | .Name id pos=>if(env.kindOf id==some .local&&pos.line==p1.line)=true then some id else none
  |_=>none)=[x,y,z]:=by
  simp[e3,e4,e5,h1,h2]
 unfold swappedStores
 show(if(!(3==2||3==3)||es.length != 3||env.blockKind != ScopeKind.function)=true then pure none else if(es.any fun| .Starred ..=>true|_=>false)=true then pure none else
  if((([.Name x p1,.Name y p2,.Name z p3]:List Expr).filterMap (fun e=>match e with
  | .Name id pos=>if(env.kindOf id==some .local&&pos.line==p1.line)=true then some id else none
  |_=>none)).length != 3||((([.Name x p1,.Name y p2,.Name z p3]:List Expr).filterMap (fun e=>match e with
  | .Name id pos=>if(env.kindOf id==some .local&&pos.line==p1.line)=true then some id else none
  |_=>none)).eraseDups.length !=(([.Name x p1,.Name y p2,.Name z p3]:List Expr).filterMap (fun e=>match e with
  | .Name id pos=>if(env.kindOf id==some .local&&pos.line==p1.line)=true then some id else none
  |_=>none)).length))=true then pure none else if es.all (foldedForSure 8)=true then pure none else if es.all (constantsAlone 8)=true then unsupported _ else pure (some (([.Name x p1,.Name y p2,.Name z p3]:List Expr).filterMap (fun e=>match e with
  | .Name id pos=>if(env.kindOf id==some .local&&pos.line==p1.line)=true then some id else none
  |_=>none))):Sem (Option (List Str)))=_
 rw[hf,bk,h8]
 rw[if_neg ‹d›,if_neg (by rw[h7];decide),if_neg (by rw[h6];simp),if_neg (by rw[h9];decide),if_neg (by rw[h10];decide)]
theorem SX.assign3{p1 p2 p3 tp vp pos:Pos}{k1 k2:Nat}{x y z:Str}{es:List Expr}{p q r:PV}(S:FS H.H Z env)(eo:EO env sc)(hA:A.handled=none)(h:EX aa w A H Z env ρ (.Tuple es k2 vp) (.tup [p,q,r]))(hk:iP p1 p2 p3 sc x y z es=true)
  (hs:swapsWithSole [.Tuple [.Name x p1,.Name y p2,.Name z p3] k1 tp] (.Tuple es k2 vp) pos.line env=pure false) :
  SX aa w A H Z env ρ (.Assign [.Tuple [.Name x p1,.Name y p2,.Name z p3] k1 tp] (.Tuple es k2 vp) pos) (.next H.L ((x,p)::(y,q)::(z,r)::ρ)):=by
 have hk':=hk
 simp only[iP,Bool.and_eq_true,beq_iff_eq,Bool.not_eq_true']at hk'
 obtain⟨⟨⟨⟨⟨⟨⟨⟨⟨h1,h2⟩,h3⟩,h4⟩,h5⟩,h6⟩,h7⟩,h8⟩,h9⟩,h10⟩:=hk'
 have own:∀{a:Str},sc.lookup a=some .local->aS sc a=true:=fun e=>by unfold aS;rw[e]
 refine⟨fun s E F=>?_⟩
 refine Assign_Tuple_swapped (names:=[x,y,z]) (wpM (h.run s E F) (fun v s_1 h_1=>?_)) hs (uN S.fn eo hk)
 obtain⟨rv,k⟩:=h_1
 have F_1:=F.kp0 k
 obtain⟨a,items,rfl,nz,it,P⟩:=rv.tuple
 have hz:3=items.size:=by have:=(a8 P).1;simpa using this.symm
 show wpAny _ A (unpackItems (.ref a) 3 none) _ _ _
 rw[hz]
 refine unpackItems_tuple hA it fun h' hx=>?_
 have k2:Kp N0 s_1 {s_1 with heap:=h'}:=Kp.mk (tk:=s_1.toks) fun b o _ e=>hx b o (fun q=>by subst q;exact absurd (Ac e) (At _)) e
 have F_2:=F_1.kp0 k2
 have P_2:=aA (fun _ _ r=>r.kp0 k2) P
 have fz:∀{xs:List Str} {a:Addr},Fb xs env a->Z a:=fun q=>Fa.z S F q.fa
 generalize items.toList=l at P_2
 obtain⟨_,_,rfl,r1,P_2⟩:=aI P_2
 obtain⟨_,_,rfl,r2,P_2⟩:=aI P_2
 obtain⟨_,_,rfl,r3,P_2⟩:=aI P_2
 cases P_2
 refine A0 (A5 (bindName_ (wpM (FI.store S F_2 r3 (eo.bds (own h5))) (fun _ s₃ h_3=>?_))))
 obtain⟨F_3,k_3⟩:=h_3
 refine A0 (A5 (bindName_ (wpM (FI.store S F_3 (r2.kp (k_3.weak fun a q=>fz q)) (eo.bds (own h4))) (fun _ s_4 h_4=>?_))))
 obtain⟨F4,k_4⟩:=h_4
 refine A0 (A5 (bindName_ (wpM (FI.store S F4 ((r1.kp (k_3.weak fun a q=>fz q)).kp (k_4.weak fun a q=>fz q)) (eo.bds (own h3))) (fun _ s5 h_5=>?_))))
 obtain⟨F5,k5⟩:=h_5
 exact A1 ⟨⟨rfl,F5⟩,k.z.trans (k2.z.trans (k_3.fb.trans (k_4.fb.trans k5.fb)))⟩
end
def eJ(K:Frag)(C:Addr):Bool:=(clsIn K C).isSome&&specialIn K (.ref C) "__call__" == some (some (.builtin "type.__call__"))
def lM(C:Addr)(l:List PV):PV:=.own fun Z h v=>∃ a o items n,v=.ref a/\¬Z a/\h.get? a=some o/\o.cls=.ref C/\o.data=.seq items n/\Paired (Rp Z h) l items.toList
section
theorem oN{K:Frag}{C:Addr}{h:Heap}(X:K.In h)(hk:eJ K C=true):Looks (model aa w) h (keeperOf (.ref C)) .machine:=by
 obtain⟨h1,h2⟩:=A6.mp hk
 obtain⟨cd,hc⟩:=Ar.mp h1
 unfold clsIn at hc
 split at hc
 ·rename_i ho
  cases hc
  exact(Cn (X _ _ ho)).andThen ((looks_specialIn X (Ai.mp h2)).andThen (Bs ⋯))
 ·cases hc
theorem iT{K:Frag}{C:Addr}{x:Str}{aj pos:Pos}{es:List Expr}{ps:List PV}{s:Shared}{E:ZV}{Q:ZV}(F:FI H Z env ρ s)(X:K.In H.H)(hk:eJ K C=true)(hf:NM aa w A H Z env x (.ref C))(hl:LX aa w A H Z env ρ pos es ps)
  (hh:(backTo pos (starEach es env))=[]\/∃ y r,backTo pos (starEach es env)=(false,y)::r) (hplain:(backTo pos (starEach es env)).any (·.1)=false)
  (he:eval (.Call (.Name x aj) es [] pos) env=(do callWith pos (<-eval (.Name x aj) env) [] (backTo pos (starEach es env)) (backToKw pos (keywordEach [] env))))
  (hc:∀ s_1 vs,FI H Z env ρ s_1->Paired (Rp Z s_1.heap) ps vs->Kp N0 s s_1->wpAny (model aa w) A (call (.ref C) vs) Q E s_1):wpAny (model aa w) A (eval (.Call (.Name x aj) es [] pos) env) Q E s:=by
 refine Call_ (wpM (hf s E ρ aj F) (fun u s' q=>?_)) he
 obtain⟨rfl,rfl⟩:=q
 unfold callWith
 refine A0 (A5 (wpM (eG hl F hh) (fun a s_2 h_2=>A0 (Ag ?_))))
 obtain⟨hkw,pa,k_2⟩:=h_2
 have F_2:=F.kp0 k_2
 rw[hplain]
 refine A0 ((oN (X.keeps F_2.top) hk).here ?_)
 show wpAny _ _ (do let r <-PySem.call (.ref C) ([]++a.pos) a.kw;holding [r] point;pure r) _ _ _
 rw[hkw,List.nil_append]
 exact A0 (wpM (hc s_2 a.pos F_2 pa k_2) (fun r s₃ h_3=>A0 (A5 (Gi (A1 h_3)))))
theorem EXd.cls{K:Frag}{C:Addr}{x:Str}{aj pos:Pos}{es:List Expr}{ps:List PV}{r:PV}{L:Led}(S:FS H.H Z env)(X:K.In H.H)(hk:eJ K C=true)(hf:NM aa w A H Z env x (.ref C))(hl:LX aa w A H Z env ρ pos es ps)
  (hh:(backTo pos (starEach es env))=[]\/∃ y r,backTo pos (starEach es env)=(false,y)::r) (hplain:(backTo pos (starEach es env)).any (·.1)=false)
  (he:eval (.Call (.Name x aj) es [] pos) env=(do callWith pos (<-eval (.Name x aj) env) [] (backTo pos (starEach es env)) (backToKw pos (keywordEach [] env))))
  (hc:CBd aa w A H Z (.ref C) ps [] r L):EXd aa w A H Z env ρ (.Call (.Name x aj) es [] pos) r L:=⟨fun s E F =>
 iT F X hk hf hl hh hplain he fun s_1 vs F_1 P k=>wpM (hc s_1 E vs F_1.toGS P) (fun v s_2 h_2=>⟨h_2.1,F_1.led S h_2.2.1 h_2.2.2,k.z.trans h_2.2.2⟩)⟩
theorem SX.retD{pos:Pos}{e:Expr}{p:PV}{L:Led}(h:EXd aa w A H Z env ρ e p L):SX aa w A H Z env ρ (.Return (some e) pos) (.ret L p):=⟨fun s E F =>
 Fg (wpM (h.run s E F) (fun v s_1 h_1=>⟨⟨v,rfl,h_1.1,h_1.2.1.toGS⟩,h_1.2.2.d⟩))⟩
end
structure Mat(M:Model)(h:Heap)(C:Addr):Prop where
 isT:Looks M h (isType (.ref C)) true
 sub:Looks M h (isSubtype (.ref C) (.type "tuple")) true
 self:Looks M h (isSubtype (.ref C) (.ref C)) true
 top:Looks M h (isSubtype (.ref C) (.type "object")) true
 mro:∃ c l,Looks M h (mroOf (.ref C)) (c::l)
 made:Looks M h (Bind.madeBy (.ref C)) none
 base:Looks M h (Bind.staticBase (.ref C)) (.type "tuple")
 init:Looks M h (typeLookup (.ref C) "__init__") (some (.builtin "object.__init__"))
 call:Looks M h (specialOf (.ref C) "__call__") (some (.builtin "type.__call__"))
 typ:Looks M h (isInstance (.ref C) (.type "type")) true
 del:Looks M h (classHasDel C) false
 obj:∃ oc od cd sl,h.get? C=some ⟨oc,od,.cls cd,sl⟩
theorem q8:Bind.madeBy (.type "tuple")=pure (some "tuple.__new__"):=⋯
section
variable{C t:Addr}{items:Array Value}
theorem wR{Q:Fin->Shared->Prop}(Y:Mat (model aa w) s.heap C)(ht:s.heap.IsTuple t items)(hz:items.size<=sizeLine)
  (h:∀ h' x o n,(∀ b o,s.heap.get? b=some o->h'.get? b=some o)->s.heap.get? x=none->h'.get? x=some o->o.cls=.ref C->o.data=.seq items n->Q (.done (.ret (.ref x))) {s with heap:=h'}) :
  wpAny (model aa w) A (Builtin.«tuple.__new__» ⟨[.ref C,.ref t],[]⟩) Q E s:=by
 unfold Builtin.«tuple.__new__»
 dsimp only
 refine A0 (Y.isT.here ?_)
 simp only[Bool.not_true,Bool.false_eq_true,if_false]
 refine A0 (Y.sub.here ?_)
 simp only[Bool.not_true,Bool.false_eq_true,if_false]
 have mh:Looks (model aa w) s.heap (Bind.madeHere "tuple.__new__" (.ref C)) ():=Y.base.andThen ((Bs (by rw[q8])).andThen (Bs ⋯))
 refine A0 (mh.here ?_)
 refine A0 (Y.init.here ?_)
 rw[if_pos ‹k›]
 refine A0 (Aa (a:=()) ⋯ ?_)
 refine A0 (Aa (a:=()) ⋯ ?_)
 rw[if_neg ‹s›]
 obtain⟨o,ho,hc,n,hd⟩:=id ht
 refine A0 (wpAny_collect_seq t (.inr rfl) ho hc hd (fun h' hk=>?_) hz)
 refine A0 (A1 ?_)
 refine A0 (Gb ?_)
 refine A0 ?_
 unfold newObj
 dsimp only
 rw[if_neg (by rw[Array.toArray_toList];omega)]
 unfold newObjAsIs
 refine A0 (Gb ?_)
 dsimp only
 have k2:∀ b o,s.heap.get? b=some o->((h'.push {cls:=.type "dict",data:=.dict #[]}).push {cls:=.ref C,dict:=some h'.objs.size,data:=.seq items.toList.toArray}).get? b=some o:=fun b o e=>A2 _ (A2 _ (hk b o e))
 refine A0 ((Y.del.keeps k2).here ?_)
 rw[if_neg ‹d›]
 refine A1 (A1 (h _ _ _ 0 k2 ?_ (A3 _ rfl) rfl ?_))
 ·cases e:s.heap.get? (h'.push {cls:=.type "dict",data:=.dict #[]}).objs.size with
  |none=>rfl
  |some o'=>exact absurd (Ac (A2 {cls:=.type "dict",data:=.dict #[]} (hk _ _ e))) (At _)
 ·rw[Array.toArray_toList]
theorem wU{R:Result->Shared->Prop}(Y:Mat (model aa w) s.heap C)(ht:s.heap.IsTuple t items)(hz:items.size<=sizeLine)
  (h:∀ h' x o n,(∀ b o,s.heap.get? b=some o->h'.get? b=some o)->s.heap.get? x=none->h'.get? x=some o->o.cls=.ref C->o.data=.seq items n->R (.ok (.ret (.ref x))) {s with heap:=h'}) :
  codeAny (model aa w) A (.call (.builtin "tuple.__new__") ⟨[.ref C,.ref t],[]⟩) R s:=by
 refine Ba PySem.F.called_tuple.plain Fy ?_
 unfold checkBuiltinCall
 rw[show builtinKind "tuple.__new__" = some .builtinFn from ⋯,show splitId "tuple.__new__" = some ("tuple","__new__")from by kernel_rfl]
 dsimp only
 rw[if_pos ‹d›]
 refine A0 (Y.isT.here ?_)
 simp only[Bool.not_true,Bool.false_eq_true,if_false]
 refine A0 (Y.sub.here ?_)
 simp only[Bool.not_true,Bool.false_eq_true,if_false]
 refine A0 (Y.base.here ?_)
 refine A0 (Aa (a:=some "tuple.__new__") q8 ?_)
 dsimp only
 rw[if_neg ‹k›]
 have fin:wpAny (model aa w) A.in1 (Builtin.«tuple.__new__» ⟨[.ref C,.ref t],[]⟩) (fun fin s'=>match fin with| .done f=>R (.ok f) s' | .again c'=>c'.quiet=true/\codeAny (model aa w) A c' R s') (fun e s'=>R (.error e) s') s:=wR Y ht hz fun h' x o n a b c d e=>h h' x o n a b c d e
 exact Aa (a:=()) ⋯ fin
theorem yY{pl:Sem Bool}{Q:Value×List Value->Shared->Prop}(h:Q (.builtin "tuple.__new__",[]) {s with toks:=s.toks+1}):wpAny (model aa w) A (getMethod (.type "tuple") "__new__" pl) Q E s:=by
 have X:Frag.In [] s.heap:=fun a o e=>by cases e
 have L1:Looks (model aa w) s.heap (typeOf (.type "tuple")) (.type "type"):=Bs ⋯
 have L2:Looks (model aa w) s.heap (specialOf (.type "tuple") "__getattribute__") (some (.builtin "type.__getattribute__")):=L1.andThen (Bf X ⋯)
 unfold getMethod
 refine A0 (L2.here ?_)
 dsimp only
 rw[if_pos canon_tga]
 refine A0 (B1 (Q:=fun v s'=>v=.builtin "tuple.__new__"/\s'={s with toks:=s.toks+1}) ?_ (fun v s' q=>by obtain⟨rfl,rfl⟩:=q;exact A1 h) fun _ _ x=>x)
 exact cls_open (hook:=none) (mc:=.type "type") (r:=.val (.builtin "tuple.__new__")) X (Bs ⋯) L1 ⋯ (Bs ⋯) ⋯ ⋯ (A1 (handed_on ⋯ ⟨rfl,rfl⟩))
end
section
theorem EX.tnew{C:Addr}{pl:Sem Bool}{np aq pos:Pos}{e1 e2:Expr}{l:List PV}(Y:Mat (model aa w) H.H C)(hf:NM aa w A H Z env "tuple" (.type "tuple"))(hl:LX aa w A H Z env ρ pos [e1,e2] [.raw (.ref C),.tup l])(hz:l.length<=sizeLine)
  (hs:starEach [e1,e2] env=(false,eval e1 env)::starEach [e2] env) (hplain:(backTo pos (starEach [e2] env)).any (·.1)=false)
  (he:eval (.Call (.Attribute (.Name "tuple" np) "__new__" aq) [e1,e2] [] pos) env=(do
   let ov <-eval (.Name "tuple" np) env
   standAt aq.atName
   let(f,first) <-holding [ov] (getMethod ov "__new__" pl)
   callWith pos f first (backTo pos (starEach [e1,e2] env)) [])):EX aa w A H Z env ρ (.Call (.Attribute (.Name "tuple" np) "__new__" aq) [e1,e2] [] pos) (lM C l):=by
 refine⟨fun s E F=>?_⟩
 refine Br (pl:=pl) (wpM (hf s E ρ np F) (fun u s' q=>?_)) he
 obtain⟨rfl,rfl⟩:=q
 refine yY ?_
 have k_1:Kp N0 s' {s' with toks:=s'.toks+1}:=Kp.toks _ _ _
 refine Bx (wpM (hl.run _ E (F.kp0 k_1)) (fun vs s_2 h_2=>?_)) hs hplain
 obtain⟨P,k_2⟩:=h_2
 have F_2:=(F.kp0 k_1).kp0 k_2
 obtain⟨_,_,rfl,r1,P⟩:=aI P
 obtain⟨_,_,rfl,r2,P⟩:=aI P
 obtain rfl:=cX P
 cases r1
 obtain⟨t,items,rfl,nz,it,pr⟩:=r2.tuple
 have hn:items.size=l.length:=by have:=(a8 pr).1;simpa using this
 have YY:Mat (model aa w) s_2.heap C:=⟨Y.isT.keeps F_2.top,Y.sub.keeps F_2.top,Y.self.keeps F_2.top,Y.top.keeps F_2.top,let⟨c,l,m⟩:=Y.mro;⟨c,l,m.keeps F_2.top⟩,Y.made.keeps F_2.top,Y.base.keeps F_2.top,Y.init.keeps F_2.top,Y.call.keeps F_2.top,Y.typ.keeps F_2.top,Y.del.keeps F_2.top,let⟨a,b,c,d,e⟩:=Y.obj;⟨a,b,c,d,F_2.top _ _ e⟩⟩
 refine B6 (wU YY it (by rw[hn];exact hz) fun h' x o n hk hx ho hc hd=>?_)
 have k_3:Kp N0 s_2 {s_2 with heap:=h'}:=Kp.mk (tk:=s_2.toks) fun b o _ e=>hk b o e
 have nx:¬Z x:=F_2.toGT.free hx
 refine⟨.own _ _ fun Z' h'' k hz'=>⟨x,o,items,n,rfl,fun q=>nx (hz' x _ ho q),k x _ nx ho,hc,hd,aA (fun _ _ r=>(r.kp0 k_3).fut k hz') pr⟩,k_1.trans (k_2.trans k_3)⟩
end
theorem Mat.keeps{M:Model}{h h':Heap}{C:Addr}(Y:Mat M h C)(k:∀ b o,h.get? b=some o->h'.get? b=some o):Mat M h' C :=
 ⟨Y.isT.keeps k,Y.sub.keeps k,Y.self.keeps k,Y.top.keeps k,let⟨c,l,m⟩:=Y.mro;⟨c,l,m.keeps k⟩,Y.made.keeps k,Y.base.keeps k,Y.init.keeps k,Y.call.keeps k,Y.typ.keeps k,Y.del.keeps k,let⟨a,b,c,d,e⟩:=Y.obj;⟨a,b,c,d,k _ _ e⟩⟩
def sH(K:Frag)(C sm f:Addr):Bool:=readsIn K C (.type "type")&&(match findCls K (.ref C) (.type "type") "__new__" with|some (.get (.builtin i) (.ref a) .none (.ref c))=>i == "staticmethod.__get__" && a==sm&&c==C|_=>false)&&(recIn K sm "staticmethod").any (fun l=>l.head? == some (.ref f))
theorem vT(a:Value)(l:List Value):argsOk "object.__init__" ⟨a::l,[]⟩:=by unfold argsOk;kernel_rfl
theorem Rp.owned{Z:ZP}{h:Heap}{P:(Addr->Prop)->Heap->Value->Prop}{v:Value}(x:Rp Z h (.own P) v):P Z h v:=by
 cases x with
 |own _ _ q=>exact q Z h (fun _ _ _ e=>e) fun _ _ _ z=>z
section
theorem wO{K:Frag}{C sm f:Addr}{s:Shared}{E:ZV}{Q:ZV}{expr:Bool}(X:K.In s.heap)(hk:sH K C sm f=true)(h:Q (.ref f) {s with toks:=s.toks+1}):wpAny (model aa w) A (getAttr (.ref C) "__new__" expr) Q E s:=by
 simp only[sH,Bool.and_eq_true,beq_iff_eq]at hk
 obtain⟨⟨h1,h2⟩,h3⟩:=hk
 split at h2
 ·rename_i i a c hf
  simp only[Bool.and_eq_true,beq_iff_eq]at h2
  obtain⟨⟨rfl,rfl⟩,rfl⟩:=h2
  cases e:recIn K a "staticmethod" with
  |none=>rw[e]at h3;cases h3
  |some l =>
  rw[e]at h3
  cases l with
  |nil=>cases h3
  |cons y r =>
  have:y=.ref f:=by simpa using h3
  subst this
  exact cls_bind X h1 hf (B6 (sm_get (s:={s with toks:=s.toks+1}) X e (handed_on (by rfl) h)))
 ·cases h2
theorem uV{K:Frag}{C sm f:Addr}{H:Ctx}{ps:List PV}{l:List PV}(Y:Mat (model aa w) H.H C)(X:K.In H.H)(hk:sH K C sm f=true)
  (hnew:∀ vs,CBc aa w (A.under (.builtin "type.__call__" ⟨.ref C::vs,[]⟩)) H Z (.ref f) (.raw (.ref C)::ps) [] (lM C l) H.L):CBc aa w A H Z (.ref C) ps [] (lM C l) H.L:=by
 intro s vs G P
 have X':=X.keeps G.top
 have Y':=Y.keeps G.top
 obtain⟨oc,od,cd,sl,hC⟩:=Y'.obj
 refine Dl ?_
 show wpAny _ _ (callAny (.ref C) _) _ _ _
 refine nd_load hC ?_
 show wpAny _ _ (callAny.viaDunder (.ref C) _) _ _ _
 unfold callAny.viaDunder
 refine A0 (Y'.call.at ?_)
 dsimp only
 rw[tc_bind]
 refine A0 (A1 (A0 (A1 ?_)))
 refine A1 (a:=Fin.again (.call (.builtin "type.__call__") ⟨.ref C::vs,[]⟩)) (And.intro rfl ?_)
 refine Fz (Dn _ ‹k›) entry_typeCall (check_slot tc_kind tc_split Y'.typ (tc_args _ _ _) ?_)
 unfold Builtin.«type.__call__»
 obtain⟨c,m,hm⟩:=Y'.mro
 dsimp only
 rw[show(Value.ref C==Value.type "type")=false from rfl]
 simp only[Bool.false_eq_true,if_false]
 refine A0 (hm.here ?_)
 simp only[List.isEmpty_cons,Bool.false_eq_true,if_false]
 refine A0 (Y'.made.here ?_)
 dsimp only
 refine A0 (wO X' hk ?_)
 refine A0 (A5 (B6 (Ca (hnew vs _ (.ref C::vs) (G.kp0 (Kp.toks _ _ _)) (.cons (.raw _) (aA (fun _ _ r=>r.kp0 (Kp.toks _ _ _)) P))) fun r s' q=>?_)))
 rcases r with e|(v|_|_|_) <;> first|exact q.elim|skip
 obtain⟨rv,G1,k_1⟩:=q
 have Y_1:=Y.keeps G1.top
 obtain⟨x,o,items,n,rfl,nz,ho,hc,hd,pr⟩:=rv.owned
 have L1:Looks (model aa w) s'.heap (typeOf (.ref x)) (.ref C):=hc▸(Cn ho).andThen .now
 have hj:Looks (model aa w) s'.heap (isInstance (.ref x) (.ref C)) true:=L1.andThen Y_1.self
 refine A0 (hj.here ?_)
 simp only[Bool.not_true,Bool.false_eq_true,if_false]
 refine A0 (A5 (B1 (Q:=fun r s_2=>r=some .none/\s_2=s') ?_ (fun r s_2 q=>?_) fun _ _ x=>x))
 ·unfold callSpecial? specialOf
  refine A0 (A0 (L1.here (Y_1.init.here ?_)))
  dsimp only
  rw[oi_bind]
  refine A5 (A0 (A1 (A0 (B6 ?_))))
  have ji:Looks (model aa w) s'.heap (isInstance (.ref x) (.type "object")) true:=L1.andThen Y_1.top
  refine Ba oi_plain entry_oi (@check_slot (model aa w) _ _ _ "object.__init__" "object" "__init__" (.ref x) vs [] _ oi_kind oi_split ji (vT (.ref x) vs) ?_)
  show wpAny _ _ (Builtin.«object.__init__» ⟨.ref x::vs,[]⟩) _ _ _
  unfold Builtin.«object.__init__»
  dsimp only
  split
  ·refine A0 (L1.here (A0 (Y_1.init.here ?_)))
   refine A0 (Y_1.made.here ?_)
   rw[show((some (Value.builtin "object.__init__"):Option Value) != some (Value.builtin "object.__init__"))=false from by decide +kernel]
   simp only[Bool.false_eq_true,if_false,Bool.false_or]
   rw[show((Option.none:Option String) != some "object.__new__")=true from by decide +kernel]
   exact A1 (A1 ⟨rfl,rfl⟩)
  ·exact A1 (A1 ⟨rfl,rfl⟩)
 ·obtain⟨rfl,rfl⟩:=q
  exact A1 ⟨rv,G1,(Kp.toks _ _ _).z.trans k_1⟩
end
def lE(h:Heap)(t:Addr)(items:Array Value):Prop:=∃ o,h.get? t=some o/\∃ n,o.data=.seq items n
section
theorem xX{it t:Addr}{i:Nat}{items:Array Value}{x:Value}{Q:Option Value->Shared->Prop}(hit:s.heap.IsTupleIter it t i)
  (ht:lE s.heap t items) (hx:items[i]? = some x)
  (hQ:∀ h',h'.IsTupleIter it t (i+1)->Heap.SameBut it s.heap h'->Q (some x) {s with heap:=h'}) :
  wpAny (model aa w) A (pyNext (.ref it)) Q E s:=by
 obtain⟨o,ho,hc,hd⟩:=id hit
 obtain⟨ol,hol,nl,hdl⟩:=ht
 unfold pyNext
 refine A0 (Bl (B0 (name:=Str.ofString "__next__") hit.typeIs Bg
  (B3 Bg hit.typeIs Ds ?_ (Do _))))
 show wpAny _ _ (field (.ref it) 0 >>= _) _ _ s
 refine A0 (An ho hd (x:=.ref t) rfl ?_)
 rw[if_neg (show ¬((Value.ref t==Value.none)=true)from Bool.false_ne_true)]
 refine A0 (An ho hd (x:=.int i 0) rfl ?_)
 refine A0 (Ax hol hdl ?_)
 simp only[Int.toNat_natCast,hx]
 refine A0 (Cg ho hd ‹s› (A1 ⟨x,rfl,A1 (hQ _ ?_ (Dh ..))⟩))
 exact⟨_,Af _ ho (Cy (Cv hd _)),(Fi ..).trans hc,by
  rw[Obj.data_mapFields hd];simp[rawInt]⟩
theorem zZ{it t:Addr}{i:Nat}{items:Array Value}{Q:Option Value->Shared->Prop}(hh:A.handled=none)
  (hit:s.heap.IsTupleIter it t i) (ht:lE s.heap t items) (hx:items[i]? = none)
  (hQ:∀ h',Heap.ExtBut it s.heap h'->Q none {s with heap:=h'}):wpAny (model aa w) A (pyNext (.ref it)) Q E s:=by
 obtain⟨o,ho,hc,hd⟩:=id hit
 obtain⟨ol,hol,nl,hdl⟩:=ht
 unfold pyNext
 refine A0 (Bl (B0 (name:=Str.ofString "__next__") hit.typeIs Bg
  (B3 Bg hit.typeIs Ds ?_ (Do _))))
 show wpAny _ _ (field (.ref it) 0 >>= _) _ _ s
 refine A0 (An ho hd (x:=.ref t) rfl ?_)
 rw[if_neg (show ¬((Value.ref t==Value.none)=true)from Bool.false_ne_true)]
 refine A0 (An ho hd (x:=.int i 0) rfl ?_)
 refine A0 (Ax hol hdl ?_)
 simp only[Int.toNat_natCast,hx]
 refine A0 (Cf (A0 (Cg ho hd ‹s› ?_)))
 show wpAny _ _ (newExc (.type "StopIteration") [] >>= _) _ _ _
 refine A0 ?_
 simp only[newExc,newTuple]
 refine A0 (Aj ?_ (by size_fits))
 refine A0 (m:=firstArgMember _ _) (Aa (a:=Value.none) (by first|rfl|(simp only[firstArgMember];rfl)) ?_)
 refine Aj ?_ (by size_fits)
 simp only[raiseNew]
 refine A0 (Fl ?_)
 first|rw[show A.in1.handled=none from hh]|rw[hh]
 refine A0 (A1 (Ed ?_))
 refine A0 (Bo (T := "StopIteration") (b:=true) ⟨_,A3 _ rfl,rfl⟩ Ev ?_)
 exact A1 (hQ _ (((Dh ..).extBut.push _).push _))
theorem vJ(hh:A.handled=none)(I ax:Addr)(bn:ax≠I)(items:Array Value) :
  Walks aa w A I [I,ax] [I] items.size (fun i v=>items[i]? = some v) (fun i h=>h.IsTupleIter I ax i/\lE h ax items) where
 sub:=fun b hb=>by simp at hb;simp[hb]
 frame:=fun _ _ _ st hk=>⟨st.1.at fun o e=>hk I ‹s› o e,let⟨o,e,r⟩:=st.2;⟨o,hk ax ‹s› o e,r⟩⟩
 item:=fun i s Q E hi st hQ=>by
  refine xX st.1 st.2 (x:=items[i]) (by simp[hi]) fun h' hit' hs'=>?_
  exact hQ _ h' s.toks (by simp[hi]) ⟨hit',let⟨o,e,r⟩:=st.2;⟨o,hs'.extBut _ o bn e,r⟩⟩ fun b o hb e=>hs'.extBut b o (fun h=>hb (by simp[h])) e
 done:=fun s Q E st hQ=>zZ hh st.1 st.2 ‹s› fun h' he'=>hQ h' s.toks fun b o hb e=>he' b o (fun h=>hb (by simp[h])) e
 self:=fun _ _ _ _ st hQ=>wpAny_pyIter_tupleiter st.1 hQ
theorem nK{v:Value}{name:Str}{f:Value}{refuse:Sem Value}{Q:Option Value->Shared->Prop}(L:Looks (model aa w) s.heap (specialOf v name) (some f))(hb:bindSpecial f v=pure (f,[v]))(hn:(f==Value.none)=false)
  (hc:wpAny (model aa w) A (call f [v]) (fun v=>Q (some v)) E s):wpAny (model aa w) A (callSpecialIfBoundUnlessNone? v name refuse) Q E s:=by
 simp only[callSpecialIfBoundUnlessNone?,bindSpecialIfBound?]
 refine A5 (A0 (A0 (L.here ?_)))
 simp only[hb]
 refine A0 (Fv (wpAny_ite ?_))
 have fin:wpAny (model aa w) A (if(f==Value.none)=true then(refuse >>= fun v=>pure (some v))else(call f [v] >>= fun v=>pure (some v))) Q E s:=by
  rw[hn];simp only[Bool.false_eq_true,if_false]
  exact A0 (B1 hc (fun v s' h'=>A1 h') fun _ _ h'=>h')
 split
 ·exact A0 (A1 (A1 fin))
 ·exact wpAny_tryCatch (A0 (A1 (A1 fin)))
theorem gY{id owner n:String}{B:Builtin}{v:Value}{ai l:List Value}{Q:ZV}(hq:plainId id=true)(he:entryFor table id=some B)(hk:builtinKind id=some .slot)(hs:splitId id=some (owner,n))(hi:Looks (model aa w) s.heap (isInstance v (.type owner)) true)
  (ha:argsOk id ⟨l,[]⟩) (hc:wpAny (model aa w) A.in1 (B ⟨v::ai,[]⟩) (fun fin s'=>∃ x,fin=.done (.ret x)/\Q x s') E s) (hl:l=v::ai:=by rfl):wpAny (model aa w) A (call (.builtin id) (v::ai)) Q E s:=by
 subst hl
 refine B6 (Ba hq he (check_slot hk hs hi ha (B1 hc (fun fin s' h'=>?_) fun _ _ h'=>h')))
 obtain⟨v,rfl,hv⟩:=h';exact hv
structure lO(M:Model)(h:Heap)(C:Addr):Prop where
 iter:Looks M h (typeLookup (.ref C) "__iter__") (some (.builtin "tuple.__iter__"))
 len:Looks M h (typeLookup (.ref C) "__len__") (some (.builtin "tuple.__len__"))
 sub:Looks M h (isSubtype (.ref C) (.type "tuple")) true
theorem lO.keeps{M:Model}{h h':Heap}{C:Addr}(Y:lO M h C)(k:∀ b o,h.get? b=some o->h'.get? b=some o):lO M h' C:=⟨Y.iter.keeps k,Y.len.keeps k,Y.sub.keeps k⟩
theorem x6{C x:Addr}{o:Obj}{items:Array Value}{n:Nat}{Q:ZV}(Y:lO (model aa w) s.heap C)(ho:s.heap.get? x=some o)(hc:o.cls=.ref C)
  (hQ:Q (.ref s.heap.objs.size) {s with heap:=s.heap.push {cls:=.type "tuple_iterator",data:=.fields #[.ref x,.int 0 0]}}):wpAny (model aa w) A (pyIter (.ref x)) Q E s:=by
 have L1:Looks (model aa w) s.heap (typeOf (.ref x)) (.ref C):=hc▸(Cn ho).andThen .now
 have L2:Looks (model aa w) s.heap (specialOf (.ref x) "__iter__") (some (.builtin "tuple.__iter__")):=L1.andThen Y.iter
 unfold pyIter
 refine A0 (L2.here ?_)
 show wpAny _ A (callSpecialIfBoundUnlessNone? (.ref x) "__iter__" _ >>= _) Q E s
 refine A0 (nK L2 (Dq.bind _) rfl (gY Dq.plain PySem.F.entry_tuple_iter (owner := "tuple") (n := "__iter__") ‹k› ‹k› (L1.andThen Y.sub) (PySem.F.args_tuple_iter_1 _) ?_))
 show wpAny _ _ (do ret (<-newFields "tuple_iterator" [.ref x,rawInt 0])) _ _ s
 refine A0 (Aj (A1 ⟨_,rfl,?_⟩))
 exact A0 (Bu (T := "tuple_iterator") ⟨_,A3 _ rfl,rfl⟩ Bg.lookup (A1 hQ))
theorem a20{C x:Addr}{o:Obj}{items:Array Value}{n:Nat}{Q:ZV}(Y:lO (model aa w) s.heap C)(ho:s.heap.get? x=some o)(hc:o.cls=.ref C)(hd:o.data=.seq items n)(hfit:(items.size:Int)<2^63)
  (h:Q (.int items.size (s.toks+1)) {s with toks:=s.toks+1+1}):wpAny (model aa w) A (call (.builtin "len") [.ref x]) Q E s:=by
 have L1:Looks (model aa w) s.heap (typeOf (.ref x)) (.ref C):=hc▸(Cn ho).andThen .now
 have L2:Looks (model aa w) s.heap (specialOf (.ref x) "__len__") (some (.builtin "tuple.__len__")):=L1.andThen Y.len
 refine Fe kind_len plain_len entry_len (args_len1 _) ?_
 unfold Builtin.«len»
 refine A0 (m:=oneArg "len" _) (A1 ?_)
 refine A0 ?_
 unfold callSpecial?
 refine A0 (L2.here ?_)
 dsimp only
 rw[slot_tuple_len.bind]
 refine A5 (A0 (A1 (A0 ?_)))
 refine(gY slot_tuple_len.plain entry_tuple_len (owner := "tuple") (n := "__len__") ‹k› ‹k› (L1.andThen Y.sub) (args_tuple_len _) ?_)
 show wpAny _ _ (do retInt (<-Builtin.Tuple.tupleItemsOf (.ref x)).size) _ _ s
 unfold Builtin.Tuple.tupleItemsOf
 refine A0 (A0 (Ax ho hd (A1 ?_)))
 refine A0 (Gj (A1 ⟨_,rfl,A1 ?_⟩))
 refine A0 (A5 (A1 ?_))
 refine A0 (D6 ?_)
 show wpAny _ _ (if((items.size:Nat):Int)<0 then _ else _) _ _ _
 rw[if_neg ‹o›]
 show wpAny _ _ (if((items.size:Nat):Int)≥2^63 then _ else _) _ _ _
 rw[if_neg ‹o›]
 exact A0 (Gj (A1 ⟨_,rfl,h⟩))
theorem j8{α:Type}{M:Model}{b:Bool}{X Y:Sem α}{Q:α->Shared->Prop}(h1:b=true->wpAny M A X Q E s)(h2:b=false->wpAny M A Y Q E s):wpAny M A (if b=true then X else Y) Q E s:=by
 cases b
 ·exact h2 rfl
 ·exact h1 rfl
theorem nL{α:Type}{M:Model}{b:Bool}{X Y:Sem α}{Q:α->Shared->Prop}(hb:b=true)(h1:wpAny M A X Q E s):wpAny M A (if b=true then X else Y) Q E s:=by
 subst hb;exact h1
theorem wP{c:Nat}{S I x:Addr}{items:Array Value}{R:Result->Shared->Prop}(hA:A.handled=none)(hSI:S≠I)(hSx:S≠x)(hxI:x≠I)(hz:items.size<=sizeLine)(hI:s.heap.IsTupleIter I x 0)(hx:lE s.heap x items)(hS:s.heap.get? S=some {cls:=.type "list",data:=.seq #[] c})
  (hR:∀ h' tk c',s.toks<=tk->(∀ b o,b≠S->b≠I->s.heap.get? b=some o->h'.get? b=some o)->h'.get? S=some {cls:=.type "list",dict:=none,data:=.seq items c',slots:=#[]}->R (.ok (.ret (.ref S))) {s with heap:=h',toks:=tk}) :
  codeAny (model aa w) A (.builtin "list.extend.loop" ⟨[.ref S,.ref I,.ref S],[]⟩) R s:=by
 have W:=(vJ (aa:=aa) (w:=w) (A:=A.in1) hA I x hxI items).toS
 refine codeAny_extend_loopS W hz S (by simp;exact⟨hSI,hSx⟩) _ items.size 0 s #[] c rfl (Ap _) ⟨hI,hx⟩ hS (ItemsOf.nil _) fun s' acc' c' hm hS' hacc=>?_
 have e:acc'=items:=Array.ext hacc.1 fun i h1 h2=>by
  have:=hacc.2 i acc'[i] (by simp[h1])
  simpa[h2]using this.symm
 subst e
 obtain⟨h',g',d',tk',os'⟩:=s'
 have e1:g'=s.gens:=hm.gens
 have e2:d'=s.drawn:=hm.drawn
 have e3:os'=s.os:=hm.os
 subst e1 e2 e3
 exact hR h' tk' c' hm.toks (fun b o n1 n2 e=>hm.heap b o (by simp;exact⟨n1,n2⟩) e) hS'
theorem xE{C x:Addr}{o:Obj}{items:Array Value}{n:Nat}{Q:Bool->Shared->Prop}(Y:lO (model aa w) s.heap C)(ho:s.heap.get? x=some o)(hc:o.cls=.ref C)(hd:o.data=.seq items n)(hfit:(items.size:Int)<2^63)
  (h:∀ b,Q b {s with toks:=s.toks+1+1}):wpAny (model aa w) A (Builtin.List.listLengthHint (.ref x)) Q E s:=by
 have L1:Looks (model aa w) s.heap (typeOf (.ref x)) (.ref C):=hc▸(Cn ho).andThen .now
 have L2:Looks (model aa w) s.heap (specialOf (.ref x) "__len__") (some (.builtin "tuple.__len__")):=L1.andThen Y.len
 unfold Builtin.List.listLengthHint
 refine A0 (L2.here ?_)
 dsimp only
 rw[show splitId "tuple.__len__" = some ("tuple","__len__")from by decide +kernel]
 refine A0 ((L1.andThen Y.sub).here ?_)
 rw[if_neg (show ¬((!true)=true)from by decide)]
 refine nL ⋯ ?_
 ·refine A0 (L1.here (A0 (a20 Y ho hc hd hfit (A0 (m:=asInt? (.int items.size (s.toks+1))) (A1 ?_)))))
  exact A1 (h _)
theorem qK{C x:Addr}{o:Obj}{items:Array Value}{n:Nat}{Q:List Value->Shared->Prop}(hA:A.handled=none)(Y:lO (model aa w) s.heap C)(ho:s.heap.get? x=some o)(hc:o.cls=.ref C)(hd:o.data=.seq items n)(hz:items.size<=sizeLine)
  (hQ:∀ h' tk,s.toks<=tk->(∀ b o,s.heap.get? b=some o->h'.get? b=some o)->Q items.toList {s with heap:=h',toks:=tk}):wpAny (model aa w) A (collect (.ref x)) Q E s:=by
 have hfit:(items.size:Int)<2^63:=by rw[sizeLine_eq]at hz;omega
 unfold collect
 refine A0 (Gd (Bv PySem.F.entry_proto_collect ?_))
 rw[Around.under_plainId PySem.F.plain_proto_collect _]
 show wpAny _ A.in1 (newList [] >>= fun l=>again (.builtin "list.__iadd__" ⟨[l,.ref x],[]⟩)) _ _ s
 refine A0 (Aj ?_)
 refine A1 ⟨Cb PySem.F.plain_list_iadd _,Bv PySem.F.entry_list_iadd ?_⟩
 rw[Around.under_plainId PySem.F.plain_list_iadd _]
 show wpAny _ A.in1 (Builtin.List.listExtendWith (.ref s.heap.objs.size) (.ref x) (.ref s.heap.objs.size)) _ _ _
 have k1:∀ b o,s.heap.get? b=some o->(s.heap.push {cls:=.type "list",data:=.seq ([]:List Value).toArray}).get? b=some o:=fun b o e=>A2 _ e
 have bn:s.heap.objs.size≠x:=(Au (Ac ho)).symm
 have Y1:=Y.keeps k1
 have L1:Looks (model aa w) (s.heap.push {cls:=.type "list",data:=.seq ([]:List Value).toArray}) (typeOf (.ref x)) (.ref C):=hc▸(Cn (k1 _ _ ho)).andThen .now
 unfold Builtin.List.listExtendWith
 refine A0 (L1.here ?_)
 rw[if_neg (by rw[show Builtin.List.listSameRef (.ref s.heap.objs.size) (.ref x)=false from by simp[Builtin.List.listSameRef,bn],show(Value.ref C==Value.type "list")=false from rfl,show(Value.ref C==Value.type "tuple")=false from rfl];decide)]
 refine A0 (x6 (items:=items) (n:=n) Y1 (k1 _ _ ho) hc ?_)
 have k2:∀ b o,(s.heap.push {cls:=.type "list",data:=.seq ([]:List Value).toArray}).get? b=some o->((s.heap.push {cls:=.type "list",data:=.seq ([]:List Value).toArray}).push {cls:=.type "tuple_iterator",data:=.fields #[.ref x,.int 0 0]}).get? b=some o:=fun b o e=>A2 _ e
 refine A0 (A5 (xE (Y1.keeps k2) (k2 _ _ (k1 _ _ ho)) hc hd hfit fun room=>?_))
 have hS1:((s.heap.push {cls:=.type "list",data:=.seq ([]:List Value).toArray}).push {cls:=.type "tuple_iterator",data:=.fields #[.ref x,.int 0 0]}).get? s.heap.objs.size=some {cls:=.type "list",data:=.seq ([]:List Value).toArray}:=A2 _ (A3 _ rfl)
 have hnI:(s.heap.push {cls:=.type "list",data:=.seq ([]:List Value).toArray}).objs.size≠s.heap.objs.size:=by rw[Heap.size_push];exact C2 _
 have hIx:x≠(s.heap.push {cls:=.type "list",data:=.seq ([]:List Value).toArray}).objs.size:=Au (Ac (k1 _ _ ho))
 have loop:∀{R:Result->Shared->Prop} (h_1:Heap) (tk c:Nat),s.toks<=tk->(∀ b o,b≠s.heap.objs.size->((s.heap.push {cls:=.type "list",data:=.seq ([]:List Value).toArray}).push {cls:=.type "tuple_iterator",data:=.fields #[.ref x,.int 0 0]}).get? b=some o->h_1.get? b=some o)->h_1.get? s.heap.objs.size=some {cls:=.type "list",data:=.seq #[] c} ->
   (∀ h' tk c',s.toks<=tk->(∀ b o,s.heap.get? b=some o->h'.get? b=some o)->h'.get? s.heap.objs.size=some {cls:=.type "list",dict:=none,data:=.seq items c',slots:=#[]}->R (.ok (.ret (.ref s.heap.objs.size))) {s with heap:=h',toks:=tk}) ->
   codeAny (model aa w) A (.builtin "list.extend.loop" ⟨[.ref s.heap.objs.size,.ref (s.heap.push {cls:=.type "list",data:=.seq ([]:List Value).toArray}).objs.size,.ref s.heap.objs.size],[]⟩) R {s with heap:=h_1,toks:=tk}:=by
  intro R h_1 tk c ht k hS hR
  refine wP hA hnI.symm bn hIx hz ⟨_,k _ _ hnI (A3 _ rfl),rfl,rfl⟩ ⟨o,k _ _ bn.symm (k2 _ _ (k1 _ _ ho)),n,hd⟩ hS fun h' tk' c' ht' k' hS'=>?_
  refine hR h' tk' c' (A7 ht ht') (fun b o e=>?_) hS'
  have l1:b≠s.heap.objs.size:=Au (Ac e)
  have l2:b≠(s.heap.push {cls:=.type "list",data:=.seq ([]:List Value).toArray}).objs.size:=Au (Ac (k1 _ _ e))
  exact k' b o l1 l2 (k b o l1 (k2 _ _ (k1 _ _ e)))
 dsimp only
 refine j8 (fun _=>?_) fun _=>?_
 ·refine A0 (Cf (A0 ?_))
  show wpAny _ A.in1 (updateSeq s.heap.objs.size (·.push .none) >>= fun _=>updateSeq s.heap.objs.size (·.pop)) _ _ _
  refine A0 (Bc hS1 rfl ?_)
  have hS2:=Af (Obj.mapSeq (·.push Value.none)) hS1 rfl
  refine Bc hS2 rfl ?_
  have hS3:=Af (Obj.mapSeq (·.pop)) hS2 rfl
  refine A1 ⟨Cb Ff _,loop _ _ 2 (by show s.toks<=s.toks+1+1;omega) (fun b o nb e=>((Am _ _ nb.symm).trans ((Am _ _ nb.symm).trans e))) hS3 fun h' tk c' ht k hS'=>?_⟩
  exact A0 (Ct hS' (A1 (hQ _ _ ht k)))
 ·refine A1 ⟨Cb Ff _,loop _ _ 0 (by show s.toks<=s.toks+1+1;omega) (fun b o nb e=>e) hS1 fun h' tk c' ht k hS'=>?_⟩
  exact A0 (Ct hS' (A1 (hQ _ _ ht k)))
theorem zK{C x:Addr}{o:Obj}{items:Array Value}{n:Nat}(hc:o.cls=.ref C)(hd:o.data=.seq items n)(hz:items.size<=sizeLine) :
  MeetsIn aa w (Builtin.«tuple.__new__» ⟨[.type "tuple",.ref x],[]⟩) (fun A R s=>(A.handled=none/\lO (model aa w) s.heap C/\s.heap.get? x=some o)/\∀(h':Heap) (tk:Tok),s.toks<=tk->(∀ b o,s.heap.get? b=some o->h'.get? b=some o)->R (.ok (.ret (.ref h'.objs.size))) {s with heap:=h'.push {cls:=.type "tuple",data:=.seq items},toks:=tk}) :=
 .of_wp fun A R s h=>by
  obtain⟨⟨hA,Y,ho⟩,h⟩:=h
  have L1:Looks (model aa w) s.heap (typeOf (.ref x)) (.ref C):=hc▸(Cn ho).andThen .now
  unfold Builtin.«tuple.__new__»
  dsimp only
  refine A0 (Aa (a:=true) ⋯ ?_)
  rw[if_neg (show ¬((!true)=true)from by decide)]
  refine A0 (Aa (a:=true) sub_tuple_self ?_)
  rw[if_neg (show ¬((!true)=true)from by decide)]
  refine j8 (fun q=>absurd q ‹k›) fun _=>?_
  refine A0 (Aa (a:=()) madeHere_tuple ?_)
  refine A0 (Aa (a:=some (.builtin "object.__init__")) init_tuple_lookup ?_)
  rw[if_pos ‹k›]
  refine A0 (Aa (a:=()) ⋯ ?_)
  refine A0 (Aa (a:=()) ⋯ ?_)
  rw[if_pos ‹k›]
  unfold Builtin.Tuple.tupleIsExact
  refine A0 (A0 (L1.here (A1 ?_)))
  rw[if_neg (show ¬((Value.ref C==Value.type "tuple")=true)from Bool.false_ne_true)]
  refine A0 (qK hA Y ho hc hd hz fun h' tk ht hk=>?_)
  refine A0 (A1 ?_)
  unfold Builtin.Tuple.tupleExact
  refine A0 (Aj ?_ (by show items.toList.toArray.size<=sizeLine;simpa using hz))
  refine A1 ⟨_,rfl,?_⟩
  have e:items.toList.toArray=items:=by simp
  rw[e]
  exact h h' tk ht hk
theorem CB.tupM{C:Addr}{l:List PV}(hA:A.handled=none)(Y:lO (model aa w) H.H C)(hz:l.length<=sizeLine):CB aa w A H Z (.type "tuple") [lM C l] (.tup l):=by
 intro s E vs G P
 obtain⟨_,_,rfl,r1,P⟩:=aI P
 obtain rfl:=cX P
 obtain⟨x,o,items,n,rfl,nz,ho,hc,hd,pr⟩:=r1.owned
 have hn:items.size=l.length:=by have:=(a8 pr).1;simpa using this
 refine callType_newIn PySem.F.called_tuple ‹d› (PySem.F.typeCall_tuple_1 _) (PySem.F.newCall_tuple_1 _) (fun obj=>PySem.F.args_object_init_2 obj _) Fy
  (zK hc hd (by rw[hn];exact hz)) ⟨⟨hA,Y.keeps G.top,ho⟩,fun h' tk ht hk=>⟨⟨_,A3 _ rfl,rfl⟩,?_⟩⟩
 have k:Kp N0 s {s with heap:=h'.push {cls:=.type "tuple",data:=.seq items},toks:=tk}:=Kp.mk (tk:=tk) fun b o _ e=>A2 _ (hk b o e)
 refine⟨Rp.tup (o:={cls:=.type "tuple",data:=.seq items}) ?_ (A3 _ rfl) rfl rfl hn ?_,k⟩
 ·refine G.toGT.free ?_
  cases e:s.heap.get? h'.objs.size with
  |none=>rfl
  |some o'=>exact absurd (Ac (hk _ _ e)) (At _)
 ·exact fun i p v e1 e2=>((a8 pr).2 i p v e1 (by simpa using e2)).kp0 k
theorem EX.madeCall{K:Frag}{C fI fF:Addr}{nm x:Str}{aj cpos aq pos:Pos}{es:List Expr}{ps qs qs':List PV}{ns ns':List Str}{r:PV}{pl:Sem Bool}{n:Nat}(S:FS H.H Z env)(X:K.In H.H)(hk:eJ K C=true)(hmk:jH K C fI=true)(hm:dT K C nm fF=true)
  (hf:∃ o fd,H.H.get? fF=some o/\o.data=.func fd) (R:Rm (n+1) A) (hn:cV ns qs nm=none)
  (hx:NM aa w A H Z env x (.ref C)) (hl:LX aa w A H Z env ρ cpos es ps)
  (hh:(backTo cpos (starEach es env))=[]\/∃ y r,backTo cpos (starEach es env)=(false,y)::r) (hplain:(backTo cpos (starEach es env)).any (·.1)=false)
  (he1:eval (.Call (.Name x aj) es [] cpos) env=(do callWith cpos (<-eval (.Name x aj) env) [] (backTo cpos (starEach es env)) (backToKw cpos (keywordEach [] env))))
  (hinit:∀(A':Around) x dx,Rm n A'->(∀ a,aX Z dx a->H.H.get? a=none)->CBc aa w A' ((cx0 H.H H.tk).own dx (a9 [] [])) (aX Z dx) (.ref fI) (aG C x dx::ps) [] .none [(dx,a9 ns qs)])
  (hcall:∀ x dx,(∀ a,aX Z dx a->H.H.get? a=none)->CBc aa w A ((cx0 H.H H.tk).own dx (a9 ns qs)) (aX Z dx) (.ref fF) [aG C x dx] [] r [(dx,a9 ns' qs')])
  (he:eval (.Call (.Attribute (.Call (.Name x aj) es [] cpos) nm aq) [] [] pos) env=(do
   let ov <-eval (.Call (.Name x aj) es [] cpos) env
   standAt aq.atName
   let(f,first) <-holding [ov] (getMethod ov nm pl)
   callWith pos f first (backTo pos (starEach [] env)) [])):EX aa w A H Z env ρ (.Call (.Attribute (.Call (.Name x aj) es [] cpos) nm aq) [] [] pos) r:=by
 refine⟨fun s E F=>?_⟩
 have hmade:wpAny (model aa w) A (eval (.Call (.Name x aj) es [] cpos) env) (fun v s'=>∃ s_1,Kp N0 s s_1/\FI H Z env ρ s_1/\Made H.H H.tk Z C ns qs s_1 v s') E s :=
  iT F X hk hx hl hh hplain he1 fun s_1 vs F_1 P k=>B6 (Ca (oY X hmk R S.zt hinit s_1 vs F_1.toGS.cx0 P) fun r s' q=>by
   rcases r with e|(v|_|_|_) <;> first|exact q.elim|exact⟨s_1,k,F_1,q⟩)
 refine Br (pl:=pl) (wpM hmade (fun v s_2 h_2=>?_)) he
 obtain⟨s_1,k_1,F_1,x',dx,rfl,nx,nd,rv,G_2,k_2⟩:=h_2
 obtain⟨h12,h3⟩:=A6.mp hm
 obtain⟨h1,h2⟩:=A6.mp h12
 obtain⟨of,fd,hof,hfd⟩:=hf
 obtain⟨es',n',vs,hd,hi,pr⟩:=G_2.ins (dx:=dx) (ns:=ns) (ps:=qs) (by show List.lookup dx ((dx,a9 ns qs)::[])=_;rw[List.lookup_cons];simp)
 obtain⟨_,_,hx2⟩:=rv.ins
 refine Gq (X.keeps G_2.top) (od:=some (dictOf es' n')) ⟨hx2,rfl,rfl,hd⟩ (Cc h1).1 (Cc h1).2 (Ai.mp h2) (Ai.mp h3) (by show(lookIn nm (dictOf es' n')).map _=_;rw[lookIn_dict,hi.get,cG (by rw[(a8 pr).1]) hn];rfl) ?_
 refine E0 (o:=of) (fd:=fd) ?_
 have F_2:=F_1.kp0 k_2
 have hz':∀ a,aX Z dx a->H.H.get? a=none:=fun a q=>q.elim (S.zt a) fun q=>q▸F_1.toGS.none nd
 refine wpM (eG (LX.nil (ρ:=ρ) (H:=H) (Z:=Z)) F_2 (.inl rfl)) (fun a s₃ h_3=>?_)
 obtain⟨hkw,pa,k_3⟩:=h_3
 cases hap:a.pos with
 |cons y r=>rw[hap]at pa;cases pa
 |nil =>
 rw[hkw]
 have F_3:=F_2.kp0 k_3
 refine⟨⟨F_3.top _ _ hof,hfd⟩,B6 (Ca (hcall x' dx hz' s₃ [.ref x'] (G_2.kp0 k_3) (.cons (rv.kp0 k_3) .nil)) fun r s' q=>?_)⟩
 rcases r with e|(v|_|_|_) <;> first|exact q.elim|skip
 obtain⟨rv',G4,k_4⟩:=q
 have k23:=k_2.trans k_3
 have kk:Kp N0 s_1 s':=k23.join k_4 fun b o _ e=>k_4.get (fun q=>q.elim (fun q=>q) fun q=>by subst q;rw[nd]at e;cases e) (k23.get (fun q=>q) e)
 exact⟨rv'.sub fun b o e q=>.inl q,k_1.trans kk⟩
end
section
open PySem.Builtin.Re
def drv:Nat->PySem.Sre.M->Option PySem.Sre.M
 |0,_=>none
 |n+1,m=>if(m.runFor 4).outcome.isSome then some (m.runFor 4)else drv n (m.runFor 4)
def eS(code text:Array Nat):Bool:=match drv 20 (PySem.Sre.forSearch code text 0 0 text.size false)with
 |some m=>match m.outcome with|some .failed=>true|_=>false
 |none=>false
theorem kM:Slot "re.Pattern" "search" "re.Pattern.search" :=
 .of (owner := "re.Pattern") (n := "search") (by rw[typeLookup_type,builtinLookup_eq_fast];kernel_rfl) ‹k› ‹k› ‹k› (.inr ‹k›) (by rw[isSubtype_type];kernel_rfl)
theorem tI:PlainAttrs "re.Pattern" :=
 ⟨⟨"object.__getattribute__",by rw[typeLookup_type,builtinLookup_eq_fast];kernel_rfl,by decide +kernel⟩,by rw[typeLookup_type,builtinLookup_eq_fast];kernel_rfl⟩
theorem vI:typeOf (.builtin "re.Pattern.search")=pure (.type "method_descriptor"):=⋯
theorem sY:entryFor table "re.Pattern.search" = some Builtin.«re.Pattern.search»:=E8 ⋯
theorem uS(a b:Value):argsOk "re.Pattern.search" ⟨[a,b],[]⟩:=by unfold argsOk;kernel_rfl
section
theorem hZ{m':PySem.Sre.M}{Q:PySem.Sre.M->Shared->Prop}:∀(k n:Nat) (m:PySem.Sre.M),drv k m=some m'->k<=n->Q m' s->wpAny (model aa w) A (reDrive n m) Q E s
 |0,_,_,e,_,_=>by cases e
 |k+1,0,_,_,h,_=>by omega
 |k+1,n+1,m,e,h,q=>by
  unfold drv at e
  unfold reDrive
  show wpAny _ _ (if(m.runFor 4).outcome.isSome then pure (m.runFor 4)else do rule "sre.turn";reDrive n (m.runFor 4)) _ _ _
  split at e
  ·rename_i c
   cases e
   rw[if_pos c]
   exact A1 q
  ·rename_i c
   rw[if_neg c]
   exact A0 (Cf (hZ k n _ e (Nat.le_of_succ_le_succ h) q))
theorem gF{β:Type}{f:β->PUnit->Sem (ForInStep PUnit)}(hf:∀ b (Q:ForInStep PUnit->Shared->Prop),Q (.yield ()) s->wpAny (model aa w) A (f b ()) Q E s){Q:PUnit->Shared->Prop}:∀ l:List β,Q () s->wpAny (model aa w) A (forIn l () f) Q E s
 |[],q=>A1 q
 |b::l,q=>by
  rw[List.forIn_cons]
  exact A0 (hf b _ (gF hf l q))
theorem xH{p c:Addr}{op oc:Obj}{fs cs:Array Value}{n:Nat}{x:Str}{t:Tok}{code:Array Nat}(hp:s.heap.get? p=some op)(hd:op.data=.fields fs)(h5:fs.getD 5 .none=.ref c)(h6:fs.getD 6 .none=.int 0 0)(h2:fs.getD 2 .none=.int 0 0)
  (hc:s.heap.get? c=some oc) (hcd:oc.data=.seq cs n) (hcode:(cs.map reRawOf).map (·.toNat)=code) (hno:eS code x.cps=true) (hsz:x.cps.size<1000) (q:Q (.done (.ret .none)) s) :
  wpAny (model aa w) A (Builtin.«re.Pattern.search» ⟨[.ref p,.str x t],[]⟩) Q E s:=by
 unfold Builtin.«re.Pattern.search» reTarget
 refine A0 ?_
 dsimp only
 refine A0 (Aa (a:=[some (.str x t),Option.none,Option.none]) ⋯ ?_)
 dsimp only
 refine A0 (A1 (A0 (A1 (A0 ?_))))
 unfold fieldsOf
 refine A0 (Ct hp ?_)
 rw[hd]
 refine A1 (A0 ?_)
 unfold reTextOf
 refine A0 (Aa (a:=some x) rfl ?_)
 refine A1 ?_
 dsimp only
 rw[h5,h6,h2]
 rw[if_neg ‹d›,if_neg ‹d›]
 refine A0 (Aa (a:=()) rfl ?_)
 refine A0 ?_
 unfold reRawItems
 refine A0 (Ax hc hcd (A1 (A1 ?_)))
 dsimp only
 rw[Option.getD_some,hcode,show(2^63-1:Int).toNat=9223372036854775807 from by decide,show min (Int.toNat 0) x.cps.size=0 from Nat.zero_min _,show min 9223372036854775807 x.cps.size=x.cps.size from Nat.min_eq_right ‹o›]
 unfold reAnswer reRunToEnd
 unfold eS at hno
 split at hno
 ·rename_i m hm
  split at hno
  ·rename_i ho
   refine A0 (A0 (hZ 20 _ _ hm ‹d› (A0 ?_)))
   refine gF (fun b Q q=>?_) _ ?_
   ·refine j8 (fun _=>A0 (Cf (A1 q))) fun _=>A1 q
   ·dsimp only
    rw[ho]
    exact A1 (A1 q)
  ·cases hno
 ·cases hno
end
end
section
theorem CB.typeS{x:Str}:CB aa w A H Z (.type "type") [.str x] (.raw (.type "str")):=by
 intro s E vs G P
 obtain⟨_,_,rfl,r,P⟩:=aI P
 obtain rfl:=cX P
 cases r
 exact call_type_of (Tx := "str") rfl ‹k› ⟨.raw _,Kp.refl _ _⟩
theorem CB.typeL{l:List PV}:CB aa w A H Z (.type "type") [.lst l] (.raw (.type "list")):=by
 intro s E vs G P
 obtain⟨_,_,rfl,r,P⟩:=aI P
 obtain rfl:=cX P
 obtain⟨a,items,rfl,z,⟨o,e,c,n,d⟩,pr⟩:=r.list
 exact call_type_of (Tx := "list") ⟨o,e,c⟩ ‹k› ⟨.raw _,Kp.refl _ _⟩
theorem O2.isT{T:String}(h:compareOp .Is (.type T) (.type T)=pure (.bool true)):O2 aa w A H Z (compareOp .Is) (.raw (.type T)) (.raw (.type T)) (.bool true):=by
 intro s E v u G hv hu
 cases hv;cases hu
 exact Aa h ⟨.bool _,Kp.refl _ _⟩
theorem O2.isNotT{T:String}(h:compareOp .IsNot (.type T) (.type T)=pure (.bool false)):O2 aa w A H Z (compareOp .IsNot) (.raw (.type T)) (.raw (.type T)) (.bool false):=by
 intro s E v u G hv hu
 cases hv;cases hu
 exact Aa h ⟨.bool _,Kp.refl _ _⟩
theorem xL:compareOp .IsNot (.type "list") (.type "list")=pure (.bool false):=⋯
theorem yU:compareOp .Is (.type "str") (.type "str")=pure (.bool true):=⋯
structure RxK(T:Heap)(p:Addr)(code:Array Nat):Prop where
 rx:∃ op fs c oc cs n,T.get? p=some op/\op.cls=.type "re.Pattern"/\op.dict=none/\op.data=.fields fs/\fs.getD 5 .none=.ref c/\fs.getD 6 .none=.int 0 0/\fs.getD 2 .none=.int 0 0/\T.get? c=some oc/\oc.data=.seq cs n/\(cs.map Builtin.Re.reRawOf).map (·.toNat)=code
theorem GMp.search{p:Addr}{code:Array Nat}(h:RxK H.H p code):GMp aa w A H Z (.raw (.ref p)) "search" "re.Pattern.search":=by
 refine⟨fun s E v pl Q m e G hv hq=>?_⟩
 subst e
 cases hv
 obtain⟨op,fs,c,oc,cs,n,h1,h2,h3,h4,_⟩:=h.rx
 exact Dx ⟨op,G.top _ _ h1,h2⟩ tI kM vI (fun a e=>by cases e;exact⟨op,G.top _ _ h1,h3⟩) hq
theorem CB.search{p:Addr}{code:Array Nat}{x:Str}(h:RxK H.H p code)(hno:eS code x.cps=true)(hsz:x.cps.size<1000):CB aa w A H Z (.builtin "re.Pattern.search") [.raw (.ref p),.str x] .none:=by
 intro s E vs G P
 obtain⟨_,_,rfl,r1,P⟩:=aI P
 obtain⟨_,_,rfl,r2,P⟩:=aI P
 obtain rfl:=cX P
 cases r1;cases r2
 obtain⟨op,fs,c,oc,cs,n,h1,h2,h3,h4,h5,h6,h7,h8,h9,h10⟩:=h.rx
 refine B6 (Ba kM.plain sY (kM.check _ _ _ _ _ _ _ _ ⟨op,G.top _ _ h1,h2⟩ (uS _ _) ?_))
 exact xH (G.top _ _ h1) h4 h5 h6 h7 (G.top _ _ h8) h9 h10 hno hsz ⟨.none,Kp.refl _ _⟩
theorem EXd.methK{K:Frag}{C x dx f:Addr}{name kn:Str}{b:Bool}{o e:Expr}{ai:List Expr}{kk:Nat}{kp kpos aq pos:Pos}{pl:Sem Bool}{ns:List Str}{ps qs:List PV}{r:PV}{L':Led}(S:FS H.H Z env)(X:K.In H.H)(hf:∃ o fd,H.H.get? f=some o/\o.data=.func fd)(ho:EX aa w A H Z env ρ o (aG C x dx))(hk:dT K C name f=true)
  (hL:H.L.lookup dx=some (a9 ns ps)) (hn:cV ns ps name=none) (hl:LX aa w A H Z env ρ pos (e::ai) qs) (hc:CBd aa w A H Z (.ref f) (aG C x dx::qs) [(kn,.bool b)] r L')
  (hs:starEach (e::ai) env=(false,eval e env)::starEach ai env)
  (he:eval (.Call (.Attribute o name aq) (e::ai) [⟨some kn,.Constant (.bool b) kk kp,kpos⟩] pos) env=(do
   let ov <-eval o env
   standAt aq.atName
   let(f,first) <-holding [ov] (getMethod ov name pl)
   callWith pos f first (backTo pos (starEach (e::ai) env)) (backToKw pos (keywordEach [⟨some kn,.Constant (.bool b) kk kp,kpos⟩] env)))):EXd aa w A H Z env ρ (.Call (.Attribute o name aq) (e::ai) [⟨some kn,.Constant (.bool b) kk kp,kpos⟩] pos) r L':=by
 refine⟨fun s E F=>?_⟩
 rw[he]
 refine A0 (wpM (ho.run s E F) (fun v s_1 h_1=>A0 (Ag (A0 (A5 ?_)))))
 obtain⟨hv,k⟩:=h_1
 have F_1:=F.kp0 k
 obtain⟨rfl,_,hx⟩:=hv.ins
 obtain⟨es',n,vs,hd,hi,pr⟩:=F_1.toGS.ins hL
 obtain⟨h12,h3⟩:=A6.mp hk
 obtain⟨h1,h2⟩:=A6.mp h12
 obtain⟨of,fd,hof,hfd⟩:=hf
 refine Gq (X.keeps F_1.top) (od:=some (dictOf es' n)) ⟨hx,rfl,rfl,hd⟩ (Cc h1).1 (Cc h1).2 (Ai.mp h2) (Ai.mp h3) (by show(lookIn name (dictOf es' n)).map _=_;rw[lookIn_dict,hi.get,cG (by rw[(a8 pr).1]) hn];rfl) ?_
 dsimp only
 refine callWith_function_kw (o:=of) (fd:=fd) (evalArgs_kw2 rfl (wpM (hl.run s_1 E F_1) (fun vs2 s_2 h_2=>?_)) hs)
 refine kwAll_cons (Ek (kwAll_nil ?_))
 obtain⟨pa,k_2⟩:=h_2
 have F_2:=F_1.kp0 k_2
 refine⟨⟨F_2.top _ _ hof,hfd⟩,wpM (hc s_2 E _ F_2.toGS (.cons (hv.kp0 k_2) pa)) (fun y s₃ h_3=>?_)⟩
 exact⟨h_3.1,F_2.led S h_3.2.1 h_3.2.2,k.z.trans (k_2.z.trans h_3.2.2)⟩
end
section
open Builtin Builtin.ObjectAttr
abbrev aD(C dx:Addr)(vs:Array Value)(n:Nat):Obj:={cls:=.ref C,dict:=some dx,data:=.seq vs n}
def aJ(C dx:Addr)(l:List PV):MO:=⟨fun vs o=>∃ n,o=aD C dx vs.toArray n,l⟩
def sF(K:Frag)(C:Addr):Bool:=(clsIn K C).any (fun cd=>cd.mro==[.ref C,.type "list",.type "object"]&&cd.hasDict && !cd.hasDel && !cd.abstract) &&
 findIn K (.ref C) "__getattribute__" == some (some (.builtin "list.__getattribute__"))&&findIn K (.ref C) "__getattr__" == some none&&findIn K (.ref C) "__setattr__" == some (some (.builtin "object.__setattr__"))
def iJ(K:Frag)(C:Addr)(name:Str)(f:Addr):Bool:=findIn K (.ref C) name==some (some (.ref f))&&isFn K (.ref f)
def fX(K:Frag)(C:Addr)(name:Str)(id:String):Bool:=findIn K (.ref C) name==some (some (.builtin id))
def sA(K:Frag)(C:Addr)(name:Str):Bool:=(match findIn K (.ref C) name with|some a=>noGet K a|none=>false)&&takerIn K C name==some none
theorem iV:Slot "list" "__getattribute__" "list.__getattribute__" :=
 .of (owner := "list") (n := "__getattribute__") (by rw[typeLookup_type,builtinLookup_eq_fast];kernel_rfl) ‹k› ‹k› ‹k› (.inl ‹k›) (by rw[isSubtype_type];kernel_rfl)
theorem mD:entryFor table "list.__getattribute__" = some Builtin.«object.__getattribute__» :=
 entryFor_alias (id' := "object.__getattribute__") (by rw[fastTable_eq_tree];kernel_rfl) ‹k› ‹k› (by rw[fastTable_eq_tree];kernel_rfl)
theorem q6(a b:Value):argsOk "list.__getattribute__" ⟨[a,b],[]⟩:=by unfold argsOk;kernel_rfl
theorem oQ(self:Value)(C:Addr):refuseLoop self "__setattr__" [.ref C,.type "list",.type "object"]=pure ():=by rw[refuseLoop_ref];kernel_rfl
section
variable{K:Frag}{C x dx f:Addr}{name:Str}{vs:Array Value}{n:Nat}
structure cU(K:Frag)(C:Addr):Prop where
 mro:∃ cd,clsIn K C=some cd/\cd.mro=[.ref C,.type "list",.type "object"]/\cd.hasDict=true/\cd.hasDel=false/\cd.abstract=false
 ga:findIn K (.ref C) "__getattribute__" = some (some (.builtin "list.__getattribute__"))
 hk:findIn K (.ref C) "__getattr__" = some none
 sa:findIn K (.ref C) "__setattr__" = some (some (.builtin "object.__setattr__"))
theorem sF.of(h:sF K C=true):cU K C:=by
 simp only[sF,Bool.and_eq_true,beq_iff_eq]at h
 obtain⟨⟨⟨h1,h2⟩,h3⟩,h4⟩:=h
 obtain⟨cd,hc,h1⟩:=any_some h1
 simp only[Bool.and_eq_true,beq_iff_eq,Bool.not_eq_true']at h1
 exact⟨⟨cd,hc,h1.1.1.1,h1.1.1.2,h1.1.2,h1.2⟩,h2,h3,h4⟩
theorem cU.list(Y:cU K C){M:Model}{h:Heap}(X:K.In h):Looks M h (isSubtype (.ref C) (.type "list")) true:=by
 obtain⟨cd,hc,hm,_⟩:=Y.mro
 exact Gk X (by unfold mroIn;rw[hc,Option.bind_some,hm];rfl)
theorem cU.obj(Y:cU K C){M:Model}{h:Heap}(X:K.In h):Looks M h (isSubtype (.ref C) (.type "object")) true:=by
 obtain⟨cd,hc,hm,_⟩:=Y.mro
 exact Gk X (by unfold mroIn;rw[hc,Option.bind_some,hm];rfl)
theorem cU.self(Y:cU K C){M:Model}{h:Heap}(X:K.In h):Looks M h (isSubtype (.ref C) (.ref C)) true:=by
 obtain⟨cd,hc,hm,_⟩:=Y.mro
 exact Gk X (by unfold mroIn;rw[hc,Option.bind_some,hm];simp)
theorem bT{M:Model}{h:Heap}(hx:h.get? x=some (aD C dx vs n)):Looks M h (typeOf (.ref x)) (.ref C):=(Cn hx).andThen .now
theorem wB{Q:ZV}{expr:Bool}{es:List DictEntry}{k:Nat}{v:Value}(Y:cU K C)(X:K.In s.heap)(hx:s.heap.get? x=some (aD C dx vs n))(hd:s.heap.get? dx=some (dictOf es k))(hk:sA K C name=true)
  (hl:getL name es=some (some v)) (hv:handedIn v=true) (h:Q v {s with toks:=s.toks+1}):wpAny (model aa w) A (getAttr (.ref x) name expr) Q E s:=by
 obtain⟨cd,hc,hm,hdt,_⟩:=Y.mro
 have L0:Looks (model aa w) s.heap (typeOf (.ref x)) (.ref C):=bT hx
 have h3:=(A6.mp hk).1
 split at h3
 ·rename_i a ha
  have hf:=findObj_own (K:=K) (C:=C) (name:=name) (od:=dictOf es k) (v:=v) (by unfold hasDictIn;rw[hc];exact hdt) ha h3 (show lookIn name (dictOf es k)=_ from hl)
  unfold getAttr getAttrBy
  refine A0 (Eo (A5 (A0 (Bq (s:={s with toks:=s.toks+1}) L0 (A0 (Bq (s:={s with toks:=s.toks+1}) (Bf X Y.ga) ?_))))))
  dsimp only
  rw[show(onTheHeap (.ref C)&&Value.builtin "list.__getattribute__" == Value.builtin "object.__getattribute__")=false from by rw[show(Value.builtin "list.__getattribute__" == Value.builtin "object.__getattribute__")=false from by decide +kernel,Bool.and_false],if_neg ‹d›]
  unfold getAttrByItsOwn hookBefore
  rw[if_pos (show onTheHeap (.ref C)=true from rfl)]
  refine A0 (Bq (s:={s with toks:=s.toks+1}) (Bf X Y.hk) (A0 (Bl (A5 ?_))))
  unfold callGetattribute
  rw[show(expr&&onTheHeap (Value.builtin "list.__getattribute__"))=false from Bool.and_false _,if_neg ‹d›]
  unfold boundAndCalled
  rw[iV.bind]
  refine A0 (A1 ?_)
  refine gY (s:={s with toks:=s.toks+1}) iV.plain mD (owner := "list") (n := "__getattribute__") ‹k› ‹k› (L0.andThen (Y.list X)) (q6 _ _) ?_
  unfold Builtin.«object.__getattribute__»
  refine A0 (Aa (a:=(.ref x,[.str name s.toks])) ⋯ ?_)
  dsimp only
  refine A0 (A1 (A0 (Bq (s:={s with toks:=s.toks+1}) L0 (A0 (Bq (s:={s with toks:=s.toks+1}) (looks_find X ⟨hx,rfl,rfl,hd⟩ hf) ?_)))))
  refine A1 ⟨_,rfl,?_⟩
  show wpAny _ _ (handedOut v) _ _ _
  rw[handedOut_of hv]
  exact A1 h
 ·cases h3
theorem oW{pl:Sem Bool}{Q:Value×List Value->Shared->Prop}{es:List DictEntry}{k:Nat}{g:Value}{t:String}(Y:cU K C)(X:K.In s.heap)(hx:s.heap.get? x=some (aD C dx vs n))(hd:s.heap.get? dx=some (dictOf es k))
  (hf:findIn K (.ref C) name=some (some g)) (ht:Looks (model aa w) s.heap (typeOf g) (.type t)) (hn:(Value.type t != .type "function" && Value.type t != .type "method_descriptor" && Value.type t != .type "wrapper_descriptor")=false)
  (hl:getL name es=some none) (h:Q (g,[.ref x]) s):wpAny (model aa w) A (getMethod (.ref x) name pl) Q E s:=by
 have L0:Looks (model aa w) s.heap (typeOf (.ref x)) (.ref C):=bT hx
 unfold getMethod specialOf
 refine A0 (A0 (L0.here ((Bf X Y.ga).here ?_)))
 dsimp only
 rw[show(Manifest.canonical "list.__getattribute__" != "object.__getattribute__")=false from by decide +kernel,if_neg ‹d›]
 refine A0 (A0 (L0.here ((Bf X Y.hk).here ?_)))
 refine A0 (A0 (L0.here ((Bf X hf).here (A0 (ht.here ?_)))))
 rw[hn,if_neg ‹d›]
 refine A0 (Cq hx ?_)
 refine A0 (A0 (Cq hd ?_))
 rw[nsLook_of (show lookIn name (dictOf es k)=_ from hl)]
 refine A1 ?_
 exact A0 (Cf (A1 h))
theorem wY{Q:Unit->Shared->Prop}{es:List DictEntry}{k:Nat}{v:Value}(Y:cU K C)(X:K.In s.heap)(hx:s.heap.get? x=some (aD C dx vs n))(hd:s.heap.get? dx=some (dictOf es k))(hk:sA K C name=true)
  (hl:(getL name es).isSome=true) (hz:∀ hs t,(putL name hs (.str name t) v es).length<=1000)
  (h:∀ h' hs t,h'.get? dx=some (dictOf (putL name hs (.str name t) v es) (putN name es k))->Heap.SameBut dx s.heap h'->Q () {s with heap:=h',toks:=s.toks+2}):wpAny (model aa w) A (setAttr (.ref x) name v) Q E s:=by
 obtain⟨cd,hc,hm,hdt,_⟩:=Y.mro
 have L0:Looks (model aa w) s.heap (typeOf (.ref x)) (.ref C):=bT hx
 have I:InstAt s.heap x (aD C dx vs n) C (some (dictOf es k)):=⟨hx,rfl,rfl,hd⟩
 have h4:=(A6.mp hk).2
 have SF:=PySem.F.store_object
 refine set_plain X I Y.sa ?_
 refine Ba SF.slot.plain SF.entry (@check_slot (model aa w) _ _ {s with toks:=s.toks+1} "object.__setattr__" "object" "__setattr__" (.ref x) [.str name s.toks,v] [] _ SF.kind SF.split (L0.andThen (Y.obj X)) (SF.args (.ref x) (.str name s.toks) v) ?_)
 obtain⟨attr,ha,hr⟩:=Option.bind_eq_some_iff.mp (Ai.mp h4)
 have L3:Looks (model aa w) s.heap (storeTaker? attr) Option.none:=by
  cases attr with
  |none=>exact .now
  |some a =>
   obtain⟨b,hb,hr⟩:=Bb.mp hr
   cases b
   ·exact(looks_takesIn X hb).andThen .now
   ·cases hr
 rw[osa_eq,refuse_eq]
 refine A0 (A0 (Bq (s:={s with toks:=s.toks+1}) L0 (A0 (Bq (s:={s with toks:=s.toks+1}) ((Gh X hc).andThen .now) ?_))))
 rw[hm,oQ]
 refine A1 (A0 (Bq (s:={s with toks:=s.toks+1}) L0 (A0 (Bq (s:={s with toks:=s.toks+1}) (Bf X ha) (A0 (Bq (s:={s with toks:=s.toks+1}) L3 ?_))))))
 refine A0 (A1 (A0 (A0 (Cq hx (A0 (Bq (s:={s with toks:=s.toks+1}) (Gh X hc) ?_))))))
 rw[hdt]
 refine A1 (a:=some dx) (A0 (A1 (A0 ?_)))
 unfold nsSet
 refine A0 (A0 (Fv (A1 (A0 (Eo (A0 (Cq hd ?_)))))))
 have c:(!es.toArray.any (·.key.isStr name)&&es.toArray.any (·.refKey))=false:=by
  rw[<-Array.any_toList,<-Array.any_toList]
  unfold getL at hl
  split at hl
  ·rename_i en he
   rw[List.any_eq_true.mpr ⟨en,List.mem_of_find?_eq_some he,List.find?_some he⟩];rfl
  ·split at hl
   ·cases hl
   ·rename_i z;rw[Bool.not_eq_true]at z;rw[z,Bool.and_false]
 dsimp only
 rw[aRefKeyMayBeTheName_at,c]
 refine wpAny_updatePart hd ?_
 have hp:∀ t,Obj.putName name (PyData.keyHash w.params name) (.str name t) v (dictOf es k)=dictOf (putL name (PyData.keyHash w.params name) (.str name t) v es) (putN name es k):=fun t=>putName_dict ..
 have e':(s.heap.update dx (Obj.putName name (PyData.keyHash w.params name) (.str name (s.toks+1)) v)).get? dx=some (dictOf (putL name (PyData.keyHash w.params name) (.str name (s.toks+1)) v es) (putN name es k)):=by
  rw[<-hp];exact Af _ hd (by rw[hp];rfl)
 refine A0 (wpAny_lookBehind e' (pastItsLine_dict (by rw[List.size_toArray,sizeLine_eq];have:=hz (PyData.keyHash w.params name) (s.toks+1);omega)) ?_)
 exact A1 (h _ _ _ e' (.update ..))
end
end
def insF(C:Addr)(ns:List Str)(ps:List PV):PV:=.own fun Z h v=>∃ x dx es n vs,v=.ref x/\¬Z x/\¬Z dx/\h.get? x=some (instObj C dx)/\h.get? dx=some (dictOf es n)/\jJ es ns vs/\Paired (Rp Z h) ps vs
section
variable{K:Frag}{C:Addr}{ns:List Str}{ps:List PV}
theorem Rp.insF{h:Heap}{x dx:Addr}{es:List DictEntry}{n:Nat}{vs:List Value}(zx:¬Z x)(zd:¬Z dx)(ex:h.get? x=some (instObj C dx))(ed:h.get? dx=some (dictOf es n))(hi:jJ es ns vs)(pr:Paired (Rp Z h) ps vs):Rp Z h (Mine.insF C ns ps) (.ref x) :=
 .own _ _ fun Z' h' k hz=>⟨x,dx,es,n,vs,rfl,fun q=>zx (hz x _ ex q),fun q=>zd (hz dx _ ed q),k _ _ zx ex,k _ _ zd ed,hi,aA (fun _ _ r=>r.fut k hz) pr⟩
theorem EX.attrF{o:Expr}{name:Str}{pos:Pos}{p:PV}(X:K.In H.H)(ho:EX aa w A H Z env ρ o (Mine.insF C ns ps))(hp:cV ns ps name=some p)(hk:jB K C name=true)
  (hh:vG p=true) (hb:attributeBase o name env (eval o env)=eval o env) (hg:∀ v r,letTemporaryGo o v r=pure ()):EX aa w A H Z env ρ (.Attribute o name pos) p:=by
 refine⟨fun s E F=>?_⟩
 rw[arm_eval_Attribute,hb]
 refine A0 (wpM (ho.run s E F) (fun v s_1 h_1=>A0 (Ag ?_)))
 obtain⟨rv,k⟩:=h_1
 have F_1:=F.kp0 k
 obtain⟨x,dx,es,n,vs,rfl,_,_,hx,hd,hi,pr⟩:=rv.owned
 obtain⟨u,hu,ru⟩:=gC pr hp
 refine A0 (A5 (sQ (X.keeps F_1.top) hx hd hk (by rw[hi.get,hu]) (ru.handed hh) ?_))
 rw[hg]
 exact A0 (A1 (A1 ⟨ru.kp0 (Kp.toks _ _ _),k.trans (Kp.toks _ _ _)⟩))
theorem EX.methF{f:Addr}{name:Str}{o e:Expr}{ai:List Expr}{aq pos:Pos}{pl:Sem Bool}{qs:List PV}{r:PV}(S:FS H.H Z env)(X:K.In H.H)(hf:∃ o fd,H.H.get? f=some o/\o.data=.func fd)(ho:EX aa w A H Z env ρ o (Mine.insF C ns ps))(hk:dT K C name f=true)
  (hn:cV ns ps name=none) (hl:LX aa w A H Z env ρ pos (e::ai) qs) (hc:CBc aa w A (cx0 H.H H.tk) Z (.ref f) (Mine.insF C ns ps::qs) [] r [])
  (hh:(backTo pos (starEach (e::ai) env))=[]\/∃ y r,backTo pos (starEach (e::ai) env)=(false,y)::r)
  (he:eval (.Call (.Attribute o name aq) (e::ai) [] pos) env=(do
   let ov <-eval o env
   standAt aq.atName
   let(f,first) <-holding [ov] (getMethod ov name pl)
   callWith pos f first (backTo pos (starEach (e::ai) env)) [])):EX aa w A H Z env ρ (.Call (.Attribute o name aq) (e::ai) [] pos) r:=by
 refine⟨fun s E F=>?_⟩
 refine Br (pl:=pl) (wpM (ho.run s E F) (fun v s_1 h_1=>?_)) he
 obtain⟨hv,k⟩:=h_1
 have F_1:=F.kp0 k
 obtain⟨x,dx,es',n,vs,rfl,_,_,hx,hd,hi,pr⟩:=hv.owned
 obtain⟨h12,h3⟩:=A6.mp hk
 obtain⟨h1,h2⟩:=A6.mp h12
 obtain⟨of,fd,hof,hfd⟩:=hf
 refine Gq (X.keeps F_1.top) (od:=some (dictOf es' n)) ⟨hx,rfl,rfl,hd⟩ (Cc h1).1 (Cc h1).2 (Ai.mp h2) (Ai.mp h3) (by show(lookIn name (dictOf es' n)).map _=_;rw[lookIn_dict,hi.get,cG (by rw[(a8 pr).1]) hn];rfl) ?_
 refine E0 (o:=of) (fd:=fd) (wpM (eG hl F_1 hh) (fun a s_2 h_2=>?_))
 obtain⟨hkw,pa,k_2⟩:=h_2
 have F_2:=F_1.kp0 k_2
 rw[hkw]
 refine⟨⟨F_2.top _ _ hof,hfd⟩,wpM (hc.d s_2 E _ F_2.toGS.cx0 (.cons (hv.kp0 k_2) pa)) (fun y s₃ h_3=>?_)⟩
 exact⟨h_3.1,k.trans (k_2.trans h_3.2.2)⟩
theorem EX.methKF{f:Addr}{name kn:Str}{b:Bool}{o e:Expr}{ai:List Expr}{kk:Nat}{kp kpos aq pos:Pos}{pl:Sem Bool}{qs:List PV}{r:PV}(S:FS H.H Z env)(X:K.In H.H)(hf:∃ o fd,H.H.get? f=some o/\o.data=.func fd)(ho:EX aa w A H Z env ρ o (Mine.insF C ns ps))(hk:dT K C name f=true)
  (hn:cV ns ps name=none) (hl:LX aa w A H Z env ρ pos (e::ai) qs) (hc:CBc aa w A (cx0 H.H H.tk) Z (.ref f) (Mine.insF C ns ps::qs) [(kn,.bool b)] r [])
  (hs:starEach (e::ai) env=(false,eval e env)::starEach ai env)
  (he:eval (.Call (.Attribute o name aq) (e::ai) [⟨some kn,.Constant (.bool b) kk kp,kpos⟩] pos) env=(do
   let ov <-eval o env
   standAt aq.atName
   let(f,first) <-holding [ov] (getMethod ov name pl)
   callWith pos f first (backTo pos (starEach (e::ai) env)) (backToKw pos (keywordEach [⟨some kn,.Constant (.bool b) kk kp,kpos⟩] env)))):EX aa w A H Z env ρ (.Call (.Attribute o name aq) (e::ai) [⟨some kn,.Constant (.bool b) kk kp,kpos⟩] pos) r:=by
 refine⟨fun s E F=>?_⟩
 rw[he]
 refine A0 (wpM (ho.run s E F) (fun v s_1 h_1=>A0 (Ag (A0 (A5 ?_)))))
 obtain⟨hv,k⟩:=h_1
 have F_1:=F.kp0 k
 obtain⟨x,dx,es',n,vs,rfl,_,_,hx,hd,hi,pr⟩:=hv.owned
 obtain⟨h12,h3⟩:=A6.mp hk
 obtain⟨h1,h2⟩:=A6.mp h12
 obtain⟨of,fd,hof,hfd⟩:=hf
 refine Gq (X.keeps F_1.top) (od:=some (dictOf es' n)) ⟨hx,rfl,rfl,hd⟩ (Cc h1).1 (Cc h1).2 (Ai.mp h2) (Ai.mp h3) (by show(lookIn name (dictOf es' n)).map _=_;rw[lookIn_dict,hi.get,cG (by rw[(a8 pr).1]) hn];rfl) ?_
 dsimp only
 refine callWith_function_kw (o:=of) (fd:=fd) (evalArgs_kw2 rfl (wpM (hl.run s_1 E F_1) (fun vs2 s_2 h_2=>?_)) hs)
 refine kwAll_cons (Ek (kwAll_nil ?_))
 obtain⟨pa,k_2⟩:=h_2
 have F_2:=F_1.kp0 k_2
 refine⟨⟨F_2.top _ _ hof,hfd⟩,wpM (hc.d s_2 E _ F_2.toGS.cx0 (.cons (hv.kp0 k_2) pa)) (fun y s₃ h_3=>?_)⟩
 exact⟨h_3.1,k.trans (k_2.trans h_3.2.2)⟩
theorem EX.madeF{fI:Addr}{x:Str}{aj cpos:Pos}{es:List Expr}{as:List PV}{n:Nat}(S:FS H.H Z env)(X:K.In H.H)(hk:eJ K C=true)(hmk:jH K C fI=true)(R:Rm (n+1) A)
  (hx:NM aa w A H Z env x (.ref C)) (hl:LX aa w A H Z env ρ cpos es as)
  (hh:(backTo cpos (starEach es env))=[]\/∃ y r,backTo cpos (starEach es env)=(false,y)::r) (hplain:(backTo cpos (starEach es env)).any (·.1)=false)
  (he1:eval (.Call (.Name x aj) es [] cpos) env=(do callWith cpos (<-eval (.Name x aj) env) [] (backTo cpos (starEach es env)) (backToKw cpos (keywordEach [] env))))
  (hinit:∀(A':Around) x dx,Rm n A'->(∀ a,aX Z dx a->H.H.get? a=none)->CBc aa w A' ((cx0 H.H H.tk).own dx (a9 [] [])) (aX Z dx) (.ref fI) (aG C x dx::as) [] .none [(dx,a9 ns ps)]) :
  EX aa w A H Z env ρ (.Call (.Name x aj) es [] cpos) (Mine.insF C ns ps):=by
 refine⟨fun s E F=>iT F X hk hx hl hh hplain he1 fun s_1 vs F_1 P k=>B6 (Ca (oY X hmk R S.zt hinit s_1 vs F_1.toGS.cx0 P) fun r s' q=>?_)⟩
 rcases r with e|(v|_|_|_) <;> first|exact q.elim|skip
 obtain⟨x',dx,rfl,nx,nd,rv,G_2,k_2⟩:=q
 obtain⟨es',n',vs',hd,hi,pr⟩:=G_2.ins (dx:=dx) (ns:=ns) (ps:=ps) (by show List.lookup dx ((dx,a9 ns ps)::[])=_;rw[List.lookup_cons];simp)
 obtain⟨_,zx,hx2⟩:=rv.ins
 exact⟨Rp.insF (fun q=>zx (.inl q)) (F_1.toGS.toGT.free nd) hx2 hd hi (aA (fun _ _ r=>r.sub fun a o _ q=>.inl q) pr),k.trans k_2⟩
end
section
variable{κ:Type}[DecidableEq κ]{knd:KeyKind aa w κ}
theorem vD{D:List (κ×PV)}{k:κ}{p:PV}:(g8 D k p).length<=D.length+1:=by
 unfold g8
 split
 ·rw[List.length_map];exact Ad _
 ·rw[List.length_append];exact A4 _
theorem mZ{α:Type}{key:α->κ}{vp:α->PV}:∀(l:List α) (D:List (κ×PV)),(l.foldl (fun D p=>g8 D (key p) (vp p)) D).length<=D.length+l.length
 |[],D=>A4 _
 |a::l,D=>by
  have h1:=mZ (key:=key) (vp:=vp) l (g8 D (key a) (vp a))
  have h2:=vD (D:=D) (k:=key a) (p:=vp a)
  rw[List.foldl_cons,List.length_cons]
  omega
theorem EX.dcomp{kx vx iter:Expr}{x:Str}{px:Pos}{scope:Scope}{pos:Pos}{α:Type}{φ:α->PV}{items:List α}{key:α->κ}{kp vp:α->PV}
  (S:FS H.H Z env) (eo:EO env sc) (hc:kG scope sc [x]=true) (hsm:∃ o,H.H.get? sysModules=some o) (hI:IX aa w A H Z env ρ (.Name x px) iter (items.map φ))
  (turn:∀ p∈items,∀ Z' (env':Env),(∀ a,Z a->Z' a)->FS H.H Z' env'->EO env' (e8 scope.names sc)->EX aa w A H Z' env' ((x,φ p)::capt scope ρ) kx (kp p)/\EX aa w A H Z' env' ((x,φ p)::capt scope ρ) vx (vp p))
  (hk:∀ p∈items,∀{Z:ZP} {h:Heap} {v:Value},Rp Z h (kp p) v->knd.is (key p) v=true)
  (hsz:items.length<=1000) (ht:∀ it v,letOwnedTupleGo (.Name x px) it v=pure ()) (hs:∀ x,foldedSetIterable iter env x=pure x) :
  EX aa w A H Z env ρ (.DictComp kx vx [⟨.Name x px,iter,[],0⟩] scope pos) (aK knd (items.foldl (fun D p=>g8 D (key p) (vp p)) [])):=by
 have C:=CS.of eo hc
 refine⟨fun s E F=>?_⟩
 rw[arm_eval_DictComp]
 refine Di (use:=none) rfl hs (eU fun x hx hk=>(C.free x hx hk).1) C.kind (fun y hy hl=>hl▸C.nm y hy) ?_
 refine wpM (hI.run s E F) (fun v s_1 h_1=>?_)
 refine wpM h_1 (fun it s_2 h_2=>?_)
 obtain⟨k12,I,rfl,wr,wI,hwr,hsrc⟩:=h_2
 refine Aj (sO ?_) (by size_fits)
 dsimp only
 obtain⟨Z',St,cf⟩:=lT {cls:=.type "dict",data:=.dict #[]} rfl S F k12 hwr hsrc C.kind C.nm C.free C.own
 have hC:(s_2.heap.push {cls:=.type "dict",data:=.dict #[]}).objs.size=s_2.heap.objs.size+1:=Es ..
 rw[hC]
 generalize hD:s_2.heap.objs.size=D at *
 generalize hH4:pushCells ((s_2.heap.push {cls:=.type "dict",data:=.dict #[]}).push {cls:=.type "dict",data:=.dict #[]}) scope.names=H4 at *
 obtain⟨hsub,st0,W,S',F',k1,eD,fr,z'b,fz,wf,dZ,dW,dF,bz,wz',dNZ⟩:=id cf
 have eo':EO (aC scope env (D+1)) (e8 scope.names sc):=EO.comp S.fn eo
 have hx:aS (e8 scope.names sc) x=true:=hF (gG hc)
 have D0:H4.DictOf knd D []:=⟨_,#[],0,eD,⟨rfl,rfl,rfl⟩,rfl,fun _ he=>by simp at he,Pairs.nil,Gm⟩
 have loop:∀ tk,s_2.toks<=tk->codeAny (model aa w) A (.compLoop (.DictComp kx vx [⟨.Name x px,iter,[],0⟩] scope pos) 0 (.ref I) (.ref D) (aC scope env (D+1)))
   (compPost (model aa w) A E none (fun v s'=>Rp Z s'.heap (aK knd (items.foldl (fun D p=>g8 D (key p) (vp p)) [])) v/\Kp N0 s s') (.ref D) (D+1)) {s_2 with heap:=H4,toks:=tk}:=by
  intro tk htk
  refine codeAny_compLoop_testsD (fun k s'=>∃ i au,k=items.length+1-i/\i<=items.length/\St i s'.heap/\s'.heap.DictOf knd D au/\au.map (·.1)=((items.take i).foldl (fun D p=>g8 D (key p) (vp p)) []).map (·.1) /\
   Paired (Rp Z' s'.heap) (((items.take i).foldl (fun D p=>g8 D (key p) (vp p)) []).map (·.2)) (au.map (·.2))/\FI H Z' (aC scope env (D+1)) (capt scope ρ) s'/\Kp N0 s s') ?_ (items.length+1)
   ⟨0,[],rfl,Ap _,st0,D0,rfl,.nil,F' tk htk,k1 tk htk⟩ (ht _)
  rintro k s' ⟨i,au,rfl,hi,st,pl,ke,pr,FF,kk⟩
  rcases C4 i items.length with hlt|hge
  ·have hg:items[i]? = some items[i]:=Al hlt
   have hg':(items.map φ)[i]? = some (φ items[i]):=by rw[List.getElem?_map,hg];rfl
   have hmem:items[i]∈items:=Co hlt
   refine wpM (W.item i _ s' _ hg' FF.toGT st) (fun r s₃ h_3=>?_)
   obtain⟨v,rfl,h_3⟩:=h_3
   show wpAny (model aa w) A (letOwnedTupleGo (.Name x px) (.ref I) v >>= fun _=>assign (.Name x px) (aC scope env (D+1)) v) _ _ _
   refine A0 (wpM h_3 (fun _ s₃ h_3=>?_))
   obtain⟨rv,st3,k_3⟩:=h_3
   obtain⟨XK,XV⟩:=turn _ hmem Z' (aC scope env (D+1)) hsub S' eo'
   have wex:∀ a,wr a->∃ o,s₃.heap.get? a=some o:=W.ex _ _ st3
   have F_3:=FF.frame S' k_3 (fun a q=>⟨(wz' a q).1,wf a q⟩) (fun a q=>F.free (hwr a q).1) wex
   refine wpM (BD.name S' (eo'.bds hx) s₃ _ v F_3 rv) (fun _ s_4 h_4=>?_)
   obtain⟨F4,k_4⟩:=h_4
   have st4:St (i+1) s_4.heap:=W.frame _ _ _ st3 fun b o hb e=>k_4.get (fun q=>hb.elim (fun q'=>wf b q' q.fa) fun q'=>q' (fz b q.fa)) e
   refine wpAny_tests_nil ?_
   simp only[if_true]
   refine wpM (XK.run s_4 _ F4) (fun kv s5 h_5=>?_)
   obtain⟨rk,k5⟩:=h_5
   refine wpM (XV.run s5 _ (F4.kp0 k5)) (fun vv s_6 h_6=>?_)
   obtain⟨ry,k_6⟩:=h_6
   have pl6:s_6.heap.DictOf knd D au:=DictOf.keep pl fun o e=>k_6.get (fun q=>q) (k5.get (fun q=>q) (k_4.get (fun q=>dF q.fa) (k_3.get dW e)))
   have hys:au.length<=sizeLine:=by
    have e1:=Az List.length ke
    rw[List.length_map,List.length_map]at e1
    have e2:=mZ (key:=key) (vp:=vp) (items.take i) []
    rw[List.length_take]at e2
    refine A7 ?_ (show 1000<=sizeLine from by decide)
    simp only[List.length_nil]at e2
    omega
   refine wpAny_dictSet_pairs (hsz:=hys) (hk _ hmem rk) pl6 fun h_7 pl7 hs7=>?_
   have k7:Kp (fun a=>a=D) s_6 {s_6 with heap:=h_7,toks:=s_6.toks+1}:=Kp.mk (tk:=s_6.toks+1) (ht:=Ad _) fun b o z e=>(hs7.2 b z).trans e
   have kB:Kp Z' s' {s_6 with heap:=h_7,toks:=s_6.toks+1}:=(k_3.weak fun a q=>(wz' a q).1).trans ((k_4.weak fun a q=>fz a q.fa).trans (k5.z.trans (k_6.z.trans (k7.weak fun a q=>q▸dZ))))
   obtain⟨e',P'⟩:=iU (k:=key items[i]) ke (aA (fun _ _ r=>r.kp kB) pr) (ry.kp (k7.weak fun a q=>q▸dZ))
   have tk1:items.take (i+1)=items.take i++[items[i]]:=by rw[List.take_add_one,hg];rfl
   refine⟨_,?_,i+1,_,rfl,hlt,?_,pl7,?_,?_,?_,?_⟩
   ·omega
   ·exact W.frame _ _ _ st4 fun b o hb e=>k7.get (fun q=>by
     subst q
     exact hb.elim dW fun q'=>q' dZ) (k_6.get (fun q=>q) (k5.get (fun q=>q) e))
   ·rw[tk1,List.foldl_append];exact e'
   ·rw[tk1,List.foldl_append];exact P'
   ·have F6:FI H Z' (aC scope env (D+1)) (capt scope ρ) s_6:=FI.forget ((F4.kp0 k5).kp0 k_6) (jA (gG hc))
    exact F6.frame S' k7 (fun a q=>by subst q;exact⟨dZ,dF⟩) (fun a q=>by subst q;exact F.free (fr _ (A4 _))) fun a q=>by obtain⟨o,_,_,e,_⟩:=pl7;exact⟨_,q▸e⟩
   ·exact cf.kNew (((cf.kNew (cf.kNew kk k_3 wz') k_4 bz).trans k5).trans k_6) k7 fun a q=>by subst q;exact⟨dZ,dNZ⟩
  ·have hin:i=items.length:=Ef hi hge
   subst hin
   refine wpM (W.done s' _ FF.toGT (by rw[List.length_map];exact st)) (fun r s₃ h_3=>?_)
   obtain⟨rfl,k_3⟩:=h_3
   obtain⟨m,hn,_⟩:=FF.ns
   rw[List.take_length]at ke pr
   refine⟨m,hn.at' fun o e=>k_3.get (fun q=>wf _ q (.inl rfl)) e,fun h' hs'=>⟨?_,?_⟩⟩
   ·refine .dic dNZ (DictOf.keep (DictOf.keep pl fun o e=>k_3.get dW e) fun o e=>(hs'.2 D (Au (Cd _))).trans e) ke (aA (fun _ _ r=>?_) pr) ?_
    ·exact(((r.kp (k_3.weak fun a q=>(wz' a q).1)).sub (Z':=fun a=>Z a\/a=D+1) fun a o _ q=>q.elim (hsub a) fun q=>q▸S'.zl).keep fun b o z e=>(hs'.2 b (fun q=>z (.inr q))).trans e).sub fun a o _ q=>.inl q
    ·refine Aw.mpr fun q=>?_
     obtain⟨o,e⟩:=hsm
     have:=F.top _ _ e
     rw[<-q,fr _ (Nat.le_refl _)]at this;cases this
   ·exact(cf.kNew kk k_3 wz').join (Kp.mk (Z:=fun _=>True) (h':=h') (tk:=s₃.toks) fun b o z e=>absurd trivial z) fun b o z e=>(hs'.2 b (fun q=>by subst q;rw[fr _ (Nat.le_succ _)]at e;cases e)).trans ((cf.kNew kk k_3 wz').get z e)
 refine codeAny_compStart_dict (loop _ (A4 _)) ?_
 refine wpM (W.self 0 _ _ st0) (fun v s' h=>?_)
 obtain⟨rfl,rfl⟩:=h
 exact loop _ (A4 _)
end
section
def kE(l:List PV):MO:=⟨fun vs o=>o.cls=.type "list"/\∃ n,o.data=.seq vs.toArray n,l⟩
theorem MOk.ls{h:Heap}{g:Addr}{l:List PV}(x:MOk Z h g (kE l)):∃ its:Array Value,h.IsList g its/\Paired (Rp Z h) l its.toList:=by
 obtain⟨o,vs,e,⟨c,n,hd⟩,p⟩:=x
 exact⟨vs.toArray,⟨o,e,c,n,hd⟩,p⟩
theorem MOk.ofLs{h:Heap}{g:Addr}{l:List PV}{its:Array Value}(x:h.IsList g its)(p:Paired (Rp Z h) l its.toList):MOk Z h g (kE l):=by
 obtain⟨o,e,c,n,hd⟩:=x
 exact⟨o,its.toList,e,⟨c,n,by simpa using hd⟩,p⟩
theorem EXn.ls{e:Expr}{l:List PV}(h:EXn aa w A H Z env ρ e l):pF aa w A H Z env ρ e (kE l):=⟨fun s E F=>wpM (h.run s E F) (fun _ _ ⟨g,its,e1,e2,⟨o,n,e3,c,_,d⟩,P,k⟩=>⟨g,e1,e2,.ofLs ⟨o,e3,c,n,d⟩ P,k⟩)⟩
theorem tO{l:List PV}(g:Addr)(h:Heap)(nz:¬Z g)(m:MOk (aX Z g) h g (kE l))(_:(g==sysModules)=false):Rp Z h (.lst l) (.ref g):=by
 obtain⟨o,vs,e,⟨c,n,hd⟩,p⟩:=m
 obtain⟨hl,hi⟩:=a8 p
 exact .lst nz e c hd (show vs.length=l.length from hl) fun i p v e1 e2=>(hi i p v e1 (by simpa using e2)).sub fun a o _ q=>.inl q
theorem qT{F:PV->Value->Prop}{p:PV}{v:Value}(r:F p v){l:List PV}{vs:List Value}(x:Paired F l vs):∀ n,Paired F (l.set n p) (vs.set n v):=by
 induction x with
 |nil=>exact fun _=>.nil
 |cons h t ih=>exact fun n=>match n with
  |0=>.cons r t
  |n+1=>.cons h (ih n)
theorem SX.augL{o i value:Expr}{tpos pos:Pos}{op:Operator}{g:Addr}{l:List PV}{n:Nat}{p q r:PV}{L:Led}(S:FS H.H Z env)(hL:H.L=(g,kE l)::L)(ho:EX aa w A H Z env ρ o (.raw (.ref g)))(hi:EX aa w A H Z env ρ i (.int n))(hp:l[n]? = some p)
  (hv:EX aa w A H Z env ρ value q) (hop:O2 aa w A H Z (inplaceOp op) p q r) (hn:(n:Int)<2^63) (hs:∀ ov iv new,augStore i ov iv new=(do holding [new,ov,iv] (setItem ov iv new);release [new,ov,iv] [];pure .next):=by intros;rfl) :
  SX aa w A H Z env ρ (.AugAssign (.Subscript o i tpos) op value pos) (.next ((g,kE (l.set n r))::L) ρ):=by
 refine⟨fun s E F=>?_⟩
 have hld:∀{s:Shared},FI H Z env ρ s->H.D g/\MOk Z s.heap g (kE l):=fun F=>F.ld g _ (by rw[hL,List.lookup_cons];simp)
 refine wpAny_AugAssign_SubscriptAny (wpM (ho.run s E F) (fun ov s_1 h_1=>wpM (hi.run s_1 E (F.kp0 h_1.2)) (fun iv s_2 h_2=>?_))) hs
 obtain⟨r_1,k_1⟩:=h_1
 obtain⟨r_2,k_2⟩:=h_2
 cases r_1
 obtain⟨t,rfl⟩:=Rp.intI r_2
 have F_2:=(F.kp0 k_1).kp0 k_2
 obtain⟨its,il,P⟩:=(hld F_2).2.ls
 obtain⟨e1,e2⟩:=a8 P
 have hlt:n<its.toList.length:=by rw[e1];exact(A8.mp hp).1
 have hx:its.toList[n]? = some (its.toList[n]):=Al hlt
 refine wpAny_getItem_list il (Ch n) hn (x:=its.toList[n]) (by rw[Int.toNat_natCast,<-Array.getElem?_toList];exact hx) ?_
 refine wpM (hv.run s_2 E F_2) (fun v s₃ h_3=>wpM (hop s₃ E _ v (F_2.kp0 h_3.2).toGS ((e2 _ _ _ hp hx).kp0 h_3.2) h_3.1) (fun y s_4 h_4=>?_))
 have k_4:=h_3.2.trans h_4.2
 have F4:=F_2.kp0 k_4
 obtain⟨its',il',P'⟩:=(hld F4).2.ls
 have e4:its'.size=l.length:=by have:=(a8 P').1;simpa using this
 refine wpAny_setItem_list il' (Ch n) hn (by rw[e4,<-e1];exact Int.ofNat_lt.mpr hlt) fun h' hl' sb=>?_
 have zg:Z g:=F4.dz g (hld F4).1
 have kz:∀ b o,¬Z b->s_4.heap.get? b=some o->h'.get? b=some o:=fun b o z e=>(sb.2 b fun q=>z (q▸zg)).trans e
 obtain⟨F5,k5⟩:=F4.turn S hL sb (m':=kE (l.set n r)) (.ofLs hl' (by rw[Array.toList_setIfInBounds,Int.toNat_natCast];exact qT (h_4.1.keep kz) (aA (fun _ _ r=>r.keep kz) P') n)) s_4.toks (A4 _)
 exact⟨⟨rfl,F5⟩,(k_1.trans (k_2.trans k_4)).z.trans k5.d⟩
theorem O2.iaddI{a b:Int}:O2 aa w A H Z (inplaceOp .Add) (.int a) (.int b) (.int (a+b)):=by
 intro s E v u G h1 h2
 cases h1;cases h2
 exact iadd_int ⟨.int _ _,Kp.toks _ _ _⟩
theorem IX.enumL{l:List PV}{e:Expr}{nm:Str}{aj pos tpos:Pos}{elts:List Expr}{k:Nat}(hA:A.handled=none)(hf:NM aa w A H Z env nm (.type "enumerate"))(h:EX aa w A H Z env ρ e (.lst l))
  (hs:starEach [e] env=(false,eval e env)::starEach [] env)
  (he:eval (.Call (.Name nm aj) [e] [] pos) env=(do callWith pos (<-eval (.Name nm aj) env) [] (backTo pos (starEach [e] env)) (backToKw pos (keywordEach [] env)))) :
  IX aa w A H Z env ρ (.Tuple elts k tpos) (.Call (.Name nm aj) [e] [] pos) (l.zipIdx.map fun a=>wD a.2 a.1):=by
 refine⟨fun s E F=>?_⟩
 refine Call_ (wpM (hf s E ρ aj F) (fun u s' q=>?_)) he
 obtain⟨rfl,rfl⟩:=q
 refine callWith_type1 (Gp (wpM (h.run s' E F) (fun v s_1 h_1=>args_nil ?_)) hs) hs rfl
 obtain⟨hv,k1⟩:=h_1
 obtain⟨la,items,rfl,zl,il,pr⟩:=hv.list
 refine call_enumerate_list il fun h' hen hit hsz hk=>?_
 have k2:Kp N0 s_1 {s_1 with heap:=h'}:=Kp.mk (tk:=s_1.toks) fun b o _ e=>hk b o e
 generalize hN:s_1.heap.objs.size=N at *
 have lN:la<N:=by obtain⟨o,e,_⟩:=il;exact hN▸Ac e
 have sz:items.size=l.length:=by have:=(a8 pr).1;simpa using this
 have hw2:∀ a,a∈[N+1,N]->N<=a:=fun a q=>by
  rcases Ab.mp q with rfl|q
  ·exact Ad _
  ·exact Nat.le_of_eq (Ay.mp q).symm
 refine Fh hen ⟨k1.trans k2,_,rfl,fun a=>a∈[N+1,N],Ah,fun a ha=>⟨k1.none (fun q=>q) (aE _ (hN▸hw2 a ha)),?_⟩,fun Z' hz hw ho=>?_⟩
 ·rcases Ab.mp ha with rfl|ha
  ·exact⟨_,hen⟩
  ·obtain⟨o,e,_⟩:=hit;exact⟨o,(Ay.mp ha)▸e⟩
 ·have nfree:∀ b o,s_1.heap.get? b=some o->Z' b->Z b:=fun b o e q=>by
   rcases ho b q with q|q|q
   ·exact q
   ·exact absurd (hN▸Ac e) (C1.mpr (hw2 b q))
   ·rw[show h'.get? b=some o from hk b o e]at q;cases q
  have zla:¬Z' la:=fun q=>by obtain⟨o,e,_⟩:=il;exact zl (nfree la o e q)
  have il':h'.IsList la items:=by obtain⟨o,e,r⟩:=il;exact⟨o,hk _ _ e,r⟩
  refine⟨_,⟨⟨⟨_,hen⟩,hit,il'⟩,aA (fun _ _ r=>(r.sub nfree).keep fun b o _ e=>hk b o e) pr⟩,Src.ofT (Dz (Draws.list (A:=A.in1) hA N la (Au lN) items) (N+1) (C2 _) ?_ ?_) (wr:=[N+1,N]) (fun b hb=>hw b hb) (fun b hb=>?_) (fun i h st b hb=>?_) _ ?_ (fun h=>Paired (Rp Z' h) l items.toList) (fun _ _ r k=>aA (fun _ _ x=>x.keep k) r) (fun i p ba h hp hpt r=>?_)⟩
  ·intro q
   rcases Ab.mp q with q|q
   ·exact C2 _ q
   ·exact absurd ((Ay.mp q)▸lN) (C1.mpr (Ad _))
  ·exact Ah
  ·rcases Ab.mp hb with rfl|hb
   ·exact .inl Ah
   ·rcases Ab.mp hb with rfl|hb
    ·exact .inl (Ae _ Ah)
    ·exact .inr ((Ay.mp hb)▸zla)
  ·obtain⟨⟨old,e1⟩,⟨o,e2,_⟩,_⟩:=st
   rcases Ab.mp hb with rfl|hb
   ·exact⟨_,e1⟩
   ·rw[List.mem_singleton.mp hb];exact⟨o,e2⟩
  ·rw[List.length_map,List.length_zipIdx,sz]
  ·obtain⟨a,ha,rfl⟩:=iF (φ:=id) hp
   obtain⟨t',v,hv,rfl⟩:=hpt
   exact⟨_,rfl,.cons (.int _ _) (.cons ((a8 r).2 i a v ha (by rw[Array.getElem?_toList];exact hv)) .nil)⟩
end
theorem xT(x:Str)(t:Tok):∀ b:Bool,Gives (Builtin.«str.__mul__» ⟨[.str x t,.bool b],[]⟩) (if b then .val (.str x t)else .str Str.empty)
 |true=>.rule (.of_eq rfl)
 |false=>.rule (.of_eq rfl)
theorem qD(obj a b c:Value):argsOk "object.__init__" ⟨[obj,a,b,c],[]⟩:=by
 unfold argsOk;rw[signature?_of (id := "object.__init__") (n:=['_','_','t','i','n','i','_','_']) (o:=['t','c','e','j','b','o']) ⋯ PySem.F.owner_object];kernel_rfl
theorem zL(b:Bool)(x:Str)(t:Tok):Gives (Builtin.«int.__rmul__» ⟨[.bool b,.str x t],[]⟩) (.val (Value.notImplemented)) :=
 .of_wp fun M A E s Q h=>by obtain⟨hp,g,d,tk,os⟩:=s;wp_walk;exact⟨_,rfl,h⟩
section
variable{κ:Type}[DecidableEq κ]{knd:KeyKind aa w κ}
theorem O2.mulSB{x:Str}{b:Bool}:O2 aa w A H Z (binaryOp .Mult) (.str x) (.bool b) (.str (if b then x else Str.empty)):=by
 intro s E v u G h1 h2
 obtain⟨t,rfl⟩:=Rp.strI h1
 cases h2
 refine wpAny_binaryOp_repeat (T := "str") (U := "bool") ‹d› (fun s'=>Eu s' x t) (fun s'=>PySem.typeIs_bool s' b) noFill_str_mul PySem.F.fills_bool_mul PySem.F.slot_bool_rmul repeat_str PySem.F.slot_bool_index.lookup
  (call_gives PySem.F.slot_bool_rmul (PySem.typeIs_bool s b) PySem.F.entry_int_rmul (PySem.F.args_int_rmul_2 _ _) (zL b x t)
   ⟨rfl,call_gives PySem.F.slot_str_mul (Eu s x t) PySem.F.entry_str_mul (PySem.F.args_str_mul_2 _ _) (xT x t b) ?_⟩)
 cases b
 ·exact⟨by decide,.str _ _,Kp.toks _ _ _⟩
 ·exact⟨.str _ _,Kp.refl _ _⟩
theorem CB.joinT{x y:Str}(hA:A.handled=none)(hok:JoinOk x (signs y)=true):CB aa w A H Z (.builtin "str.join") [.str x,.str y] (.str (Txt.join x (signs y))):=by
 intro s E vs G P
 obtain⟨_,_,rfl,h1,P⟩:=aI P
 obtain⟨_,_,rfl,h2,P⟩:=aI P
 obtain rfl:=cX P
 obtain⟨t,rfl⟩:=Rp.strI h1
 obtain⟨u,rfl⟩:=Rp.strI h2
 exact Ao (A4 _) (SC.joinStr hA hok fun h' k t' hk (htk:s.toks<=k)=>⟨.str _ _,Kp.mk fun b o _ e=>hk b o e⟩)
theorem EX.neg{e:Expr}{i:Int}{pos:Pos}(h:EX aa w A H Z env ρ e (.int i)):EX aa w A H Z env ρ (.UnaryOp .USub e pos) (.int (-i)):=⟨fun s E F=>wpAny_UnaryOp (wpM (h.run s E F) (fun v s_1 h_1=>by
 obtain⟨r,k⟩:=h_1
 cases r
 exact PyProof.Rows.neg_int ⟨.int _ _,k.trans (Kp.toks _ _ _)⟩))⟩
theorem SB.lastL{value slice:Expr}{g:Addr}{l:List PV}{p:PV}(hL:H.L.lookup g=some (cH l))(hp:l.getLast? = some p)(hz:l.length<=1000)
  (hs:∀ a u,subscripted slice false (.ref a) (.int (-1) u)=operate [.ref a,.int (-1) u] (getItem (.ref a) (.int (-1) u))):SB aa w A H Z value slice (.raw (.ref g)) (.int (-1)) p:=by
 intro s E v u G hv hu
 cases hv
 obtain⟨t,rfl⟩:=Rp.intI hu
 obtain⟨its,⟨o,n,e,c,d,hd⟩,P⟩:=(G.ld g _ hL).2.lst
 have it:s.heap.IsList g its:=⟨o,e,c,n,hd⟩
 obtain⟨e1,e2⟩:=a8 P
 have sz:its.size=l.length:=by simpa using e1
 have hl:l[l.length-1]? = some p:=by rw[<-hp,List.getLast?_eq_getElem?]
 have hlt:=(A8.mp hl).1
 have hx:its.toList[l.length-1]? = some (its.toList[l.length-1]):=Al (by rw[e1];exact hlt)
 refine fM it.typeIs slot_list_getitem.lookup (wpAny_getItem_list_neg it ‹d› ‹o› ‹d› (x:=its.toList[l.length-1]) ?_ ⟨e2 _ _ _ hl hx,Kp.refl _ _⟩) (hs g t)
 rw[show(-1+(its.size:Int)).toNat=l.length-1 by omega,<-Array.getElem?_toList];exact hx
theorem SB.dic{value slice:Expr}{D:List (κ×PV)}{k:κ}{kp p:PV}(hk:∀{Z:ZP} {h:Heap} {v:Value},Rp Z h kp v->knd.is k v=true)(hl:fU D k=some p)
  (hs:∀ a u,subscripted slice false (.ref a) u=operate [.ref a,u] (getItem (.ref a) u)):SB aa w A H Z value slice (aK knd D) kp p:=by
 intro s E v u G hv hu
 obtain⟨g,au,rfl,nz,hD,bq,hvv,hgs⟩:=hv.dicOf
 have:=dB (k:=k) bq hvv
 rw[hl]at this
 cases h':valueAt au k with
 |none=>rw[h']at this;exact this.elim
 |some v =>
  rw[h']at this
  exact fM hD.typeIs slot_dict_getitem.lookup (wpAny_getItem_of (hk hu) hD.mapOf h' ⟨this,Kp.toks _ _ _⟩) (hs g u)
theorem It.dic{tgt:Expr}{D:List (κ×PV)}{kp:κ->PV}(hA:A.handled=none)(hk:∀ k v (Z:ZP) (h:Heap),knd.is k v=true->Rp Z h (kp k) v):It aa w A H Z tgt (aK knd D) (D.map fun kv=>kp kv.1):=by
 intro s E v G hv
 obtain⟨g,au,rfl,nz,hD,bq,hvv,hgs⟩:=hv.dicOf
 obtain⟨ep,hat⟩:=hD.dictAt
 have bn:g≠s.heap.objs.size:=Au hat.lt_size
 have len:au.length=D.length:=by have:=Az List.length bq;simpa using this
 refine wpAny_pyIter_dict hgs hat (It.mk (items:=D.map fun kv=>kp kv.1) (Rep:=fun _ _=>True) rfl (Walks.dictKeys hA _ g bn au ep) (fun b hb=>?_) (fun i h st=>let⟨o,e,c,_⟩:=st.1;⟨o,_,e,c,by decide⟩) (by rw[List.length_map,len]) (fun _ _ _ r _=>r) (fun Z' i p v h hp hv _=>?_) (fun _ _=>trivial) ⟨⟨_,A3 _ rfl,rfl,rfl⟩,hat.push _⟩)
 ·rcases Ab.mp hb with rfl|hb
  ·exact .inl rfl
  ·rw[List.mem_singleton.mp hb];obtain⟨o,_,e,_⟩:=hat;exact .inr ⟨nz,_,e⟩
 ·obtain⟨k,x,hx,hkv⟩:=hv
  have:(au.map (·.1))[i]? = some k:=by rw[List.getElem?_map,hx];rfl
  rw[bq,List.getElem?_map]at this
  rw[List.getElem?_map]at hp
  cases e:D[i]? with
  |none=>rw[e]at hp;cases hp
  |some q =>
   rw[e]at hp this
   cases hp
   cases this
   exact hk _ _ _ _ hkv
def yL(a b c:Int):PV:=.own fun Z h v=>∃ r t u x,v=.ref r/\¬Z r/\IsRange h r a b c t u x
theorem CB.range3{a b c:Int}(hc:¬(some c==some 0)=true)(hd:Builtin.divisionGoesByPylong (b-a) c=false):CB aa w A H Z (.type "range") [.int a,.int b,.int c] (yL a b c):=by
 intro s E vs G P
 obtain⟨_,_,rfl,h1,P⟩:=aI P
 obtain⟨_,_,rfl,h2,P⟩:=aI P
 obtain⟨_,_,rfl,h3,P⟩:=aI P
 obtain rfl:=cX P
 obtain⟨t,rfl⟩:=Rp.intI h1
 obtain⟨u,rfl⟩:=Rp.intI h2
 obtain⟨x,rfl⟩:=Rp.intI h3
 refine callType_new PySem.F.called_range ‹d› ⋯ ⋯ (fun obj=>qD obj _ _ _) PySem.F.entry_range_new (AutoRange.range___new___type_int_int_int_1 a b c t u x PySem.F.called_range.sub hc) ⟨hd,⟨_,A3 _ rfl,rfl⟩,?_,Kp.push _ _ _⟩
 exact .own _ _ fun Z' h' k hz=>⟨_,t,u,x,rfl,fun q=>G.new (hz _ _ (A3 _ rfl) q),k _ _ G.new (A3 _ rfl)⟩
theorem It.rngD{tgt:Expr}{a b c:Int}{n:Nat}(hA:A.handled=none)(hs:Builtin.Range.small a b c=true)(hn:Builtin.Range.rangeSize a b c=(n:Int)):It aa w A H Z tgt (yL a b c) ((List.range n).map fun(i:Nat)=>.int (a+i*c)):=by
 intro s E v G hv
 obtain⟨r,t,u,x,rfl,nz,e⟩:∃ r t u x,v=.ref r/\¬Z r/\IsRange s.heap r a b c t u x:=by
  cases hv with
  |own P v q=>exact q Z _ (fun _ _ _ e=>e) fun _ _ _ z=>z
 refine wpAny_pyIter_range e hs ?_
 rw[hn]
 refine It.mk (Rep:=fun _ _=>True) rfl (Walks.range hA _ a c n) (fun b hb=>.inl (Ay.mp hb)) (fun i h st=>⟨_,_,st,rfl,by decide⟩) (by rw[List.length_map,List.length_range]) (fun _ _ _ r _=>r) (fun Z' i p v h hp pv _=>?_) (fun _ _=>trivial) ?_
 ·obtain⟨t,rfl⟩:=pv
  rw[List.getElem?_map]at hp
  cases e:(List.range n)[i]? with
  |none=>rw[e]at hp;cases hp
  |some j =>
   rw[e]at hp;cases hp
   obtain⟨h1,h2⟩:=A8.mp e
   rw[List.getElem_range]at h2
   subst h2
   exact .int _ _
 ·rw[Int.natCast_zero,Int.zero_mul,Int.add_zero,Int.sub_zero]
  exact A3 _ rfl
end
structure vY(M:Model)(h:Heap)(C:Addr):Prop where
 isT:Looks M h (isType (.ref C)) true
 sub:Looks M h (isSubtype (.ref C) (.type "list")) true
 self:Looks M h (isSubtype (.ref C) (.ref C)) true
 mro:∃ c l,Looks M h (mroOf (.ref C)) (c::l)
 made:Looks M h (Bind.madeBy (.ref C)) (some "list.__new__")
 base:Looks M h (Bind.staticBase (.ref C)) (.ref C)
 call:Looks M h (specialOf (.ref C) "__call__") (some (.builtin "type.__call__"))
 typ:Looks M h (isInstance (.ref C) (.type "type")) true
 del:Looks M h (classHasDel C) false
 obj:∃ oc od cd sl,h.get? C=some ⟨oc,od,.cls cd,sl⟩
section
variable{C:Addr}{h:Heap}{g:Array GenState}{d:Drawn}{t:Nat}{os:OsState}
theorem wA{R:Result->Shared->Prop}(Y:vY (model aa w) h C)(v:Value)
  (hR:R (.ok (.ret (.ref (h.objs.size+1)))) ⟨(h.push emptyDict).push (aD C h.objs.size #[] 0),g,d,t,os⟩) :
  codeAny (model aa w) A (.call (.builtin "list.__new__") ⟨[.ref C,v],[]⟩) R ⟨h,g,d,t,os⟩:=by
 refine Dl ?_
 show wpAny _ A.in1 (do checkBuiltinCall "list.__new__" ⟨[.ref C,v],[]⟩;again (.builtin "list.__new__" ⟨[.ref C,v],[]⟩)) _ _ _
 refine A0 ?_
 unfold checkBuiltinCall
 rw[show builtinKind "list.__new__" = some .builtinFn from ⋯,show splitId "list.__new__" = some ("list","__new__")from by kernel_rfl]
 dsimp only
 rw[if_pos ‹d›]
 refine A0 (Y.isT.at ?_)
 simp only[Bool.not_true,Bool.false_eq_true,if_false]
 refine A0 (Y.sub.at ?_)
 simp only[Bool.not_true,Bool.false_eq_true,if_false]
 refine A0 (Y.base.at ?_)
 refine A0 (Y.made.at ?_)
 dsimp only
 rw[if_neg ‹k›]
 refine Aa (a:=()) ⋯ ?_
 refine A1 ⟨Cb PySem.F.plain_list_new _,codeAny_builtin_stack PySem.F.entry_list_new rfl fun p st=>?_⟩
 rw[Around.under_plainId PySem.F.plain_list_new _]
 simp only[owner_list_new]
 refine A0 (Y.isT.at ?_)
 simp only[Bool.not_true,Bool.false_eq_true,if_false]
 refine A0 (Y.sub.at ?_)
 simp only[Bool.not_true,Bool.false_eq_true,if_false]
 refine A0 (Aa (a:=Data.seq #[]) ⋯ ?_)
 rw[if_neg (show ¬((!typeHasDict (.ref C))=true)from by simp[typeHasDict])]
 refine A0 (Aj ?_ (by size_fits))
 refine A0 ?_
 unfold newObj
 dsimp only
 rw[if_neg (by rw[sizeLine_eq];decide)]
 unfold newObjAsIs
 refine A0 (Gb ?_)
 dsimp only
 refine A0 ((Y.del.keeps (h':=(h.push emptyDict).push (aD C h.objs.size #[] 0)) fun b o e=>A2 _ (A2 _ e)).at ?_)
 rw[if_neg ‹d›]
 refine A1 (A1 ?_)
 show R (.ok (.ret (.ref (h.push emptyDict).objs.size))) _
 rw[Heap.size_push]
 exact hR
theorem uL{K:Frag}{f:Addr}{v:Value}{R:Result->Shared->Prop}(Y:vY (model aa w) h C)(X:K.In h)(hi:findIn K (.ref C) "__init__" = some (some (.ref f)))(hf:typeIn K (.ref f)=some (.type "function"))
  (hq:codeAny (model aa w) (A.under (.builtin "type.__call__" ⟨[.ref C,v],[]⟩)) (.call (.ref f) ⟨[.ref (h.objs.size+1),v],[]⟩) (InitBack (h.objs.size+1) R) ⟨(h.push emptyDict).push (aD C h.objs.size #[] 0),g,d,t,os⟩) :
  codeAny (model aa w) A (.call (.ref C) ⟨[v],[]⟩) R ⟨h,g,d,t,os⟩:=by
 obtain⟨oc,od,cd,sl,hC⟩:=Y.obj
 refine Dl ?_
 show wpAny _ _ (callAny (.ref C) _) _ _ _
 refine nd_load hC ?_
 show wpAny _ _ (callAny.viaDunder (.ref C) _) _ _ _
 unfold callAny.viaDunder
 refine A0 (Y.call.at ?_)
 dsimp only
 rw[tc_bind]
 refine A0 (A1 (A0 (A1 ?_)))
 refine A1 (a:=Fin.again (.call (.builtin "type.__call__") ⟨[.ref C,v],[]⟩)) (And.intro rfl ?_)
 refine Fz (Dn _ ‹k›) entry_typeCall (check_slot tc_kind tc_split Y.typ (tc_args _ _ _) ?_)
 unfold Builtin.«type.__call__»
 obtain⟨c,m,hm⟩:=Y.mro
 dsimp only
 rw[show(Value.ref C==Value.type "type")=false from rfl]
 simp only[Bool.false_eq_true,if_false]
 refine A0 (hm.at ?_)
 simp only[List.isEmpty_cons,Bool.false_eq_true,if_false]
 refine A0 (Y.made.at ?_)
 dsimp only
 refine A0 (A1 (A0 (A5 (B6 (wA Y v ?_)))))
 have k:∀ b o,h.get? b=some o->((h.push emptyDict).push (aD C h.objs.size #[] 0)).get? b=some o:=fun b o e=>A2 _ (A2 _ e)
 have hx:((h.push emptyDict).push (aD C h.objs.size #[] 0)).get? (h.objs.size+1)=some (aD C h.objs.size #[] 0):=by heap_get
 have t1:Looks (model aa w) ((h.push emptyDict).push (aD C h.objs.size #[] 0)) (typeOf (.ref (h.objs.size+1))) (.ref C):=bT hx
 refine A0 (Looks.at (t1.andThen (Y.self.keeps k)) ?_)
 simp only[Bool.not_true,Bool.false_eq_true,if_false]
 unfold callSpecial? specialOf
 refine A0 (A5 (A0 (A0 (t1.at (Looks.at (Bf (X.keeps k) hi) ?_)))))
 dsimp only
 refine A5 (A0 (Looks.at (bind_fn (X.keeps k) _ hf) (A0 (B6 (Ca hq fun r s' z=>?_)))))
 rcases r with e|(v|_|_|_) <;> first|exact z|exact z.elim|skip
 obtain⟨rfl,z⟩:=z
 exact A1 (A1 z)
end
abbrev kZ(x:Addr):Obj:={cls:=.type "method-wrapper",data:=.fields #[.builtin "list.__init__",.ref x]}
theorem nY:Slot "wrapper_descriptor" "__get__" "wrapper_descriptor.__get__" :=
 .of (owner := "wrapper_descriptor") (n := "__get__") (by rw[typeLookup_type,builtinLookup_eq_fast];kernel_rfl) ‹k› ‹k› ‹k› (by first|exact .inl ‹k› |exact .inr ‹k›) (by rw[isSubtype_type];kernel_rfl)
theorem uR:entryFor table "wrapper_descriptor.__get__" = some Builtin.«wrapper_descriptor.__get__»:=E8 ⋯
theorem w8(a b c:Value):argsOk "wrapper_descriptor.__get__" ⟨[a,b,c],[]⟩:=by unfold argsOk;kernel_rfl
theorem wW:typeOf (.builtin "list.__init__")=pure (.type "wrapper_descriptor"):=by show builtinType _=_;rw[builtinType_eq_fast];kernel_rfl
section
variable{K:Frag}{C dx x so:Addr}{h:Heap}{g:Array GenState}{d:Drawn}{t:Nat}{os:OsState}{vs:Array Value}{n:Nat}
theorem si_ga{Q:Fin->Shared->Prop}{tk:Tok}(Y:cU K C)(X:K.In h)(hno:Looks (model aa w) h (opaqueClassAbove (.ref C)) none)(hx:h.get? x=some (aD C dx vs n))(hxC:x≠C)
  (hso:h.get? so=some (ks_superObj C x C)) (hf:alongIn K "__init__" [.type "list",.type "object"]=some (some (.builtin "list.__init__")))
  (hq:Q (.done (.ret (.ref h.objs.size))) ⟨h.push (kZ x),g,d,t,os⟩) :
  wpAny (model aa w) A (Builtin.«super.__getattribute__» ⟨[.ref so,.str "__init__" tk],[]⟩) Q E ⟨h,g,d,t,os⟩:=by
 have bn:(Value.ref x==Value.ref C)=false:=by simp[hxC]
 have hTf:(⟨h,g,d,t,os⟩:Shared).TypeIs (.builtin "list.__init__") "wrapper_descriptor":=wW
 have hdt:(ks_superObj C x C).data=.fields #[.ref C,.ref x,.ref C]:=rfl
 obtain⟨cd,hc,hm,_⟩:=Y.mro
 have hC:Looks (model aa w) h (mroOf (.ref C)) cd.mro:=(Gh X hc).andThen .now
 have L0:Looks (model aa w) h (typeOf (.ref x)) (.ref C):=bT hx
 have hi:Looks (model aa w) h (isInstance (.ref x) (.type "list")) true:=L0.andThen (Y.list X)
 have f0:(#[.ref C,.ref x,.ref C]:Array Value)[0]? = some (.ref C):=rfl
 have f1:(#[.ref C,.ref x,.ref C]:Array Value)[1]? = some (.ref x):=rfl
 have f2:(#[.ref C,.ref x,.ref C]:Array Value)[2]? = some (.ref C):=rfl
 have hl:(cd.mro.dropWhile (· != Value.ref C)).drop 1=[.type "list",.type "object"]:=by rw[hm];simp
 have hlk:=nY.lookup
 unfold Builtin.«super.__getattribute__»
 dsimp only
 refine A0 (Aa (a:=some ("__init__" : Str)) rfl ?_)
 rw[if_neg (show ¬((Option.isNone (some ("__init__" : Str)))=true)from Bool.false_ne_true)]
 refine A0 (Aa (a:=some ("__init__" : Str)) rfl ?_)
 dsimp only
 refine A0 (An hso hdt f0 ?_)
 refine A0 (An hso hdt f1 ?_)
 refine A0 (An hso hdt f2 ?_)
 rw[if_neg (show ¬((Value.ref C==Value.none||("__init__" : Str)==("__class__" : Str))=true)from by rw[show(Value.ref C==Value.none)=false from rfl,show(("__init__" : Str)==("__class__" : Str))=false from by decide +kernel];decide)]
 refine A0 (ks_wpAny_notOpaque hno ?_)
 rw[if_neg (show ¬((Value.ref C==Value.type "module")=true)from Bool.false_ne_true)]
 refine A0 (hC.at ?_)
 rw[hl]
 refine A0 (ks_forIn_along (name := "__init__") (v:=.builtin "list.__init__") X (fun _ _=>rfl) ?hk ?hq hf)
 case hk=>rfl
 dsimp only
 refine A0 (C9 hTf (A0 (Aa (a:=some (.builtin "wrapper_descriptor.__get__")) nY.lookup ?_)))
 dsimp only
 rw[bn]
 refine A0 (A5 (B3 nY hTf uR ?_ (w8 _ _ _)))
 unfold Builtin.«wrapper_descriptor.__get__»
 refine A0 (Aa (a:=(.builtin "list.__init__",some (.ref x),some (.ref C))) ⋯ ?_)
 refine A0 (A0 (Aa (a:=(("__init__" : Str),Value.type "list")) ⋯ ?_))
 refine A0 (hi.at ?_)
 rw[if_neg (show ¬((!true)=true)from by decide)]
 refine A1 (A0 (Aj (A1 ⟨_,rfl,A0 (A1 (A1 (A1 ?_)))⟩)))
 exact hq
theorem tX{pl:Sem Bool}{Q:Value×List Value->Shared->Prop}(Y:cU K C)(X:K.In h)(hno:Looks (model aa w) h (opaqueClassAbove (.ref C)) none)(hx:h.get? x=some (aD C dx vs n))(hxC:x≠C)
  (hso:h.get? so=some (ks_superObj C x C)) (hf:alongIn K "__init__" [.type "list",.type "object"]=some (some (.builtin "list.__init__")))
  (hq:Q (.ref h.objs.size,[]) ⟨h.push (kZ x),g,d,t+1,os⟩):wpAny (model aa w) A (getMethod (.ref so) "__init__" pl) Q E ⟨h,g,d,t,os⟩:=by
 have hlk:=Dk.lookup
 have hT:∀ t',(⟨h,g,d,t',os⟩:Shared).TypeIs (.ref so) "super":=fun _=>⟨_,hso,rfl⟩
 unfold getMethod
 refine A0 (Bu (hT _) hlk ?_)
 show wpAny _ _ (if(Manifest.canonical "super.__getattribute__" != "object.__getattribute__")=true then _ else _) _ _ _
 rw[if_pos PySem.F.ks_canon_super_ga]
 unfold getAttr getAttrBy
 refine A0 (A0 (Eo (A5 (A0 (C9 (hT _) (A0 (Aa hlk ?_)))))))
 show wpAny _ _ (getAttrByItsOwn (.ref so) (.str "__init__" t) (.type "super") (.builtin "super.__getattribute__") true false) _ _ _
 unfold getAttrByItsOwn hookBefore callGetattribute boundAndCalled
 refine A0 (Aa (show(if onTheHeap (.type "super")then typeLookup (.type "super") "__getattr__" else pure none)=pure none from rfl) ?_)
 refine A0 (Bl (A5 ?_))
 show wpAny _ _ (bindSpecial (.builtin "super.__getattribute__") (.ref so) >>= _) _ _ _
 refine A0 (Aa (Dk.bind _) ?_)
 refine B1 (Q:=fun v s'=>v=.ref h.objs.size/\s'=⟨h.push (kZ x),g,d,t+1,os⟩) (E:=fun _ _=>False)
  (B3 Dk (hT _) PySem.F.ks_entry_super_ga (si_ga Y X hno hx hxC hso hf ⟨_,rfl,rfl,rfl⟩) (PySem.F.ks_gaArgs_super _ _)) (fun v s' hv=>?_) fun _ _ z=>z.elim
 obtain⟨rfl,rfl⟩:=hv
 exact A1 (A1 hq)
theorem vK(x:Addr):checkBoundCall "list.__init__" ⟨[.ref x],[]⟩=pure ():=⋯
theorem z8{mw:Addr}{Q:ZV}(hx:h.get? x=some (aD C dx #[] n))(hm:h.get? mw=some (kZ x))
  (hq:∀ h',h'.get? x=some (aD C dx #[] n)->Heap.SameBut x h h'->Q .none ⟨h',g,d,t,os⟩):wpAny (model aa w) A (call (.ref mw) []) Q E ⟨h,g,d,t,os⟩:=by
 refine B6 (Dl ?_)
 show wpAny _ A.in1 (callAny (.ref mw) ⟨[],[]⟩) _ _ _
 unfold callAny
 refine A0 (Ct hm ?_)
 dsimp only
 rw[if_pos ‹k›]
 refine A0 (Aa (a:=()) (vK x) ?_)
 refine A1 ⟨Dn _ ‹k›,Bv PySem.F.entry_list_init ?_⟩
 unfold Builtin.«list.__init__»
 dsimp only
 rw[if_neg ‹d›,if_neg ‹d›]
 unfold Builtin.List.listItems
 refine A0 (A0 (Ax hx rfl (A1 ?_)))
 show wpAny _ _ (updateSeq x (fun _=>#[]) >>= fun _=>letGo (#[]:Array Value).toList.reverse >>= fun _=>ret .none) _ _ _
 refine A0 (Bc hx rfl ?_)
 have hS2:=Af (Obj.mapSeq (fun _=>(#[]:Array Value))) hx rfl
 refine A0 (D6 (A1 ?_))
 exact hq _ hS2 (.update ..)
end
theorem MOk.acc{Z:ZP}{h:Heap}{C x dx:Addr}{l:List PV}(m:MOk Z h x (aJ C dx l)):∃ vs n,h.get? x=some (aD C dx vs.toArray n)/\Paired (Rp Z h) l vs:=by
 obtain⟨o,vs,e,⟨n,rfl⟩,p⟩:=m
 exact⟨vs,n,e,p⟩
theorem f8{n:Nat}(h:n<=1000):n<=sizeLine:=A7 h (Ak ⋯)
section
theorem rM{id owner n:String}{B:Builtin}{v:Value}{ai l:List Value}{Q:ZV}(hq:plainId id=true)(he:entryFor table id=some B)(hk:builtinKind id=some .method)(hs:splitId id=some (owner,n))(hi:Looks (model aa w) s.heap (isInstance v (.type owner)) true)
  (ha:argsOk id ⟨l,[]⟩) (hc:wpAny (model aa w) A.in1 (B ⟨v::ai,[]⟩) (fun fin s'=>∃ x,fin=.done (.ret x)/\Q x s') E s) (hl:l=v::ai:=by rfl):wpAny (model aa w) A (call (.builtin id) (v::ai)) Q E s:=by
 subst hl
 refine B6 (Ba hq he ?_)
 have fin:=B1 hc (Q':=fun fin s'=>match fin with| .done f=>(match(.ok f:Result)with| .ok (.ret v)=>Q v s' | .ok _=>False| .error e=>E e s')| .again c'=>c'.quiet=true/\codeAny (model aa w) A c' (fun r s'=>match r with| .ok (.ret v)=>Q v s' | .ok _=>False| .error e=>E e s') s') (E':=fun e s'=>E e s') (fun fin s' h'=>by obtain⟨v,rfl,hv⟩:=h';exact hv) fun _ _ x=>x
 simp only[checkBuiltinCall,hk,hs]
 refine A0 (hi.here ?_)
 simp only[Bool.not_true,Bool.false_eq_true,if_false]
 cases hsig:Manifest.signature? id with
 |none=>exact A1 fin
 |some sig =>
  simp only[argsOk,hsig]at ha
  have h2:Bind.checkArgs id sig ⟨v::ai,[]⟩=pure ():=ha
  exact Aa h2 fin
theorem wM{K:Frag}{C x dx:Addr}{vs:List Value}{n:Nat}{v:Value}{Q:ZV}(Y:cU K C)(X:K.In s.heap)(hx:s.heap.get? x=some (aD C dx vs.toArray n))(hz:vs.length<=1000)
  (hQ:∀ h' n',h'.get? x=some (aD C dx (vs++[v]).toArray n')->Heap.SameBut x s.heap h'->Q .none {s with heap:=h'}):wpAny (model aa w) A (call (.builtin "list.append") [.ref x,v]) Q E s:=by
 refine rM PySem.F.slot_list_append.plain PySem.F.entry_list_append (owner := "list") (n := "append") ‹k› ‹k› ((bT hx).andThen (Y.list X)) (PySem.F.args_list_append_2 _ _) ?_
 unfold Builtin.«list.append»
 refine A0 (Aa (a:=(.ref x,v)) ⋯ ?_)
 show wpAny _ _ (updateSeq x (·.push v) >>= fun _=>ret .none) _ _ _
 have e:=Af (Obj.mapSeq (·.push v)) hx rfl
 refine A0 (Bc hx rfl (A1 ⟨_,rfl,hQ _ (n+1) ?_ (.update ..)⟩) (by rw[List.size_toArray];exact f8 hz) (by rw[Array.size_push,List.size_toArray];exact B9 (f8 hz)))
 rw[e]
 simp[Obj.mapSeq,aD]
theorem EXd.accAppend{K:Frag}{C x dx:Addr}{o bb:Expr}{aq pos:Pos}{pl:Sem Bool}{l:List PV}{p:PV}{L:Led}{k:PV}(Y:cU K C)(X:K.In H.H)(S:FS H.H Z env)(hb:fX K C "append" "list.append" = true)(hL:H.L=(x,aJ C dx l)::L)(hd:H.L.lookup dx=some (a9 ["_initial_size"] [k]))(ho:EX aa w A H Z env ρ o (.raw (.ref x)))(he:EX aa w A H Z env ρ bb p)(hz:l.length<=1000)
  (hs:starEach [bb] env=(false,eval bb env)::starEach [] env)
  (hev:eval (.Call (.Attribute o "append" aq) [bb] [] pos) env=(do
   let ov <-eval o env
   standAt aq.atName
   let(f,first) <-holding [ov] (getMethod ov "append" pl)
   callWith pos f first (backTo pos (starEach [bb] env)) [])) :
  EXd aa w A H Z env ρ (.Call (.Attribute o "append" aq) [bb] [] pos) .none ((x,aJ C dx (l++[p]))::L):=by
 refine⟨fun s E F=>?_⟩
 have hld:∀{s:Shared},FI H Z env ρ s->MOk Z s.heap x (aJ C dx l):=fun F=>(F.ld x _ (by rw[hL,List.lookup_cons];simp)).2
 refine Br (pl:=pl) (wpM (ho.run s E F) (fun v s_1 h_1=>?_)) hev
 obtain⟨hv,k_1⟩:=h_1
 cases hv
 have F_1:=F.kp0 k_1
 obtain⟨vs1,n_1,e_1,_⟩:=(hld F_1).acc
 obtain⟨es,m,ws,br,hi,pw⟩:=F_1.toGS.ins hd
 refine oW Y (X.keeps F_1.top) e_1 br (Ai.mp hb) (t := "method_descriptor") (Bs type_list_append) ‹k› (by rw[hi.get,cG (ps:=[k]) (by rw[(a8 pw).1]) ⋯]) ?_
 refine Bx (wpM ((LX.cons he LX.nil hs).run s_1 E F_1) (fun ys s_2 h_2=>?_)) hs rfl
 obtain⟨P,k_2⟩:=h_2
 obtain⟨_,_,rfl,r,P⟩:=aI P
 obtain rfl:=cX P
 have F_2:=F_1.kp0 k_2
 obtain⟨vs,n,e_2,pr⟩:=(hld F_2).acc
 have zx:Z x:=F_2.dz x (F_2.ld x (aJ C dx l) (by rw[hL,List.lookup_cons];simp)).1
 refine wM Y (X.keeps F_2.top) e_2 (by rw[(a8 pr).1];exact hz) fun h' n' e_3 sb=>?_
 have kz:∀ b o,¬Z b->s_2.heap.get? b=some o->h'.get? b=some o:=fun b o z e=>(sb.2 b fun q=>z (q▸zx)).trans e
 obtain⟨F_3,k_3⟩:=F_2.turn S hL sb (m':=aJ C dx (l++[p])) ⟨_,_,e_3,⟨n',rfl⟩,(bJ pr (.cons r .nil))|> aA fun _ _ r=>r.keep kz⟩ s_2.toks (A4 _)
 exact⟨.none,F_3,k_1.z.trans (k_2.z.trans k_3)⟩
end
section
variable{K:Frag}{C x dx sl:Addr}{n:Nat}{t:Tok}
theorem cU.deque(Y:cU K C){M:Model}{h:Heap}(X:K.In h):Looks M h (isSubtype (.ref C) (.type "collections.deque")) false:=by
 obtain⟨cd,hc,hm,_⟩:=Y.mro
 exact Gk X (by unfold mroIn;rw[hc,Option.bind_some,hm];rfl)
theorem sE{vs:Array Value}{k:Value}{name:Str}{Q:ZV}(Y:cU K C)(X:K.In s.heap)(hx:s.heap.get? x=some (aD C dx vs n))(q:Q k s):wpAny (model aa w) A (sequenceKey (.ref x) k name) Q E s:=by
 unfold sequenceKey
 refine A0 ((bT hx).here ?_)
 dsimp only
 show wpAny _ _ ((List.anyM (fun n=>isSubtype (.ref C) (.type n)) ["collections.deque"]) >>= _) _ _ _
 refine A0 (A0 ((Y.deque X).here (A1 ?_)))
 rw[if_pos (show(!false)=true from rfl)]
 exact A1 q
theorem rU{Q:Option Int->Shared->Prop}(hs:s.heap.get? sl=some {cls:=.type "slice",data:=.fields #[.int 0 t,.none,.none]})(q:Q Option.none s):wpAny (model aa w) A (Builtin.List.listSubscript? (.ref sl)) Q E s:=by
 unfold Builtin.List.listSubscript?
 refine A0 (Bu (T := "slice") ⟨_,hs,rfl⟩ slice_no_index ?_)
 rw[if_pos (show(Option.isNone (Option.none:Option Value))=true from rfl)]
 exact A1 q
theorem mY{Q:Value×Value×Value->Shared->Prop}(hs:s.heap.get? sl=some {cls:=.type "slice",data:=.fields #[.int 0 t,.none,.none]})(q:Q (rawInt 0,.none,.none) s):wpAny (model aa w) A (Builtin.List.listSliceParts (.ref sl)) Q E s:=by
 rw[listSliceParts_eq]
 refine A0 (An hs rfl (x:=.none) rfl (A0 (Gn .none ?_)))
 rw[if_neg (show ¬((rawPart Option.none==rawInt 0)=true)from Bool.false_ne_true)]
 refine A0 (An hs rfl (x:=.int 0 t) rfl (A0 (Gn (.int 0 t) ?_)))
 exact A0 (An hs rfl (x:=.none) rfl (A0 (Gn .none (A1 q))))
theorem sb0(n:Nat):sliceBounds (some 0) Option.none Option.none n=(0,(n:Int),1):=by
 unfold sliceBounds
 have h:max (0:Int) (min 0 (n:Int))=0:=by omega
 simp[h]
theorem cut0(vs:List Value):((sliceRange 0 (vs.toArray.size:Int) 1).filterMap (vs.toArray[·]?)).toArray=vs.toArray:=by
 have h:=sliceRange_one 0 vs.toArray.size
 rw[show((0:Nat):Int)=0 from rfl]at h
 rw[h,pick_run]
 simp
theorem tB{vs:List Value}{Q:ZV}(Y:cU K C)(X:K.In s.heap)(hb:fX K C "__getitem__" "list.__getitem__" = true)(hx:s.heap.get? x=some (aD C dx vs.toArray n))(hz:vs.length<=1000)
  (hs:s.heap.get? sl=some {cls:=.type "slice",data:=.fields #[.int 0 t,.none,.none]})
  (hQ:Q (.ref s.heap.objs.size) {s with heap:=s.heap.push {cls:=.type "list",data:=.seq vs.toArray}}):wpAny (model aa w) A (getItem (.ref x) (.ref sl)) Q E s:=by
 have L0:Looks (model aa w) s.heap (typeOf (.ref x)) (.ref C):=bT hx
 unfold getItem
 refine A5 (A0 (sE Y X hx (A0 ?_)))
 unfold callSpecial? specialOf
 refine A0 (A0 (L0.here ((Bf X (Ai.mp hb)).here ?_)))
 dsimp only
 rw[slot_list_getitem.bind]
 refine A5 (A0 (A1 (A0 ?_)))
 refine rM slot_list_getitem.plain entry_list_getitem (owner := "list") (n := "__getitem__") ‹k› ‹k› (L0.andThen (Y.list X)) (args_list_getitem _ _) ?_
 unfold Builtin.«list.__getitem__»
 refine A0 (Aa (a:=(.ref x,.ref sl)) ⋯ ?_)
 dsimp only
 refine A0 (rU hs ?_)
 dsimp only
 refine A0 (C9 (T := "slice") ⟨_,hs,rfl⟩ ?_)
 rw[if_neg ‹k›]
 refine A0 (mY hs ?_)
 dsimp only
 unfold Builtin.List.listItems
 refine A0 (A0 (Ax hx rfl (A1 ?_)))
 refine A0 (Aa (sliceIndices_raw (some 0) Option.none Option.none vs.toArray.size ‹s›) ?_)
 rw[sb0]
 dsimp only
 rw[cut0]
 exact A0 (Aj (A1 ⟨_,rfl,A1 (A1 hQ)⟩) (by show vs.toArray.size<=sizeLine;rw[List.size_toArray];exact f8 hz))
theorem tJ{vs:List Value}{v:Addr}{ov:Obj}{m:Nat}{Q:Unit->Shared->Prop}(Y:cU K C)(X:K.In s.heap)(hb:fX K C "__setitem__" "list.__setitem__" = true)(hx:s.heap.get? x=some (aD C dx vs.toArray n))(hz:vs.length<=1000)
  (hs:s.heap.get? sl=some {cls:=.type "slice",data:=.fields #[.int 0 t,.none,.none]}) (hv:s.heap.get? v=some ov) (hvc:ov.cls=.type "list") (hvd:ov.data=.seq #[] m) (hvx:x≠v)
  (hQ:∀ h' n',h'.get? x=some (aD C dx #[] n')->Heap.SameBut x s.heap h'->Q () {s with heap:=h'}):wpAny (model aa w) A (setItem (.ref x) (.ref sl) (.ref v)) Q E s:=by
 have L0:Looks (model aa w) s.heap (typeOf (.ref x)) (.ref C):=bT hx
 unfold setItem
 refine A5 (A0 (sE Y X hx (A0 ?_)))
 unfold callSpecial? specialOf
 refine A0 (A0 (L0.here ((Bf X (Ai.mp hb)).here ?_)))
 dsimp only
 rw[slot_list_setitem.bind]
 refine A5 (A0 (A1 (A0 ?_)))
 refine gY slot_list_setitem.plain entry_list_setitem (owner := "list") (n := "__setitem__") ‹k› ‹k› (L0.andThen (Y.list X)) (args_list_setitem _ _ _) ?_
 unfold Builtin.«list.__setitem__»
 refine A0 (Aa (a:=(.ref x,[.ref sl,.ref v])) ⋯ ?_)
 dsimp only
 refine A0 (rU hs ?_)
 dsimp only
 refine A0 (C9 (T := "slice") ⟨_,hs,rfl⟩ ?_)
 rw[if_neg ‹k›]
 refine A0 (mY hs ?_)
 dsimp only
 rw[if_neg (show ¬(Builtin.List.listSameRef (.ref x) (.ref v)=true)from by simp[Builtin.List.listSameRef,hvx])]
 unfold Builtin.List.listAllItems
 refine A0 (A0 (C9 (T := "list") ⟨_,hv,hvc⟩ ?_))
 rw[if_pos ‹k›]
 unfold Builtin.List.listItems
 refine A0 (Ax hv hvd (A1 ?_))
 refine A0 (A0 (Ax hx rfl (A1 ?_)))
 refine A0 (Aa (sliceIndices_raw (some 0) Option.none Option.none vs.toArray.size ‹s›) ?_)
 rw[sb0]
 dsimp only
 rw[if_pos ‹d›]
 refine A0 (Cf ?_)
 rw[if_neg (show ¬(Builtin.List.listTooLong (vs.toArray.size+(#[]:Array Value).size)=true)from by rw[List.size_toArray];simp[Builtin.List.listTooLong,sizeLine_eq];omega)]
 have f0:(fun xs:Array Value=>xs.extract 0 (Int.toNat 0)++#[]++xs.extract (max 0 (vs.toArray.size:Int)).toNat xs.size) vs.toArray=#[]:=by
  simp
 have e:=Af (Obj.mapSeq (fun xs:Array Value=>xs.extract 0 (Int.toNat 0)++#[]++xs.extract (max 0 (vs.toArray.size:Int)).toNat xs.size)) hx rfl
 unfold Builtin.List.listUpdate
 refine A0 (Bc hx rfl (A0 (D6 (A1 ⟨_,rfl,A1 (A1 (hQ _ (if(#[]:Array Value).size==vs.toArray.size then n else n+1) ?_ (.update ..)))⟩))) (by rw[List.size_toArray];exact f8 hz) (by have:=Az Array.size f0;exact A7 (Nat.le_of_eq this) (Ap _)))
 rw[e]
 show some (⟨.ref C,some dx,.seq ((fun xs:Array Value=>xs.extract 0 (Int.toNat 0)++#[]++xs.extract (max 0 (vs.toArray.size:Int)).toNat xs.size) vs.toArray) (if((fun xs:Array Value=>xs.extract 0 (Int.toNat 0)++#[]++xs.extract (max 0 (vs.toArray.size:Int)).toNat xs.size) vs.toArray).size==vs.toArray.size then n else n+1),#[]⟩:Obj)=_
 rw[f0]
end
section
variable{K:Frag}{C x dx:Addr}
theorem pP{s:Shared}{E:ZV}{vs:Array Value}{n:Nat}{value slice:Expr}{i:Value}{ops:List Value}{Q:ZV}(Y:cU K C)(X:K.In s.heap)(hb:fX K C "__getitem__" "list.__getitem__" = true)(hx:s.heap.get? x=some (aD C dx vs n))
  (h:wpAny (model aa w) A (getItem (.ref x) i) Q E s) (hs:subscripted slice false (.ref x) i=operate ops (getItem (.ref x) i)):wpAny (model aa w) A (subscriptTail value slice (.ref x) i) Q E s:=by
 unfold subscriptTail
 refine A0 ?_
 rw[getitemInPython_of_ne (fun q=>by cases q)]
 unfold specialOf
 refine A0 (A0 ((bT hx).here ((Bf X (Ai.mp hb)).here ?_)))
 have fin:wpAny (model aa w) A (subscripted slice false (.ref x) i) (fun r s₃=>wpAny (model aa w) A (letTemporaryGo value (.ref x) r >>= fun _=>pure r) Q E s₃) E s:=by
  rw[hs]
  exact wpAny_operating (wpM h (fun r s₃ h_3=>A0 (Ec (A1 h_3))))
 first
  |exact A1 (A0 fin)
  |exact A0 (A1 (A0 fin))
  |exact A0 fin
theorem EX.accAll{o lower:Expr}{p pos:Pos}{l:List PV}(Y:cU K C)(X:K.In H.H)(hb:fX K C "__getitem__" "list.__getitem__" = true)(hL:H.L.lookup x=some (aJ C dx l))(ho:EX aa w A H Z env ρ o (.raw (.ref x)))(hl:EX aa w A H Z env ρ lower (.int 0))(hz:l.length<=1000) :
  EX aa w A H Z env ρ (.Subscript o (.Slice (.some lower) .none .none p) pos) (.lst l):=by
 refine⟨fun s E F=>?_⟩
 refine Et (wpM (ho.run s E F) (fun v s_1 h_1=>?_))
 obtain⟨hv,k_1⟩:=h_1
 cases hv
 have F_1:=F.kp0 k_1
 refine Gc (wpM ((PX.some hl).run s_1 E F_1) (fun vl s_2 h_2=>?_))
 rw[evalPart_none]
 obtain⟨⟨t,rfl⟩,k_2⟩:=h_2
 refine A1 (A1 ?_)
 have k_3:Kp N0 s_2 {s_2 with heap:=s_2.heap.push {cls:=.type "slice",data:=.fields #[.int 0 t,.none,.none]}}:=Kp.push _ _ _
 have F_3:=(F_1.kp0 k_2).kp0 k_3
 obtain⟨vs,n,e,pr⟩:=(F_3.ld x _ hL).2.acc
 refine pP Y (X.keeps F_3.top) hb e (tB (t:=t) Y (X.keeps F_3.top) hb e (by rw[(a8 pr).1];exact hz) (A3 _ rfl) ?_) rfl
 exact⟨Rp.newList F_3.toGS.new (by simpa using pr),k_1.trans (k_2.trans (k_3.trans (Kp.push _ _ _)))⟩
theorem AS.accClear{o lower:Expr}{p pos:Pos}{l:List PV}{L:Led}(Y:cU K C)(X:K.In H.H)(S:FS H.H Z env)(hb:fX K C "__setitem__" "list.__setitem__" = true)(hL:H.L=(x,aJ C dx l)::L)(ho:EX aa w A H Z env ρ o (.raw (.ref x)))(hl:EX aa w A H Z env ρ lower (.int 0))(hz:l.length<=1000) :
  AS aa w A H Z env ρ (.Subscript o (.Slice (.some lower) .none .none p) pos) (.lst []) ((x,aJ C dx [])::L) ρ:=by
 refine⟨fun s E v F r=>?_⟩
 rw[arm_assign_Subscript]
 refine A0 (A5 (wpM (ho.run s E F) (fun ov s_1 h_1=>?_)))
 obtain⟨hv,k_1⟩:=h_1
 cases hv
 have F_1:=F.kp0 k_1
 refine A0 (A5 (Gc (wpM ((PX.some hl).run s_1 E F_1) (fun vl s_2 h_2=>?_))))
 rw[evalPart_none]
 obtain⟨⟨t,rfl⟩,k_2⟩:=h_2
 refine A1 (A1 (A0 (Ag (A0 (A5 ?_)))))
 have k_3:Kp N0 s_2 {s_2 with heap:=s_2.heap.push {cls:=.type "slice",data:=.fields #[.int 0 t,.none,.none]}}:=Kp.push _ _ _
 have F_3:=(F_1.kp0 k_2).kp0 k_3
 have r_3:=r.kp0 (k_1.trans (k_2.trans k_3))
 have hL':H.L.lookup x=some (aJ C dx l):=by rw[hL,List.lookup_cons];simp
 obtain⟨vs,n,e,pr⟩:=(F_3.ld x _ hL').2.acc
 have zx:Z x:=F_3.dz x (F_3.ld x _ hL').1
 obtain⟨a,items,rfl,nz,⟨oa,ea,ca,m,da⟩,pa⟩:=r_3.list
 have hi:items=#[]:=by
  have:=(a8 pa).1
  apply E9
  simpa using this
 subst hi
 refine tJ (t:=t) Y (X.keeps F_3.top) hb e (by rw[(a8 pr).1];exact hz) (A3 _ rfl) ea ca da (fun q=>nz (q▸zx)) fun h' n' e' sb=>Gs ?_
 have kz:∀ b o,¬Z b->(s_2.heap.push {cls:=.type "slice",data:=.fields #[.int 0 t,.none,.none]}).get? b=some o->h'.get? b=some o:=fun b o z e=>(sb.2 b fun q=>z (q▸zx)).trans e
 obtain⟨F4,k_4⟩:=F_3.turn S hL sb (m':=aJ C dx []) ⟨_,[],e',⟨n',rfl⟩,.nil⟩ s_2.toks (A4 _)
 exact⟨F4,r_3.keep kz,(k_1.trans (k_2.trans k_3)).z.trans k_4.d⟩
end
section
theorem xJ{it t:Addr}{i:Nat}{items:Array Value}{x:Value}{Q:Option Value->Shared->Prop}(hit:s.heap.IsListIter it t i)
  (ht:lE s.heap t items) (hx:items[i]? = some x)
  (hQ:∀ h',h'.IsListIter it t (i+1)->Heap.SameBut it s.heap h'->Q (some x) {s with heap:=h'}) :
  wpAny (model aa w) A (pyNext (.ref it)) Q E s:=by
 obtain⟨o,ho,hc,hd⟩:=id hit
 obtain⟨ol,hol,nl,hdl⟩:=ht
 unfold pyNext
 refine A0 (Bl (B0 (name:=Str.ofString "__next__") hit.typeIs Cw
  (B3 Cw hit.typeIs entry_listiter_next ?_ (args_listiter_next _))))
 show wpAny _ _ (field (.ref it) 0 >>= _) _ _ s
 refine A0 (An ho hd (x:=.ref t) rfl ?_)
 rw[if_neg (show ¬((Value.ref t==Value.none)=true)from Bool.false_ne_true)]
 refine A0 (An ho hd (x:=.int i 0) rfl ?_)
 refine A0 (Ax hol hdl ?_)
 simp only[Int.toNat_natCast,hx]
 refine A0 (Cg ho hd ‹s› (A1 ⟨x,rfl,A1 (hQ _ ?_ (Dh ..))⟩))
 exact⟨_,Af _ ho (Cy (Cv hd _)),(Fi ..).trans hc,by
  rw[Obj.data_mapFields hd];simp[rawInt]⟩
theorem zJ{it t:Addr}{i:Nat}{items:Array Value}{Q:Option Value->Shared->Prop}(hh:A.handled=none)
  (hit:s.heap.IsListIter it t i) (ht:lE s.heap t items) (hx:items[i]? = none)
  (hQ:∀ h',Heap.ExtBut it s.heap h'->Q none {s with heap:=h'}):wpAny (model aa w) A (pyNext (.ref it)) Q E s:=by
 obtain⟨o,ho,hc,hd⟩:=id hit
 obtain⟨ol,hol,nl,hdl⟩:=ht
 unfold pyNext
 refine A0 (Bl (B0 (name:=Str.ofString "__next__") hit.typeIs Cw
  (B3 Cw hit.typeIs entry_listiter_next ?_ (args_listiter_next _))))
 show wpAny _ _ (field (.ref it) 0 >>= _) _ _ s
 refine A0 (An ho hd (x:=.ref t) rfl ?_)
 rw[if_neg (show ¬((Value.ref t==Value.none)=true)from Bool.false_ne_true)]
 refine A0 (An ho hd (x:=.int i 0) rfl ?_)
 refine A0 (Ax hol hdl ?_)
 simp only[Int.toNat_natCast,hx]
 refine A0 (Cf (A0 (Cg ho hd ‹s› ?_)))
 show wpAny _ _ (newExc (.type "StopIteration") [] >>= _) _ _ _
 refine A0 ?_
 simp only[newExc,newTuple]
 refine A0 (Aj ?_ (by size_fits))
 refine A0 (m:=firstArgMember _ _) (Aa (a:=Value.none) (by first|rfl|(simp only[firstArgMember];rfl)) ?_)
 refine Aj ?_ (by size_fits)
 simp only[raiseNew]
 refine A0 (Fl ?_)
 first|rw[show A.in1.handled=none from hh]|rw[hh]
 refine A0 (A1 (Ed ?_))
 refine A0 (Bo (T := "StopIteration") (b:=true) ⟨_,A3 _ rfl,rfl⟩ Ev ?_)
 exact A1 (hQ _ (((Dh ..).extBut.push _).push _))
theorem lE.at{h h':Heap}{a:Addr}{items:Array Value}(x:lE h a items)(e:∀ o,h.get? a=some o->h'.get? a=some o):lE h' a items:=let⟨o,ho,r⟩:=x;⟨o,e _ ho,r⟩
theorem tT(hh:A.handled=none)(I ax:Addr)(bn:ax≠I)(items:Array Value)(Ts:Nat->Addr)(ba:Nat->Array Value)
  (hit:∀ j,j<items.size->items[j]? = some (.ref (Ts j))) (hTI:∀ j,j<items.size->Ts j≠I) :
  WalksU aa w A I (I::ax::(List.range items.size).map Ts) [I] items.size (fun j v=>j<items.size/\v=ba j)
   (fun j h=>h.IsListIter I ax j/\lE h ax items/\∀ k,k<items.size->h.IsTuple (Ts k) (ba k))
   (fun j T h=>(j<items.size/\T=Ts j)/\h.IsListIter I ax (j+1)/\lE h ax items/\∀ k,k<items.size->h.IsTuple (Ts k) (ba k)) where
 sub:=fun b hb=>by simp at hb;simp[hb]
 frame:=fun _ _ _ st hk=>⟨st.1.at fun o e=>hk I ‹s› o e,st.2.1.at fun o e=>hk ax ‹s› o e,
  fun k hk'=>(st.2.2 k hk').at fun o e=>hk (Ts k) (Ae _ (Ae _ (Bn.mpr ⟨k,Bj.mpr hk',rfl⟩))) o e⟩
 item:=fun i s Q E hi st hQ=>by
  refine xJ st.1 st.2.1 (x:=.ref (Ts i)) (hit i hi) fun h' hit' hs'=>?_
  have tup:∀ k,k<items.size->h'.IsTuple (Ts k) (ba k):=fun k hk'=>(st.2.2 k hk').extBut hs'.extBut (hTI k hk')
  exact hQ (Ts i) (ba i) h' s.toks ⟨hi,rfl⟩ (tup i hi) ⟨⟨hi,rfl⟩,hit',st.2.1.at fun o e=>hs'.extBut _ o bn e,tup⟩ fun b o hb e=>hs'.extBut b o (fun h=>hb (by simp[h])) e
 go:=fun _ _ _ _ _ s Q _ hm hQ=>wpAny_letOwnedTupleGo_listiter hm.2.1 (hQ s.heap hm.2 fun _ _ _ e=>e)
 apart:=fun j T _ hm hmem=>by
  rcases Ab.mp hmem with e|e
  ·exact hTI j hm.1.1 (hm.1.2▸e)
  ·cases e
 done:=fun s Q E st hQ=>zJ hh st.1 st.2.1 ‹s› fun h' he'=>hQ h' s.toks fun b o hb e=>he' b o (fun h=>hb (by simp[h])) e
 self:=fun _ _ _ _ st hQ=>wpAny_pyIter_listiter st.1 hQ
theorem vX{K:Frag}{C x dx:Addr}{vs:Array Value}{n:Nat}{Q:ZV}(Y:cU K C)(X:K.In s.heap)(hb:fX K C "__iter__" "list.__iter__" = true)(hx:s.heap.get? x=some (aD C dx vs n))
  (hQ:Q (.ref s.heap.objs.size) {s with heap:=s.heap.push {cls:=.type "list_iterator",data:=.fields #[.ref x,.int 0 0]}}):wpAny (model aa w) A (pyIter (.ref x)) Q E s:=by
 have L0:Looks (model aa w) s.heap (typeOf (.ref x)) (.ref C):=bT hx
 have L2:Looks (model aa w) s.heap (specialOf (.ref x) "__iter__") (some (.builtin "list.__iter__")):=L0.andThen (Bf X (Ai.mp hb))
 unfold pyIter
 refine A0 (L2.here ?_)
 show wpAny _ A (callSpecialIfBoundUnlessNone? (.ref x) "__iter__" _ >>= _) Q E s
 refine A0 (nK L2 (slot_list_iter.bind _) rfl (gY slot_list_iter.plain entry_list_iter (owner := "list") (n := "__iter__") ‹k› ‹k› (L0.andThen (Y.list X)) (args_list_iter _) ?_))
 show wpAny _ _ (do ret (<-newFields "list_iterator" [.ref x,rawInt 0])) _ _ s
 refine A0 (Aj (A1 ⟨_,rfl,?_⟩))
 exact A0 (Bu (T := "list_iterator") ⟨_,A3 _ rfl,rfl⟩ Cw.lookup (A1 hQ))
end
def fW:MO:=⟨fun vs o=>vs=[]/\∃ ps:Array Value,o={cls:=.none,data:=.fields ps}/\TriplesOk ps.toList,[]⟩
structure sN(T:Heap)(c P:Addr):Prop where
 code:∃ o vs file tf flags tg inF text tt,T.get? c=some o/\o.data=.fields vs/\vs.getD 11 .none=.ref P/\vs.getD 18 .none=.str file tf /\
  vs.getD 7 .none=.int flags tg/\vs.getD 9 .none=.bool inF/\vs.getD 10 .none=.int text tt
 tnone:T.get? P=none
 cls:∃ o vs,T.get? c=some o/\o.cls=.type "code"/\o.data=.fields vs/\vs[11]? = some (.ref P)
def iR(P:Addr)(s s':Shared):Prop:=∃ h' tk g',s'={s with heap:=h',toks:=tk,gens:=g'}/\(∀ b o,b≠P->s.heap.get? b=some o->h'.get? b=some o) /\
 (∃ ps:Array Value,h'.get? P=some {cls:=.none,data:=.fields ps}/\TriplesOk ps.toList)/\GnK s.gens g'/\s.toks<=tk
abbrev dI(q:Str×Str):PV:=.tup [.str q.1,.str q.2]
def m4(vs:List Value)(j:Nat):Addr:=match vs[j]? with|some (.ref T)=>T|_=>0
def jI(h:Heap)(vs:List Value)(j:Nat):Array Value:=match h.get? (m4 vs j)with|some ⟨_,_,.seq items _,_⟩=>items|_=>#[]
theorem vR{Z:ZP}{h:Heap}{ps:List (Str×Str)}{vs:List Value}(P:Paired (Rp Z h) (ps.map dI) vs)(j:Nat)(hj:j<vs.length) :
  ∃ a b ta tb,ps[j]? = some (a,b)/\vs[j]? = some (.ref (m4 vs j))/\h.IsTuple (m4 vs j) (jI h vs j)/\jI h vs j=#[.str a ta,.str b tb]/\¬Z (m4 vs j):=by
 obtain⟨hl,hi⟩:=a8 P
 have hp:j<ps.length:=by rw[hl,List.length_map]at hj;exact hj
 obtain⟨a,b,hq⟩:∃ a b,ps[j]=(a,b):=⟨_,_,rfl⟩
 have e1:(ps.map dI)[j]? = some (dI (a,b)):=by simp[hp,hq]
 have e2:vs[j]? = some vs[j]:=Al hj
 have r:=hi j _ _ e1 e2
 obtain⟨T,items,hT,nz,it,pr⟩:=r.tuple
 rw[hT]at e2
 have hTs:m4 vs j=T:=by unfold m4;rw[e2]
 obtain⟨o,ho,hc,n,hd⟩:=id it
 have hv:jI h vs j=items:=by
  unfold jI
  rw[hTs,ho]
  obtain⟨c,dd,d,sl⟩:=o
  dsimp only at hd
  subst hd
  rfl
 obtain⟨items⟩:=items
 obtain⟨_,_,rfl,r1,pr⟩:=aI pr
 obtain⟨_,_,rfl,r2,pr⟩:=aI pr
 cases pr
 obtain⟨ta,rfl⟩:=Rp.strI r1
 obtain⟨tb,rfl⟩:=Rp.strI r2
 exact⟨a,b,ta,tb,by simp[hp,hq],hTs▸e2,by rw[hTs,hv];exact it,hv,hTs▸nz⟩
section
variable{K:Frag}{C x dx P c:Addr}
theorem FI.tab{s s':Shared}(S:FS H.H Z env)(F:FI H Z env ρ s)(hP:H.L.lookup P=some fW)(h:iR P s s'):FI H Z env ρ s'/\Kp H.D s s':=by
 obtain⟨h',tk,g',rfl,kk,⟨ps,e,et⟩,gk,ht⟩:=h
 have dP:=(F.ld P _ hP).1
 have zP:Z P:=F.dz P dP
 have k:Kp H.D s {s with heap:=h',toks:=tk,gens:=g'}:=⟨h',tk,g',rfl,fun b o n e=>kk b o (fun q=>n (q▸dP)) e,gk,ht⟩
 refine⟨FI.led (L:=H.L) S F ⟨⟨fun b o e=>kk b o (fun q=>by have:=S.zt P zP;rw[q,this]at e;cases e) (F.top b o e),fun a z=>?_⟩,A7 F.tk ht,F.dz,fun a m e'=>?_⟩ k,k⟩
 ·by_cases q:a=P
  ·exact⟨_,q▸e⟩
  ·obtain⟨o,e⟩:=F.zex a z
   exact⟨o,kk a o q e⟩
 ·by_cases q:a=P
  ·subst q
   have e'':H.L.lookup a=some m:=e'
   rw[hP]at e'';cases e''
   exact⟨dP,_,[],e,⟨rfl,ps,rfl,et⟩,.nil⟩
  ·obtain⟨d,mo⟩:=F.ld a m e'
   exact⟨d,mo.keep (fun o e=>kk a o q e) fun b o z e=>kk b o (fun q=>z (q▸zP)) e⟩
theorem oE{M:Model}{A:Around}{E:ZV}{s:Shared}{env:Env}{c P:Addr}{ps:Array Value}{pos:Pos}{qualname:Str}{scope:Scope}{Q:ZV}(hc:env.code=.ref c)(hok:s.heap.IsCode c P ps)(htab:s.heap.TableAt c P ps)
  (hQ:∀ code h' tk ps',Heap.ExtBut P s.heap h'->h'.IsCode c P ps'->h'.TableAt c P ps'->Q code {s with heap:=h',toks:=tk}):wpAny M A (genexprCode env pos qualname scope) Q E s:=by
 cases hf:codeAmong pos ps.toList with
 |some c'=>exact wpAny_genexprCode_hit hc hok hf (hQ c' s.heap s.toks ps (Heap.ExtBut.refl _ _) hok htab)
 |none=>exact wpAny_genexprCodeX hc hok htab hf fun c' h' tk x1 _ _ x2 _ x3 _=>hQ _ h' tk _ x1 x2 x3
theorem lA{g:Array GenState}{i:Nat}{x:GenState}(h:g[i]? = some x):i<g.size:=by
 rcases C4 i g.size with h' |h'
 ·exact h'
 ·rw[Array.getElem?_eq_none h']at h;cases h
def zE(aa:Program)(w:World)(A:Around)(P:Addr)(ps:List (Str×Str))(FV:Str×Str->Value->Prop)(s:Shared)(a:Addr)(s':Shared):Prop :=
 iR P s s'/\∃ fp wr g n St,WalksS aa w A.in4 a fp wr (GenOnlyQ g) n (fun j y=>∃ q,ps[j]? = some q/\FV q y) St/\n=ps.length/\(∀ i u,St i u->u.TypeIs (.ref a) "generator")/\a∈fp/\St 0 s'/\(∀ b∈fp,b<s'.heap.objs.size)/\(∀ b∈wr,s.heap.get? b=none/\b≠P)/\s.gens.size<=g
theorem oS(n:Nat):passing (fun _=>true) n 0=List.range n:=by
 unfold passing
 rw[List.drop_zero,List.filter_eq_self]
 intro _ _;rfl
theorem rQ{s:Shared}{E:ZV}{bb:Expr}{xa xb:Str}{pa pb pt ip pos:Pos}{kt:Nat}{scope:Scope}{ps:List (Str×Str)}{FV:Str×Str->Value->Prop}(Y:cU K C)(X:K.In H.H)(hlim:H.H.NoLimit)(hb:fX K C "__iter__" "list.__iter__" = true)(M:sN H.H c P)(hc:env.code=.ref c)
  (hbf:Looks (model aa w) H.H (builtinsFor env.globals env.builtins) builtinsNs) (hcs:∃ o,H.H.get? cStatics=some o)
  (S:FS H.H Z env) (F:FI H Z env ρ s) (hP:H.L.lookup P=some fW) (hL:H.L.lookup x=some (aJ C dx (ps.map dI))) (ho:EX aa w A H Z env ρ (.Name "self" ip) (.raw (.ref x))) (hA:A.handled=none) (hroom:A.depth<recursionLimit)
  (hco:scope.isCoroutine=false) (hclos:closureFor scope env=pure []) (hcell:∀ y∈scope.names,y.2≠.cell) (h0:scope.names.lookup (".0" : Str)=some NameKind.local)
  (hxa:scope.names.lookup xa=some .local) (hxb:scope.names.lookup xb=some .local) (hab:xa≠xb) (hkind:scope.kind=.function)
  (helt:∀(A':Around) E' (code:Value) (L:Addr) a b ta tb (u:Shared) m,A'.handled=none->(a,b)∈ps->u.heap.Ns L m->m xa=some (.str a ta)->m xb=some (.str b tb)->(∀ b o,H.H.get? b=some o->u.heap.get? b=some o) ->
   wpAny (model aa w) A' (eval bb (genEnv scope [] L code builtinsNs env)) (fun y u'=>FV (a,b) y/\Keeps u u') E' u)
  (hs:∀ x,genFold (.Name "self" ip) env x=pure x) :
  wpAny (model aa w) A (eval (.GeneratorExp bb [⟨.Tuple [.Name xa pa,.Name xb pb] kt pt,.Name "self" ip,[],0⟩] scope pos) env) (fun v s'=>∃ a,v=.ref a/\zE aa w A P ps FV s a s') E s:=by
 have hTP:∀ b o,H.H.get? b=some o->b≠P:=fun b o e q=>by rw[q,M.tnone]at e;cases e
 refine Ao (A4 s.toks) ?_
 refine wpAny_GeneratorExp_walksQT hA hco hclos hcell h0 hxa hxb hab hkind hroom (B1 (ho.run s E F) (fun v s_1 h_1=>?_) fun _ _ x _=>x) hs
 obtain⟨hv,k_1⟩:=h_1
 cases hv
 have F_1:=F.kp0 k_1
 obtain⟨vs,n,ex,pr⟩:=(F_1.ld x _ hL).2.acc
 obtain⟨_,_,op,ws,eP,⟨rfl,pcs,eop,etP⟩,_⟩:∃(_:H.D P) (_:True) (op:Obj) (ws:List Value) (_:s_1.heap.get? P=some op) (_:ws=[]/\∃ ps:Array Value,op={cls:=.none,data:=.fields ps}/\TriplesOk ps.toList),True:=by
  obtain⟨d,op,ws,e,q,_⟩:=F_1.ld P _ hP
  exact⟨d,trivial,op,ws,e,q,trivial⟩
 have edP:op.data=.fields pcs:=by rw[eop]
 refine vX Y (X.keeps F_1.top) hb ex ?_
 have lim1:=hlim.keeps F_1.top
 generalize hI:s_1.heap.objs.size=I at *
 have k_2:∀ b o,s_1.heap.get? b=some o->(s_1.heap.push {cls:=.type "list_iterator",data:=.fields #[.ref x,.int 0 0]}).get? b=some o:=fun b o e=>A2 _ e
 have top_2:∀ b o,H.H.get? b=some o->(s_1.heap.push {cls:=.type "list_iterator",data:=.fields #[.ref x,.int 0 0]}).get? b=some o:=fun b o e=>k_2 b o (F_1.top b o e)
 have hok:(s_1.heap.push {cls:=.type "list_iterator",data:=.fields #[.ref x,.int 0 0]}).IsCode c P pcs:=by
  obtain⟨o,us,file,tf,flags,tg,inF,text,tt,e1,e2,e3,e4,e5,e6,e7⟩:=M.code
  exact⟨o,us,file,tf,flags,tg,inF,text,tt,op,top_2 _ _ e1,e2,e3,e4,e5,e6,e7,k_2 _ _ eP,edP,etP,hTP _ _ e1⟩
 have htab:(s_1.heap.push {cls:=.type "list_iterator",data:=.fields #[.ref x,.int 0 0]}).TableAt c P pcs:=by
  obtain⟨o,us,e1,e2⟩:=M.cls
  exact⟨⟨o,us,top_2 _ _ e1,e2⟩,by rw[<-eop];exact k_2 _ _ eP⟩
 refine⟨lim1.keeps k_2,oE hc hok htab fun code h_3 tk3 pcs' hx_3 hok3 htab3=>?_⟩
 have top_3:∀ b o,H.H.get? b=some o->h_3.get? b=some o:=fun b o e=>hx_3 b o (hTP b o e) (top_2 b o e)
 refine(hbf.keeps (h':=h_3) top_3).here ?_
 have lt:∀ b o,s_1.heap.get? b=some o->b<I:=fun b o e=>hI▸Ac e
 have hxI:x≠I:=Au (lt x _ ex)
 have hPI:P≠I:=Au (lt P _ eP)
 have zx:Z x:=F_1.dz x (F_1.ld x _ hL).1
 have prs:=vR pr
 have size3:I<h_3.objs.size:=by
  have:h_3.get? I=some _:=hx_3 I _ hPI.symm (by rw[<-hI];exact A3 _ rfl)
  exact Ac this
 have eI:h_3.get? I=some {cls:=.type "list_iterator",data:=.fields #[.ref x,.int 0 0]}:=hx_3 I _ hPI.symm (by rw[<-hI];exact A3 _ rfl)
 have hxP:x≠P:=fun q=>by
  rw[q,eP]at ex;cases ex;cases edP
 have tupP:∀ j,j<vs.length->m4 vs j≠P/\m4 vs j<I:=fun j hj=>by
  obtain⟨a,b,ta,tb,_,_,⟨o,ho,hoc,m,hod⟩,_,_⟩:=prs j hj
  exact⟨fun q=>(by rw[q,eP]at ho;cases ho;rw[edP]at hod;cases hod),lt _ _ ho⟩
 have hsz:vs.toArray.size=vs.length:=List.size_toArray
 refine⟨I,I::x::(List.range vs.toArray.size).map (m4 vs),[I],vs.toArray.size,fun j v=>j<vs.toArray.size/\v=jI s_1.heap vs j,_,_,fun _=>true,fun j v=>∃ q,ps[j]? = some q/\FV q v,rfl,fun A' hA'=>tT hA' I x hxI vs.toArray (m4 vs) (jI s_1.heap vs) (fun j hj=>?_) (fun j hj=>Au (tupP j (hsz▸hj)).2),?_,?_,?_,?_,?_,?_,?_⟩
 ·obtain⟨_,_,_,_,_,e,_⟩:=prs j (hsz▸hj)
  simpa using e
 ·rintro i v ⟨hi,rfl⟩
  obtain⟨_,_,_,_,_,_,_,e,_⟩:=prs i (hsz▸hi)
  exact⟨_,_,e⟩
 ·refine⟨⟨_,eI,rfl,rfl⟩,⟨_,hx_3 x _ hxP (k_2 _ _ ex),n,rfl⟩,fun j hj=>?_⟩
  obtain⟨_,_,_,_,_,_,it,_⟩:=prs j (hsz▸hj)
  exact it.at fun o e=>hx_3 _ o (tupP j (hsz▸hj)).1 (k_2 _ _ e)
 ·intro b hb
  show b<h_3.objs.size
  rcases Ab.mp hb with rfl|hb
  ·exact size3
  ·rcases Ab.mp hb with rfl|hb
   ·exact Nat.lt_trans (lt _ _ ex) size3
   ·obtain⟨j,hj,rfl⟩:=Bn.mp hb
    exact Nat.lt_trans (tupP j (hsz▸Bj.mp hj)).2 size3
 ·exact hlim.keeps top_3
 ·intro hm
  obtain⟨o,e⟩:=hcs
  have:=lt _ _ (F_1.top _ _ e)
  rw[List.mem_singleton.mp hm]at this
  exact At _ this
 ·intro href hhref
  have keepT:∀ u:Shared,(∀ b∈List.range h_3.objs.size,b∉[I]->∀ o,href.get? b=some o->u.heap.get? b=some o)->∀ b o,H.H.get? b=some o->u.heap.get? b=some o:=fun u hu b o e =>
   hu b (Bj.mpr (Ac (top_3 b o e))) (fun q=>Au (lt _ _ (F_1.top _ _ e)) (Ay.mp q)) o (hhref b o (top_3 b o e))
  refine⟨fun A' E' i va vb u m hA' _ _ _ _ _=>A1 ⟨rfl,u.heap,u.toks,rfl,fun _ _ e=>e⟩,fun A' E' i va vb u m hA' hp _ hns ma mb hu=>?_⟩
  obtain⟨a,b,ta,tb,e1,_,_,e2,_⟩:=prs i (hsz▸hp.1)
  have ev:(#[va,vb]:Array Value)=#[.str a ta,.str b tb]:=hp.2.trans e2
  obtain⟨rfl,rfl⟩:va=.str a ta/\vb=.str b tb:=by simpa using Az Array.toList ev
  exact wpM (helt A' E' code _ a b ta tb u m hA' (As e1) hns ma mb (keepT u hu)) (fun y u' q=>⟨⟨_,e1,q.1⟩,q.2⟩)
 ·intro a h_5 tk gs hgb hag hsz5 hk5 W hat
  rw[oS,List.length_range]at W
  have kk:∀ b o,b≠P->s_1.heap.get? b=some o->h_5.get? b=some o:=fun b o nb e=>hk5 b o (hx_3 b o nb (k_2 b o e))
  obtain⟨h1,t1,g1,rfl,kh,gk,tk1⟩:=k_1
  obtain⟨o_3,_,_,_,_,_,_,_,_,op3,_,_,_,_,_,_,_,ep3,ed3,et3,_⟩:=hok3
  refine fun ht=>⟨a,rfl,⟨h_5,_,_,rfl,fun b o nb e=>kk b o nb (kh b o (fun q=>q) e),⟨pcs',hk5 _ _ htab3.2,et3⟩,gk.trans ⟨fun i y e=>?_,fun i y e=>?_⟩,ht⟩,_,_,_,_,_,W.imp fun j y q=>?_,?_,fun i u st=>st.1.typeIs,Ah,hat,?_,?_,lX gk⟩
  ·rw[Array.getElem?_push_lt (lA e)];rw[Array.getElem?_eq_getElem (lA e)]at e;exact e
  ·rw[Array.getElem?_push]at e
   split at e
   ·cases e;exact .inr hgb
   ·exact .inl e
  ·obtain⟨i,hi,q,hq,hv⟩:=q
   have:i=j:=by
    obtain⟨h1,h2⟩:=A8.mp hi
    simpa using h2.symm
   exact⟨q,this▸hq,hv⟩
  ·rw[hsz,(a8 pr).1,List.length_map]
  ·intro b hb
   show b<h_5.objs.size
   rw[hsz5]
   rcases Ab.mp hb with rfl|hb
   ·exact Cd _
   ·rcases Ab.mp hb with rfl|hb
    ·exact C6 hag
    ·exact C6 (Nat.lt_trans (Bj.mp hb) hag)
  ·intro b hb
   have hbI:I<=b:=by
    rcases Ab.mp hb with rfl|hb
    ·exact Dw size3
    ·rcases Ab.mp hb with rfl|hb
     ·exact A4 _
     ·cases hb
   refine⟨?_,fun q=>?_⟩
   ·cases e:s.heap.get? b with
    |none=>rfl
    |some o=>exact absurd (lt _ _ (kh b o (fun q=>q) e)) (C1.mpr hbI)
   ·exact absurd (lt P _ eP) (C1.mpr (q▸hbI))
end
theorem tR(a b:Value):argsOk "sum" ⟨[a,b],[]⟩:=by unfold argsOk;kernel_rfl
def shP(P:Nat->Value->Prop):Nat->Value->Prop
 |0,_=>False
 |j+1,v=>P j v
def shS(St:Nat->Shared->Prop):Nat->Shared->Prop
 |0,_=>False
 |j+1,s=>St j s
def shV(k:Int)(val:Nat->Int):Nat->Int
 |0=>k
 |j+1=>val j
theorem j2(k:Int)(val:Nat->Int):∀ n,preSum (shV k val) (n+1)=k+preSum val n
 |0=>by simp[preSum,shV]
 |n+1=>by
  have e:=j2 k val n
  show preSum (shV k val) (n+1)+val n=k+(preSum val n+val n)
  rw[e,Int.add_assoc]
section
variable{I:Addr}{fp wr:List Addr}{G:Array GenState->Array GenState->Prop}{n:Nat}{P:Nat->Value->Prop}{St:Nat->Shared->Prop}
theorem pX(W:WalksS aa w A I fp wr G n P St):WalksS aa w A I fp wr G (n+1) (shP P) (shS St) where
 sub:=W.sub
 grefl:=W.grefl
 gtrans:=W.gtrans
 frame:=fun i s h' tk st=>by
  cases i with
  |zero=>exact st.elim
  |succ i=>exact W.frame i s h' tk st
 item:=fun i s Q E hi st hQ=>by
  cases i with
  |zero=>exact st.elim
  |succ i=>exact W.item i s Q E (Nat.lt_of_succ_lt_succ hi) st hQ
 done:=fun s Q E st hQ=>W.done s Q E st hQ
 self:=fun i s Q E st hQ=>by
  cases i with
  |zero=>exact st.elim
  |succ i=>exact W.self i s Q E st hQ
theorem tC{k:Int}{t:Tok}{val:Nat->Int}{Q:ZV}(W:WalksS aa w A.in1 I fp wr G n P St)(hst:St 0 s)(hfp:∀ b∈fp,b<s.heap.objs.size)(hval:∀ i v,P i v->∃ t,v=.int (val i) t)(hk:InLong k)
  (hfit:∀ j,j<n->InLong (val j)/\InLong (k+preSum val (j+1))) (hQ:∀ s' t',Moved wr G s s'->Q (.int (k+preSum val n) t') s'):wpAny (model aa w) A (call (.builtin "sum") [.ref I,.int k t]) Q E s:=by
 refine call_function_tree PySem.F.kind_sum PySem.F.plain_sum PySem.F.entry_sum (tR _ _) ?_
 unfold Builtin.«sum»
 simp only[List.length_cons,List.length_nil]
 rw[if_neg ‹d›]
 refine A0 (Aa (show Builtin.Builtins.bindParams "sum" ["start"] 0 ⟨[.int k t],[]⟩=pure [some (.int k t)]from ⋯) ?_)
 refine A0 (W.self 0 s _ _ hst ?_)
 dsimp only
 have fl:(decide (-(2^63)<=k)&&decide (k<2^63))=true:=by obtain⟨h1,h2⟩:=hk;simp only[Bool.and_eq_true,decide_eq_true_eq];exact⟨h1,h2⟩
 refine nL fl ?_
 refine A0 (Cf (A0 (Gj (A0 (A1 ?_)))))
 simp only[List.forIn_cons,List.forIn_nil]
 refine A0 (A0 (A0 (Bo (T := "int") (b:=false) (typeIs_int _ _ _) PySem.sub_int_str ?_)))
 simp only[Bool.false_eq_true,if_false]
 refine A1 (A0 (A0 (Bo (T := "int") (b:=false) (typeIs_int _ _ _) PySem.sub_int_bytes ?_)))
 simp only[Bool.false_eq_true,if_false]
 refine A1 (A0 (A0 (Bo (T := "int") (b:=false) (typeIs_int _ _ _) PySem.sub_int_bytearray ?_)))
 simp only[Bool.false_eq_true,if_false]
 refine A1 (A1 ?_)
 refine A0 (Aj ?_)
 have hSf:s.heap.objs.size∉fp:=fun hm=>At _ (hfp _ hm)
 have e0:preSum (shV k val) 1=k:=by show 0+k=k;rw[Int.zero_add]
 refine A1 ⟨Cb PySem.F.plain_sum_loop _,codeAny_sum_loopS (pX W) (shV k val) (fun i v q=>?_) (fun j hj=>?_) s.heap.objs.size hSf n 1 _ s.toks 0 ‹o› ‹o›
  (W.frame 0 s _ _ hst (by first|exact A4 _|exact Ad _|omega) fun b _ o e=>A2 _ e) (by rw[e0];exact A3 _ rfl) fun s' t' hm=>?_⟩
 ·cases i with
  |zero=>exact q.elim
  |succ i=>exact hval i v q
 ·cases j with
  |zero=>exact⟨hk,by rw[e0];exact hk⟩
  |succ j=>rw[j2];exact hfit j ‹o›
 ·rw[j2]
  exact hQ s' t' (hm.drop_new (by first|exact A4 _|exact Ad _|omega))
theorem iR.toks{P:Addr}{s s':Shared}(x:iR P s s')(t:Nat)(ht:s'.toks<=t):iR P s {s' with toks:=t}:=by
 obtain⟨h',tk,g',rfl,a,b,c,d⟩:=x
 exact⟨h',t,g',rfl,a,b,c,A7 d ht⟩
theorem iR.moved{P:Addr}{s s' s₃:Shared}{wr:List Addr}{g:Nat}(x:iR P s s')(m:Moved wr (GenOnlyQ g) s' s₃)(hw:∀ b∈wr,s.heap.get? b=none/\b≠P)(hg:s.gens.size<=g):iR P s s₃:=by
 obtain⟨h',tk,g',rfl,kk,⟨ps,e,et⟩,gk,ht⟩:=x
 obtain⟨h_3,g_3,d_3,t_3,o_3⟩:=s₃
 have e1:d_3=s.drawn:=m.drawn
 have e2:o_3=s.os:=m.os
 subst e1 e2
 refine⟨h_3,t_3,g_3,rfl,fun b o nb e=>m.heap b o (fun q=>by rw[(hw b q).1]at e;cases e) (kk b o nb e),⟨ps,m.heap P _ (fun q=>(hw P q).2 rfl) e,et⟩,⟨fun i y e=>?_,fun i y e=>?_⟩,A7 ht m.toks⟩
 ·have hi:i<s.gens.size:=lA e
  rcases m.gens with q|⟨⟨_,q⟩,_⟩
  ·exact(Az (·[i]?) q).trans (gk.1 i y e)
  ·exact(q i (Au (Bh hi hg))).trans (gk.1 i y e)
 ·rcases m.gens with q|⟨⟨_,q⟩,qb⟩
  ·exact gk.2 i y ((Az (·[i]?) q).symm.trans e)
  ·by_cases hi:i=g
   ·subst hi;exact .inr (qb y e)
   ·exact gk.2 i y ((q i hi).symm.trans e)
end
section
variable{K:Frag}{C x dx P c:Addr}
theorem EXd.accLen{f:Addr}{nm:Str}{aj pos:Pos}{o:Expr}{l:List PV}{k:PV}{t:Int}(Y:cU K C)(X:K.In H.H)(S:FS H.H Z env)(R:Rm (n+1) A)(hm:iJ K C "__len__" f=true)(hL:H.L.lookup x=some (aJ C dx l))(hd:H.L.lookup dx=some (a9 ["_initial_size"] [k]))(hf:NM aa w A H Z env nm (.builtin "len"))(ho:EX aa w A H Z env ρ o (.raw (.ref x)))
  (h0:0<=t) (h1:t<2^63) (hc:∀ A',Rm n A'->CBd aa w A' H Z (.ref f) [.raw (.ref x)] [] (.int t) H.L)
  (hs:starEach [o] env=(false,eval o env)::starEach [] env)
  (he:eval (.Call (.Name nm aj) [o] [] pos) env=(do callWith pos (<-eval (.Name nm aj) env) [] (backTo pos (starEach [o] env)) (backToKw pos (keywordEach [] env)))):EXd aa w A H Z env ρ (.Call (.Name nm aj) [o] [] pos) (.int t) H.L:=by
 refine⟨fun s E F=>?_⟩
 refine Call_ (wpM (hf s E ρ aj F) (fun u s' q=>?_)) he
 obtain⟨rfl,rfl⟩:=q
 refine callWith_builtin1 (wpM ((LX.cons ho LX.nil hs).run s' E F) (fun vs s_2 h_2=>?_)) hs rfl
 obtain⟨pa,k_2⟩:=h_2
 obtain⟨_,_,rfl,r,pa⟩:=aI pa
 cases pa
 cases r
 have F_2:=F.kp0 k_2
 obtain⟨vs,m,ex,pr⟩:=(F_2.ld x _ hL).2.acc
 obtain⟨es,m',ws,br,hi,pw⟩:=F_2.toGS.ins hd
 obtain⟨e1,e2⟩:=A6.mp hm
 refine Fe kind_len plain_len entry_len (args_len1 _) ?_
 unfold Builtin.«len»
 refine A0 (m:=oneArg "len" _) (A1 ?_)
 refine A0 (special_fn (X.keeps F_2.top) (ox:=aD C dx vs.toArray m) (od:=some (dictOf es m')) ⟨ex,rfl,rfl,br⟩ (Ai.mp e1) (Ai.mp e2) (wpM (hc A.in1 R.in1 s_2 E [.ref x] F_2.toGS (.cons (.raw _) .nil)) (fun r s₃ h_3=>?_)))
 obtain⟨rv,G_3,k_3⟩:=h_3
 obtain⟨tk,rfl⟩:=Rp.intI rv
 refine A0 (A5 (A1 ?_))
 refine A0 (D6 ?_)
 show wpAny _ _ (if t<0 then _ else _) _ _ _
 rw[if_neg ‹o›]
 show wpAny _ _ (if t≥2^63 then _ else _) _ _ _
 rw[if_neg ‹o›]
 refine A0 (Gj (A1 ⟨_,rfl,.int _ _,?_,?_⟩))
 ·exact(F_2.led S G_3 k_3).kp0 (Kp.toks _ _ _)
 ·exact k_2.z.trans (k_3.trans (Kp.toks _ _ _))
theorem EXd.accStr{f:Addr}{nm:Str}{aj pos:Pos}{o:Expr}{l:List PV}{k:PV}{t:Str}(Y:cU K C)(X:K.In H.H)(S:FS H.H Z env)(R:Rm (n+1) A)(hm:iJ K C "__str__" f=true)(hL:H.L.lookup x=some (aJ C dx l))(hd:H.L.lookup dx=some (a9 ["_initial_size"] [k]))(hf:NM aa w A H Z env nm (.type "str"))(ho:EX aa w A H Z env ρ o (.raw (.ref x)))
  (hc:∀ A',Rm n A'->CBd aa w A' H Z (.ref f) [.raw (.ref x)] [] (.str t) H.L)
  (hs:starEach [o] env=(false,eval o env)::starEach [] env)
  (he:eval (.Call (.Name nm aj) [o] [] pos) env=(do callWith pos (<-eval (.Name nm aj) env) [] (backTo pos (starEach [o] env)) (backToKw pos (keywordEach [] env)))):EXd aa w A H Z env ρ (.Call (.Name nm aj) [o] [] pos) (.str t) H.L:=by
 refine⟨fun s E F=>?_⟩
 refine Call_ (wpM (hf s E ρ aj F) (fun u s' q=>?_)) he
 obtain⟨rfl,rfl⟩:=q
 refine callWith_type1 (wpM ((LX.cons ho LX.nil hs).run s' E F) (fun vs s_2 h_2=>?_)) hs rfl
 obtain⟨pa,k_2⟩:=h_2
 obtain⟨_,_,rfl,r,pa⟩:=aI pa
 cases pa
 cases r
 have F_2:=F.kp0 k_2
 obtain⟨vs,m,ex,pr⟩:=(F_2.ld x _ hL).2.acc
 obtain⟨es,m',ws,br,hi,pw⟩:=F_2.toGS.ins hd
 obtain⟨e1,e2⟩:=A6.mp hm
 refine kso_call (by have:=R.un;show A.units+1+1<cLine;omega) (X.keeps F_2.top) (ox:=aD C dx vs.toArray m) (od:=some (dictOf es m')) ⟨ex,rfl,rfl,br⟩ (Ai.mp e1) e2 (wpM (hc A.in1.in1 R.in2 s_2 E [.ref x] F_2.toGS (.cons (.raw _) .nil)) (fun r s₃ h_3=>?_))
 obtain⟨rv,G_3,k_3⟩:=h_3
 obtain⟨tk,rfl⟩:=Rp.strI rv
 exact⟨.str _ _,F_2.led S G_3 k_3,k_2.z.trans k_3⟩
end
section
def AX(aa:Program)(w:World)(A:Around)(H:Ctx)(Z:ZP)(env:Env)(ρ:List (Str×PV))(args:List (Bool×Sem Value))(ps:List PV):Prop :=
 ∀ s (E:ZV) f,FI H Z env ρ s->wpAny (model aa w) A (evalArgs f true args []) (fun x s'=>x.kw=[]/\Paired (Rp Z s'.heap) ps x.pos/\Kp N0 s s') E s
theorem AX.star{e:Expr}{sp pos:Pos}{ps:List PV}(h:EX aa w A H Z env ρ e (.tup ps))(hz:ps.length<=1000):AX aa w A H Z env ρ (backTo pos (starEach [.Starred e sp] env)) ps:=by
 intro s E f F
 rw[arm_starEach_Starred]
 unfold evalArgs
 refine A0 (A0 (wpM (h.run s E F) (fun v s_1 h_1=>A0 (Ag (A1 (A0 (A1 ?_)))))))
 obtain⟨hv,k⟩:=h_1
 obtain⟨a,items,rfl,nz,it,P⟩:=hv.tuple
 have sz:items.size=ps.length:=by have:=(a8 P).1;simpa using this
 refine A5 ?_
 refine A0 (A1 (A0 ?_))
 refine A0 ?_
 unfold notIterableAtAll
 refine A0 (Bu it.typeIs Dq.lookup (A1 ?_))
 obtain⟨o,e1,e2,n,e3⟩:=it
 rw[if_neg (show ¬(false=true)from by decide)]
 refine A5 (wpAny_collect_seq a (.inr rfl) e1 e2 e3 (fun h' hk=>?_) (by rw[sz];exact A7 hz ‹d›))
 have k2:Kp N0 s_1 {s_1 with heap:=h'}:=Kp.mk (tk:=s_1.toks) fun b o _ e=>hk b o e
 exact A1 ⟨rfl,Paired.kp0 P k2,k.trans k2⟩
theorem EXd.accMeth{K:Frag}{C x dx f:Addr}{name:Str}{o:Expr}{es:List Expr}{aq pos:Pos}{pl:Sem Bool}{l ps:List PV}{k r:PV}{L':Led}(Y:cU K C)(X:K.In H.H)(S:FS H.H Z env)(hm:iJ K C name f=true)(hf:∃ o fd,H.H.get? f=some o/\o.data=.func fd)
  (hL:H.L.lookup x=some (aJ C dx l)) (hd:H.L.lookup dx=some (a9 ["_initial_size"] [k])) (hn:cV ["_initial_size"] [k] name=none) (ho:EX aa w A H Z env ρ o (.raw (.ref x))) (ha:AX aa w A H Z env ρ (backTo pos (starEach es env)) ps)
  (hc:CBd aa w A H Z (.ref f) (.raw (.ref x)::ps) [] r L')
  (hev:eval (.Call (.Attribute o name aq) es [] pos) env=(do
   let ov <-eval o env
   standAt aq.atName
   let(f,first) <-holding [ov] (getMethod ov name pl)
   callWith pos f first (backTo pos (starEach es env)) [])) :
  EXd aa w A H Z env ρ (.Call (.Attribute o name aq) es [] pos) r L':=by
 refine⟨fun s E F=>?_⟩
 refine Br (pl:=pl) (wpM (ho.run s E F) (fun v s_1 h_1=>?_)) hev
 obtain⟨hv,k_1⟩:=h_1
 cases hv
 have F_1:=F.kp0 k_1
 obtain⟨vs1,n_1,e_1,_⟩:=((F_1.ld x _ hL).2).acc
 obtain⟨es',m,ws,br,hi,pw⟩:=F_1.toGS.ins hd
 obtain⟨h1,h2⟩:=A6.mp hm
 obtain⟨of,fd,hof,hfd⟩:=hf
 refine oW Y (X.keeps F_1.top) e_1 br (Ai.mp h1) (t := "function") (looks_typeIn (X.keeps F_1.top) (Ai.mp h2)) ‹k› (by rw[hi.get,cG (ps:=[k]) (by rw[(a8 pw).1]) hn]) ?_
 refine E0 (o:=of) (fd:=fd) (wpM (ha s_1 E _ F_1) (fun a s_2 h_2=>?_))
 obtain⟨hkw,pa,k_2⟩:=h_2
 have F_2:=F_1.kp0 k_2
 rw[hkw]
 refine⟨⟨F_2.top _ _ hof,hfd⟩,wpM (hc s_2 E _ F_2.toGS (.cons (.raw _) pa)) (fun y s₃ h_3=>?_)⟩
 exact⟨h_3.1,F_2.led S h_3.2.1 h_3.2.2,k_1.z.trans (k_2.z.trans h_3.2.2)⟩
theorem AX.of{es:List Expr}{pos:Pos}{ps:List PV}(hl:LX aa w A H Z env ρ pos es ps)(hh:(backTo pos (starEach es env))=[]\/∃ y r,backTo pos (starEach es env)=(false,y)::r):AX aa w A H Z env ρ (backTo pos (starEach es env)) ps:=fun s E f F=>eG hl F hh
theorem EXd.cmp{l r:Expr}{op:CmpOp}{pos:Pos}{p q y:PV}{L:Led}(S:FS H.H Z env)(hl:EXd aa w A H Z env ρ l p L)(hr:EX aa w A (H.at L) Z env ρ r q)(ho:O2 aa w A (H.at L) Z (compareOp op) p q y)(hm:behindInMarks op r=false)(hkeep:∀{s s':Shared} {v:Value},Kp N0 s s'->Rp Z s.heap p v->Rp Z s'.heap p v:=fun k r=>r.kp0 k):EXd aa w A H Z env ρ (.Compare l [op] [r] pos) y L:=by
 refine⟨fun s E F=>?_⟩
 refine Ep (wpM (hl.run s E F) (fun v s_1 h_1=>wpM (hr.run s_1 E h_1.2.1) (fun u s_2 h_2=>wpM (ho s_2 E v u (h_1.2.1.kp0 h_2.2).toGS (h_1.1.kp0 h_2.2) h_2.1) (fun z s₃ h_3=>⟨h_3.1,(h_1.2.1.kp0 h_2.2).kp0 h_3.2,h_1.2.2.trans (h_2.2.z.trans h_3.2.z)⟩)))) hm
end
section
variable{K:Frag}{C x dx f:Addr}{name:Str}{vs:Array Value}{n:Nat}
theorem tP{Q:ZV}{expr:Bool}{es:List DictEntry}{k:Nat}(Y:cU K C)(X:K.In s.heap)(hx:s.heap.get? x=some (aD C dx vs n))(hd:s.heap.get? dx=some (dictOf es k))(hm:iJ K C name f=true)
  (hgf:specialIn K (.ref f) "__get__" = some (some (.builtin "function.__get__"))) (ht:takesIn K (.ref f)=some false) (hc:copiedNames.contains name=false)
  (hl:getL name es=some none) (h:Q (.ref s.heap.objs.size) {s with heap:=s.heap.push (methodObj (.ref f) (.ref x)),toks:=s.toks+1}):wpAny (model aa w) A (getAttr (.ref x) name expr) Q E s:=by
 obtain⟨cd,hcl,hmr,hdt,_⟩:=Y.mro
 have L0:Looks (model aa w) s.heap (typeOf (.ref x)) (.ref C):=bT hx
 obtain⟨h1,h2⟩:=A6.mp hm
 have hf:=findObj_fn (K:=K) (C:=C) (name:=name) (od:=dictOf es k) (by unfold hasDictIn;rw[hcl];exact hdt) (Ai.mp h1) hgf ht hc (show lookIn name (dictOf es k)=_ from hl)
 unfold getAttr getAttrBy
 refine A0 (Eo (A5 (A0 (Bq (s:={s with toks:=s.toks+1}) L0 (A0 (Bq (s:={s with toks:=s.toks+1}) (Bf X Y.ga) ?_))))))
 dsimp only
 rw[show(onTheHeap (.ref C)&&Value.builtin "list.__getattribute__" == Value.builtin "object.__getattribute__")=false from by rw[show(Value.builtin "list.__getattribute__" == Value.builtin "object.__getattribute__")=false from by decide +kernel,Bool.and_false],if_neg ‹d›]
 unfold getAttrByItsOwn hookBefore
 rw[if_pos (show onTheHeap (.ref C)=true from rfl)]
 refine A0 (Bq (s:={s with toks:=s.toks+1}) (Bf X Y.hk) (A0 (Bl (A5 ?_))))
 unfold callGetattribute
 rw[show(expr&&onTheHeap (Value.builtin "list.__getattribute__"))=false from Bool.and_false _,if_neg ‹d›]
 unfold boundAndCalled
 rw[iV.bind]
 refine A0 (A1 ?_)
 refine gY (s:={s with toks:=s.toks+1}) iV.plain mD (owner := "list") (n := "__getattribute__") ‹k› ‹k› (L0.andThen (Y.list X)) (q6 _ _) ?_
 unfold Builtin.«object.__getattribute__»
 refine A0 (Aa (a:=(.ref x,[.str name s.toks])) ⋯ ?_)
 dsimp only
 refine A0 (A1 (A0 (Bq (s:={s with toks:=s.toks+1}) L0 (A0 (Bq (s:={s with toks:=s.toks+1}) (looks_find X ⟨hx,rfl,rfl,hd⟩ hf) ?_)))))
 show wpAny _ _ (holding [.ref f] (call (.builtin "function.__get__") [.ref f,.ref x,.ref C]) >>= ret) _ _ _
 refine A0 (A5 (B6 (fn_get (s:={s with toks:=s.toks+1}) X (Ai.mp h2) (A1 ⟨_,rfl,?_⟩))))
 show wpAny _ _ (handedOut _) _ _ _
 rw[handedOut_of rfl]
 exact A1 h
end
section
theorem EXd.accStar{K:Frag}{C x dx f:Addr}{name:Str}{o e:Expr}{sp aq pos:Pos}{l ps:List PV}{k r:PV}{L':Led}(Y:cU K C)(X:K.In H.H)(S:FS H.H Z env)(hm:iJ K C name f=true)(hf:∃ o fd,H.H.get? f=some o/\o.data=.func fd)
  (hgf:specialIn K (.ref f) "__get__" = some (some (.builtin "function.__get__"))) (ht:takesIn K (.ref f)=some false) (hcn:copiedNames.contains name=false)
  (hL:H.L.lookup x=some (aJ C dx l)) (hd:H.L.lookup dx=some (a9 ["_initial_size"] [k])) (hn:cV ["_initial_size"] [k] name=none) (ho:EX aa w A H Z env ρ o (.raw (.ref x))) (ha:EX aa w A H Z env ρ e (.tup ps)) (hz:ps.length<=1000)
  (hc:CBc aa w A H Z (.ref f) (.raw (.ref x)::ps) [] r L')
  (hb:attributeBase o name env (eval o env)=eval o env) :
  EXd aa w A H Z env ρ (.Call (.Attribute o name aq) [.Starred e sp] [] pos) r L':=by
 refine⟨fun s E F=>?_⟩
 have hev:eval (.Call (.Attribute o name aq) [.Starred e sp] [] pos) env=(do
   let ov <-attributeBase o name env (eval o env)
   standAt aq.atName
   methodCall o name aq pos env ov 1 (backTo pos (starEach [.Starred e sp] env)) []):=rfl
 rw[hev,hb]
 refine A0 (wpM (ho.run s E F) (fun v s_1 h_1=>A0 (Ag ?_)))
 obtain⟨hv,k_1⟩:=h_1
 cases hv
 have F_1:=F.kp0 k_1
 obtain⟨vs1,n_1,e_1,_⟩:=((F_1.ld x _ hL).2).acc
 obtain⟨es',m,ws,br,hi,pw⟩:=F_1.toGS.ins hd
 obtain⟨of,fd,hof,hfd⟩:=hf
 unfold methodCall calleeOf methodCallPos
 rw[show methodCallForm 1 (backTo pos (starEach [.Starred e sp] env)) []=false from rfl,if_neg ‹d›]
 refine A0 (A5 (A0 (tP Y (X.keeps F_1.top) e_1 br hm hgf ht hcn (by rw[hi.get,cG (ps:=[k]) (by rw[(a8 pw).1]) hn]) (A1 ?_))))
 refine A0 (A1 ?_)
 have k_2:Kp N0 s_1 {s_1 with heap:=s_1.heap.push (methodObj (.ref f) (.ref x)),toks:=s_1.toks+1}:=iO _ _ _
 have hq:(s_1.heap.push (methodObj (.ref f) (.ref x))).get? s_1.heap.objs.size=some (methodObj (.ref f) (.ref x)):=A3 _ rfl
 unfold callWith
 refine A0 (A5 (wpM (AX.star (sp:=sp) (pos:=pos) ha hz _ E _ (F_1.kp0 k_2)) (fun a s₃ h_3=>A0 (Ag ?_))))
 obtain⟨hkw,pa,k_3⟩:=h_3
 have F_3:=(F_1.kp0 k_2).kp0 k_3
 have hq3:=k_3.get (fun q=>q) hq
 have lk:Looks (model aa w) s₃.heap (keeperOf (.ref s_1.heap.objs.size)) .boundFrame:=(Cn hq3).andThen ((Cn (F_3.top _ _ hof)).andThen (by rw[hfd];exact Looks.now))
 refine A0 (lk.here ?_)
 show wpAny _ _ (do let r <-operate _ (PySem.call (.ref s_1.heap.objs.size) ([]++a.pos) a.kw);holding [r] point;pure r) _ _ _
 rw[hkw,List.nil_append]
 refine A0 (wpAny_operateT (B6 (ks_codeAny_call_bound hq3 (Ca (hc s₃ _ F_3.toGS (.cons (.raw _) pa)) fun r s' q=>?_))))
 rcases r with e|(v|_|_|_) <;> first|exact q.elim|skip
 exact A0 (A5 (Gi (A1 ⟨q.1,F_3.led S q.2.1 q.2.2,k_1.z.trans (k_2.z.trans (k_3.z.trans q.2.2))⟩)))
end
local macro_rules | `(tactic|walk_at "lk")=>`(tactic|first
 |with_reducible exact Lk.here
 |(with_reducible refine Lk.there ?_ (by kernel_rfl);walk_at "lk")
 |(with_reducible refine Lk.capt (by kernel_rfl) ?_;walk_at "lk"))
local macro_rules | `(tactic|walk_at "nm")=>`(tactic|(refine EX.nm (by assumption) ?_ (by kernel_rfl);walk_at "lk"))
local macro_rules | `(tactic|walk_at "sub")=>`(tactic|first|exact Sub.nil|(refine Sub.cons (by walk_at "lk") ?_;walk_at "sub"))
structure SmK(T:Heap)(K:Frag)(C fI fS f1 f2 fC fF:Addr):Prop where
 lim:T.NoLimit
 inn:K.In T
 mak:jH K C fI=true
 at_:(["a","b","b2j","bjunk","isjunk","autojunk"]:List Str).all (fun n=>jB K C n)=true
 st:(["isjunk","a","b","autojunk","matching_blocks","opcodes","fullbcount","b2j","bjunk","bpopular"]:List Str).all (fun n=>gQ K C n)=true
 mS:dT K C "set_seqs" fS=true
 m1:dT K C "set_seq1" f1=true
 m2:dT K C "set_seq2" f2=true
 mC:dT K C "_SequenceMatcher__chain_b" fC=true
 mF:dT K C "find_longest_match" fF=true
 dfI:cB T smInitB smInitS ["self","isjunk","a","b","autojunk"] fI
 dfS:cB T smSeqsB smSeqsS ["self","a","b"] fS
 df1:cB T smSeq1B smSeq1S ["self","a"] f1
 df2:cB T smSeq2B smSeq2S ["self","b"] f2
 dfC:cB T smChainB smChainS ["self"] fC
 dfF:cB T smFindB smFindS ["self","alo","ahi","blo","bhi"] fF
 bI:aV T fI 4 [] ["self","isjunk","a","b","autojunk"] [.bool true]
 bS:aV T fS 3 [] ["self","a","b"] []
 b1:aV T f1 2 [] ["self","a"] []
 b2:aV T f2 2 [] ["self","b"] []
 bC:aV T fC 1 [] ["self"] []
 bF:aV T fF 1 [] ["self","alo","ahi","blo","bhi"] [.int 0,.none,.int 0,.none]
theorem cF{P:Str->Bool}{l:List Str}(h:l.all P=true){n:Str}(hn:l.any (fun y=>y==n)=true):P n=true:=by
 obtain⟨y,hy,e⟩:=List.any_eq_true.mp hn
 exact Ai.mp e▸A9.mp h y hy
def kF:List Str:=["isjunk","a","b","autojunk"]
def kD:List PV:=[.none,.none,.none,.bool true]
def pB:List Str:=["isjunk","a","b","autojunk","matching_blocks","opcodes"]
def pH(ah:Str):List PV:=[.none,.str ah,.none,.bool true,.none,.none]
section
variable{T:Heap}{K:Frag}{C fI fS f1 f2 fC fF x dx:Addr}{Z D:ZP}{L:Led}{tk:Nat}
theorem SXs.last{H:Ctx}{env:Env}{ρ ρ':List (Str×PV)}{st:Stmt}{L_1 L₂:Led}(h:SX aa w A H Z env ρ st (.next L_1 ρ'))(e:L_1=L₂):SXs aa w A H Z env ρ [st] (.next L₂ ρ'):=e▸SXs.one h
theorem SXs.lastF{H:Ctx}{env:Env}{ρ ρ' ρ'':List (Str×PV)}{st:Stmt}{L_1 L₂:Led}(h:SX aa w A H Z env ρ st (.next L_1 ρ'))(e:L_1=L₂)(hs:Sub ρ'' ρ'):SXs aa w A H Z env ρ [st] (.next L₂ ρ''):=(SXs.last h e).next_forget hs
theorem SXs.led{H:Ctx}{env:Env}{ρ:List (Str×PV)}{ss:List Stmt}{L_1 L₂:Led}{o:Out}(e:L_1=L₂)(h:SXs aa w A (H.at L₂) Z env ρ ss o):SXs aa w A (H.at L_1) Z env ρ ss o:=e▸h
theorem xG(M:SmK T K C fI fS f1 f2 fC fF)(R:Rm 1 A)(hz:∀ a,Z a->T.get? a=none)(ah:Str) :
  CBc aa w A ⟨T,D,(dx,a9 kF kD)::L,tk⟩ Z (.ref f1) [aG C x dx,.str ah] [] .none ((dx,a9 pB (pH ah))::L):=by
 refine CBc.mk (n:=0) (out:=.next ((dx,a9 pB (pH ah))::L) [("self",aG C x dx),("a",.str ah)]) M.lim M.df1 M.b1 ⋯ R hz rfl rfl rfl fun A' Z' env R' S eo=>?_
 show SXs aa w A' ⟨T,D,(dx,a9 kF kD)::L,0⟩ Z' env [("self",aG C x dx),("a",.str ah)] smSeq1B _
 have X:K.In (Ctx.H ⟨T,D,(dx,a9 kF kD)::L,0⟩):=M.inn
 unfold smSeq1B
 refine SXs.cons (SX.doc (by unfold interactive;rw[S.fn];rfl)) ?_
 refine SXs.cons (SX.ite (b:=false) (TX.cmp (p:=.str ah) ‹nm› (EX.attr (ns:=kF) (ps:=kD) (p:=.none) X ‹nm› (by rw[List.lookup_cons];simp) ⋯ (cF M.at_ ⋯) rfl rfl (fun _ _=>rfl)) (O2.isNone rfl) rfl) (fun h=>by cases h) (fun _=>SXs.nil)) ?_
 refine SXs.cons (SX.as1 (EX.d (p:=.str ah) ‹nm›) (AS.attr (ns:=kF) (ps:=kD) S X ‹nm› rfl (cF M.st ⋯) ‹k›) rfl rfl rfl) ?_
 refine SXs.last (SX.as2 (EX.d EX.cnone) (AS.attr S X ‹nm› rfl (cF M.st ⋯) ‹k›) (AS.attr S X ‹nm› rfl (cF M.st ⋯) ‹k›) rfl rfl rfl) ?_
 exact Az (fun m=>(dx,m)::L) ⋯
end
section
open Lean Meta Elab Tactic
def nthS(l:List Stmt)(i:Nat):Stmt:=l.getD i (.Pass ⟨0,0,0,0⟩)
def lW:Stmt:=by
 run_tac do
  let g <-getMainGoal
  let e <-ofExceptKernelException (Kernel.whnf (<-getEnv) (<-getLCtx) (mkApp2 (mkConst ``nthS) (mkConst ``smChainB) (mkRawNatLit 2)))
  g.assign e
def eB(l:List Nat):List (Nat×List Int):=l.zipIdx.foldl (fun bs a=>g7 bs a.1 (a.2:Int)) []
def lS(bs:List (Nat×List Int)):List (Str×PV):=bs.map fun b=>(ch b.1,.lst (b.2.map .int))
theorem pQ:∀(bs:List (Nat×List Int)) (c:Nat) (i:Int),(g7 bs c i).length<=bs.length+1/\∀ n,(∀ b∈bs,b.2.length<=n)->∀ b∈g7 bs c i,b.2.length<=n+1
 |[],c,i=>⟨A4 _,fun n _ b hb=>by rw[g7,List.mem_singleton]at hb;subst hb;exact B9 (Ap _)⟩
 |(d,is)::r,c,i=>by
  unfold g7
  split
  ·refine⟨Ad _,fun n h b hb=>?_⟩
   rcases Ab.mp hb with rfl|hb
   ·show(is++[i]).length<=_
    rw[List.length_append];exact B9 (h _ Ah)
   ·exact Du (h b (Ae _ hb))
  ·obtain⟨a,b⟩:=pQ r c i
   refine⟨B9 a,fun n h x hx=>?_⟩
   rcases Ab.mp hx with rfl|hx
   ·exact Du (h _ Ah)
   ·exact b n (fun y hy=>h y (Ae _ hy)) x hx
section
theorem FI.better{s:Shared}{g dx:Addr}{ns ns':List Str}{ps:List PV}{p:PV}{x nm:Str}{L:Led}(F:FI (H.at ((dx,a9 ns (eL ns' ps nm (.raw (.ref g))))::L)) Z env ((x,.raw (.ref g))::ρ) s)(r:Rp Z s.heap p (.ref g)) :
  FI (H.at ((dx,a9 ns (eL ns' ps nm p))::L)) Z env ((x,p)::ρ) s:=by
 have rl:∀{v:Value},Rp Z s.heap (.raw (.ref g)) v->Rp Z s.heap p v:=fun q=>by cases q;exact r
 have pp:∀{ns:List Str} {ps:List PV} {vs:List Value},Paired (Rp Z s.heap) (eL ns ps nm (.raw (.ref g))) vs->Paired (Rp Z s.heap) (eL ns ps nm p) vs:=by
  intro ns
  induction ns with
  |nil=>intro ps vs h;cases h with
   |cons a b=>exact .cons (rl a) b
  |cons y ns ih =>
   intro ps vs h
   cases ps with
   |nil=>cases h with
    |cons a b=>exact .cons (rl a) b
   |cons q ps =>
    unfold eL at h ⊢
    cases e:(y==nm)with
    |true=>rw[e,if_pos rfl]at h;rw[if_pos rfl];cases h with
     |cons a b=>exact .cons (rl a) b
    |false=>rw[e,if_neg ‹d›]at h;rw[if_neg ‹d›];cases h with
     |cons a b=>exact .cons a (ih b)
 refine⟨⟨F.toGT,F.tk,F.dz,fun a m e=>?_⟩,?_,fun y q e lk=>?_,F.zc,F.lf⟩
 ·have e:List.lookup a ((dx,a9 ns (eL ns' ps nm p))::L)=some m:=e
  rw[List.lookup_cons]at e
  by_cases q:a=dx
  ·subst q
   simp at e;subst e
   obtain⟨d,o,vs,e1,e2,e3⟩:=F.ld a (a9 ns (eL ns' ps nm (.raw (.ref g)))) (by show List.lookup a ((a,_)::L)=_;rw[List.lookup_cons];simp)
   exact⟨d,o,vs,e1,e2,pp e3⟩
  ·rw[beq_eq_false_iff_ne.mpr q]at e
   exact F.ld a m (by show List.lookup a ((dx,_)::L)=_;rw[List.lookup_cons,beq_eq_false_iff_ne.mpr q];exact e)
 ·obtain⟨m,hn,hm⟩:=F.ns
  refine⟨m,hn,fun y q e lk=>?_⟩
  rcases cW (p:=.raw (.ref g)) e with⟨rfl,rfl⟩|⟨_,e⟩
  ·obtain⟨v,e1,e2⟩:=hm y _ Lk.here lk
   exact⟨v,e1,rl e2⟩
  ·exact hm y q e lk
 ·rcases cW (p:=.raw (.ref g)) e with⟨rfl,rfl⟩|⟨_,e⟩
  ·obtain⟨k,c,v,e1,e2,e3⟩:=F.cl y _ Lk.here lk
   exact⟨k,c,v,e1,e2,rl e3⟩
  ·exact F.cl y q e lk
theorem nD{l:List Nat}{i c:Nat}(h:l[i]? = some c):(l.zipIdx.take (i+1)).foldl (fun bs a=>g7 bs a.1 (a.2:Int)) []=g7 ((l.zipIdx.take i).foldl (fun bs a=>g7 bs a.1 (a.2:Int)) []) c (i:Int):=by
 have:l.zipIdx[i]? = some (c,i):=by rw[List.getElem?_zipIdx,h];simp
 rw[List.take_add_one,this,Option.toList_some,List.foldl_append];rfl
theorem j5{y:Addr}:∀{ρ:List (Str×PV)},(∀ q∈ρ,hU y q.2)->∀ z p,ρ.lookup z=some p->hU y p
 |[],_,z,p,e=>by cases e
 |(a,q)::r,h,z,p,e=>by
  rw[a7]at e
  by_cases n:z=a
  ·rw[if_pos n]at e;cases e;exact h _ Ah
  ·rw[if_neg n]at e;exact j5 (fun q hq=>h q (Ae _ hq)) z p e
theorem PlainL.keep1{h h':Heap}{a:Addr}{its:Array Value}(x:PlainL h a its)(k:∀ o,h.get? a=some o->h'.get? a=some o):PlainL h' a its:=let⟨o,n,e,r⟩:=x;⟨o,n,k o e,r⟩
def bsI(l:List Nat)(i:Nat):List (Nat×List Int):=(l.zipIdx.take i).foldl (fun bs a=>g7 bs a.1 (a.2:Int)) []
theorem sC{l:List Nat}:∀{i:Nat},i<=l.length->(bsI l i).length<=i/\∀ b∈bsI l i,b.2.length<=i
 |0,_=>⟨A4 0,fun b hb=>by cases hb⟩
 |i+1,h=>by
  obtain⟨a,b⟩:=sC (l:=l) (Nat.le_of_succ_le h)
  have hc:l[i]? = some l[i]:=Al h
  have e:bsI l (i+1)=g7 (bsI l i) l[i] (i:Int):=nD hc
  rw[e]
  obtain⟨c,d⟩:=pQ (bsI l i) l[i] (i:Int)
  exact⟨A7 c (B9 a),d i b⟩
theorem tY{C x dx g:Addr}{text:Str}{s:Shared}{E:ZV}(S:FS H.H Z env)(eo:EO env smChainS.names)(hA:A.handled=none)(hsm:∃ o,H.H.get? sysModules=some o)(he:Bi H.H "enumerate" (.type "enumerate"))
  (hL:∀ y a m,H.L.lookup a=some m->∀ p∈m.ps,hU y p) (F:FI H Z env [("b2j",.raw (.ref g)),("b",.str text),("self",aG C x dx)] s) (hg:s.heap.DictOf (strKind aa w) g []) (ng:¬Z g) (gT:H.H.get? g=none)
  (hx:text.cps.all (· < 128)=true) (bo:text.length<=100) (xs:s.heap.get? x=some (instObj C dx)) :
  wpAny (model aa w) A (exec lW env) (fun f s'=>f=.next/\FI H Z env [("b2j",.raw (.ref g)),("b",.str text),("self",aG C x dx)] s' /\
   (∃ au,s'.heap.DictOf (strKind aa w) g au/\BL s'.heap (fun a=>s.heap.get? a=none) (eB text.cps.toList) au)/\Kp (fun a=>Tn H env a\/a=g) s s') E s:=by
 unfold lW
 have gs:∃ o,s.heap.get? g=some o:=let⟨o,_,_,e,_⟩:=hg;⟨o,e⟩
 have gm:(g==sysModules)=false:=Aw.mpr fun q=>by obtain⟨o,e⟩:=hsm;rw[<-q,gT]at e;cases e
 have xg:x≠g:=fun q=>by
  obtain⟨o,es,ep,e,_,e2,_⟩:=hg
  rw[<-q,xs]at e;cases e;cases e2
 show wpAny _ A (do
  standAt _
  let x <-foldedSetIterable _ env (<-eval _ env)
  standAt _
  runOwn (.forLoop _ (<-holding [x] (pyIter x)) _ [] env) env) _ _ s
 refine A0 (Ag (A0 (wpM (tZ hA hx (NM.b S eo he ⋯ ⋯) ‹nm› F rfl rfl) (fun v s_1 h_1=>?_))))
 refine A0 (Aa (a:=v) rfl ?_)
 refine A0 (Ag (A0 (A5 ?_)))
 refine wpM h_1 (fun it s_2 h_2=>?_)
 obtain⟨k02,en,ir,rfl,en0,ir0,Pt,St,Mid,st0,W,hPt,hex⟩:=h_2
 have wr0:∀ a,a∈[en,ir]->s.heap.get? a=none:=fun a q=>by
  rcases Ab.mp q with rfl|q
  ·exact en0
  ·rw[List.mem_singleton.mp q];exact ir0
 let Z':Addr->Prop:=fun a=>Z a\/a∈[en,ir]
 have S':FS H.H Z' env:=⟨fun a q=>q.elim (S.zt a) fun q=>F.none (wr0 a q),S.fn,S.gl,S.bl,.inl S.zl,S.ap⟩
 have F_2:FI H Z' env [("b2j",.raw (.ref g)),("b",.str text),("self",aG C x dx)] s_2:=F.widen k02 (fun a z=>.inl z) (fun a q nz=>q.elim (fun z=>absurd z nz) fun q=>wr0 a q) fun a q=>by
  rcases q with q|q
  ·obtain⟨o,e⟩:=F.zex a q;exact⟨o,k02.get (fun q=>q) e⟩
  ·exact hex _ _ st0 a q
 have faZ:∀ a,Fa env a->Z a:=fun a q=>Fa.z S F q
 have wZ:∀ a,a∈[en,ir]->¬Z a:=fun a q z=>by obtain⟨o,e⟩:=F.zex a z;rw[wr0 a q]at e;cases e
 have wf:∀ a,a∈[en,ir]->¬Fa env a:=fun a q f=>wZ a q (faZ a f)
 have gw:g∉[en,ir]:=fun q=>by obtain⟨o,e⟩:=gs;rw[wr0 g q]at e;cases e
 have gf:¬Fa env g:=fun q=>ng (faZ g q)
 have ng':¬Z' g:=fun q=>q.elim ng gw
 have pS:∀ a,s_2.heap.get? a=none->s.heap.get? a=none:=fun a e=>k02.none (fun q=>q) e
 have pZ:∀ a,s_2.heap.get? a=none->¬Z' a:=fun a e=>F_2.toGT.free e
 have pw:∀ a,s_2.heap.get? a=none->a∉[en,ir]:=fun a e q=>pZ a e (.inr q)
 have pg:∀ a,s_2.heap.get? a=none->a≠g:=fun a e q=>by obtain⟨o,e'⟩:=gs;rw[<-q,pS a e]at e';cases e'
 have px:∀ a,s_2.heap.get? a=none->x≠a:=fun a e q=>by rw[q,pS a e]at xs;cases xs
 have pf:∀ a,s_2.heap.get? a=none->¬Fa env a:=fun a e q=>pZ a e (.inl (faZ a q))
 have up:∀{sa sb:Shared} {W:ZP},Kp (fun a=>Tn H env a\/a=g) s sa->Kp W sa sb->(∀ b,W b->s.heap.get? b=none\/Tn H env b\/b=g)->Kp (fun a=>Tn H env a\/a=g) s sb:=fun{sa sb W} ka kb hw=>ka.join kb fun b o nf e=>kb.get (fun q=>(hw b q).elim (fun z=>by rw[z]at e;cases e) nf) (ka.get nf e)
 have exk:∀{sa sb:Shared} {W:ZP},(∀ b o,s_2.heap.get? b=some o->∃ o',sa.heap.get? b=some o')->Kp W sa sb->(∀ b,W b->∃ o',sb.heap.get? b=some o')->∀ b o,s_2.heap.get? b=some o->∃ o',sb.heap.get? b=some o':=fun{sa sb W} h k hw b o e=>by
  by_cases q:W b
  ·exact hw b q
  ·obtain⟨o',e'⟩:=h b o e;exact⟨o',k.get q e'⟩
 let l:=text.cps.toList
 have ll:l.length<=100:=by rw[len_list];exact bo
 have szl:(1000:Nat)<=sizeLine:=by decide
 refine wpAny_runOwn (h:=none) ?_
 refine codeAny_forLoop_any (fun k s'=>∃ i au,k=l.length+1-i/\i<=l.length/\FI H Z' env [("b2j",.raw (.ref g)),("b",.str text),("self",aG C x dx)] s'/\s'.heap.DictOf (strKind aa w) g au/\BL s'.heap (fun a=>s_2.heap.get? a=none) (bsI l i) au/\St i s'.heap/\Kp (fun a=>Tn H env a\/a=g) s s'/\(∀ b o,s_2.heap.get? b=some o->∃ o',s'.heap.get? b=some o')) ?_ (l.length+1)
  ⟨0,[],rfl,Ap _,F_2,DictOf.keep hg fun o e=>k02.get (fun q=>q) e,.nil,st0,k02.z,fun b o e=>⟨o,e⟩⟩
 rintro k s' ⟨i,au,rfl,hi',FF,DD,BB,hst,kk,ex⟩
 rcases C4 i l.length with hlt|hge
 ·refine Ao (A4 _) (W.item i s' _ _ hlt hst fun T ba h' tk pv hT it md hk htk=>?_)
  refine W.go _ _ _ i T _ _ _ md fun h'' st' hk'=>?_
  have k_3:Kp (fun a=>a∈[en,ir]) s' {s' with heap:=h'',toks:=tk}:=Kp.mk (fun b o nb e=>hk' b o nb (hk b o nb e)) htk
  have F_3:=FI.frame S' FF k_3 (fun a q=>⟨.inr q,wf a q⟩) (fun a q d=>wZ a q (F.dz a d)) (hex _ _ st')
  obtain⟨c,t,u,hc,rfl⟩:=hPt i ba pv
  have nT:¬Z' T:=fun z=>absurd (FF.toGT.lt z) (C1.mpr hT)
  have rt:Rp Z' h'' (.tup [.int (i:Int),.str (ch c)]) (.ref T):=by
   obtain⟨o,ho,hcl,m,hd⟩:=it
   have P:Paired (Rp Z' h'') [.int (i:Int),.str (ch c)] [.int (i:Int) t,.str (ch c) u]:=.cons (.int _ _) (.cons (.str _ _) .nil)
   exact .tup nT (hk' T o (W.apart _ _ _ md) ho) hcl hd rfl fun j q v e1 e2=>(a8 P).2 j q v e1 (by simpa using e2)
  refine wpM (BD.tuple (H:=H) (Z:=Z') (env:=env) (ρ:=[("b2j",.raw (.ref g)),("b",.str text),("self",aG C x dx)]) (xs:=["i","elt"]) (ps:=[.int (i:Int),.str (ch c)]) hA (BDs.cons S' (eo.bds ⋯) (BDs.cons S' (eo.bds ⋯) BDs.nil)) rfl rfl _ _ _ F_3 rt) (fun _ s_4 h_4=>?_)
  obtain⟨F4,k_4⟩:=h_4
  have k04:=up (up kk k_3 fun b q=>.inl (wr0 b q)) k_4 fun b q=>.inr (.inl (.inl q.fa))
  have D4:s_4.heap.DictOf (strKind aa w) g au:=DictOf.keep (DictOf.keep DD fun o e=>k_3.get gw e) fun o e=>k_4.get (fun q=>gf q.fa) e
  have B4:BL s_4.heap (fun a=>s_2.heap.get? a=none) (bsI l i) au:=(BB.keep (fun a p o e=>k_3.get (pw a p) e) fun _ p=>p).keep (fun a p o e=>k_4.get (fun q=>pf a p q.fa) e) fun _ p=>p
  have st4:St (i+1) s_4.heap:=W.frame (i+1) _ _ st' fun b hb o e=>k_4.get (fun q=>wf b hb q.fa) e
  have ex4:=exk (exk ex k_3 fun b q=>hex _ _ st' b q) k_4 fun b q=>F4.zex b (.inl (faZ b q.fa))
  have esucc:bsI l (i+1)=g7 (bsI l i) c (i:Int):=nD hc
  have bl:=sC (l:=l) hi'
  have hkl:au.length<=sizeLine:=by rw[B4.len];omega
  refine Aq (B1 (Q:=fun f s9=>f=.next/\∃ a its kvs',FI H Z' env [("indices",.raw (.ref a)),("elt",.str (ch c)),("i",.int (i:Int)),("b2j",.raw (.ref g)),("b",.str text),("self",aG C x dx)] s9/\PlainL s9.heap a its/\s_2.heap.get? a=none/\its.size<=100/\Kp (fun a=>Tn H env a\/a=g) s s9/\St (i+1) s9.heap/\(∀ b o,s_2.heap.get? b=some o->∃ o',s9.heap.get? b=some o') /\
   s9.heap.DictOf (strKind aa w) g kvs'/\∀ h9 t,PlainL h9 a (its.push (.int (i:Int) t))->(∀ b,b≠a->s_2.heap.get? b=none->∀ o,s9.heap.get? b=some o->h9.get? b=some o)->BL h9 (fun a=>s_2.heap.get? a=none) (bsI l (i+1)) kvs') ?_ (fun f s9 h_9=>?_) fun _ _ x=>x)
  ·refine By ?_ rfl
   refine Br (wpM ((EX.nm (pos:=_) (p:=.raw (.ref g)) S' ‹lk› ⋯).run s_4 _ F4) (fun v s5 h_5=>?_)) rfl
   obtain⟨hv,k5⟩:=h_5
   cases hv
   have F5:=F4.kp0 k5
   have D5:s5.heap.DictOf (strKind aa w) g au:=DictOf.keep D4 fun o e=>k5.get (fun q=>q) e
   refine Dx D5.typeIs Fw Ei PySem.F.type_dict_setdefault D5.mapOf.noDict ?_
   refine Bx (B2 (wpM ((EX.nm (pos:=_) (p:=.str (ch c)) S' ‹lk› ⋯).run s5 _ F5) (fun y s_6 h_6=>B2 (wpM ((EXn.list (pos:=_) LX.nil (Ap _)).run s_6 _ (F5.kp0 h_6.2)) (fun z s7 h_7=>Bt ?_)) rfl)) rfl) rfl rfl
   obtain⟨hy,k_6⟩:=h_6
   obtain⟨a,its,rfl,na,pl,pr,k7⟩:=h_7
   obtain⟨t',rfl⟩:=Rp.strI hy
   have k47:=k5.trans (k_6.trans k7)
   have D7:s7.heap.DictOf (strKind aa w) g au:=DictOf.keep D4 fun o e=>k47.get (fun q=>q) e
   have B7:=B4.keep (h':=s7.heap) (P':=fun a=>s_2.heap.get? a=none) (fun a p o e=>k47.get (fun q=>q) e) fun _ p=>p
   have F7:=F4.kp0 k47
   have k07:=up k04 k47 fun b q=>q.elim
   have ex7:=exk ex4 k47 fun b q=>q.elim
   have fresh:s_2.heap.get? a=none:=by
    cases q:s_2.heap.get? a with
    |none=>rfl
    |some o =>
     obtain⟨o',e'⟩:=exk ex4 (k5.trans k_6) (fun b q=>q.elim) a o q
     rw[na]at e';cases e'
   have put:∀{E2:ZV} {b:Addr} {s₈:Shared} {kvs':List (Str×Value)} {itb:Array Value},FI H Z' env [("elt",.str (ch c)),("i",.int (i:Int)),("b2j",.raw (.ref g)),("b",.str text),("self",aG C x dx)] s₈->Kp (fun a=>Tn H env a\/a=g) s s₈->St (i+1) s₈.heap->(∀ b o,s_2.heap.get? b=some o->∃ o',s₈.heap.get? b=some o')->s₈.heap.DictOf (strKind aa w) g kvs' ->
     PlainL s₈.heap b itb->s_2.heap.get? b=none->itb.size<=100->(∀ h9 t,PlainL h9 b (itb.push (.int (i:Int) t))->(∀ b',b'≠b->s_2.heap.get? b'=none->∀ o,s₈.heap.get? b'=some o->h9.get? b'=some o)->BL h9 (fun a=>s_2.heap.get? a=none) (bsI l (i+1)) kvs') ->
     wpAny (model aa w) A (storeName env "indices" (.ref b)) (fun _ s9=>Flow.next=.next/\∃ a its kvs',FI H Z' env [("indices",.raw (.ref a)),("elt",.str (ch c)),("i",.int (i:Int)),("b2j",.raw (.ref g)),("b",.str text),("self",aG C x dx)] s9/\PlainL s9.heap a its/\s_2.heap.get? a=none/\its.size<=100/\Kp (fun a=>Tn H env a\/a=g) s s9/\St (i+1) s9.heap/\(∀ b o,s_2.heap.get? b=some o->∃ o',s9.heap.get? b=some o') /\
      s9.heap.DictOf (strKind aa w) g kvs'/\∀ h9 t,PlainL h9 a (its.push (.int (i:Int) t))->(∀ b,b≠a->s_2.heap.get? b=none->∀ o,s9.heap.get? b=some o->h9.get? b=some o)->BL h9 (fun a=>s_2.heap.get? a=none) (bsI l (i+1)) kvs') E2 s₈:=fun{E2 b s₈ kvs' itb} F8 k08 st8 ex8 D_8 pl8 pb hz hfin=>by
    refine wpM (FI.store S' F8 (.raw (.ref b)) (eo.bds ⋯)) (fun _ s9 h_9=>?_)
    obtain⟨F9,k89⟩:=h_9
    exact⟨rfl,b,itb,kvs',F9,PlainL.keep1 pl8 fun o e=>k89.get (fun q=>pf b pb q.fa) e,pb,hz,up k08 k89 fun b q=>.inr (.inl (.inl q.fa)),W.frame _ _ _ st8 fun b hb o e=>k89.get (fun q=>wf b hb q.fa) e,exk ex8 k89 fun b q=>F9.zex b (.inl (faZ b q.fa)),DictOf.keep D_8 fun o e=>k89.get (fun q=>gf q.fa) e,
     fun h9 t p9 hs=>hfin h9 t p9 fun b' nb pb' o e=>hs b' nb pb' o (k89.get (fun q=>pf b' pb' q.fa) e)⟩
   have st7:St (i+1) s7.heap:=W.frame _ _ _ st4 fun b hb o e=>k47.get (fun q=>q) e
   refine call_meetsIn Ei D7.typeIs PySem.F.entry_dict_setdefault (PySem.F.args_dict_setdefault_3 _ _ _) (kt_meets_setdefault (strKind aa w) g (G9 aa w (ch c) t') gm (.ref a)) ⟨au,D7,hkl,fun v hv=>?_,fun hv h8 D8 sb=>?_⟩
   ·obtain⟨b,is,itb,rfl,pb,hmem,plb,hlb,hk⟩:=B7.hit (i:=(i:Int)) hv
    refine put (s₈:={s7 with toks:=s7.toks+1}) (F7.kp0 (Kp.toks _ _ _)) (up k07 (Kp.toks N0 _ _) fun b q=>q.elim) st7 ex7 D7 plb pb (by have:=bl.2 _ hmem;have:is.length<=i:=this;omega) fun h9 t p9 hs=>?_
    rw[esucc];exact hk h9 t p9 hs
   ·have ag:a≠g:=pg a fresh
    have F8:=F7.dodge (y:=g) (tk:=s7.toks+1) S' ng' gT sb (j5 fun q hq=>?_) (hL g) (Ad _)
    ·have k78:Kp (fun b=>b=g) s7 {s7 with heap:=h8,toks:=s7.toks+1}:=Kp.mk fun b o nb e=>(sb.2 b nb).trans e
     refine put (s₈:={s7 with heap:=h8,toks:=s7.toks+1}) F8 (up k07 k78 fun b q=>.inr (.inr q)) (W.frame _ _ _ st7 fun b hb o e=>(sb.2 b fun q=>gw (q▸hb)).trans e) (exk ex7 k78 fun b q=>by subst q;obtain⟨o,_,_,e,_⟩:=D8;exact⟨o,e⟩) D8 (PlainL.keep1 pl fun o e=>(sb.2 a ag).trans e) fresh ?_ fun h9 t p9 hs=>?_
     ·have:=(a8 pr).1
      have:its.size=0:=by simpa using this
      omega
     ·rw[esucc]
      have its0:its=#[]:=by
       have:=(a8 pr).1
       exact E9 (by simpa using this)
      subst its0
      have ne4:∀{b:Addr} {o:Obj},s_4.heap.get? b=some o->b≠a:=fun e q=>by subst q;rw[(k5.trans k_6).get (fun q=>q) e]at na;cases na
      refine(B4.keep (h':=h9) (P':=fun a=>s_2.heap.get? a=none) (fun b p o e=>hs b (ne4 e) p o ((sb.2 b (pg b p)).trans (k47.get (fun q=>q) e))) fun _ p=>p).miss hv (fun kv hkv q=>?_) ⟨_,p9,.cons ⟨t,rfl⟩ .nil⟩ fresh
      obtain⟨b,o,e1,e2⟩:=B4.live kv hkv
      rw[e1]at q
      exact ne4 e2 (by cases q;rfl)
    ·simp only[List.mem_cons,List.not_mem_nil,or_false]at hq
     rcases hq with rfl|rfl|rfl|rfl|rfl <;> first|trivial|exact⟨C,x,dx,rfl,xg⟩
  ·obtain⟨rfl,a,its,kvs',F9,pl,pa,hsz,k09,st9,ex9,D9,fin⟩:=h_9
   refine Aq (wpAny_Expr_any (wpAny_Call_append rfl rfl rfl rfl (wpM ((EX.nm (pos:=_) (p:=.raw (.ref a)) S' ‹lk› ⋯).run s9 _ F9) (fun v s10 h_10=>?_))) (by unfold interactive;rw[S.fn];rfl) rfl)
   obtain⟨hv,k10⟩:=h_10
   cases hv
   refine⟨a,its,rfl,PlainL.keep1 pl fun o e=>k10.get (fun q=>q) e,wpM ((EX.nm (pos:=_) (p:=.int (i:Int)) S' ‹lk› ⋯).run s10 _ (F9.kp0 k10)) (fun y s11 h_11=>?_)⟩
   obtain⟨hy,k11⟩:=h_11
   obtain⟨t',rfl⟩:=Rp.intI hy
   have k911:=k10.trans k11
   have F11:=F9.kp0 k911
   refine list_append_plainL (its:=its) (PlainL.keep1 pl fun o e=>k911.get (fun q=>q) e) (fun h' pl' hs=>?_) ‹o›
   have F12:=F11.dodge (y:=a) (tk:=s11.toks) S' (pZ a pa) (F_2.none pa) hs (j5 fun q hq=>?_) (hL a) (A4 _)
   ·have k12:Kp (fun b=>b=a) s11 {s11 with heap:=h'}:=Kp.mk (tk:=s11.toks) fun b o nb e=>(hs.2 b nb).trans e
    refine C8 ⟨_,by omega,i+1,kvs',rfl,hlt,F12.forget (‹sub›),DictOf.keep (DictOf.keep D9 fun o e=>k911.get (fun q=>q) e) (fun o e=>(hs.2 g (Ci (pg a pa))).trans e),fin h' t' pl' fun b nb pb o e=>(hs.2 b nb).trans (k911.get (fun q=>q) e),W.frame _ _ _ st9 (fun b hb o e=>(hs.2 b fun q=>pw a pa (q▸hb)).trans (k911.get (fun q=>q) e)),up (up k09 k911 fun b q=>q.elim) k12 (fun b q=>.inl (q▸pS a pa)),exk (exk ex9 k911 fun b q=>q.elim) k12 fun b q=>by subst q;obtain⟨o,n,e,_⟩:=pl';exact⟨o,e⟩⟩
   ·simp only[List.mem_cons,List.not_mem_nil,or_false]at hq
    rcases hq with rfl|rfl|rfl|rfl|rfl|rfl <;> first|trivial|exact⟨C,x,dx,rfl,px a pa⟩
 ·have hin:i=l.length:=Ef hi' hge
  subst hin
  refine Ao (A4 _) (W.done s' _ _ hst fun h' tk hk htk=>?_)
  have k_3:Kp (fun a=>a∈[en,ir]) s' {s' with heap:=h',toks:=tk}:=Kp.mk (fun b o nb e=>hk b o nb e) htk
  refine C8 ⟨rfl,FI.after (L:=H.L) F S' FF k_3 (fun a z=>.inl z) fun a q=>⟨.inr q,wf a q,wZ a q⟩,⟨au,DictOf.keep DD fun o e=>k_3.get gw e,?_⟩,up kk k_3 fun b q=>.inl (wr0 b q)⟩
  have e:bsI l l.length=eB l:=by unfold bsI eB;rw[List.take_of_length_le (by rw[List.length_zipIdx];exact A4 _)]
  rw[<-e]
  exact BB.keep (fun a p o e=>k_3.get (pw a p) e) pS
theorem BL.paired{h:Heap}{P:ZP}{bs:List (Nat×List Int)}{au:List (Str×Value)}(x:BL h P bs au)(hp:∀ a,P a->¬Z a):au.map (·.1)=(lS bs).map (·.1)/\Paired (Rp Z h) ((lS bs).map (·.2)) (au.map (·.2)):=by
 induction x with
 |nil=>exact⟨rfl,.nil⟩
 |cons n p f _ ih =>
  obtain⟨its,⟨o,m,e,hc,_,hd⟩,pr⟩:=n
  have pr':∀{is:List Int} {vs:List Value},Paired (fun i v=>∃ t,v=Value.int i t) is vs->Paired (Rp Z h) (is.map .int) vs:=fun q=>by
   induction q with
   |nil=>exact .nil
   |cons a _ ih=>obtain⟨t,rfl⟩:=a;exact .cons (.int _ t) ih
  obtain⟨hl,hi⟩:=a8 (pr' pr)
  exact⟨Az (_ :: ·) ih.1,.cons (.lst (hp _ p) e hc hd (by simpa using hl) fun i p v e1 e2=>hi i p v e1 (by simpa using e2)) ih.2⟩
theorem FI.val{s:Shared}{y:Str}{p:PV}(F:FI H Z env ρ s)(hk:ρ.lookup y=some p):∃ v,Rp Z s.heap p v:=by
 by_cases l:env.kindOf y=some .local
 ·obtain⟨m,_,hm⟩:=F.ns
  obtain⟨v,_,r⟩:=hm y p hk l;exact⟨v,r⟩
 ·obtain⟨_,c,v,_,_,r⟩:=F.cl y p hk l;exact⟨v,r⟩
theorem sX{p q:PV}{x:Str}:∀{ns:List Str} {ps:List PV},q∈eL ns ps x p->q=p\/q∈ps
 |[],_,h=>by simp only[eL,List.mem_singleton]at h;exact .inl h
 |_::_,[],h=>by simp only[eL,List.mem_singleton]at h;exact .inl h
 |y::ns,u::us,h=>by
  unfold eL at h
  cases e:(y==x)with
  |true =>
   rw[e,if_pos rfl]at h
   rcases Ab.mp h with h|h
   ·exact .inl h
   ·exact .inr (Ae _ h)
  |false =>
   rw[e,if_neg ‹d›]at h
   rcases Ab.mp h with h|h
   ·exact .inr (h▸Ah)
   ·exact(sX h).imp id (Ae _)
theorem SXs.b2j{K:Frag}{C x dx:Addr}{text:Str}{ns:List Str}{ps:List PV}{L:Led}{ai:List Stmt}{o:Out}{p1 p2 p3 p4 p5:Pos}(S:FS H.H Z env)(eo:EO env smChainS.names)(hA:A.handled=none)(hsm:∃ o,H.H.get? sysModules=some o)(he:Bi H.H "enumerate" (.type "enumerate"))
  (X:K.In H.H) (hk:gQ K C "b2j" = true) (hz:(jX ns "b2j").length<=1000) (hL:H.L=(dx,a9 ns ps)::L) (hps:∀ p∈ps,∀ y,hU y p) (hLr:∀ y a m,L.lookup a=some m->∀ p∈m.ps,hU y p)
  (hx:text.cps.all (· < 128)=true) (bo:text.length<=100)
  (hrest:SXs aa w A (H.at ((dx,a9 (jX ns "b2j") (eL ns ps "b2j" (aK (strKind aa w) (lS (eB text.cps.toList)))))::L)) Z env [("b2j",aK (strKind aa w) (lS (eB text.cps.toList))),("b",.str text),("self",aG C x dx)] ai o) :
  SXs aa w A H Z env [("b",.str text),("self",aG C x dx)] (.Assign [.Attribute (.Name "self" p1) "b2j" p2,.Name "b2j" p3] (.Dict [] [] p4) p5::lW::ai) o:=by
 refine⟨fun s E F=>?_⟩
 refine Aq (Dd (Fx ?_) rfl rfl)
 have hg0:s.heap.get? s.heap.objs.size=none:=aE _ (A4 _)
 generalize hgs:s.heap.objs.size=g at *
 have k_1:Kp N0 s {s with heap:=s.heap.push {cls:=.type "dict",data:=.dict #[]}}:=Kp.push N0 s _
 have D_1:({s with heap:=s.heap.push {cls:=.type "dict",data:=.dict #[]}}:Shared).heap.DictOf (strKind aa w) g []:=hgs▸Eh s.heap
 have F_1:=F.kp0 k_1
 have ng:¬Z g:=F.toGT.free hg0
 have ngT:¬Tn H env g:=fun q=>ng (Tn.z S F q)
 show wpAny _ A (assignAll (.ref g) [PySem.assign _ env,PySem.assign _ env]) _ _ _
 refine A0 (A5 (wpM ((AS.attr (C:=C) (x:=x) (dx:=dx) (p:=.raw (.ref g)) S X ‹nm› hL hk hz).run _ E (.ref g) F_1 (.raw _)) (fun _ s_2 h_2=>?_)))
 obtain⟨F_2,_,k_2⟩:=h_2
 refine wpM ((AS.nm (H:=H.at ((dx,a9 (jX ns "b2j") (eL ns ps "b2j" (.raw (.ref g))))::L)) (p:=.raw (.ref g)) S eo ⋯).run _ E (.ref g) F_2 (.raw _)) (fun _ s₃ h_3=>?_)
 obtain⟨F_3,_,k_3⟩:=h_3
 have k13:=k_2.trans k_3
 have D3:s₃.heap.DictOf (strKind aa w) g []:=DictOf.keep D_1 fun o e=>k13.get ngT e
 obtain⟨v,rv⟩:=F_3.val (y := "self") (p:=aG C x dx) (by show Lk _ _ _;walk_at "lk")
 obtain⟨_,_,xs⟩:=rv.ins
 have hL3:∀ y a m,List.lookup a ((dx,a9 (jX ns "b2j") (eL ns ps "b2j" (.raw (.ref g))))::L)=some m->∀ p∈m.ps,hU y p:=fun y a m e p hp=>by
  rw[List.lookup_cons]at e
  by_cases q:a=dx
  ·subst q;simp at e;subst e
   rcases sX hp with rfl|h
   ·trivial
   ·exact hps p h y
  ·rw[beq_eq_false_iff_ne.mpr q]at e;exact hLr y a m e p hp
 refine Aq (wpM (tY (H:=H.at ((dx,a9 (jX ns "b2j") (eL ns ps "b2j" (.raw (.ref g))))::L)) S eo hA hsm he hL3 F_3 D3 ng (F.none hg0) hx bo xs) (fun f s_4 h_4=>?_))
 obtain⟨rfl,F4,⟨au,D4,B4⟩,k_4⟩:=h_4
 have fz:∀ a,s₃.heap.get? a=none->¬Z a:=fun a e=>F_3.toGT.free e
 obtain⟨e1,e2⟩:=B4.paired fz
 have gm:(g==sysModules)=false:=Aw.mpr fun q=>by obtain⟨o,e⟩:=hsm;rw[<-q,F.none hg0]at e;cases e
 have F5:=F4.better (p:=aK (strKind aa w) (lS (eB text.cps.toList))) (Rp.dic ng D4 e1 e2 gm)
 have K:Kp (Tn H env) s s_4:=(k_1.join (Z:=Tn H env) k13 fun b o n e=>k13.get n (k_1.get (fun q=>q) e)).join k_4 fun b o n e=>k_4.get (fun q=>q.elim n fun q=>by subst q;rw[hg0]at e;cases e) (k13.get n (k_1.get (fun q=>q) e))
 exact wpM (hrest.run s_4 E F5) (fun f s5 h_5=>⟨h_5.1,K.trans h_5.2⟩)
end
end
def qW:List Str:=["isjunk","a","b","autojunk","matching_blocks","opcodes","fullbcount"]
def pK(ah piece:Str):List PV:=[.none,.str ah,.str piece,.bool true,.none,.none,.none]
def dR:List Str:=["isjunk","a","b","autojunk","matching_blocks","opcodes","fullbcount","b2j","bjunk","bpopular"]
def dQ(aa:Program)(w:World)(ah piece:Str):List PV:=[.none,.str ah,.str piece,.bool true,.none,.none,.none,aK (strKind aa w) (lS (eB piece.cps.toList)),n9,n9]
section
variable{T:Heap}{K:Frag}{C fI fS f1 f2 fC fF x dx:Addr}{Z D:ZP}{tk:Nat}
theorem u5(M:SmK T K C fI fS f1 f2 fC fF)(R:Rm 1 A)(hz:∀ a,Z a->T.get? a=none)(hsm:∃ o,T.get? sysModules=some o)(he:Bi T "enumerate" (.type "enumerate"))(hse:Bi T "set" (.type "set"))(hle:Bi T "len" (.builtin "len")){ah piece:Str}
  (hx:piece.cps.all (· < 128)=true) (bo:piece.length<=100) :
  CBc aa w A ⟨T,D,[(dx,a9 qW (pK ah piece))],tk⟩ Z (.ref fC) [aG C x dx] [] .none [(dx,a9 dR (dQ aa w ah piece))]:=by
 refine CBc.mk (n:=0) (out:=.next [(dx,a9 dR (dQ aa w ah piece))] [("n",.int (piece.length:Int))]) M.lim M.dfC M.bC ⋯ R hz rfl rfl rfl fun A' Z' env R' S eo=>?_
 show SXs aa w A' ⟨T,D,[(dx,a9 qW (pK ah piece))],0⟩ Z' env [("self",aG C x dx)] smChainB _
 have X:∀{D:ZP} {L:Led},K.In (Ctx.H ⟨T,D,L,0⟩):=M.inn
 have lk:∀{m:MO} {L:Led},List.lookup dx ((dx,m)::L)=some m:=fun{m L}=>by rw[List.lookup_cons];simp
 unfold smChainB
 refine SXs.cons (SX.set (p:=.str piece) S eo (EX.attr (ns:=qW) (ps:=pK ah piece) X ‹nm› lk ⋯ (cF M.at_ ⋯) rfl rfl (fun _ _=>rfl)) ⋯ ⋯) ?_
 refine SXs.b2j (ns:=qW) (ps:=pK ah piece) (L:=[]) S eo R'.hd hsm he X (cF M.st ⋯) ‹k› rfl ?_ (fun _ _ _ e=>by cases e) hx bo ?_
 ·intro p hp y
  simp only[pK,List.mem_cons,List.not_mem_nil,or_false]at hp
  rcases hp with rfl|rfl|rfl|rfl|rfl|rfl|rfl <;> trivial
 refine SXs.cons (SX.as2 (EX.d (EX.set0 (NM.b S eo hse ⋯ ⋯))) (AS.attr (C:=C) (x:=x) (dx:=dx) S X ‹nm› rfl (cF M.st ⋯) ‹k›) (AS.nm S eo ⋯) rfl rfl rfl) ?_
 refine SXs.cons (SX.set (p:=.none) S eo (EX.attr (C:=C) (x:=x) (dx:=dx) X ‹nm› lk ⋯ (cF M.at_ ⋯) rfl rfl (fun _ _=>rfl)) ⋯ ⋯) ?_
 refine SXs.cons (SX.ite (b:=false) (TX.val (p:=.none) ‹nm› OT.none rfl) (fun h=>by cases h) (fun _=>SXs.nil)) ?_
 refine SXs.cons (SX.as2 (EX.d (EX.set0 (NM.b S eo hse ⋯ ⋯))) (AS.attr (C:=C) (x:=x) (dx:=dx) S X ‹nm› rfl (cF M.st ⋯) ‹k›) (AS.nm S eo ⋯) rfl rfl rfl) ?_
 refine SXs.cons (SX.set (p:=.int (piece.length:Int)) S eo (EX.callB (NM.b S eo hle ⋯ ⋯) (LX.cons (p:=.str piece) ‹nm› LX.nil rfl) (CB.lenS ‹o›) rfl rfl rfl) ⋯ ⋯) ?_
 refine SXs.lastF (SX.ite (b:=false) (TX.as (b:=true&&decide ((200:Int)<=(piece.length:Int))) (TX.all (AT.consAnd (TX.val (p:=.bool true) (EX.attr (C:=C) (x:=x) (dx:=dx) X ‹nm› lk ⋯ (cF M.at_ ⋯) rfl rfl (fun _ _=>rfl)) OT.bool rfl) fun _=>AT.oneAnd (TX.cmp (p:=.int (piece.length:Int)) ‹nm› EX.cint O2.geI rfl))) ?_) (fun h=>by cases h) (fun _=>SXs.nil)) ?_ (‹sub›)
 ·rw[Bool.true_and];exact Bd ‹o›
 ·exact Az (fun m=>[(dx,m)]) ⋯
theorem wT(M:SmK T K C fI fS f1 f2 fC fF)(R:Rm 2 A)(hz:∀ a,Z a->T.get? a=none)(hsm:∃ o,T.get? sysModules=some o)(he:Bi T "enumerate" (.type "enumerate"))(hse:Bi T "set" (.type "set"))(hle:Bi T "len" (.builtin "len")){ah piece:Str}
  (hx:piece.cps.all (· < 128)=true) (bo:piece.length<=100) :
  CBc aa w A ⟨T,D,[(dx,a9 pB (pH ah))],tk⟩ Z (.ref f2) [aG C x dx,.str piece] [] .none [(dx,a9 dR (dQ aa w ah piece))]:=by
 refine CBc.mk (n:=1) (out:=.next [(dx,a9 dR (dQ aa w ah piece))] [("self",aG C x dx),("b",.str piece)]) M.lim M.df2 M.b2 ⋯ R hz rfl rfl rfl fun A' Z' env R' S eo=>?_
 show SXs aa w A' ⟨T,D,[(dx,a9 pB (pH ah))],0⟩ Z' env [("self",aG C x dx),("b",.str piece)] smSeq2B _
 have X:∀{D:ZP} {L:Led},K.In (Ctx.H ⟨T,D,L,0⟩):=M.inn
 have lk:∀{m:MO} {L:Led},List.lookup dx ((dx,m)::L)=some m:=fun{m L}=>by rw[List.lookup_cons];simp
 unfold smSeq2B
 refine SXs.cons (SX.doc (by unfold interactive;rw[S.fn];rfl)) ?_
 refine SXs.cons (SX.ite (b:=false) (TX.cmp (p:=.str piece) ‹nm› (EX.attr (C:=C) (x:=x) (dx:=dx) (ns:=pB) (ps:=pH ah) (p:=.none) X ‹nm› lk ⋯ (cF M.at_ ⋯) rfl rfl (fun _ _=>rfl)) (O2.isNone rfl) rfl) (fun h=>by cases h) (fun _=>SXs.nil)) ?_
 refine SXs.cons (SX.as1 (EX.d (p:=.str piece) ‹nm›) (AS.attr (C:=C) (x:=x) (dx:=dx) (ns:=pB) (ps:=pH ah) S X ‹nm› rfl (cF M.st ⋯) ‹k›) rfl rfl rfl) ?_
 refine SXs.cons (SX.as2 (EX.d EX.cnone) (AS.attr (C:=C) (x:=x) (dx:=dx) S X ‹nm› rfl (cF M.st ⋯) ‹k›) (AS.attr (C:=C) (x:=x) (dx:=dx) S X ‹nm› rfl (cF M.st ⋯) ‹k›) rfl rfl rfl) ?_
 refine SXs.cons (SX.as1 (EX.d EX.cnone) (AS.attr (C:=C) (x:=x) (dx:=dx) S X ‹nm› rfl (cF M.st ⋯) ‹k›) rfl rfl rfl) ?_
 refine SXs.led (H:=⟨T,D,[],0⟩) (L₂:=[(dx,a9 qW (pK ah piece))]) (Az (fun m=>[(dx,m)]) ⋯) ?_
 refine SXs.lastF (SX.expr (EXd.meth (H:=⟨T,D,[(dx,a9 qW (pK ah piece))],0⟩) (ns:=qW) (ps:=pK ah piece) (K:=K) (C:=C) (x:=x) (dx:=dx) S X (let⟨fd,D,_⟩:=M.dfC.df;let⟨o,h1,h2⟩:=D.obj;⟨o,fd,h1,h2⟩) ‹nm› M.mC lk ⋯ LX.nil (u5 M R' S.zt hsm he hse hle hx bo).d (.inl rfl) rfl) (by unfold interactive;rw[S.fn];rfl) rfl) rfl (‹sub›)
theorem cB.at{B:List Stmt}{Sc:Scope}{names:List Str}{a:Addr}(F:cB T B Sc names a):∃ o fd,T.get? a=some o/\o.data=.func fd:=let⟨fd,D,_⟩:=F.df;let⟨o,h1,h2⟩:=D.obj;⟨o,fd,h1,h2⟩
theorem xM(M:SmK T K C fI fS f1 f2 fC fF)(R:Rm 3 A)(hz:∀ a,Z a->T.get? a=none)(hsm:∃ o,T.get? sysModules=some o)(he:Bi T "enumerate" (.type "enumerate"))(hse:Bi T "set" (.type "set"))(hle:Bi T "len" (.builtin "len")){ah piece:Str}
  (hx:piece.cps.all (· < 128)=true) (bo:piece.length<=100) :
  CBc aa w A ⟨T,D,[(dx,a9 kF kD)],tk⟩ Z (.ref fS) [aG C x dx,.str ah,.str piece] [] .none [(dx,a9 dR (dQ aa w ah piece))]:=by
 refine CBc.mk (n:=2) (out:=.next [(dx,a9 dR (dQ aa w ah piece))] [("self",aG C x dx)]) M.lim M.dfS M.bS ⋯ R hz rfl rfl rfl fun A' Z' env R' S eo=>?_
 show SXs aa w A' ⟨T,D,[(dx,a9 kF kD)],0⟩ Z' env [("self",aG C x dx),("a",.str ah),("b",.str piece)] smSeqsB _
 have X:∀{D:ZP} {L:Led},K.In (Ctx.H ⟨T,D,L,0⟩):=M.inn
 have lk:∀{m:MO} {L:Led},List.lookup dx ((dx,m)::L)=some m:=fun{m L}=>by rw[List.lookup_cons];simp
 unfold smSeqsB
 refine SXs.cons (SX.doc (by unfold interactive;rw[S.fn];rfl)) ?_
 refine SXs.cons (SX.expr (EXd.meth (H:=⟨T,D,[(dx,a9 kF kD)],0⟩) (ns:=kF) (ps:=kD) (K:=K) (C:=C) (x:=x) (dx:=dx) S X M.df1.at ‹nm› M.m1 lk ⋯ (LX.cons (p:=.str ah) ‹nm› LX.nil rfl) (xG (L:=[]) M (R'.le ‹o›) S.zt ah).d (.inr ⟨_,_,rfl⟩) rfl) (by unfold interactive;rw[S.fn];rfl) rfl) ?_
 refine SXs.lastF (SX.expr (EXd.meth (H:=⟨T,D,[(dx,a9 pB (pH ah))],0⟩) (ns:=pB) (ps:=pH ah) (K:=K) (C:=C) (x:=x) (dx:=dx) S X M.df2.at ‹nm› M.m2 lk ⋯ (LX.cons (p:=.str piece) ‹nm› LX.nil rfl) (wT M R' S.zt hsm he hse hle hx bo).d (.inr ⟨_,_,rfl⟩) rfl) (by unfold interactive;rw[S.fn];rfl) rfl) rfl (‹sub›)
theorem y1(M:SmK T K C fI fS f1 f2 fC fF)(R:Rm 4 A)(hz:∀ a,Z a->T.get? a=none)(hsm:∃ o,T.get? sysModules=some o)(he:Bi T "enumerate" (.type "enumerate"))(hse:Bi T "set" (.type "set"))(hle:Bi T "len" (.builtin "len")){ah piece:Str}
  (hx:piece.cps.all (· < 128)=true) (bo:piece.length<=100) :
  CBc aa w A ⟨T,D,[(dx,a9 [] [])],tk⟩ Z (.ref fI) [aG C x dx,.none,.str ah,.str piece] [] .none [(dx,a9 dR (dQ aa w ah piece))]:=by
 refine CBc.mk (n:=3) (out:=.next [(dx,a9 dR (dQ aa w ah piece))] [("self",aG C x dx)]) M.lim M.dfI M.bI ⋯ R hz rfl rfl rfl fun A' Z' env R' S eo=>?_
 show SXs aa w A' ⟨T,D,[(dx,a9 [] [])],0⟩ Z' env [("self",aG C x dx),("isjunk",.none),("a",.str ah),("b",.str piece),("autojunk",.bool true)] smInitB _
 have X:∀{D:ZP} {L:Led},K.In (Ctx.H ⟨T,D,L,0⟩):=M.inn
 have lk:∀{m:MO} {L:Led},List.lookup dx ((dx,m)::L)=some m:=fun{m L}=>by rw[List.lookup_cons];simp
 unfold smInitB
 refine SXs.cons (SX.doc (by unfold interactive;rw[S.fn];rfl)) ?_
 refine SXs.cons (SX.as1 (EX.d (p:=.none) ‹nm›) (AS.attr (C:=C) (x:=x) (dx:=dx) (ns:=[]) (ps:=[]) S X ‹nm› rfl (cF M.st ⋯) ‹k›) rfl rfl rfl) ?_
 refine SXs.cons (SX.as2 (EX.d EX.cnone) (AS.attr (C:=C) (x:=x) (dx:=dx) S X ‹nm› rfl (cF M.st ⋯) ‹k›) (AS.attr (C:=C) (x:=x) (dx:=dx) S X ‹nm› rfl (cF M.st ⋯) ‹k›) rfl rfl rfl) ?_
 refine SXs.cons (SX.as1 (EX.d (p:=.bool true) ‹nm›) (AS.attr (C:=C) (x:=x) (dx:=dx) S X ‹nm› rfl (cF M.st ⋯) ‹k›) rfl rfl rfl) ?_
 refine SXs.led (H:=⟨T,D,[],0⟩) (L₂:=[(dx,a9 kF kD)]) (Az (fun m=>[(dx,m)]) ⋯) ?_
 refine SXs.lastF (SX.expr (EXd.meth (H:=⟨T,D,[(dx,a9 kF kD)],0⟩) (ns:=kF) (ps:=kD) (K:=K) (C:=C) (x:=x) (dx:=dx) S X M.dfS.at ‹nm› M.mS lk ⋯ (LX.cons (p:=.str ah) ‹nm› (LX.cons (p:=.str piece) ‹nm› LX.nil rfl) rfl) (xM M R' S.zt hsm he hse hle hx bo).d (.inr ⟨_,_,rfl⟩) rfl) (by unfold interactive;rw[S.fn];rfl) rfl) rfl (‹sub›)
end
section
variable{T:Heap}
def fil:List Nat:=("fil" : Str).cps.toList
def oO(ab ao:Str)(c:Nat):Bool:=!(ao.cps.toList.filter fun d=>eH ab (ch c++ch d)).isEmpty
def jR(ab ao bm:Str)(d:Nat):Bool:=!eH ao (ch d) && !(bm.cps.toList.filter fun c=>eH ab (ch c++ch d)).isEmpty
abbrev bN(ab ao:Str):List Nat:=fil.filter (oO ab ao)
abbrev gB(ab ao bm:Str):List Nat:=fil.filter (jR ab ao bm)
def lP(ab:Str)(st:Str×Str)(_:Nat):Str×Str :=
 let e:Str:=⟨(bN ab st.2).toArray⟩
 (e,st.2++⟨(gB ab st.2 e).toArray⟩)
theorem nO{ab ao:Str}(S:FS T Z env)(eo:EO env chainedS.names)(hA:A.handled=none)(hu:A.units+16<cLine)(hr:Bi T "range" (.type "range"))
  (hw:PyData.strOk ab=true) (hb:PyData.strOk ao=true) (hl:ao.length<=100):SXs aa w A ⟨T,N0,[],0⟩ Z env [("word",.str ab),("begins",.str ao)] chainedB
   (let st:=(List.range 3).foldl (lP ab) ("",ao);.ret [] (.tup [.str st.1,.str st.2])):=by
 unfold chainedB
 refine SXs.cons (SX.set S eo EX.cstr ⋯ ⋯) ?_
 refine SXs.cons (SX.for1 (h:=lP ab) (f:=fun st=>[("ends",.str st.1),("begins",.str st.2),("word",.str ab)]) (st₀:=("",ao)) (Inv:=fun i st=>PyData.strOk st.1=true/\PyData.strOk st.2=true/\st.2.length<=100+3*i) S eo ⋯ ?_ ?_ (IX.rng 3 rfl hA (EX.callT (NM.b S eo hr ⋯ ⋯) (LX.cons EX.cint LX.nil rfl) CB.range1 rfl rfl rfl) ‹d›) ?_ (fun _=>rfl)) ?_
 ·exact⟨⋯,hb,hl⟩
 ·exact ‹sub›
 ·intro Z' S' i st p ⟨i1,i2,i3⟩ hp
  have hi:i<3:=by have:=(A8.mp hp).1;simpa using this
  have szl:(200:Nat)<=sizeLine:=by decide
  have fl:∀ t:Nat->Bool,(fil.filter t).length<=3:=fun t=>A7 (E4 _ _) ‹d›
  have fo:∀(t:Nat->Bool),PyData.strOk ⟨(fil.filter t).toArray⟩=true:=fun t=>lK fun c hc=>by
   have h1:=(C0.mp hc).1
   have:∀ c∈fil,c<0x110000:=by decide +kernel
   exact this c h1
  refine⟨?_,_,SXs.cons (SX.set S' eo (EX.joinC (l:=bN ab st.2) (EX.comp1 (items:=fil) S' eo ⋯ (IX.str hA EX.cstr) ?_ ‹d› (fun _=>rfl)) ?_ rfl rfl) ⋯ ⋯) (SXs.cons (SX.comp1 (items:=fil) (te:=jR ab st.2 ⟨(bN ab st.2).toArray⟩) (f:=fun c=>.str (ch c)) S' eo ⋯ ⋯ (IX.str hA EX.cstr) ?_ ‹d› (fun _=>rfl) ?_) (SXs.one (SX.set S' eo (EX.bin ‹nm› (EX.joinC (l:=gB ab st.2 ⟨(bN ab st.2).toArray⟩) ‹nm› ?_ rfl rfl) (O2.addS ?_)) ⋯ ⋯))),?_⟩
  ·refine⟨fo _,tD i2 (fo _),?_⟩
   show(st.2++⟨(gB ab st.2 _).toArray⟩:Str).length<=_
   have e1:=uC (fil.filter (jR ab st.2 ⟨(bN ab st.2).toArray⟩))
   have:=fl (jR ab st.2 ⟨(bN ab st.2).toArray⟩)
   rw[d0,e1]
   omega
  ·intro c hc C Z2 S2 eo2
   refine⟨CT.one (TX.neNil (xs:=st.2.cps.toList.filter fun d=>eH ab (ch c++ch d)) (g:=ch) (EX.comp1 (items:=st.2.cps.toList) (te:=fun d=>eH ab (ch c++ch d)) (f:=fun d=>.str (ch d)) S2 eo2 ⋯ (IX.str hA ‹nm›) ?_ ?_ (fun _=>rfl)) ?_ hu),fun _=>by walk_at "nm"⟩
   ·intro d hd C3 Z3 S3 eo3
    refine⟨CT.one (TX.cmp (EX.bin ‹nm› ‹nm› (O2.addS (by show 1+1<=sizeLine;decide))) ‹nm› O2.inS rfl),fun _=>by walk_at "nm"⟩
   ·rw[len_list];omega
   ·exact fun d hd=>kN i2 (C0.mp hd).1
  ·have:=fl (oO ab st.2);unfold bN;omega
  ·intro d hd C Z2 S2 eo2
   refine⟨CT.one (TX.all (AT.consAnd (TX.cmp ‹nm› ‹nm› O2.notInS rfl) fun _=>AT.oneAnd (TX.neNil (xs:=(bN ab st.2).filter fun c=>eH ab (ch c++ch d)) (g:=ch) (EX.comp1 (items:=bN ab st.2) (te:=fun c=>eH ab (ch c++ch d)) (f:=fun d=>.str (ch d)) S2 eo2 ⋯ (IX.str (x:=⟨(bN ab st.2).toArray⟩) hA ‹nm›) ?_ ?_ (fun _=>rfl)) ?_ hu))),fun _=>by walk_at "nm"⟩
   ·intro c hc C3 Z3 S3 eo3
    refine⟨CT.one (TX.cmp (EX.bin ‹nm› ‹nm› (O2.addS (by show 1+1<=sizeLine;decide))) ‹nm› O2.inS rfl),fun _=>by walk_at "nm"⟩
   ·have:=fl (oO ab st.2);unfold bN;omega
   ·exact fun d hd=>kN (fo (oO ab st.2)) (C0.mp hd).1
  ·exact iE S' eo ⋯
  ·have:=fl (jR ab st.2 ⟨(bN ab st.2).toArray⟩);unfold gB;omega
  ·have e1:=uC (fil.filter (jR ab st.2 ⟨(bN ab st.2).toArray⟩))
   have:=fl (jR ab st.2 ⟨(bN ab st.2).toArray⟩)
   rw[e1]
   omega
  ·exact Sub.cons (by show Lk _ _ (.str ⟨(bN ab st.2).toArray⟩);walk_at "lk") (Sub.cons (by show Lk _ _ (.str (st.2++⟨(gB ab st.2 ⟨(bN ab st.2).toArray⟩).toArray⟩));walk_at "lk") (‹sub›))
 ·refine SXs.one (SX.retn (EX.tuple (LX.cons ‹nm› (LX.cons ‹nm› LX.nil rfl) rfl) (by show 2<=sizeLine;decide)))
def chained(ab ao:Str):Str×Str:=(List.range 3).foldl (lP ab) ("",ao)
theorem kW{a:Addr}(hlim:T.NoLimit)(F:Fun T "_law_chained" chainedB chainedS ["word","begins"] a)(hr:Bi T "range" (.type "range")){ab ao:Str}
  (hw:PyData.strOk ab=true) (hb:PyData.strOk ao=true) (hl:ao.length<=100):FN aa w T (.ref a) 1 [.str ab,.str ao] (.tup [.str (chained ab ao).1,.str (chained ab ao).2]) :=
 FN.mk hlim F ⋯ rfl rfl fun A Z env R S eo=>nO S eo R.hd (by have:=R.un;omega) hr hw hb hl
end
section
open Lean Meta Elab Tactic
abbrev Std:=Nat×Str×Str×Str
def bO(s:Std):List PV:=[.str s.2.1,.str s.2.2.1,.str s.2.2.2]
def dC(s:Std):PV:=.tup [.int (s.1:Int),.tup (bO s)]
def i7(m:Nat)(s:Std):Str:=match m with|0=>s.2.1|1=>s.2.2.1|_=>s.2.2.2
def lD(m:Nat)(p:Str)(n:Nat)(s:Std):Std:=match m with|0=>(n,p,s.2.2.1,s.2.2.2)|1=>(n,s.2.1,p,s.2.2.2)|_=>(n,s.2.1,s.2.2.1,p)
def eA(m:Nat)(s:Std):List Nat:=if(i7 m s != "")=true then[(i7 m s).length]else(List.range (7-s.1)).map fun i=>i+1
def aN(spot size:Nat):Str:=jD "abacaba" (some (spot:Int)) (some ((spot:Int)+(size:Int)))
def yO(t p:Str):Bool:=(PV.py.pys [.str "",.str p]).any fun y=>PyData.eqv y (PyData.str t)
def d8(m:Nat)(s:Std)(acc:List Std)(size:Nat):List Std:=if(((aN s.1 size).length:Int)==(size:Int)&&yO (i7 m s) (aN s.1 size))=true then acc++[lD m (aN s.1 size) (s.1+size) s]else acc
def gZ(m:Nat)(acc:List Std)(s:Std):List Std:=(eA m s).foldl (d8 m s) acc
def aH(m:Nat)(am:List Std):List Std:=am.foldl (gZ m) []
def gI(c:Nat):Nat:=match c with|102=>0|105=>1|_=>2
def aU(st:List Std)(a:Nat×Nat):Stp (List Std):=if(aH (gI a.1) st).isEmpty then .ret [] (.int (a.2:Int))else .go (aH (gI a.1) st)
def cO:List Std:=(List.range 7).map fun i=>(i,"","","")
def aZ(ab:Str):PV:=match runFor aU ab.cps.toList.zipIdx cO with| .inl _=>.int (ab.length:Int)| .inr q=>q.2
structure dN(s:Std):Prop where
 spot:s.1<8
 txt:∀ m,(i7 m s).length<8/\PyData.strOk (i7 m s)=true
theorem mO:∀ spot,spot<8->∀ size,size<8->PyData.strOk (aN spot size)=true/\(aN spot size).length<8/\((aN spot size).length=size->spot+size<8):=by decide +kernel
theorem q7{m:Nat}{s:Std}(h:dN s):∀ n∈eA m s,n<8:=by
 unfold eA
 split
 ·intro n hn;rw[List.mem_singleton]at hn;subst hn;exact(h.txt m).1
 ·intro n hn
  obtain⟨i,hi,rfl⟩:=Bn.mp hn
  have:=Bj.mp hi;omega
theorem mE{m:Nat}{s:Std}:(eA m s).length<=7:=by
 unfold eA
 split
 ·exact B9 (Ap _)
 ·rw[List.length_map,List.length_range];omega
theorem uK{m:Nat}{s:Std}{size:Nat}(h:dN s)(hs:size<8)(hp:(aN s.1 size).length=size):dN (lD m (aN s.1 size) (s.1+size) s):=by
 obtain⟨a,b,c⟩:=mO s.1 h.spot size hs
 have t0:=h.txt 0
 have t1:=h.txt 1
 have t2:=h.txt 2
 generalize aN s.1 size=q at *
 rcases m with _|_|m <;> refine⟨c hp,fun k=>?_⟩ <;> rcases k with _|_|k <;> first|exact⟨b,a⟩|exact t0|exact t1|exact t2
theorem zN{m:Nat}(hm:m<3)(p:Str)(n:Nat)(s:Std):nV (bO s) none (some (m:Int))++[.str p]++nV (bO s) (some ((m:Int)+1)) none=bO (lD m p n s):=by
 rcases m with _|_|_|m
 ·kernel_rfl
 ·kernel_rfl
 ·kernel_rfl
 ·omega
theorem wN{α:Type}{φ:α->PV}{xs:List α}(h:∀ a∈xs,(φ a).plain=true/\(φ a).py.canLay0=true/\(φ a).py.depth<=7):Pl (.lst (xs.map φ)):=by
 have h1:PV.plain.plains (xs.map φ)=true/\PyData.canLayAll0 (PV.py.pys (xs.map φ))=true/\PyData.depthAll (PV.py.pys (xs.map φ))<=7:=by
  induction xs with
  |nil=>exact⟨rfl,rfl,Ap _⟩
  |cons x r ih =>
   obtain⟨a,b,c⟩:=h x Ah
   obtain⟨a',b',c'⟩:=ih fun y hy=>h y (Ae _ hy)
   exact⟨A6.mpr ⟨a,a'⟩,A6.mpr ⟨b,b'⟩,Nat.max_le.mpr ⟨c,c'⟩⟩
 exact⟨h1.1,by show PyData.canLay0 (.list _)=true;rw[PyData.canLay0];exact h1.2.1,by show PyData.depth (.list _)<=8;rw[PyData.depth];exact B9 h1.2.2⟩
theorem vE{α:Type}(φ:α->PV)(xs:List α):PyData.eqv (PV.lst (xs.map φ)).py (PV.lst []).py=xs.isEmpty:=by
 cases xs <;> rfl
theorem st_pl{s:Std}(h:dN s):(dC s).plain=true/\(dC s).py.canLay0=true/\(dC s).py.depth<=7:=by
 refine⟨rfl,?_,by show 2<=7;decide⟩
 show(true&&((PyData.strOk s.2.1&&(PyData.strOk s.2.2.1&&(PyData.strOk s.2.2.2&&true)))&&true))=true
 rw[show PyData.strOk s.2.1=true from(h.txt 0).2,show PyData.strOk s.2.2.1=true from(h.txt 1).2,show PyData.strOk s.2.2.2=true from(h.txt 2).2];rfl
theorem y4(c:Nat):gI c<3:=by
 unfold gI
 split <;> decide
theorem vP{c:Nat}(h:c=102\/c=105\/c=108):Builtin.Str.occurrences "fil" (ch c) 0 ("fil" : Str).length 1=gI c::[]:=by
 rcases h with rfl|rfl|rfl <;> kernel_rfl
theorem u1{m:Nat}(hm:m<3)(s:Std):((Builtin.Slice.sliceAdjust none (some (m:Int)) 1 ((bO s).length:Int)).1==0&&(1:Int)==1&&Builtin.Slice.slicePlaces (Builtin.Slice.sliceAdjust none (some (m:Int)) 1 ((bO s).length:Int)).1 (Builtin.Slice.sliceAdjust none (some (m:Int)) 1 ((bO s).length:Int)).2 1==(bO s).length)=false /\
  ((Builtin.Slice.sliceAdjust (some ((m:Int)+1)) none 1 ((bO s).length:Int)).1==0&&(1:Int)==1&&Builtin.Slice.slicePlaces (Builtin.Slice.sliceAdjust (some ((m:Int)+1)) none 1 ((bO s).length:Int)).1 (Builtin.Slice.sliceAdjust (some ((m:Int)+1)) none 1 ((bO s).length:Int)).2 1==(bO s).length)=false /\
  (nV (bO s) none (some (m:Int))).length<=3/\(nV (bO s) (some ((m:Int)+1)) none).length<=3:=by
 rcases m with _|_|_|m
 ·exact⟨⋯,⋯,Ak ⋯,Ak ⋯⟩
 ·exact⟨⋯,⋯,Ak ⋯,Ak ⋯⟩
 ·exact⟨⋯,⋯,Ak ⋯,Ak ⋯⟩
 ·omega
theorem yV{m:Nat}(hm:m<3)(s:Std):seqIndex? (m:Int) (bO s).length=some m/\(bO s)[m]? = some (.str (i7 m s)):=by
 rcases m with _|_|_|m
 ·exact⟨rfl,rfl⟩
 ·exact⟨rfl,rfl⟩
 ·exact⟨rfl,rfl⟩
 ·omega
section
variable{T:Heap}
theorem SX.foldG1{σ α:Type}{φ:α->PV}{items:List α}{h:σ->α->σ}{g:σ->Led}{f:σ->List (Str×PV)}{Inv:Nat->σ->Prop}{st₀:σ}{x:Str}{px pos:Pos}{iter:PySem.Expr}{body:List Stmt}
  (S:FS H.H Z env) (eo:EO env sc) (hx:aS sc x=true) (hg:H.L=g st₀) (h0:Inv 0 st₀) (hf:Sub (f st₀) ρ) (hI:IX aa w A H Z env (f st₀) (.Name x px) iter (items.map φ))
  (turn:∀ Z':Addr->Prop,FS H.H Z' env->∀ i st p,Inv i st->items[i]? = some p->Inv (i+1) (h st p)/\∃ ρ',SXs aa w A (H.at (g st)) Z' env ((x,φ p)::f st) body (.next (g (h st p)) ρ')/\Sub (f (h st p)) ρ')
  (hs:∀ x,foldedSetIterable iter env x=pure x) :
  SX aa w A H Z env ρ (.For (.Name x px) iter body [] pos) (.next (g (items.foldl h st₀)) (f (items.foldl h st₀))):=by
 have:=SX.loop1 (aa:=aa) (w:=w) (A:=A) (px:=px) (pos:=pos) (body:=body) (step:=fun st p=>.go (h st p)) (Inv:=Inv) S eo hx hg h0 hf hI (fun Z' _ S' i st p hi hp=>by
  obtain⟨h1,ρ',h2,h3⟩:=turn Z' S' i st p hi hp
  exact⟨h1,.inl ⟨ρ',h2,h3⟩⟩) hs
 rwa [eF]at this
theorem SX.foldG2{σ α:Type}{φ ψ:α->PV}{items:List α}{h:σ->α->σ}{g:σ->Led}{f:σ->List (Str×PV)}{Inv:Nat->σ->Prop}{st₀:σ}{x y:Str}{px py tp pos:Pos}{k:Nat}{iter:PySem.Expr}{body:List Stmt}
  (hA:A.handled=none) (S:FS H.H Z env) (eo:EO env sc) (hx:aS sc x=true) (hy:aS sc y=true) (hg:H.L=g st₀) (h0:Inv 0 st₀) (hf:Sub (f st₀) ρ)
  (hI:IX aa w A H Z env (f st₀) (.Tuple [.Name x px,.Name y py] k tp) iter (items.map fun a=>.tup [φ a,ψ a]))
  (turn:∀ Z':Addr->Prop,FS H.H Z' env->∀ i st p,Inv i st->items[i]? = some p->Inv (i+1) (h st p)/\∃ ρ',SXs aa w A (H.at (g st)) Z' env ((y,ψ p)::(x,φ p)::f st) body (.next (g (h st p)) ρ')/\Sub (f (h st p)) ρ')
  (hs:∀ x,foldedSetIterable iter env x=pure x) :
  SX aa w A H Z env ρ (.For (.Tuple [.Name x px,.Name y py] k tp) iter body [] pos) (.next (g (items.foldl h st₀)) (f (items.foldl h st₀))):=by
 have:=SX.loop2 (aa:=aa) (w:=w) (A:=A) (px:=px) (py:=py) (tp:=tp) (k:=k) (pos:=pos) (body:=body) (step:=fun st p=>.go (h st p)) (Inv:=Inv) hA S eo hx hy hg h0 hf hI (fun Z' _ S' i st p hi hp=>by
  obtain⟨h1,ρ',h2,h3⟩:=turn Z' S' i st p hi hp
  exact⟨h1,.inl ⟨ρ',h2,h3⟩⟩) hs
 rwa [eF]at this
def pick(l:List Stmt)(i:Nat):Stmt:=l.getD i (.Pass ⟨0,0,0,0⟩)
def forIn:Stmt->List Stmt
 | .For _ _ b _ _=>b
 |_=>[]
def n8:Stmt:=by
 run_tac do
  let g <-getMainGoal
  let e <-ofExceptKernelException (Kernel.whnf (<-getEnv) (<-getLCtx) (mkApp2 (mkConst ``pick) (mkApp (mkConst ``forIn) (mkApp2 (mkConst ``pick) (mkConst ``standsB) (mkRawNatLit 1))) (mkRawNatLit 2)))
  g.assign e
theorem mJ:∀{l:List (Nat×Nat)} {st:List Std} {L:Led} {p:PV},runFor aU l st=.inr (L,p)->L=[]
 |[],_,_,_,h=>by cases h
 |a::r,st,L,p,h=>by
  rw[runFor]at h
  unfold aU at h
  by_cases q:(aH (gI a.1) st).isEmpty=true
  ·rw[if_pos q]at h;cases h;rfl
  ·rw[if_neg q]at h;exact mJ h
def fT(b:Nat)(i:Nat)(acc:List Std):Prop:=acc.length<=b+i/\∀ s∈acc,dN s
theorem nG{m:Nat}{s:Std}(hs:dN s){acc:List Std}{size:Nat}(h8:size<8){b i:Nat}(h:fT b i acc):fT b (i+1) (d8 m s acc size):=by
 unfold d8
 split
 ·rename_i q
  refine⟨by rw[List.length_append];exact B9 h.1,fun x hx=>?_⟩
  rcases Cl.mp hx with hx|hx
  ·exact h.2 x hx
  ·rw[List.mem_singleton]at hx;subst hx
   have:=(A6.mp q).1
   exact uK hs h8 (Int.ofNat.inj (Ai.mp this))
 ·exact⟨Du h.1,h.2⟩
theorem mN{m:Nat}{s:Std}(hs:dN s):∀(l:List Nat),(∀ n∈l,n<8)->∀{acc:List Std} {b i:Nat},fT b i acc->fT b (i+l.length) (l.foldl (d8 m s) acc)
 |[],_,_,_,_,h=>h
 |n::r,hl,acc,b,i,h=>by
  have:=mN (m:=m) hs r (fun k hk=>hl k (Ae _ hk)) (nG (m:=m) hs (hl n Ah) h)
  rw[List.foldl_cons,List.length_cons,Nat.add_comm r.length,<-Nat.add_assoc]
  exact this
theorem kX{m:Nat}{s:Std}(hs:dN s){acc:List Std}{j:Nat}(h:fT 0 (7*j) acc):fT 0 (7*(j+1)) (gZ m acc s):=by
 have:=mN (m:=m) hs (eA m s) (q7 hs) h
 exact⟨A7 this.1 (by have:=mE (m:=m) (s:=s);omega),this.2⟩
theorem kY{g:Addr}{D:ZP}{tk:Nat}{c m i:Nat}{st:List Std}{ab:Str}(S:FS T Z env)(eo:EO env standsS.names)(hA:A.handled=none)(hu:A.units+16<cLine)(hr:Bi T "range" (.type "range"))(hle:Bi T "len" (.builtin "len"))
  (hm:m<3) (hg:∀ s∈st,dN s) (hl:st.length<=117649) :
  SX aa w A ⟨T,D,(g,cH [])::[],tk⟩ Z env [("grown",.raw (.ref g)),("mark",.int (m:Int)),("letter",.str (ch c)),("place",.int (i:Int)),("states",.lst (st.map dC)),("word",.str ab)] n8
   (.next ((g,cH ((aH m st).map dC))::[]) [("grown",.raw (.ref g)),("mark",.int (m:Int)),("place",.int (i:Int)),("states",.lst (st.map dC)),("word",.str ab)]):=by
 have szl:(1000000:Nat)<=sizeLine:=by decide
 unfold n8
 refine SX.foldG2 (φ:=fun s=>.int (s.1:Int)) (ψ:=fun s=>.tup (bO s)) (items:=st) (h:=gZ m) (g:=fun acc=>(g,cH (acc.map dC))::[]) (f:=fun _=>[("grown",.raw (.ref g)),("mark",.int (m:Int)),("place",.int (i:Int)),("states",.lst (st.map dC)),("word",.str ab)]) (st₀:=[])
  (Inv:=fun j acc=>fT 0 (7*j) acc) hA S eo ⋯ ⋯ rfl ⟨A4 0,fun s hs=>by cases hs⟩ ?_ (IX.lst (φ:=dC) (l:=st) hA ‹nm›) ?_ (fun _=>rfl)
 ·exact ‹sub›
 intro Z2 S2 j acc s hacc hs
 have hsg:dN s:=hg s (As hs)
 have hj:j<117649:=Bh (A8.mp hs).1 hl
 obtain⟨t1,t2⟩:=yV hm s
 obtain⟨c1,c2,c3,c4⟩:=u1 hm s
 refine⟨kX hsg hacc,_,SXs.one (SX.foldG1 (φ:=fun(n:Nat)=>.int (n:Int)) (items:=eA m s) (h:=d8 m s) (g:=fun acc=>(g,cH (acc.map dC))::[]) (f:=fun _=>[("texts",.tup (bO s)),("spot",.int (s.1:Int)),("grown",.raw (.ref g)),("mark",.int (m:Int)),("place",.int (i:Int)),("states",.lst (st.map dC)),("word",.str ab)]) (st₀:=acc)
  (Inv:=fun k acc=>fT (7*j) k acc) S2 eo ⋯ rfl (by simpa[fT]using hacc) (Sub.refl _) ?_ ?_ (fun _=>rfl)),?_⟩
 ·show IX aa w A ⟨T,D,(g,cH (acc.map dC))::[],tk⟩ Z2 env [("texts",.tup (bO s)),("spot",.int (s.1:Int)),("grown",.raw (.ref g)),("mark",.int (m:Int)),("place",.int (i:Int)),("states",.lst (st.map dC)),("word",.str ab)] _ _ _
  refine IX.ifexp (c:=(i7 m s != "")) (TX.cmp (EX.sub (p:=.tup (bO s)) (q:=.int (m:Int)) ‹nm› ‹nm› (SB.itemT ‹o› ‹o› t1 t2 (fun _ _=>rfl) (fun _ _=>rfl))) EX.cstr O2.neS rfl)
   (fun q=>IX.as (IX.lst (φ:=fun(n:Nat)=>.int (n:Int)) (l:=[(i7 m s).length]) hA (EX.list (LX.cons (EX.callB (NM.b S2 eo hle ⋯ ⋯) (LX.cons (EX.sub (p:=.tup (bO s)) (q:=.int (m:Int)) ‹nm› ‹nm› (SB.itemT ‹o› ‹o› t1 t2 (fun _ _=>rfl) (fun _ _=>rfl))) LX.nil rfl) (CB.lenS ?_) rfl rfl rfl) LX.nil rfl) (by show 1<=sizeLine;decide))) ?_)
   (fun q=>IX.as (IX.rng (a:=1) (b:=8-(s.1:Int)) (7-s.1) ?_ hA (EX.callT (NM.b S2 eo hr ⋯ ⋯) (LX.cons EX.cint (LX.cons (EX.bin EX.cint (q:=.int (s.1:Int)) ‹nm› O2.subI) LX.nil rfl) rfl) CB.range2 rfl rfl rfl) ?_) ?_)
  ·have:=(hsg.txt m).1;omega
  ·unfold eA;rw[if_pos q]
  ·have:=hsg.spot;omega
  ·have h9:∀ k:Nat,k<8->Builtin.Range.small 1 (8-(k:Int)) 1=true:=by decide +kernel
   exact h9 s.1 hsg.spot
  ·unfold eA
   rw[if_neg (by rw[q];decide),List.map_map]
   congr 1
   funext k
   show PV.int _=PV.int _
   rw[Int.natCast_add,Int.add_comm];rfl
 ·intro Z3 S3 k acc2 size hin hsz
  have h8:=q7 hsg size (As hsz)
  obtain⟨p1,p2,p3⟩:=mO s.1 hsg.spot size h8
  have hal:acc2.length<=7*j+k:=hin.1
  have hk:k<7:=Bh (A8.mp hsz).1 mE
  refine⟨nG hsg h8 hin,[("piece",.str (aN s.1 size)),("size",.int (size:Int)),("texts",.tup (bO s)),("spot",.int (s.1:Int)),("grown",.raw (.ref g)),("mark",.int (m:Int)),("place",.int (i:Int)),("states",.lst (st.map dC)),("word",.str ab)],SXs.cons (SX.set (p:=.str (aN s.1 size)) S3 eo (EX.slice EX.cstr (PX.some ‹nm›) (PX.some (EX.bin (p:=.int (s.1:Int)) (q:=.int (size:Int)) ‹nm› ‹nm› O2.addI)) (SLC.str ?_)) ⋯ ⋯)
   (SXs.one (SX.ite (b:=((aN s.1 size).length:Int)==(size:Int)&&yO (i7 m s) (aN s.1 size)) (TX.all (AT.consAnd (TX.cmp (EX.callB (NM.b S3 eo hle ⋯ ⋯) (LX.cons (p:=.str (aN s.1 size)) ‹nm› LX.nil rfl) (CB.lenS ?_) rfl rfl rfl) (q:=.int (size:Int)) ‹nm› O2.eqI rfl) fun _=>AT.oneAnd
    (TX.cmp (EX.sub (p:=.tup (bO s)) (q:=.int (m:Int)) ‹nm› ‹nm› (SB.itemT ‹o› ‹o› t1 t2 (fun _ _=>rfl) (fun _ _=>rfl))) (EX.tuple (ps:=[.str "",.str (aN s.1 size)]) (LX.cons EX.cstr (LX.cons ‹nm› LX.nil rfl) rfl) ?_) (O2.inT (p:=.str (i7 m s)) (l:=[.str "",.str (aN s.1 size)]) ⟨rfl,(hsg.txt m).2,by show 0<=8;decide⟩ ⟨rfl,?_,by show 1<=8;decide⟩ hu) rfl))) (fun h=>?_) (fun h=>?_))),?_⟩
  ·show 7<=sizeLine;decide
  ·omega
  ·show 2<=sizeLine;decide
  ·show(PyData.strOk "" && (PyData.strOk (aN s.1 size)&&true))=true
   rw[p1,show PyData.strOk "" = true from by kernel_rfl];rfl
  ·have e:d8 m s acc2 size=acc2++[lD m (aN s.1 size) (s.1+size) s]:=if_pos h
   show SXs aa w A _ Z3 env _ _ (.next ((g,cH ((d8 m s acc2 size).map dC))::[]) _)
   rw[e,List.map_append]
   refine SXs.one (SX.expr (EXd.append (g:=g) (l:=acc2.map dC) (L:=[]) (p:=dC (lD m (aN s.1 size) (s.1+size) s)) S3 rfl ‹nm› (EX.as (EX.tuple (ps:=[.int ((s.1:Int)+(size:Int)),.tup (nV (bO s) none (some (m:Int))++[.str (aN s.1 size)]++nV (bO s) (some ((m:Int)+1)) none)]) (LX.cons (EX.bin (p:=.int (s.1:Int)) (q:=.int (size:Int)) ‹nm› ‹nm› O2.addI) (LX.cons (EX.bin (EX.bin (EX.slice (x:=.tup (bO s)) ‹nm› PX.none (PX.some ‹nm›) (SLC.tup ?_ c1 ?_)) (EX.tuple (LX.cons (p:=.str (aN s.1 size)) ‹nm› LX.nil rfl) ?_) (O2.addT ?_)) (EX.slice (x:=.tup (bO s)) ‹nm› (PX.some (EX.bin (p:=.int (m:Int)) ‹nm› EX.cint O2.addI)) PX.none (SLC.tup ?_ c2 ?_)) (O2.addT ?_)) LX.nil rfl) rfl) ?_) ?_) ?_ rfl rfl rfl rfl) (by unfold interactive;rw[S3.fn];rfl) rfl)
   ·show 3<=sizeLine;decide
   ·omega
   ·show 1<=sizeLine;decide
   ·show _+1<=_;omega
   ·show 3<=sizeLine;decide
   ·omega
   ·rw[List.length_append];show(_+1)+_<=_;omega
   ·show 2<=sizeLine;decide
   ·rw[zN hm (aN s.1 size) (s.1+size) s]
    show PV.tup [.int ((s.1:Int)+(size:Int)),_]=.tup [.int ((lD m (aN s.1 size) (s.1+size) s).1:Int),_]
    have:(lD m (aN s.1 size) (s.1+size) s).1=s.1+size:=by rcases m with _|_|m <;> rfl
    rw[this];rfl
   ·rw[List.length_map];omega
  ·have e:d8 m s acc2 size=acc2:=if_neg (by rw[h];decide)
   show SXs aa w A _ Z3 env _ _ (.next ((g,cH ((d8 m s acc2 size).map dC))::[]) _)
   rw[e]
   exact SXs.nil
  ·exact ‹sub›
 ·exact ‹sub›
theorem tW{a:Addr}(hlim:T.NoLimit)(F:Fun T "_law_stands" standsB standsS ["word"] a)(hr:Bi T "range" (.type "range"))(hle:Bi T "len" (.builtin "len"))(he:Bi T "enumerate" (.type "enumerate")){ab:Str}(hw:∀ c∈ab.cps.toList,c=102\/c=105\/c=108)(hl:ab.length<=6) :
  FN aa w T (.ref a) 1 [.str ab] (aZ ab):=by
 refine FN.mk (n:=0) (out:=.ret [] (aZ ab)) hlim F ⋯ rfl rfl fun A Z env R S eo=>?_
 show SXs aa w A ⟨T,N0,[],0⟩ Z env [(Str.ofString "word",.str ab)] standsB _
 have hA:=R.hd
 have hu:A.units+16<cLine:=by have:=R.un;omega
 have szl:(1000000:Nat)<=sizeLine:=by decide
 unfold standsB
 refine SXs.cons (SX.comp1 (items:=List.range 7) (te:=fun _=>true) (f:=fun i=>dC (i,"","","")) S eo ⋯ ⋯ (IX.rng 7 rfl hA (EX.callT (NM.b S eo hr ⋯ ⋯) (LX.cons EX.cint LX.nil rfl) CB.range1 rfl rfl rfl) ⋯) ?_ ?_ (fun _=>rfl) (iE (H:=⟨T,N0,[],0⟩) S eo ⋯)) ?_
 ·intro i hi C Z2 S2 eo2
  exact⟨CT.nil,fun _=>EX.tuple (LX.cons (EX.as ‹nm› (by rw[Int.zero_add])) (LX.cons (EX.tuple (LX.cons EX.cstr (LX.cons EX.cstr (LX.cons EX.cstr LX.nil rfl) rfl) rfl) (by show 3<=sizeLine;decide)) LX.nil rfl) rfl) (by show 2<=sizeLine;decide)⟩
 ·show 7<=sizeLine;decide
 rw[dG]
 show SXs aa w A ⟨T,N0,[],0⟩ Z env [(Str.ofString "states",.lst (cO.map dC)),(Str.ofString "word",.str ab)] _ _
 refine SXs.forThen (SX.loop2 (φ:=fun a=>.int (a.2:Int)) (ψ:=fun a=>.str (ch a.1)) (items:=ab.cps.toList.zipIdx) (step:=aU) (f:=fun st=>[("states",.lst (st.map dC)),("word",.str ab)]) (g:=fun _=>[]) (st₀:=cO)
  (Inv:=fun i st=>st.length<=7^(i+1)/\∀ s∈st,dN s) hA S eo ⋯ ⋯ rfl ?_ (Sub.refl _) (IX.enumS hA (NM.b S eo he ⋯ ⋯) ‹nm› rfl rfl) ?turn (fun _=>rfl)) ?next ?ret
 ·refine⟨A4 7,fun s hs=>?_⟩
  obtain⟨i,hi,rfl⟩:=Bn.mp hs
  have:=Bj.mp hi
  refine⟨by show i<8;omega,fun m=>?_⟩
  rcases m with _|_|m <;> exact⟨by show 0<8;decide,⋯⟩
 case next =>
  intro st hst
  have e:aZ ab=.int (ab.length:Int):=by unfold aZ;rw[hst]
  rw[e]
  exact SXs.one (SX.retn (EX.callB (NM.b S eo hle ⋯ ⋯) (LX.cons ‹nm› LX.nil rfl) (CB.lenS ‹o›) rfl rfl rfl))
 case ret =>
  intro L p hst
  have e:aZ ab=p:=by unfold aZ;rw[hst]
  rw[e,mJ hst]
 case turn =>
  intro Z' hz S' i st a ⟨i1,i2⟩ hp
  obtain⟨c,j⟩:=a
  have hj:i<6:=by
   have:=(A8.mp hp).1
   simp only[List.length_zipIdx,len_list]at this;omega
  simp only[List.getElem?_zipIdx,Nat.zero_add]at hp
  obtain⟨c',hc',e⟩:=Bb.mp hp
  obtain⟨rfl,rfl⟩:c'=c/\i=j:=by simpa using e
  have hm:=y4 c'
  have ho:=vP (hw c' (As hc'))
  generalize hmk:gI c'=m at hm ho
  have hst:aU st (c',i)=if(aH m st).isEmpty then .ret [] (.int (i:Int))else .go (aH m st):=by rw[<-hmk];rfl
  rw[hst]
  have hl7:st.length<=117649:=A7 i1 (Db ‹d› (show i+1<=6 from hj))
  have gg:fT 0 (7*st.length) (aH m st):=by
   have:∀(l:List Std) (acc:List Std) (j:Nat),(∀ s∈l,dN s)->fT 0 (7*j) acc->fT 0 (7*(j+l.length)) (l.foldl (gZ m) acc):=by
    intro l
    induction l with
    |nil=>intro acc j _ h;exact h
    |cons s r ih =>
     intro acc j hl h
     have:=ih _ (j+1) (fun x hx=>hl x (Ae _ hx)) (kX (m:=m) (hl s Ah) h)
     rw[List.foldl_cons,List.length_cons,Nat.add_comm r.length,<-Nat.add_assoc]
     exact this
   have:=this st [] 0 i2 ⟨A4 0,fun s hs=>by cases hs⟩
   rwa [Nat.zero_add]at this
  have pl:=wN (φ:=dC) fun s hs=>st_pl (gg.2 s hs)
  have ten:∀{ρ:List (Str×PV)} {e:PySem.Expr} {lp pos:Pos},EX aa w A ⟨T,N0,[],0⟩ Z' env ρ e (.lst ((aH m st).map dC))->TX aa w A ⟨T,N0,[],0⟩ Z' env ρ (.Compare e [.Eq] [.List [] lp] pos) (aH m st).isEmpty:=fun{ρ e lp pos} h=>by
   have:=TX.cmp (pos:=pos) h (EX.list (pos:=lp) LX.nil (Ap _)) (O2.eqD pl (dJ (xs:=[]) fun _ h=>by cases h) hu) rfl
   rwa [vE]at this
  by_cases hE:(aH m st).isEmpty=true
  ·rw[if_pos hE]
   show SXs aa w A ⟨T,N0,[],0⟩ Z' env [("letter",.str (ch c')),("place",.int (i:Int)),("states",.lst (st.map dC)),("word",.str ab)] _ (.ret [] (.int (i:Int)))
   refine SXs.cons (SX.set (p:=.int (m:Int)) S' eo (EX.sm1 EX.cstr GMs.index (LX.cons ‹nm› LX.nil rfl) (CB.index ho) rfl rfl rfl) ⋯ ⋯) (SXs.grow S' eo ⋯ (EXn.list LX.nil (Ap _)) (fun g S2=>kY S2 eo hA hu hr hle hm i2 hl7) ?_)
   exact SXs.ret (SX.ite (b:=true) (TX.as (ten ‹nm›) hE) (fun _=>SXs.one (SX.retn ‹nm›)) (fun h=>by cases h))
  ·rw[if_neg hE]
   have hE':(aH m st).isEmpty=false:=by simpa using hE
   refine⟨⟨?_,gg.2⟩,.inl ⟨[("states",.lst ((aH m st).map dC)),("grown",.lst ((aH m st).map dC)),("mark",.int (m:Int)),("place",.int (i:Int)),("states",.lst (st.map dC)),("word",.str ab)],?_,?_⟩⟩
   ·have:=gg.1
    rw[Nat.pow_succ];omega
   ·show SXs aa w A ⟨T,N0,[],0⟩ Z' env [("letter",.str (ch c')),("place",.int (i:Int)),("states",.lst (st.map dC)),("word",.str ab)] _ _
    refine SXs.cons (SX.set (p:=.int (m:Int)) S' eo (EX.sm1 EX.cstr GMs.index (LX.cons ‹nm› LX.nil rfl) (CB.index ho) rfl rfl rfl) ⋯ ⋯) (SXs.grow S' eo ⋯ (EXn.list LX.nil (Ap _)) (fun g S2=>kY S2 eo hA hu hr hle hm i2 hl7) ?_)
    refine SXs.cons (SX.ite (b:=false) (TX.as (ten ‹nm›) hE') (fun h=>by cases h) (fun _=>SXs.nil)) ?_
    exact SXs.one (SX.set S' eo ‹nm› ⋯ ⋯)
   ·exact ‹sub›
end
end
def mB:Array Nat:=#[14,10,4,1,1,22,0,31,16,127,0,13,7,22,0,31,16,127,0,1]
def s8:Array Nat:=#[14,14,4,1,1,9,4294966783,0,0,2147483648,0,0,0,0,0,13,11,9,4294966783,0,0,2147483648,0,0,0,0,0,1]
structure HdK(T:Heap)(K:Frag)(C fI fV fG pN pV:Addr):Prop where
 lim:T.NoLimit
 inn:K.In T
 mak:jH K C fI=true
 at_:jB K C "_headers" = true
 st:gQ K C "_headers" = true
 mV:dT K C "_convert_string_type" fV=true
 mG:dT K C "get" fG=true
 dfI:cB T hdInitB hdInitS ["self","headers"] fI
 dfV:cB T hdConvB hdConvS ["self","value","name"] fV
 dfG:cB T hdGetB hdGetS ["self","name","default"] fG
 bI:aV T fI 2 [] ["self","headers"] []
 bV:∀ b:Bool,aV T fV 2 [("name",.bool b)] ["self","value","name"] [.bool b]
 bG:aV T fG 2 [] ["self","name","default"] [.none]
 gN:Gl T "_name_disallowed_re" (.ref pN)
 gV:Gl T "_value_disallowed_re" (.ref pV)
 rN:RxK T pN mB
 rV:RxK T pV s8
 ty:Bi T "type" (.type "type")
 str:Bi T "str" (.type "str")
 lst:Bi T "list" (.type "list")
section
variable{T:Heap}{K:Frag}{C fI fV fG pN pV x dx:Addr}{Z D:ZP}{L:Led}{tk:Nat}
theorem nN(M:HdK T K C fI fV fG pN pV)(R:Rm 1 A)(hz:∀ a,Z a->T.get? a=none){b:Bool}{sp:PV}{y:Str}(hno:eS (if b=true then mB else s8) y.cps=true)(hsz:y.cps.size<1000) :
  CBc aa w A ⟨T,D,L,tk⟩ Z (.ref fV) [sp,.str y] [("name",.bool b)] (.str y) L:=by
 refine CBc.mk (n:=0) (H:=⟨T,D,L,tk⟩) (out:=.ret L (.str y)) M.lim M.dfV (M.bV b) ⋯ R hz rfl rfl rfl fun A' Z' env R' S eo=>?_
 show SXs aa w A' ⟨T,D,L,0⟩ Z' env [("self",sp),("value",.str y),("name",.bool b)] hdConvB _
 unfold hdConvB
 refine SXs.cons (SX.doc (by unfold interactive;rw[S.fn];rfl)) (SXs.ret (SX.ite (b:=true) (TX.cmp (p:=.raw (.type "str")) (q:=.raw (.type "str")) (EX.callT (NM.b S eo M.ty ⋯ ⋯) (LX.cons (p:=.str y) ‹nm› LX.nil rfl) CB.typeS rfl rfl rfl) (EX.raw (NM.b S eo M.str ⋯ ⋯)) (O2.isT yU) rfl) (fun _=>?_) (fun h=>by cases h)))
 refine SXs.cons (SX.set (p:=.raw (.ref (if b=true then pN else pV))) S eo (EX.ifexp (c:=b) (TX.val (p:=.bool b) ‹nm› OT.bool rfl) (fun h=>?_) fun h=>?_) ⋯ ⋯) ?_
 ·subst h;exact EX.raw (NM.glob S (by rw[eo.kind];kernel_rfl) M.gN ⋯)
 ·subst h;exact EX.raw (NM.glob S (by rw[eo.kind];kernel_rfl) M.gV ⋯)
 have rx:RxK T (if b=true then pN else pV) (if b=true then mB else s8):=by
  cases b
  ·exact M.rV
  ·exact M.rN
 refine SXs.cons (SX.ite (b:=false) (TX.val (p:=.none) (EX.mc1 (p:=.raw (.ref (if b=true then pN else pV))) (ps:=[.str y]) ‹nm› (GMp.search (H:=⟨T,D,L,0⟩) rx) (LX.cons (p:=.str y) ‹nm› LX.nil rfl) (CB.search (H:=⟨T,D,L,0⟩) rx hno hsz) rfl rfl rfl) OT.none rfl) (fun h=>by cases h) fun _=>SXs.nil) ?_
 exact SXs.one (SX.retn ‹nm›)
abbrev hdL(au:List (Str×Str)):PV:=.lst (au.map fun kv=>.tup [.str kv.1,.str kv.2])
abbrev pT(au:List (Str×Str)):MO:=a9 ["_headers"] [hdL au]
abbrev hdF(C:Addr)(au:List (Str×Str)):PV:=insF C ["_headers"] [hdL au]
def wL(au:List (Str×Str)):Bool:=au.all fun kv=>eS mB kv.1.cps&&eS s8 kv.2.cps&&decide (kv.1.cps.size<1000)&&decide (kv.2.cps.size<1000)
theorem uO(M:HdK T K C fI fV fG pN pV)(R:Rm 2 A)(hz:∀ a,Z a->T.get? a=none){au:List (Str×Str)}(ok:wL au=true) :
  CBc aa w A ⟨T,D,((dx,a9 [] [])::L),tk⟩ Z (.ref fI) [aG C x dx,hdL au] [] .none ((dx,pT au)::L):=by
 refine CBc.mk (n:=1) (H:=⟨T,D,((dx,a9 [] [])::L),tk⟩) (out:=.next ((dx,pT au)::L) [("headers",hdL au),("self",aG C x dx)]) M.lim M.dfI M.bI ⋯ R hz rfl rfl rfl fun A' Z' env R' S eo=>?_
 show SXs aa w A' ⟨T,D,((dx,a9 [] [])::L),0⟩ Z' env [("self",aG C x dx),("headers",hdL au)] hdInitB _
 have hA:=R'.hd
 have X:∀{D:ZP} {L:Led},K.In (Ctx.H ⟨T,D,L,0⟩):=M.inn
 have lk:∀{m:MO} {L:Led},List.lookup dx ((dx,m)::L)=some m:=fun{m L}=>by rw[List.lookup_cons];simp
 unfold hdInitB
 refine SXs.cons (SX.set (p:=hdL au) S eo (EX.ifexp (c:=true) (TX.as (TX.cmp (p:=hdL au) ‹nm› EX.cnone (O2.isNotNone (b:=false) rfl) rfl) rfl) (fun _=>by walk_at "nm") fun h=>by cases h) ⋯ ⋯) ?_
 refine SXs.cons (SX.ite (b:=false) (TX.cmp (p:=.raw (.type "list")) (q:=.raw (.type "list")) (EX.callT (NM.b S eo M.ty ⋯ ⋯) (LX.cons (p:=hdL au) ‹nm› LX.nil rfl) CB.typeL rfl rfl rfl) (EX.raw (NM.b S eo M.lst ⋯ ⋯)) (O2.isNotT xL) rfl) (fun h=>by cases h) (fun _=>SXs.nil)) ?_
 refine SXs.cons (SX.as1 (EX.d (p:=hdL au) ‹nm›) (AS.attr (C:=C) (x:=x) (dx:=dx) (ns:=[]) (ps:=[]) S X ‹nm› rfl M.st ‹k›) rfl rfl rfl) ?_
 refine SXs.led (L₂:=((dx,pT au)::L)) (Az (fun m=>(dx,m)::L) ⋯) ?_
 refine SXs.one (SX.ite (b:=true) (TX.val (p:=.bool true) EX.cbool OT.bool rfl) (fun _=>?_) fun h=>by cases h)
 refine SXs.one (SX.foldG2 (φ:=fun kv:Str×Str=>.str kv.1) (ψ:=fun kv:Str×Str=>.str kv.2) (items:=au) (h:=fun(u:Unit) _=>u) (g:=fun _=>((dx,pT au)::L)) (f:=fun _=>[("headers",hdL au),("self",aG C x dx)]) (st₀:=()) (Inv:=fun _ _=>True) hA S eo ⋯ ⋯ rfl trivial (‹sub›) (IX.lst (l:=au) (φ:=fun kv=>.tup [.str kv.1,.str kv.2]) hA ‹nm›) ?_ (fun _=>rfl))
 intro Z2 S2 i st kv _ hi
 have hm:=As hi
 have hk:=A9.mp ok kv hm
 simp only[Bool.and_eq_true,decide_eq_true_eq]at hk
 obtain⟨⟨⟨k1,k2⟩,k3⟩,k4⟩:=hk
 refine⟨trivial,_,?_,Sub.refl _⟩
 show SXs aa w A' ⟨T,D,((dx,pT au)::L),0⟩ Z2 env [("v",.str kv.2),("k",.str kv.1),("headers",hdL au),("self",aG C x dx)] _ (.next ((dx,pT au)::L) [("headers",hdL au),("self",aG C x dx)])
 refine SXs.cons (SX.expr (EXd.methK (H:=⟨T,D,((dx,pT au)::L),0⟩) (C:=C) (x:=x) (dx:=dx) (ns:=["_headers"]) (ps:=[hdL au]) (qs:=[.str kv.1]) S2 X M.dfV.at ‹nm› M.mV lk ⋯ (LX.cons (p:=.str kv.1) ‹nm› LX.nil rfl) (nN (b:=true) (y:=kv.1) M R' S2.zt k1 k3).d rfl rfl) (by unfold interactive;rw[S2.fn];rfl) rfl) ?_
 refine SXs.next_forget (SXs.one (SX.expr (EXd.methK (H:=⟨T,D,((dx,pT au)::L),0⟩) (C:=C) (x:=x) (dx:=dx) (ns:=["_headers"]) (ps:=[hdL au]) (qs:=[.str kv.2]) S2 X M.dfV.at ‹nm› M.mV lk ⋯ (LX.cons (p:=.str kv.2) ‹nm› LX.nil rfl) (nN (b:=false) (y:=kv.2) M R' S2.zt k2 k4).d rfl rfl) (by unfold interactive;rw[S2.fn];rfl) rfl)) ?_
 exact ‹sub›
def oK(L:Led)(z:Str)(_:Unit)(kv:Str×Str):Stp Unit:=if(Txt.lower kv.1==z)=true then .ret L (.str kv.2)else .go ()
def hdGet(au:List (Str×Str))(y:Str):Option Str:=(au.find? fun kv=>Txt.lower kv.1==Txt.lower y).map (·.2)
theorem v4{L:Led}{z v:Str}:∀{au:List (Str×Str)},(au.find? fun kv=>Txt.lower kv.1==z).map (·.2)=some v->runFor (oK L z) au ()=.inr (L,.str v)
 |[],h=>by cases h
 |kv::r,h=>by
  rw[List.find?_cons]at h
  rw[runFor]
  unfold oK
  cases e:(Txt.lower kv.1==z)with
  |true=>rw[e]at h;cases h;rfl
  |false=>rw[e]at h;exact v4 h
theorem xO(M:HdK T K C fI fV fG pN pV)(R:Rm 2 A)(hz:∀ a,Z a->T.get? a=none){au:List (Str×Str)}{y v:Str}(hv:hdGet au y=some v)(ok:wL au=true)(hy:y.length<=1000)(h1:eS mB (Txt.lower y).cps=true)(h2:(Txt.lower y).cps.size<1000) :
  CBc aa w A (cx0 T tk) Z (.ref fG) [hdF C au,.str y] [] (.str v) []:=by
 refine CBc.mk (n:=1) (H:=(cx0 T tk)) (out:=.ret [] (.str v)) M.lim M.dfG M.bG ⋯ R hz rfl rfl rfl fun A' Z' env R' S eo=>?_
 show SXs aa w A' (cx0 T 0) Z' env [("self",hdF C au),("name",.str y),("default",.none)] hdGetB _
 have hA:=R'.hd
 have X:K.In (Ctx.H (cx0 T 0)):=M.inn
 unfold hdGetB
 refine SXs.cons (SX.doc (by unfold interactive;rw[S.fn];rfl)) ?_
 refine SXs.cons (SX.set (p:=.str (Txt.lower y)) S eo (EX.methKF (H:=(cx0 T 0)) (C:=C) (ns:=["_headers"]) (ps:=[hdL au]) (qs:=[.str (Txt.lower y)]) S X M.dfV.at ‹nm› M.mV ⋯ (LX.cons (EX.mc0 (p:=.str y) ‹nm› GMs.lower.p (CB.lower ‹o›) rfl) LX.nil rfl) (nN (b:=true) (y:=Txt.lower y) M R' S.zt h1 h2) rfl rfl) ⋯ ⋯) ?_
 have run:=v4 (L:=[]) hv
 refine SXs.forThen (SX.loop2 (φ:=fun kv:Str×Str=>.str kv.1) (ψ:=fun kv:Str×Str=>.str kv.2) (items:=au) (step:=oK [] (Txt.lower y)) (g:=fun _=>[]) (f:=fun _=>[("name",.str (Txt.lower y)),("self",hdF C au)]) (st₀:=()) (Inv:=fun _ _=>True) hA S eo ⋯ ⋯ rfl trivial (‹sub›)
  (IX.lst (l:=au) (φ:=fun kv=>.tup [.str kv.1,.str kv.2]) hA (EX.attrF (H:=(cx0 T 0)) (C:=C) (ns:=["_headers"]) (ps:=[hdL au]) X ‹nm› ⋯ M.at_ rfl rfl (fun _ _=>rfl))) ?turn (fun _=>rfl)) ?next ?ret
 case turn =>
  intro Z2 hz2 S2 i st kv _ hi
  have hk:=A9.mp ok kv (As hi)
  simp only[Bool.and_eq_true,decide_eq_true_eq]at hk
  obtain⟨⟨⟨k1,k2⟩,k3⟩,k4⟩:=hk
  show qJ aa w A' (cx0 T 0) Z2 env _ _ _ [("v",.str kv.2),("k",.str kv.1),("name",.str (Txt.lower y)),("self",hdF C au)] _ _
  unfold oK
  cases e:(Txt.lower kv.1==Txt.lower y)with
  |true =>
   rw[if_pos rfl]
   exact SXs.ret (SX.ite (b:=true) (TX.as (TX.cmp (p:=.str (Txt.lower kv.1)) (q:=.str (Txt.lower y)) (EX.mc0 (p:=.str kv.1) ‹nm› GMs.lower.p (CB.lower (by have:kv.1.length<1000:=k3;omega)) rfl) ‹nm› O2.eqS rfl) e) (fun _=>SXs.one (SX.retn ‹nm›)) fun h=>by cases h)
  |false =>
   rw[if_neg ‹d›]
   refine⟨trivial,.inl ⟨_,SXs.one (SX.ite (b:=false) (TX.as (TX.cmp (p:=.str (Txt.lower kv.1)) (q:=.str (Txt.lower y)) (EX.mc0 (p:=.str kv.1) ‹nm› GMs.lower.p (CB.lower (by have:kv.1.length<1000:=k3;omega)) rfl) ‹nm› O2.eqS rfl) e) (fun h=>by cases h) fun _=>SXs.nil),‹sub›⟩⟩
 case next=>intro st hst;rw[run]at hst;cases hst
 case ret => 
  intro L' p hst
  rw[run]at hst;cases hst
  rfl
end
section
open Lean Meta Elab Tactic
def fR(bs:List (Nat×List Int))(c:Nat):List Int:=((bs.find? fun b=>b.1==c).map (·.2)).getD []
def bY(l:List (Int×Int))(k:Int):Int:=((l.find? fun b=>b.1==k).map (·.2)).getD 0
def fZ:List (Int×Int)->Int->Int->List (Int×Int)
 |[],k,v=>[(k,v)]
 |(a,b)::r,k,v=>if a=k then(a,v)::r else(a,b)::fZ r k v
abbrev qL:=Int×Int×Int
def lC(old:List (Int×Int))(i:Int)(st:List (Int×Int)×qL)(j:Int):List (Int×Int)×qL :=
 (fZ st.1 j (bY old (j-1)+1),if st.2.2.2<bY old (j-1)+1 then(i-(bY old (j-1)+1)+1,j-(bY old (j-1)+1)+1,bY old (j-1)+1)else st.2)
def lQ(bs:List (Nat×List Int))(ah:Str)(st:List (Int×Int)×qL)(i:Nat):List (Int×Int)×qL:=(fR bs (ah.cps.toList.getD i 0)).foldl (lC st.1 (i:Int)) ([],st.2)
def aP(ah piece:Str):List (Int×Int)×qL:=(List.range ah.length).foldl (lQ (eB piece.cps.toList) ah) ([],(0,0,0))
def oF(ah piece:Str):Bool:=piece.cps.all (· < 128)&&decide (piece.length<=100)&&decide (ah.length<=100)&&(eB piece.cps.toList).all (fun b=>decide (b.2.length<=100)&&b.2.all fun j=>decide (0<=j)&&decide (j<(piece.length:Int))) &&
 decide ((aP ah piece).2.2.1=0)&&decide ((aP ah piece).2.2.2=(piece.length:Int))
def bL(l:List (Int×Int)):List (Int×PV):=l.map fun kv=>(kv.1,.int kv.2)
theorem y7(bs:List (Nat×List Int))(c:Nat):(fU (lS bs) (ch c)).getD (.lst [])=.lst ((fR bs c).map .int):=by
 unfold fU lS fR
 induction bs with
 |nil=>rfl
 |cons b r ih =>
  rw[List.map_cons,List.find?_cons,List.find?_cons]
  by_cases q:b.1=c
  ·have e1:decide (ch b.1=ch c)=true:=B8 (by rw[q])
   have e2:(b.1==c)=true:=Ai.mpr q
   simp only[e1,e2];rfl
  ·have e1:decide (ch b.1=ch c)=false:=Bd fun z=>q (nX z)
   have e2:(b.1==c)=false:=Aw.mpr q
   simp only[e1,e2];exact ih
theorem w7(l:List (Int×Int))(k:Int):(fU (bL l) k).getD (.int 0)=.int (bY l k):=by
 unfold fU bL bY
 induction l with
 |nil=>rfl
 |cons b r ih =>
  rw[List.map_cons,List.find?_cons,List.find?_cons]
  by_cases q:b.1=k
  ·have e1:decide (b.1=k)=true:=B8 q
   have e2:(b.1==k)=true:=Ai.mpr q
   simp only[e1,e2];rfl
  ·have e1:decide (b.1=k)=false:=Bd q
   have e2:(b.1==k)=false:=Aw.mpr q
   simp only[e1,e2];exact ih
theorem yS(l:List (Int×Int))(k v:Int)(hn:(l.map (·.1)).Nodup):g8 (bL l) k (.int v)=bL (fZ l k v):=by
 unfold g8
 have key:∀ l:List (Int×Int),(l.map (·.1)).Nodup->((bL l).any (fun kv=>decide (kv.1=k))=true->(bL l).map (fun kv=>if kv.1=k then(kv.1,.int v)else kv)=bL (fZ l k v))/\((bL l).any (fun kv=>decide (kv.1=k))=false->bL l++[(k,.int v)]=bL (fZ l k v)):=by
  intro l
  induction l with
  |nil=>intro _;exact⟨fun h=>by simp[bL]at h,fun _=>rfl⟩
  |cons b r ih =>
   intro hn
   rw[List.map_cons,List.nodup_cons]at hn
   obtain⟨i1,i2⟩:=ih hn.2
   obtain⟨a,b⟩:=b
   by_cases q:a=k
   ·subst q
    refine⟨fun _=>?_,fun h=>by simp[bL]at h⟩
    simp only[bL,List.map_cons,fZ,if_true]
    congr 1
    refine(En fun x hx=>?_).trans (List.map_id _)
    obtain⟨y,hy,rfl⟩:=Bn.mp hx
    have:y.1≠a:=fun e=>hn.1 (Bn.mpr ⟨y,hy,e⟩)
    simp[this]
   ·refine⟨fun h=>?_,fun h=>?_⟩
    ·have h':(bL r).any (fun kv=>decide (kv.1=k))=true:=by simpa[bL,q]using h
     have:=i1 h'
     simp only[bL,List.map_cons,fZ,if_neg q]at this ⊢
     rw[this]
    ·have h':(bL r).any (fun kv=>decide (kv.1=k))=false:=by simpa[bL,q]using h
     have:=i2 h'
     simp only[bL,List.map_cons,fZ,if_neg q,List.cons_append]at this ⊢
     rw[this]
 obtain⟨k1,k2⟩:=key l hn
 cases h:(bL l).any (fun kv=>decide (kv.1=k))with
 |true=>rw[if_pos rfl];exact k1 h
 |false=>rw[if_neg ‹d›];exact k2 h
theorem xW(l:List (Int×Int))(k v:Int)(hn:(l.map (·.1)).Nodup):((fZ l k v).map (·.1)).Nodup/\(fZ l k v).length<=l.length+1/\∀ x∈fZ l k v,x.1=k\/x∈l:=by
 induction l with
 |nil=>exact⟨by simp[fZ],A4 _,fun x hx=>by simp[fZ]at hx;exact .inl (by rw[hx])⟩
 |cons b r ih =>
  obtain⟨a,b⟩:=b
  rw[List.map_cons,List.nodup_cons]at hn
  obtain⟨i1,i2,i3⟩:=ih hn.2
  unfold fZ
  split
  ·rename_i q
   refine⟨by rw[List.map_cons,List.nodup_cons];exact hn,Ad _,fun x hx=>?_⟩
   rcases Ab.mp hx with rfl|hx
   ·exact .inl q
   ·exact .inr (Ae _ hx)
  ·rename_i q
   refine⟨by
    rw[List.map_cons,List.nodup_cons]
    refine⟨fun h=>?_,i1⟩
    obtain⟨x,hx,e⟩:=Bn.mp h
    rcases i3 x hx with h|h
    ·exact q (e.symm.trans h)
    ·exact hn.1 (Bn.mpr ⟨x,h,e⟩),B9 i2,fun x hx=>?_⟩
   rcases Ab.mp hx with rfl|hx
   ·exact .inr Ah
   ·exact(i3 x hx).imp id (Ae _)
def sL:Stmt:=by
 run_tac do
  let g <-getMainGoal
  let e <-ofExceptKernelException (Kernel.whnf (<-getEnv) (<-getLCtx) (mkApp2 (mkConst ``pick) (mkApp (mkConst ``forIn) (mkApp2 (mkConst ``pick) (mkConst ``smFindB) (mkRawNatLit 7))) (mkRawNatLit 2)))
  g.assign e
theorem vA(l:List (Int×Int))(k v:Int):(fZ l k v).length<=l.length+1:=by
 induction l with
 |nil=>exact A4 _
 |cons b r ih =>
  obtain⟨a,b⟩:=b
  unfold fZ
  split
  ·exact Ad _
  ·exact B9 ih
section
variable{T:Heap}{Z D:ZP}
abbrev i8(aa:Program)(w:World)(ah piece:Str):List (Str×PV):=[("nothing",.lst []),("a",.str ah),("b2j",aK (strKind aa w) (lS (eB piece.cps.toList))),("blo",.int 0),("bhi",.int (piece.length:Int)),("alo",.int 0),("ahi",.int (ah.length:Int))]
abbrev i5(b:qL)(tl:List (Str×PV)):List (Str×PV):=("besti",.int b.1)::("bestj",.int b.2.1)::("bestsize",.int b.2.2)::tl
theorem wX{i n:Nat}(h:i<n):seqIndex? (i:Int) n=some i:=by
 unfold seqIndex?
 have h1:¬((i:Int)<0):=by omega
 simp[h1,h]
theorem u3{ah piece:Str}{g:Addr}{L:Led}{tk i c:Nat}{old:List (Int×Int)}{best:qL}(S:FS T Z env)(eo:EO env smFindS.names)(hA:A.handled=none)(hc:ah.cps.toList[i]? = some c)(hi:i<ah.length)(hr:ah.length<=100)
  (hj:∀ j∈fR (eB piece.cps.toList) c,0<=j/\j<(piece.length:Int)) (hl:(fR (eB piece.cps.toList) c).length<=100) :
  SX aa w A ⟨T,D,(g,eW (intKind aa w) [])::L,tk⟩ Z env (("newj2len",.raw (.ref g))::("j2lenget",gE (intKind aa w) (bL old))::("i",.int (i:Int))::("j2len",aK (intKind aa w) (bL old))::i5 best (i8 aa w ah piece)) sL
   (.next ((g,eW (intKind aa w) (bL ((fR (eB piece.cps.toList) c).foldl (lC old (i:Int)) ([],best)).1))::L) (("newj2len",.raw (.ref g))::("j2lenget",gE (intKind aa w) (bL old))::("i",.int (i:Int))::i5 ((fR (eB piece.cps.toList) c).foldl (lC old (i:Int)) ([],best)).2 (i8 aa w ah piece))):=by
 have szl:(1000:Nat)<=sizeLine:=by decide
 unfold sL
 refine SX.foldG1 (φ:=PV.int) (items:=fR (eB piece.cps.toList) c) (h:=lC old (i:Int)) (g:=fun st=>(g,eW (intKind aa w) (bL st.1))::L)
  (f:=fun st=>("newj2len",.raw (.ref g))::("j2lenget",gE (intKind aa w) (bL old))::("i",.int (i:Int))::i5 st.2 (i8 aa w ah piece)) (st₀:=([],best)) (Inv:=fun n st=>(st.1.map (·.1)).Nodup/\st.1.length<=n) S eo ⋯ rfl ⟨Gm,A4 _⟩ ?_
  (IX.lst (φ:=PV.int) (l:=fR (eB piece.cps.toList) c) hA (EX.mc1 (p:=aK (strKind aa w) (lS (eB piece.cps.toList))) ‹nm› GMp.dget (LX.cons (EX.sub (p:=.str ah) (q:=.int (i:Int)) ‹nm› ‹nm› (SB.str (c:=c) ?_ ?_ (fun _ _=>rfl) (fun _ _=>rfl))) (LX.cons (p:=.lst []) ‹nm› LX.nil rfl) rfl) (CB.dget (k:=ch c) (fun r=>by cases r;exact G9 _ _ _ _) (y7 _ _)) rfl rfl rfl)) ?_ (fun _=>rfl)
 ·exact ‹sub›
 ·simp only[Bool.or_eq_false_iff,decide_eq_false_iff_not];omega
 ·rw[wX hi];simpa using hc
 ·intro Z' S' n st j ⟨i1,i2⟩ hjm
  have hjr:=hj j (As hjm)
  have hn:n<100:=Bh (A8.mp hjm).1 hl
  have p1:=(xW st.1 j (bY old (j-1)+1) i1).1
  have p2:=vA st.1 j (bY old (j-1)+1)
  have ik:∀{k:Int} {Z:ZP} {h:Heap} {v:Value},Rp Z h (.int k) v->(intKind aa w).is k v=true:=fun r=>by cases r;exact intKind_is _ _ _ _
  refine⟨⟨p1,A7 p2 (B9 i2)⟩,_,?_,Sub.refl _⟩
  show SXs aa w A ⟨T,D,(g,eW (intKind aa w) (bL st.1))::L,tk⟩ Z' env (("j",.int j)::("newj2len",.raw (.ref g))::("j2lenget",gE (intKind aa w) (bL old))::("i",.int (i:Int))::i5 st.2 (i8 aa w ah piece)) _
   (.next ((g,eW (intKind aa w) (bL (fZ st.1 j (bY old (j-1)+1))))::L) (("newj2len",.raw (.ref g))::("j2lenget",gE (intKind aa w) (bL old))::("i",.int (i:Int))::i5 (lC old (i:Int) st j).2 (i8 aa w ah piece)))
  refine SXs.cons (SX.ite (b:=false) (TX.as (TX.cmp (p:=.int j) (q:=.int 0) ‹nm› ‹nm› O2.ltI rfl) (Bd ‹o›)) (fun h=>by cases h) (fun _=>SXs.nil)) ?_
  refine SXs.cons (SX.ite (b:=false) (TX.as (TX.cmp (p:=.int j) (q:=.int (piece.length:Int)) ‹nm› ‹nm› O2.geI rfl) (Bd ‹o›)) (fun h=>by cases h) (fun _=>SXs.nil)) ?_
  refine SXs.cons (SX.as2 (p:=.int (bY old (j-1)+1)) (EX.d (EX.bin (p:=.int (bY old (j-1))) (EX.bcall (D:=bL old) (k:=j-1) (kp:=.int (j-1)) ‹nm› (LX.cons (EX.bin (p:=.int j) ‹nm› EX.cint O2.subI) (LX.cons EX.cint LX.nil rfl) rfl) ik (w7 old (j-1)) rfl rfl ⟨_,_,rfl⟩ rfl) EX.cint O2.addI)) (AS.nm S' eo ⋯) (AS.sub (k:=j) (kp:=.int j) S' ‹nm› ‹nm› ik rfl (by show(bL st.1).length<=_;unfold bL;rw[List.length_map];omega)) rfl rfl rfl) ?_
  refine SXs.led (H:=⟨T,D,[],tk⟩) (L₂:=(g,eW (intKind aa w) (bL (fZ st.1 j (bY old (j-1)+1))))::L) (by rw[yS _ _ _ i1]) ?_
  by_cases q:st.2.2.2<bY old (j-1)+1
  ·have e:(lC old (i:Int) st j).2=((i:Int)-(bY old (j-1)+1)+1,j-(bY old (j-1)+1)+1,bY old (j-1)+1):=if_pos q
   rw[e]
   refine SXs.next_forget (SXs.one (SX.ite (b:=true) (TX.as (TX.cmp (p:=.int (bY old (j-1)+1)) (q:=.int st.2.2.2) ‹nm› ‹nm› O2.gtI rfl) (B8 q)) (fun _=>SXs.one (SX.assign3 S' eo hA (EX.tuple (ps:=[.int ((i:Int)-(bY old (j-1)+1)+1),.int (j-(bY old (j-1)+1)+1),.int (bY old (j-1)+1)]) (LX.cons (EX.bin (EX.bin (p:=.int (i:Int)) (q:=.int (bY old (j-1)+1)) ‹nm› ‹nm› O2.subI) EX.cint O2.addI) (LX.cons (EX.bin (EX.bin (p:=.int j) (q:=.int (bY old (j-1)+1)) ‹nm› ‹nm› O2.subI) EX.cint O2.addI) (LX.cons ‹nm› LX.nil rfl) rfl) rfl) (by show 3<=sizeLine;decide)) ⋯ rfl)) (fun h=>by cases h))) ?_
   exact ‹sub›
  ·have e:(lC old (i:Int) st j).2=st.2:=if_neg q
   rw[e]
   refine SXs.next_forget (SXs.one (SX.ite (b:=false) (TX.as (TX.cmp (p:=.int (bY old (j-1)+1)) (q:=.int st.2.2.2) ‹nm› ‹nm› O2.gtI rfl) (Bd q)) (fun h=>by cases h) (fun _=>SXs.nil))) ?_
   exact ‹sub›
theorem uI{bs:List (Nat×List Int)}{n:Int}(h:bs.all (fun b=>decide (b.2.length<=100)&&b.2.all fun j=>decide (0<=j)&&decide (j<n))=true)(c:Nat):(fR bs c).length<=100/\∀ j∈fR bs c,0<=j/\j<n:=by
 unfold fR
 cases e:bs.find? fun b=>b.1==c with
 |none=>exact⟨Ap _,fun j hj=>by cases hj⟩
 |some b =>
  have:=A9.mp h b (Fc e)
  simp only[Bool.and_eq_true,decide_eq_true_eq,List.all_eq_true]at this
  exact⟨this.1,this.2⟩
theorem wE{K:Frag}{C fI fS f1 f2 fC fF x dx Cm:Addr}{tk:Nat}{i j k:Int}(M:SmK T K C fI fS f1 f2 fC fF)(R:Rm 3 A)(hz:∀ a,Z a->T.get? a=none)(hsm:∃ o,T.get? sysModules=some o)(hle:Bi T "len" (.builtin "len"))(hra:Bi T "range" (.type "range"))(hMa:Gl T "Match" (.ref Cm))(hMk:eJ K Cm=true)
  {ah piece:Str} (ok:oF ah piece=true)
  (hM:∀{A:Around} {Z D:ZP} {L:Led} {tk:Nat},Rm 2 A->(∀ a,Z a->T.get? a=none)->CBc aa w A ⟨T,D,L,tk⟩ Z (.ref Cm) [.int (aP ah piece).2.1,.int (aP ah piece).2.2.1,.int (aP ah piece).2.2.2] [] (lM Cm [.int (aP ah piece).2.1,.int (aP ah piece).2.2.1,.int (aP ah piece).2.2.2]) L) :
  CBc aa w A ⟨T,D,[(dx,a9 dR (dQ aa w ah piece))],tk⟩ Z (.ref fF) [aG C x dx] [] (lM Cm [.int (aP ah piece).2.1,.int (aP ah piece).2.2.1,.int (aP ah piece).2.2.2]) [(dx,a9 dR (dQ aa w ah piece))]:=by
 unfold oF at ok
 simp only[Bool.and_eq_true (_&&_) _,Bool.and_eq_true (piece.cps.all _) _,decide_eq_true_eq]at ok
 obtain⟨⟨⟨⟨⟨hx,hpl⟩,hrl⟩,hbs⟩,hb1⟩,hb2⟩:=ok
 refine CBc.mk (n:=2) (out:=.ret [(dx,a9 dR (dQ aa w ah piece))] _) M.lim M.dfF M.bF ⋯ R hz rfl rfl rfl fun A' Z' env R' S eo=>?_
 show SXs aa w A' ⟨T,D,[(dx,a9 dR (dQ aa w ah piece))],0⟩ Z' env [("self",aG C x dx),("alo",.int 0),("ahi",.none),("blo",.int 0),("bhi",.none)] smFindB _
 have X:∀{D:ZP} {L:Led},K.In (Ctx.H ⟨T,D,L,0⟩):=M.inn
 have lk:∀{m:MO} {L:Led},List.lookup dx ((dx,m)::L)=some m:=fun{m L}=>by rw[List.lookup_cons];simp
 have hA:=R'.hd
 have szl:(1000:Nat)<=sizeLine:=by decide
 unfold smFindB
 refine SXs.cons (SX.doc (by unfold interactive;rw[S.fn];rfl)) ?_
 refine SXs.cons (SX.assignT (p:=.tup [.str ah,.str piece,aK (strKind aa w) (lS (eB piece.cps.toList)),yF]) (EX.tuple (LX.cons (EX.attr (C:=C) (x:=x) (dx:=dx) (ns:=dR) (ps:=dQ aa w ah piece) X ‹nm› lk ⋯ (cF M.at_ ⋯) rfl rfl (fun _ _=>rfl))
  (LX.cons (EX.attr (C:=C) (x:=x) (dx:=dx) (ns:=dR) (ps:=dQ aa w ah piece) X ‹nm› lk ⋯ (cF M.at_ ⋯) rfl rfl (fun _ _=>rfl))
  (LX.cons (EX.attrO (C:=C) (x:=x) (dx:=dx) (ns:=dR) (ps:=dQ aa w ah piece) X ‹nm› lk ⋯ (cF M.at_ ⋯) (fun r=>by obtain⟨g,au,rfl,_⟩:=r.dicOf;rfl) rfl (fun _ _=>rfl))
  (LX.cons (EX.cont (EX.attrO (C:=C) (x:=x) (dx:=dx) (ns:=dR) (ps:=dQ aa w ah piece) X ‹nm› lk ⋯ (cF M.at_ ⋯) (fun r=>by obtain⟨a,led,rfl,_⟩:=r.setOf;rfl) rfl (fun _ _=>rfl)) rfl) LX.nil rfl) rfl) rfl) rfl) (by show 4<=sizeLine;decide))
  (BD.tuple hA (BDs.cons S (eo.bds ⋯) (BDs.cons S (eo.bds ⋯) (BDs.cons S (eo.bds ⋯) (BDs.cons S (eo.bds ⋯) BDs.nil)))) rfl rfl) rfl rfl rfl) ?_
 refine SXs.cons (SX.ite (b:=true) (TX.cmp (p:=.none) ‹nm› EX.cnone (O2.isNone rfl) rfl) (fun _=>SXs.one (SX.set (p:=.int (ah.length:Int)) S eo (EX.callB (NM.b S eo hle ⋯ ⋯) (LX.cons (p:=.str ah) ‹nm› LX.nil rfl) (CB.lenS ‹o›) rfl rfl rfl) ⋯ ⋯)) (fun h=>by cases h)) ?_
 refine SXs.cons (SX.ite (b:=true) (TX.cmp (p:=.none) ‹nm› EX.cnone (O2.isNone rfl) rfl) (fun _=>SXs.one (SX.set (p:=.int (piece.length:Int)) S eo (EX.callB (NM.b S eo hle ⋯ ⋯) (LX.cons (p:=.str piece) ‹nm› LX.nil rfl) (CB.lenS ‹o›) rfl rfl rfl) ⋯ ⋯)) (fun h=>by cases h)) ?_
 refine SXs.cons (SX.assign3 S eo hA (EX.tuple (ps:=[.int 0,.int 0,.int 0]) (LX.cons ‹nm› (LX.cons ‹nm› (LX.cons EX.cint LX.nil rfl) rfl) rfl) (by show 3<=sizeLine;decide)) ⋯ rfl) ?_
 refine SXs.cons (SX.set (p:=aK (intKind aa w) (bL [])) S eo (EX.dict0 hsm) ⋯ ⋯) ?_
 refine SXs.cons (SX.set (p:=.lst []) S eo (EX.list LX.nil (Ap _)) ⋯ ⋯) ?_
 refine SXs.cons (SX.foldG1 (φ:=fun(n:Nat)=>.int (n:Int)) (items:=List.range ah.length) (h:=lQ (eB piece.cps.toList) ah) (g:=fun _=>[(dx,a9 dR (dQ aa w ah piece))]) (f:=fun st=>("j2len",aK (intKind aa w) (bL st.1))::i5 st.2 (i8 aa w ah piece)) (st₀:=([],(0,0,0))) (Inv:=fun _ _=>True) S eo ⋯ rfl trivial ?_
  (IX.as (IX.rng (a:=0) (b:=(ah.length:Int)) ah.length ‹o› hA (EX.callT (NM.b S eo hra ⋯ ⋯) (LX.cons (p:=.int 0) ‹nm› (LX.cons (p:=.int (ah.length:Int)) ‹nm› LX.nil rfl) rfl) CB.range2 rfl rfl rfl) ?_) ?_) ?_ (fun _=>rfl)) ?_
 ·exact ‹sub›
 ·have h9:∀ k:Nat,k<101->Builtin.Range.small 0 (k:Int) 1=true:=by decide +kernel
  exact h9 _ ‹o›
 ·refine En fun n _=>?_
  rw[Int.zero_add]
 ·intro Z2 S2 n st m _ hm
  have hm':m<ah.length/\n=m:=by
   obtain⟨h1,h2⟩:=A8.mp hm
   simp at h1 h2;exact⟨by omega,h2⟩
  obtain⟨hml,rfl⟩:=hm'
  refine⟨trivial,_,?_,Sub.refl _⟩
  have hc:ah.cps.toList[n]? = some (ah.cps.toList.getD n 0):=by
   rw[List.getD_eq_getElem?_getD,List.getElem?_eq_getElem (by rw[len_list];exact hml)];rfl
  obtain⟨l1,l2⟩:=uI hbs (ah.cps.toList.getD n 0)
  show SXs aa w A' ⟨T,D,[(dx,a9 dR (dQ aa w ah piece))],0⟩ Z2 env (("i",.int (n:Int))::("j2len",aK (intKind aa w) (bL st.1))::i5 st.2 (i8 aa w ah piece)) _
   (.next [(dx,a9 dR (dQ aa w ah piece))] (("j2len",aK (intKind aa w) (bL (lQ (eB piece.cps.toList) ah st n).1))::i5 (lQ (eB piece.cps.toList) ah st n).2 (i8 aa w ah piece)))
  refine SXs.cons (SX.set (p:=gE (intKind aa w) (bL st.1)) S2 eo (EX.bget ‹nm›) ⋯ ⋯) ?_
  refine SXs.growG (H:=⟨T,D,[(dx,a9 dR (dQ aa w ah piece))],0⟩) S2 eo ⋯ hsm pF.dict (fun g S3=>u3 (best:=st.2) (old:=st.1) S3 eo hA hc hml hrl l2 l1) (fun g h=>r6 g h) ?_
  show SXs aa w A' ⟨T,D,[(dx,a9 dR (dQ aa w ah piece))],0⟩ Z2 env (("newj2len",aK (intKind aa w) (bL (lQ (eB piece.cps.toList) ah st n).1))::("j2lenget",gE (intKind aa w) (bL st.1))::("i",.int (n:Int))::i5 (lQ (eB piece.cps.toList) ah st n).2 (i8 aa w ah piece)) _ _
  refine SXs.next_forget (SXs.one (SX.set (p:=aK (intKind aa w) (bL (lQ (eB piece.cps.toList) ah st n).1)) S2 eo ‹nm› ⋯ ⋯)) ?_
  exact ‹sub›
 have e0:∀{b:Bool},(b&&(false&&false))=false:=fun{b}=>by rw[Bool.and_false,Bool.and_false]
 show SXs aa w A' ⟨T,D,[(dx,a9 dR (dQ aa w ah piece))],0⟩ Z' env (("j2len",aK (intKind aa w) (bL (aP ah piece).1))::i5 (aP ah piece).2 (i8 aa w ah piece)) _ _
 refine SXs.cons (SX.whileF (TX.as (TX.all (AT.consAnd (TX.cmp (p:=.int (aP ah piece).2.1) (q:=.int 0) ‹nm› ‹nm› O2.gtI rfl) fun _=>AT.consAnd (TX.as (TX.cmp (p:=.int (aP ah piece).2.2.1) (q:=.int 0) ‹nm› ‹nm› O2.gtI rfl) (Bd ‹o›)) (c:=false) fun h=>by cases h)) e0)) ?_
 refine SXs.cons (SX.whileF (TX.as (TX.all (AT.consAnd (TX.cmp (q:=.int (ah.length:Int)) (EX.bin (p:=.int (aP ah piece).2.1) (q:=.int (aP ah piece).2.2.2) ‹nm› ‹nm› O2.addI) ‹nm› O2.ltI rfl) fun _=>AT.consAnd (TX.as (TX.cmp (q:=.int (piece.length:Int)) (EX.bin (p:=.int (aP ah piece).2.2.1) (q:=.int (aP ah piece).2.2.2) ‹nm› ‹nm› O2.addI) ‹nm› O2.ltI rfl) (Bd ‹o›)) (c:=false) fun h=>by cases h)) e0)) ?_
 refine SXs.cons (SX.whileF (TX.as (TX.all (AT.consAnd (TX.cmp (p:=.int (aP ah piece).2.1) (q:=.int 0) ‹nm› ‹nm› O2.gtI rfl) fun _=>AT.consAnd (TX.as (TX.cmp (p:=.int (aP ah piece).2.2.1) (q:=.int 0) ‹nm› ‹nm› O2.gtI rfl) (Bd ‹o›)) (c:=false) fun h=>by cases h)) e0)) ?_
 refine SXs.cons (SX.whileF (TX.as (TX.all (AT.consAnd (TX.cmp (q:=.int (ah.length:Int)) (EX.bin (p:=.int (aP ah piece).2.1) (q:=.int (aP ah piece).2.2.2) ‹nm› ‹nm› O2.addI) ‹nm› O2.ltI rfl) fun _=>AT.consAnd (TX.as (TX.cmp (q:=.int (piece.length:Int)) (EX.bin (p:=.int (aP ah piece).2.2.1) (q:=.int (aP ah piece).2.2.2) ‹nm› ‹nm› O2.addI) ‹nm› O2.ltI rfl) (Bd ‹o›)) (c:=false) fun h=>by cases h)) e0)) ?_
 refine SXs.one (SX.retD (EXd.cls (H:=⟨T,D,[(dx,a9 dR (dQ aa w ah piece))],0⟩) S X hMk (NM.glob S (by rw[eo.kind];kernel_rfl) hMa ⋯) (LX.cons (p:=.int (aP ah piece).2.1) ‹nm› (LX.cons (p:=.int (aP ah piece).2.2.1) ‹nm› (LX.cons (p:=.int (aP ah piece).2.2.2) ‹nm› LX.nil rfl) rfl) rfl) (.inr ⟨_,_,rfl⟩) rfl rfl (hM R' S.zt).d))
end
end
structure MaK(aa:Program)(w:World)(T:Heap)(K:Frag)(C sm f:Addr):Prop where
 lim:T.NoLimit
 inn:K.In T
 mat:Mat (model aa w) T C
 new:sH K C sm f=true
 df:cB T maNewB maNewS ["_cls","a","b","size"] f
 b:aV T f 4 [] ["_cls","a","b","size"] []
section
variable{T:Heap}{K:Frag}{C sm f:Addr}{Z D:ZP}{L:Led}{tk:Nat}
theorem zW(M:MaK aa w T K C sm f)(R:Rm 2 A)(hz:∀ a,Z a->T.get? a=none)(htu:Bi T "tuple" (.type "tuple"))(i j k:Int) :
  CBc aa w A ⟨T,D,L,tk⟩ Z (.ref C) [.int i,.int j,.int k] [] (lM C [.int i,.int j,.int k]) L:=by
 refine uV (H:=⟨T,D,L,tk⟩) M.mat M.inn M.new fun vs=>?_
 refine CBc.mk (n:=0) (H:=⟨T,D,L,tk⟩) (out:=.ret L _) M.lim M.df M.b ⋯ R.tc hz rfl rfl rfl fun A' Z' env R' S eo=>?_
 show SXs aa w A' ⟨T,D,L,0⟩ Z' env [("_cls",.raw (.ref C)),("a",.int i),("b",.int j),("size",.int k)] maNewB _
 unfold maNewB
 refine SXs.cons (SX.doc (by unfold interactive;rw[S.fn];rfl)) ?_
 refine SXs.one (SX.retn ?_)
 refine EX.tnew (H:=⟨T,D,L,0⟩) M.mat (NM.b S eo htu ⋯ ⋯) (LX.cons (p:=.raw (.ref C)) ‹nm› (LX.cons (EX.tuple (LX.cons (p:=.int i) ‹nm› (LX.cons (p:=.int j) ‹nm› (LX.cons (p:=.int k) ‹nm› LX.nil rfl) rfl) rfl) (by show 3<=sizeLine;decide)) LX.nil rfl) rfl) (by show 3<=sizeLine;decide) rfl rfl rfl
end
structure AcF(aa:Program)(T:Heap)(K:Frag)(C fI cc cda:Addr):Prop where
 lim:T.NoLimit
 inn:K.In T
 ok:cU K C
 fn:∃ of fd,T.get? fI=some of/\of.data=.func fd/\fd.body=.stmts accInitB/\fd.scope=accInitS/\fd.closure=[(("__class__" : Str),cc)]/\fd.code=.ref cda/\T.CodeRec fd.code fd.qualname/\fd.globals=mainGlobals/\fd.builtins=builtinsNs /\
  (∀ M x v,Looks M T (bindArgs fd ⟨[x,v],[]⟩) [(("self" : Str),x),(("initial_size" : Str),v)])/\∃ ar,(fd.params.posonlyargs++fd.params.args).head? = some ar/\ar.arg = "self"
 cell:T.IsCell cc (some (.ref C))
 file:∃ oc vs file tf,T.get? cda=some oc/\oc.data=.fields vs/\vs[2]? = some (.str file tf)/\((aa.main.file:Str)==file)=true
 top:(aa.main.scope.names.lookup ("super" : Str)).isSome=false
 sup:Bi T "super" (.type "super")
 along:alongIn K "__init__" [.type "list",.type "object"]=some (some (.builtin "list.__init__"))
 opq:nsIn K cStatics "thirdparty.any" = some none
 at_:sA K C "_initial_size" = true
section
variable{T:Heap}{K:Frag}{C fI cc cda x dx:Addr}
theorem vB{h:Heap}{g:Array GenState}{d:Drawn}{t t0 n:Nat}{k:Int}{os:OsState}{R:Result->Shared->Prop}(M:AcF aa T K C fI cc cda)(hroom:A.depth<recursionLimit)(top:∀ b o,T.get? b=some o->h.get? b=some o)(hx:h.get? x=some (aD C dx #[] n))(hd:h.get? dx=some (dictOf [] 0))(hxd:x≠dx)(tx:T.get? x=none)(td:T.get? dx=none)
  (hR:∀ h' tk es n',(∀ b o,b≠x->b≠dx->h.get? b=some o->h'.get? b=some o)->h'.get? x=some (aD C dx #[] n)->h'.get? dx=some (dictOf es n')->jJ es ["_initial_size"] [.int k t0]->t<=tk->R (.ok (.ret .none)) ⟨h',g,d,tk,os⟩) :
  codeAny (model aa w) A (.call (.ref fI) ⟨[.ref x,.int k t0],[]⟩) R ⟨h,g,d,t,os⟩:=by
 obtain⟨of,fd,hf,hfd,hbody,hsc,hcl,hcode,hrec,hgl,hbl,hbind,ar,har,hars⟩:=M.fn
 have XX:K.In h:=M.inn.keeps top
 obtain⟨oc,vs,file,tf,hcda,hocd,hvs2,hfile⟩:=M.file
 have hxC:x≠C:=fun q=>by
  obtain⟨cd,hc,_⟩:=M.ok.mro
  unfold clsIn at hc
  split at hc
  ·rename_i ho
   have e:=XX _ _ ho
   rw[<-q,hx]at e
   cases e
  ·cases hc
 refine ks_codeAny_call_defAt (binds:=[("self",.ref x),("initial_size",.int k t0)]) hroom (top _ _ hf) hfd (M.lim.keeps top) (hrec.keeps top) hbody (fun M A E Q hq=>hbind M _ _ A Q E _ top hq) (by rw[hsc];unfold accInitS;decide +kernel) (by rw[hsc];intro y hy;rcases Ab.mp hy with rfl|hy;kernel_rfl;rcases Ab.mp hy with rfl|hy;kernel_rfl;cases hy) (fun h_0 hns k_0=>?_) (by rw[hsc];rfl) (by rw[hsc];rfl) (by rw[hsc];rfl)
 generalize hL:h.objs.size=L at hns ⊢
 have kd:∀ y,(callEnv fd L fI).kindOf y=accInitS.names.lookup y:=fun y=>by show fd.scope.names.lookup y=_;rw[hsc]
 have hk:(callEnv fd L fI).scope.kind=.function:=by show fd.scope.kind=_;rw[hsc];rfl
 have e0:h_0.get? x=some (aD C dx #[] n):=k_0 _ _ hx
 have e1:h_0.get? dx=some (dictOf [] 0):=k_0 _ _ hd
 have top0:∀ b o,T.get? b=some o->h_0.get? b=some o:=fun b o e=>k_0 b o (top b o e)
 unfold accInitB
 refine ks_wpAt_execs_cons (ks_wpAt_Assign_Attr (wpAt_of_wpAny (Cz (B5 hk (by rw[kd];kernel_rfl) hns (v:=.int k t0) ⋯ ?_) ⋯)) rfl)
 refine Cz (B5 hk (by rw[kd];kernel_rfl) hns (v:=.ref x) ⋯ ?_) ⋯
 refine wY M.ok (M.inn.keeps top0) e0 e1 M.at_ rfl (fun hs t=>by show 1<=1000;decide) fun h_1 hs t_1 ed sb=>?_
 have ne:=hxd
 have e2:h_1.get? x=some (aD C dx #[] n):=(sb.2 x ne).trans e0
 dsimp only
 have hcl':(callEnv fd L fI).cells.lookup ("__class__" : Str)=some cc:=by show fd.closure.lookup _=_;rw[hcl];simp
 have k_1:∀ b o,b≠dx->h_0.get? b=some o->h_1.get? b=some o:=fun b o nb e=>(sb.2 b nb).trans e
 have nT:∀ b o,T.get? b=some o->b≠dx:=fun b o e q=>by rw[q,td]at e;cases e
 have top_1:∀ b o,T.get? b=some o->h_1.get? b=some o:=fun b o e=>k_1 b o (nT b o e) (top0 b o e)
 have X1:=M.inn.keeps top_1
 obtain⟨cd,hc,hm,_⟩:=M.ok.mro
 obtain⟨oD,hD1,hD2⟩:∃ oD,h_1.get? C=some oD/\oD.data=.cls cd:=by
  unfold clsIn at hc
  split at hc
  ·rename_i c d cd' sl ho
   cases hc
   exact⟨_,X1 _ _ ho,rfl⟩
  ·cases hc
 refine ks_wpAt_execs_cons (ks_wpAt_Expr_any (ks_wpAt_MethodCall (pl:=_) (ks_wpAt_super_base (p0:=_) (by rw[kd];kernel_rfl) (by rw[kd];kernel_rfl) ⋯ rfl (top_1 _ _ hf) hfd har hcode (top_1 _ _ hcda) hocd hvs2 hfile M.top ?_) rfl) (by unfold interactive;rw[hk];rfl) rfl)
 obtain⟨mg,mb,g1,g2,g3,g4⟩:=M.sup
 refine ks_loadName_global hk (by rw[kd];kernel_rfl) (loadGlobal_builtin (mg:=mg) (mb:=mb) (by show Heap.Ns _ fd.globals _;rw[hgl];exact g1.keeps top_1) g2 (by show Heap.Ns _ fd.builtins _;rw[hbl];exact g3.keeps top_1) g4 ⟨rfl,?_⟩)
 refine wpAny_loadName_free hk (by rw[kd];kernel_rfl) hcl' (M.cell.keeps top_1) ?_
 have hdL:dx≠L:=by rw[<-hL];exact Au (Ac hd)
 have hns1:=hns.at' (h':=h_1) fun o e=>(sb.2 L hdL.symm).trans e
 refine B5 hk (by rw[kd,hars];kernel_rfl) hns1 (v:=.ref x) (by rw[hars];kernel_rfl) ?_
 refine ks_wpAny_isType_cls hD1 hD2 ⟨rfl,?_⟩
 refine ks_wpAny_call_super hD1 hD2 e2 rfl (fun c e=>by cases e) (M.ok.self X1) (fun h_2 es k_2=>?_)
 have e3:=k_2 _ _ e2
 have top_2:∀ b o,T.get? b=some o->h_2.get? b=some o:=fun b o e=>k_2 _ _ (top_1 b o e)
 have X2:=M.inn.keeps top_2
 refine tX M.ok X2 (looks_opaque X2 M.opq) e3 hxC es M.along ?_
 have k_3:∀ b o,h_2.get? b=some o->(h_2.push (kZ x)).get? b=some o:=fun b o e=>A2 _ e
 unfold callWith
 refine A0 (A5 (PySem.evalArgs_none (A0 (Ag ?_))))
 have hmw:(h_2.push (kZ x)).get? h_2.objs.size=some (kZ x):=A3 _ rfl
 refine A0 ?_
 unfold keeperOf
 refine A0 (Ct hmw ?_)
 dsimp only
 rw[if_pos ‹k›]
 refine A1 ?_
 show wpAny _ _ (call (.ref h_2.objs.size) [] [] >>= fun r=>holding [r] point >>= fun _=>pure r) _ _ _
 refine A0 (z8 (k_3 _ _ e3) hmw fun h_4 e4 s4=>A0 (A5 (Gi (A1 ?_))))
 have kk:∀ b o,b≠x->b≠dx->h.get? b=some o->h_4.get? b=some o:=fun b o n1 n2 e=>(s4.2 b n1).trans (k_3 _ _ (k_2 _ _ (k_1 b o n2 (k_0 b o e))))
 have e5:h_4.get? dx=some _:=(s4.2 dx hxd.symm).trans (k_3 _ _ (k_2 _ _ ed))
 have hi:=(jJ.put (x := "_initial_size") (hs:=hs) (t:=t_1) (v:=.int k t0) (es:=[]) (ns:=[]) (vs:=[]) trivial).1
 exact wpAt_of_wpAny (C8 (hR h_4 (t+2+2+1) _ _ kk e4 e5 hi ‹o›))
end
section
variable{K:Frag}{C fI cc cda:Addr}
abbrev m9:List Str:=["_initial_size"]
abbrev Ctx.acc(H:Ctx)(C x dx:Addr)(k:Int)(l:List PV):Ctx:=(H.own dx (a9 m9 [.int k])).own x (aJ C dx l)
theorem SXs.keptA{x y:Str}{py aj cpos pos:Pos}{e:Expr}{k:Int}{l':List PV}{p:PV}{ai:List Stmt}(M:AcF aa H.H K C fI cc cda)(S:FS H.H Z env)(eo:EO env sc)(hy:aS sc y=true)(hk:eJ K C=true)(hn:∀{h:Heap},K.In h->vY (model aa w) h C)
  (hi:findIn K (.ref C) "__init__" = some (some (.ref fI))) (hf:typeIn K (.ref fI)=some (.type "function")) (R:Rm 1 A)
  (hx:NM aa w A H Z env x (.ref C)) (he:EX aa w A H Z env ρ e (.int k)) (hse:starEach [e] env=[(false,eval e env)])
  (he1:eval (.Call (.Name x aj) [e] [] cpos) env=(do callWith cpos (<-eval (.Name x aj) env) [] (backTo cpos (starEach [e] env)) (backToKw cpos (keywordEach [] env))))
  (hrest:∀ x dx,(∀ a m,H.L.lookup a=some m->a≠dx/\a≠x)->x≠dx->FS H.H (aX (aX Z dx) x) env->SXs aa w A (H.acc C x dx k []) (aX (aX Z dx) x) env ((y,.raw (.ref x))::ρ) ai (.ret ((x,aJ C dx l')::(dx,a9 m9 [.int k])::H.L) p))
  (hs:swapsWith (.Call (.Name x aj) [e] [] cpos) (some (.Name y py)) pos.line env=pure false:=by rfl):SXs aa w A H Z env ρ (.Assign [.Name y py] (.Call (.Name x aj) [e] [] cpos) pos::ai) (.ret H.L p):=by
 refine⟨fun s E F=>?_⟩
 refine Aq (By (iT F M.inn hk hx (LX.cons he LX.nil hse) (.inr ⟨_,_,by rw[hse];rfl⟩) (by rw[hse];rfl) he1 fun s_1 vs F_1 P k_1=>B6 ?_) hs)
 obtain⟨_,_,rfl,r1,P⟩:=aI P
 obtain rfl:=cX P
 obtain⟨t0,rfl⟩:=Rp.intI r1
 have XX:K.In s_1.heap:=M.inn.keeps F_1.top
 obtain⟨hh',g,d,t,os⟩:=s_1
 have ex:((hh'.push emptyDict).push (aD C hh'.objs.size #[] 0)).get? (hh'.objs.size+1)=some (aD C hh'.objs.size #[] 0):=by heap_get
 have ed:((hh'.push emptyDict).push (aD C hh'.objs.size #[] 0)).get? hh'.objs.size=some emptyDict:=by heap_get
 have ex':(hh'.push emptyDict).get? (hh'.objs.size+1)=Option.none:=aE _ (by rw[Heap.size_push];exact A4 _)
 have hg:(⟨hh',g,d,t,os⟩:Shared).heap.get? hh'.objs.size=Option.none:=aE _ (A4 _)
 have nz:¬Z hh'.objs.size:=F_1.toGT.free hg
 obtain⟨Fa,Sa⟩:=F_1.grow S (s':=⟨hh'.push emptyDict,g,d,t,os⟩) (Kp.push N0 _ _) hg (m:=a9 [] []) ⟨_,[],A3 _ rfl,⟨[],0,rfl,trivial⟩,.nil⟩
 have nzx:¬aX Z hh'.objs.size (hh'.objs.size+1):=Fa.toGT.free ex'
 obtain⟨Fb,Sb⟩:=FI.grow (H:=H.own hh'.objs.size (a9 [] [])) Sa Fa (s':=⟨(hh'.push emptyDict).push (aD C hh'.objs.size #[] 0),g,d,t,os⟩) (Kp.push N0 _ _) ex' (m:=aJ C hh'.objs.size []) ⟨_,[],ex,⟨0,rfl⟩,.nil⟩
 have nl:∀ a m,H.L.lookup a=some m->a≠hh'.objs.size/\a≠hh'.objs.size+1:=fun a m e=>⟨fun q=>nz (q▸F_1.dz a (F_1.ld a m e).1),fun q=>nzx (.inl (q▸F_1.dz a (F_1.ld a m e).1))⟩
 have bn:hh'.objs.size+1≠hh'.objs.size:=C2 _
 refine uL (hn XX) XX hi hf (vB M (by have:=(R.tc (n:=0) (C:=C) (vs:=[Value.int k t0]) (kw:=[])).dp;omega) Fb.top ex ed bn (Sb.zt _ (.inr rfl)) (Sb.zt _ (.inl (.inr rfl))) fun h' tk es n' kk e1 e2 hin ht=>?_)
 refine⟨rfl,?_⟩
 have kz:∀ b o,¬aX (aX Z hh'.objs.size) (hh'.objs.size+1) b->((hh'.push emptyDict).push (aD C hh'.objs.size #[] 0)).get? b=some o->h'.get? b=some o:=fun b o z e=>kk b o (fun q=>z (.inr q)) (fun q=>z (.inl (.inr q))) e
 have G':GS (H.acc C (hh'.objs.size+1) hh'.objs.size k []) (aX (aX Z hh'.objs.size) (hh'.objs.size+1)) ⟨h',g,d,tk,os⟩:=by
  refine⟨⟨fun b o e=>kk b o (fun q=>by have:=Sb.zt _ (.inr rfl);rw[q,this]at e;cases e) (fun q=>by have:=Sb.zt _ (.inl (.inr rfl));rw[q,this]at e;cases e) (Fb.top b o e),fun a z=>?_⟩,A7 Fb.tk ht,Fb.dz,fun a m e=>?_⟩
  ·by_cases q:a=hh'.objs.size+1
   ·exact⟨_,q▸e1⟩
   ·by_cases q':a=hh'.objs.size
    ·exact⟨_,q'▸e2⟩
    ·obtain⟨o,e⟩:=Fb.zex a z
     exact⟨o,kk a o q q' e⟩
  ·have e':List.lookup a ((hh'.objs.size+1,aJ C hh'.objs.size [])::(hh'.objs.size,a9 m9 [.int k])::H.L)=some m:=e
   rw[List.lookup_cons]at e'
   by_cases q:a=hh'.objs.size+1
   ·subst q
    simp at e';subst e'
    exact⟨.inr rfl,_,[],e1,⟨0,rfl⟩,.nil⟩
   ·rw[beq_eq_false_iff_ne.mpr q]at e'
    rw[List.lookup_cons]at e'
    by_cases q':a=hh'.objs.size
    ·subst q'
     simp at e';subst e'
     exact⟨.inl (.inr rfl),_,[.int k t0],e2,⟨es,n',rfl,hin⟩,.cons (.int _ _) .nil⟩
    ·rw[beq_eq_false_iff_ne.mpr q']at e'
     have old:=Fb.ld a m (by show List.lookup a ((hh'.objs.size+1,aJ C hh'.objs.size [])::(hh'.objs.size,a9 [] [])::H.L)=some m;rw[List.lookup_cons,beq_eq_false_iff_ne.mpr q,List.lookup_cons,beq_eq_false_iff_ne.mpr q'];exact e')
     exact⟨old.1,old.2.keep (fun o e=>kk a o q q' e) kz⟩
 have k_3:Kp (H.acc C (hh'.objs.size+1) hh'.objs.size k []).D (⟨(hh'.push emptyDict).push (aD C hh'.objs.size #[] 0),g,d,t,os⟩:Shared) ⟨h',g,d,tk,os⟩:=Kp.mk (h':=h') (tk:=tk) (fun b o n e=>kk b o (fun q=>n (.inr q)) (fun q=>n (.inl (.inr q))) e) ht
 have F_3:FI (H.acc C (hh'.objs.size+1) hh'.objs.size k []) (aX (aX Z hh'.objs.size) (hh'.objs.size+1)) env ρ ⟨h',g,d,tk,os⟩:=FI.led (H:=(H.own hh'.objs.size (a9 [] [])).own (hh'.objs.size+1) (aJ C hh'.objs.size [])) Sb Fb G' k_3
 refine wpM (FI.store (H:=H.acc C (hh'.objs.size+1) hh'.objs.size k []) Sb F_3 (.raw _) (eo.bds hy)) (fun _ s_4 h_4=>?_)
 refine wpM ((hrest _ _ nl bn Sb).run s_4 E h_4.1) (fun f s5 h_5=>?_)
 obtain⟨⟨v,rfl,rv',G5⟩,k5⟩:=h_5
 refine⟨⟨v,rfl,rv'.sub fun a o _ q=>.inl (.inl q),⟨G5.top,fun a z=>G5.zex a (.inl (.inl z))⟩,G5.tk,F_1.dz,fun a m e=>?_⟩,?_⟩
 ·obtain⟨n1,n2⟩:=nl a m e
  obtain⟨_,q⟩:=G5.ld a m (by show List.lookup a ((hh'.objs.size+1,aJ C hh'.objs.size l')::(hh'.objs.size,a9 m9 [.int k])::H.L)=some m;rw[List.lookup_cons,beq_eq_false_iff_ne.mpr n2,List.lookup_cons,beq_eq_false_iff_ne.mpr n1];exact e)
  exact⟨(F_1.ld a m e).1,q.sub fun a o _ q=>.inl (.inl q)⟩
 ·have ne:∀ b o,hh'.get? b=some o->b≠hh'.objs.size/\b≠hh'.objs.size+1:=fun b o e=>⟨Au (Ac e),Au (C6 (Ac e))⟩
  have kp:Kp N0 (⟨hh',g,d,t,os⟩:Shared) ⟨(hh'.push emptyDict).push (aD C hh'.objs.size #[] 0),g,d,t,os⟩:=(Kp.push N0 (⟨hh',g,d,t,os⟩:Shared) emptyDict).trans (Kp.push N0 (⟨hh'.push emptyDict,g,d,t,os⟩:Shared) _)
  have nd:∀ b o,hh'.get? b=some o->¬Tn H env b->¬(H.acc C (hh'.objs.size+1) hh'.objs.size k []).D b:=fun b o e n q=>q.elim (fun q=>q.elim (fun q=>n (.inr q)) (ne b o e).1) (ne b o e).2
  have K1:Kp (Tn H env) (⟨hh',g,d,t,os⟩:Shared) ⟨h',g,d,tk,os⟩:=kp.join k_3 fun b o n e=>k_3.get (nd b o e n) (kp.get (fun q=>q) e)
  have K2:Kp (Tn H env) (⟨hh',g,d,t,os⟩:Shared) s_4:=K1.join h_4.2 fun b o n e=>h_4.2.get (fun q=>n (.inl q.fa)) (K1.get n e)
  exact k_1.z.trans (K2.join k5 fun b o n e=>k5.get (fun q=>q.elim (fun q=>n (.inl q)) (nd b o e n)) (K2.get n e))
end
structure AcK(aa:Program)(T:Heap)(K:Frag)(C fI cc cda fP fQ fL fS:Addr):Prop extends AcF aa T K C fI cc cda where
 bP:fX K C "append" "list.append" = true
 bG:fX K C "__getitem__" "list.__getitem__" = true
 bS:fX K C "__setitem__" "list.__setitem__" = true
 mP:iJ K C "push" fP=true
 mQ:iJ K C "pop_from" fQ=true
 mL:iJ K C "__len__" fL=true
 mS:iJ K C "__str__" fS=true
 dfP:cB T accPushB accPushS ["self","fws","string"] fP
 dfQ:cB T accPopB accPopS ["self","i"] fQ
 biP:aV T fP 3 [] ["self","fws","string"] []
 biQ:aV T fQ 2 [] ["self","i"] []
section
variable{T:Heap}{K:Frag}{C fI cc cda fP fQ fL fS x dx:Addr}{Z D:ZP}{L:Led}{tk:Nat}{k:Int}
theorem xS(M:AcK aa T K C fI cc cda fP fQ fL fS)(R:Rm 1 A)(hz:∀ a,Z a->T.get? a=none)(hd:L.lookup dx=some (a9 m9 [.int k]))(bn:dx≠x){l:List PV}(hl:l.length<=1000)(a b:Str) :
  CBc aa w A ⟨T,D,(x,aJ C dx l)::L,tk⟩ Z (.ref fP) [.raw (.ref x),.str a,.str b] [] .none ((x,aJ C dx (l++[dI (a,b)]))::L):=by
 refine CBc.mk (n:=0) (H:=⟨T,D,(x,aJ C dx l)::L,tk⟩) (out:=.next ((x,aJ C dx (l++[dI (a,b)]))::L) [("self",.raw (.ref x))]) M.lim M.dfP M.biP ⋯ R hz rfl rfl rfl fun A' Z' env R' S eo=>?_
 show SXs aa w A' ⟨T,D,(x,aJ C dx l)::L,0⟩ Z' env [("self",.raw (.ref x)),("fws",.str a),("string",.str b)] accPushB _
 unfold accPushB
 refine SXs.next_forget (SXs.one (SX.expr (EXd.accAppend (H:=⟨T,D,(x,aJ C dx l)::L,0⟩) (K:=K) (C:=C) (x:=x) (dx:=dx) (k:=.int k) (l:=l) (p:=dI (a,b)) M.ok M.inn S M.bP rfl (by rw[List.lookup_cons,beq_eq_false_iff_ne.mpr bn];exact hd) ‹nm› (EX.tuple (LX.cons (p:=.str a) ‹nm› (LX.cons (p:=.str b) ‹nm› LX.nil rfl) rfl) (Ak ⋯)) hl rfl rfl) (by unfold interactive;rw[S.fn];rfl) rfl)) ?_
 exact ‹sub›
theorem zA(M:AcK aa T K C fI cc cda fP fQ fL fS)(R:Rm 1 A)(hz:∀ a,Z a->T.get? a=none){l:List PV}(hl:l.length<=1000) :
  CBc aa w A ⟨T,D,(x,aJ C dx l)::L,tk⟩ Z (.ref fQ) [.raw (.ref x),.int 0] [] (.lst l) ((x,aJ C dx [])::L):=by
 refine CBc.mk (n:=0) (H:=⟨T,D,(x,aJ C dx l)::L,tk⟩) (out:=.ret ((x,aJ C dx [])::L) (.lst l)) M.lim M.dfQ M.biQ ⋯ R hz rfl rfl rfl fun A' Z' env R' S eo=>?_
 show SXs aa w A' ⟨T,D,(x,aJ C dx l)::L,0⟩ Z' env [("self",.raw (.ref x)),("i",.int 0)] accPopB _
 unfold accPopB
 refine SXs.cons (SX.set (p:=.lst l) S eo (EX.accAll (H:=⟨T,D,(x,aJ C dx l)::L,0⟩) (C:=C) (x:=x) (dx:=dx) M.ok M.inn M.bG (by rw[List.lookup_cons];simp) ‹nm› ‹nm› hl) ⋯ ⋯) ?_
 refine SXs.cons (SX.as1 (EX.d (p:=.lst []) (EX.list LX.nil (Ap _))) (AS.accClear (H:=⟨T,D,(x,aJ C dx l)::L,0⟩) (C:=C) (x:=x) (dx:=dx) (l:=l) M.ok M.inn S M.bS rfl ‹nm› ‹nm› hl) rfl rfl rfl) ?_
 exact SXs.one (SX.retn ‹nm›)
end
structure AcG(aa:Program)(w:World)(T:Heap)(K:Frag)(C fL fS cL pL cS pS:Addr):Prop where
 ok:cU K C
 inn:K.In T
 lim:T.NoLimit
 it:fX K C "__iter__" "list.__iter__" = true
 dfL:cB T accLenB accLenS ["self"] fL
 dfS:cB T accStrB accStrS ["self"] fS
 biL:aV T fL 1 [] ["self"] []
 biS:aV T fS 1 [] ["self"] []
 coL:∀ o fd,T.get? fL=some o->o.data=.func fd->fd.code=.ref cL
 coS:∀ o fd,T.get? fS=some o->o.data=.func fd->fd.code=.ref cS
 ctL:sN T cL pL
 ctS:sN T cS pS
 bf:Looks (model aa w) T (builtinsFor mainGlobals builtinsNs) builtinsNs
 cst:∃ o,T.get? cStatics=some o
 sum:Bi T "sum" (.builtin "sum")
 len:Bi T "len" (.builtin "len")
 emp:∃ t,Gl T "EMPTYSTRING" (.str "" t)
 at_:sA K C "_initial_size" = true
section
variable{T:Heap}{K:Frag}{C fL fS cL pL cS pS x dx:Addr}{Z D:ZP}{L:Led}{tk:Nat}{k:Int}
theorem oM{A:Around}{E:ZV}{env:Env}{u:Shared}{y:Str}{p1 p2 p3:Pos}{a:Str}{t:Tok}{m:Str->Option Value}{Q:ZV}(bo:Bi T "len" (.builtin "len"))(hk:env.scope.kind=.function)(hg:env.globals=mainGlobals)(hb:env.builtins=builtinsNs)
  (top:∀ b o,T.get? b=some o->u.heap.get? b=some o) (kl:env.kindOf "len" = some .globalImplicit) (ky:env.kindOf y=some .local) (hd:(y==("__debug__" : Str))=false) (hn:u.heap.Ns env.locals m) (hv:m y=some (.str a t)) (hx:¬(a.length:Int)≥2^63)
  (hQ:Q (.int a.length (u.toks+1)) {u with toks:=u.toks+1+1}):wpAny (model aa w) A (eval (.Call (.Name "len" p1) [.Name y p2] [] p3) env) Q E u:=by
 obtain⟨m1,mb,g1,g2,g3,g4⟩:=bo
 refine Call_ (Be hk kl (Cp (by rw[hg];exact g1.keeps top) g2 (by rw[hb];exact g3.keeps top) g4 ?_) ⋯) rfl
 exact callWith_builtin1 (C5 (Cz (B5 hk ky hn hv (Dr (PyProof.Rows.len_str hx hQ))) hd)) rfl rfl
def vL(q:Str×Str):Int:=(q.1.length:Int)+(q.2.length:Int)
def dE(ps:List (Str×Str))(j:Nat):Int:=match ps[j]? with|some q=>vL q|none=>0
def pJ(ps:List (Str×Str)):Bool:=decide (ps.length<=100)&&ps.all fun q=>decide (q.1.length<=1000)&&decide (q.2.length<=1000)
theorem mU{ps:List (Str×Str)}(ok:pJ ps=true)(j:Nat):0<=dE ps j/\dE ps j<=2000:=by
 unfold dE
 split
 ·rename_i q e
  have:=A9.mp (A6.mp ok).2 q (As e)
  simp only[Bool.and_eq_true,decide_eq_true_eq]at this
  unfold vL
  omega
 ·omega
theorem uT{ps:List (Str×Str)}(ok:pJ ps=true):∀ n:Nat,0<=preSum (dE ps) n/\preSum (dE ps) n<=2000*n
 |0=>⟨Int.le_refl _,Int.le_refl _⟩
 |n+1=>by
  have h:=uT ok n
  have g:=mU ok n
  show 0<=preSum (dE ps) n+dE ps n/\preSum (dE ps) n+dE ps n<=_
  push_cast
  omega
def gP(k:Int)(ps:List (Str×Str)):Int:=k+preSum (dE ps) ps.length
theorem yR(M:AcG aa w T K C fL fS cL pL cS pS)(R:Rm 1 A)(hz:∀ a,Z a->T.get? a=none){ps:List (Str×Str)}(ok:pJ ps=true)(h0:0<=k)(h1:k<=1000)(hP:L.lookup pL=some fW)(hL:L.lookup x=some (aJ C dx (ps.map dI)))(hd:L.lookup dx=some (a9 m9 [.int k])) :
  CBc aa w A ⟨T,D,L,tk⟩ Z (.ref fL) [.raw (.ref x)] [] (.int (gP k ps)) L:=by
 refine CBc.mkC (n:=0) (H:=⟨T,D,L,tk⟩) (out:=.ret L (.int (gP k ps))) M.lim M.dfL M.biL ⋯ R hz rfl rfl rfl fun A' Z' env R' S eo hcode=>?_
 show SXs aa w A' ⟨T,D,L,0⟩ Z' env [("self",.raw (.ref x))] accLenB _
 obtain⟨of,fd,hof,hfd⟩:=M.dfL.at
 have hc:env.code=.ref cL:=(hcode of fd hof hfd).trans (M.coL of fd hof hfd)
 have hplen:(ps.length:Int)<=100:=by have:=(A6.mp ok).1;simp only[decide_eq_true_eq]at this;omega
 unfold accLenB
 refine SXs.one (SX.retD (L:=L) ⟨fun s E F=>?_⟩)
 refine Call_ (wpM ((NM.b (H:=⟨T,D,L,0⟩) S eo M.sum ⋯ ⋯) s E _ _ F) (fun u s_0 q=>?_)) rfl
 obtain⟨rfl,rfl⟩:=q
 refine PySem.Calls.callWith_builtin rfl (PySem.Calls.evalArgs_plain (C5 ?_))
 have ks:env.kindOf "self" = some .local:=by rw[eo.kind];kernel_rfl
 have nsOf:∀{u:Shared},FI ⟨T,D,L,0⟩ Z' env [("self",.raw (.ref x))] u->∃ m,u.heap.Ns env.locals m/\m "self" = some (.ref x):=fun F=>by
  obtain⟨m,hn,hm⟩:=F.ns
  obtain⟨v,e,r⟩:=hm "self" (.raw (.ref x)) Lk.here ks
  cases r
  exact⟨m,hn,e⟩
 refine wpM (rQ (H:=⟨T,D,L,0⟩) (P:=pL) (c:=cL) (x:=x) (dx:=dx) (ps:=ps) (FV:=fun q v=>∃ t,v=.int (vL q) t) M.ok M.inn M.lim M.it M.ctL hc (by rw[S.gl,S.bl];exact M.bf) M.cst S F hP hL ‹nm› R'.hd (by have:=R'.dp;omega) rfl ?hclos ?hcell ⋯ ⋯ ⋯ ‹k› rfl ?helt (fun _=>rfl)) (fun v s_1 h_1=>?_)
 case hclos=>exact closureFor_none ‹k›
 case hcell=>decide +kernel
 case helt =>
  intro A'' E' code L' a b ta tb u m hA'' hmem hn ma mb top
  have hq:=A9.mp (A6.mp ok).2 _ hmem
  simp only[Bool.and_eq_true,decide_eq_true_eq]at hq
  refine wpAny_BinOp (oM M.len rfl (by show env.globals=_;exact S.gl) rfl top ⋯ ⋯ ⋯ hn ma ‹o› ?_)
  refine oM M.len rfl (by show env.globals=_;exact S.gl) rfl top ⋯ ⋯ ⋯ (u:={u with toks:=u.toks+1+1}) hn mb ‹o› ?_
  exact PyProof.Rows.add_int ⟨⟨_,rfl⟩,u.heap,_,rfl,fun _ _ e=>e⟩
 obtain⟨a,rfl,gp,fp,wr,g,n,St,W,hn,hty,ha,hst,hfp,hw,hg⟩:=h_1
 obtain⟨F_1,_⟩:=FI.tab (H:=⟨T,D,L,0⟩) S F hP gp
 obtain⟨m,hns,hms⟩:=nsOf F_1
 refine C5 ?_
 rw[arm_eval_Attribute]
 refine A0 (Cz (B5 S.fn ks hns hms (A0 (Ag ?_))) ⋯)
 obtain⟨vs,m',ex,pr⟩:=(F_1.ld x _ hL).2.acc
 obtain⟨es,m'',ws,br,hi,pw⟩:=F_1.toGS.ins hd
 obtain⟨_,_,rfl,r,pw⟩:=aI pw
 cases pw
 obtain⟨t_1,rfl⟩:=Rp.intI r
 refine A0 (A5 (wB (v:=.int k t_1) M.ok (M.inn.keeps F_1.top) ex br M.at_ (by rw[hi.get];kernel_rfl) rfl ?_))
 refine A0 (A1 (A1 (Dr ?_)))
 have hst':=W.frame 0 s_1 s_1.heap (s_1.toks+1) hst (Ad _) fun b _ o e=>e
 refine tC (val:=dE ps) W.in4_1 hst' hfp (fun i v q=>?_) ⟨by omega,by omega⟩ (fun j hj=>?_) fun s_2 t_2 hm=>?_
 ·obtain⟨q,e,t,hv⟩:=q
  refine⟨t,hv.trans ?_⟩
  unfold dE
  rw[e]
 ·have g1:=mU ok j
  have g2:=uT ok (j+1)
  rw[hn]at hj
  exact⟨⟨by omega,by omega⟩,by push_cast at g2;omega,by push_cast at g2;omega⟩
 ·have gp':=(gp.toks (s_1.toks+1) (Ad _)).moved hm hw hg
  obtain⟨F_2,k_2⟩:=FI.tab (H:=⟨T,D,L,0⟩) S F hP gp'
  rw[hn]
  exact⟨.int _ _,F_2,k_2⟩
def mK(q:Str×Str):Str:=Txt.join "" [q.1,q.2]
def nP(ps:List (Str×Str)):Str:=Txt.join "" (ps.map mK)
theorem t7{A:Around}{E:ZV}{env:Env}{u:Shared}{y z:Str}{te:Tok}{a b:Str}{ta tb:Tok}{m:Str->Option Value}{p0 p1 p2 p3 p4 p5:Pos}{kt:Nat}{pl:Sem Bool}(hemp:Gl T "EMPTYSTRING" (.str "" te))(hk:env.scope.kind=.function)(hg:env.globals=mainGlobals)
  (top:∀ b o,T.get? b=some o->u.heap.get? b=some o) (kl:env.kindOf "EMPTYSTRING" = some .globalImplicit) (ky:env.kindOf y=some .local) (kz:env.kindOf z=some .local) (hy:(y==("__debug__" : Str))=false) (hz:(z==("__debug__" : Str))=false) (hn:u.heap.Ns env.locals m) (hv:m y=some (.str a ta)) (hw:m z=some (.str b tb)) (ha:a.length<=1000) (hb:b.length<=1000)
  (he:eval (.Call (.Attribute (.Name "EMPTYSTRING" p0) "join" p1) [.Tuple [.Name y p2,.Name z p3] kt p4] [] p5) env=(do
   let ov <-eval (.Name "EMPTYSTRING" p0) env
   standAt p1.atName
   let(f,first) <-holding [ov] (getMethod ov "join" pl)
   callWith p5 f first (backTo p5 (starEach [.Tuple [.Name y p2,.Name z p3] kt p4] env)) [])) :
  wpAny (model aa w) A (eval (.Call (.Attribute (.Name "EMPTYSTRING" p0) "join" p1) [.Tuple [.Name y p2,.Name z p3] kt p4] [] p5) env) (fun v u'=>(∃ t,v=.str (mK (a,b)) t)/\Keeps u u') E u:=by
 obtain⟨m1,g1,g2⟩:=hemp
 refine Br (Be hk kl (Eb (by rw[hg];exact g1.keeps top) g2 ?_) ⋯) he
 refine GMs.join.run _ E "" te pl _ _ rfl ?_
 refine Bx (B2 (wpAny_Tuple (C5 (Cz (B5 hk ky hn hv (C5 (Cz (B5 hk kz hn hw (Dr ⟨Ak ⋯,Bt ?_⟩)) hz))) hy))) rfl) rfl rfl
 refine Ao (A4 u.toks) (join_tuple (ys:=[a,b]) ⟨_,A3 _ rfl,rfl,0,rfl⟩ (.cons a ta (.cons b tb .nil)) ?_ fun t' k' hk'=>?_)
 ·have e0:(Str.ofString "").length=0:=⋯
  simp only[List.map_cons,List.map_nil,List.sum_cons,List.sum_nil,List.length_cons,List.length_nil,e0]
  omega
 ·exact⟨⟨_,rfl⟩,_,_,rfl,fun b o e=>A2 _ e⟩
theorem a40(M:AcG aa w T K C fL fS cL pL cS pS)(R:Rm 1 A)(hz:∀ a,Z a->T.get? a=none){ps:List (Str×Str)}(ok:pJ ps=true)(hj:JoinOk "" (ps.map mK)=true)(hP:L.lookup pS=some fW)(hL:L.lookup x=some (aJ C dx (ps.map dI))) :
  CBc aa w A ⟨T,D,L,tk⟩ Z (.ref fS) [.raw (.ref x)] [] (.str (nP ps)) L:=by
 refine CBc.mkC (n:=0) (H:=⟨T,D,L,tk⟩) (out:=.ret L (.str (nP ps))) M.lim M.dfS M.biS ⋯ R hz rfl rfl rfl fun A' Z' env R' S eo hcode=>?_
 show SXs aa w A' ⟨T,D,L,0⟩ Z' env [("self",.raw (.ref x))] accStrB _
 obtain⟨of,fd,hof,hfd⟩:=M.dfS.at
 have hc:env.code=.ref cS:=(hcode of fd hof hfd).trans (M.coS of fd hof hfd)
 obtain⟨te,hemp⟩:=M.emp
 have hplen:ps.length<=100:=by have:=(A6.mp ok).1;simpa using this
 unfold accStrB
 refine SXs.one (SX.retD (L:=L) ⟨fun s E F=>?_⟩)
 refine Br (wpM ((NM.glob (H:=⟨T,D,L,0⟩) S (by rw[eo.kind];kernel_rfl) hemp ⋯) s E _ _ F) (fun u s_0 q=>?_)) rfl
 obtain⟨rfl,rfl⟩:=q
 refine GMs.join.run _ E "" te _ _ _ rfl (Bx (B2 ?_ rfl) rfl rfl)
 refine wpM (rQ (H:=⟨T,D,L,0⟩) (P:=pS) (c:=cS) (x:=x) (dx:=dx) (ps:=ps) (FV:=fun q v=>∃ t,v=.str (mK q) t) M.ok M.inn M.lim M.it M.ctS hc (by rw[S.gl,S.bl];exact M.bf) M.cst S F hP hL ‹nm› R'.hd (by have:=R'.dp;omega) rfl ?hclos ?hcell ⋯ ⋯ ⋯ ‹k› rfl ?helt (fun _=>rfl)) (fun v s_1 h_1=>?_)
 case hclos=>exact closureFor_none ‹k›
 case hcell=>decide +kernel
 case helt =>
  intro A'' E' code L' a b ta tb u m hA'' hmem hn ma mb top
  have hq:=A9.mp (A6.mp ok).2 _ hmem
  simp only[Bool.and_eq_true,decide_eq_true_eq]at hq
  exact t7 hemp rfl (by show env.globals=_;exact S.gl) top ⋯ ⋯ ⋯ ⋯ ⋯ hn ma mb hq.1 hq.2 rfl
 obtain⟨a,rfl,gp,fp,wr,g,n,St,W,hn,hty,ha,hst,hfp,hw,hg⟩:=h_1
 refine Bt ?_
 refine Ao (A4 s_1.toks) (SC.joinGen W.in4_2 hty hst hfp ha (fun i v q=>?_) (fun s_2 l hm hacc=>?_) (by rw[hn];exact f8 (A7 hplen ‹d›)))
 ·obtain⟨q,_,t,hv⟩:=q
  exact⟨_,t,hv⟩
 ·have hl:l.map (·.1)=ps.map mK:=by
   apply List.ext_getElem?
   intro j
   have hsz:l.length=ps.length:=by have:=hacc.1;simp[strValues]at this;exact this.trans hn
   by_cases hj':j<ps.length
   ·have hj'':j<l.length:=hsz▸hj'
    obtain⟨q,e,t,hv⟩:=hacc.2 j (.str l[j].1 l[j].2) (by simp[strValues,List.getElem?_eq_getElem hj''])
    injection hv with h1 _
    have hq:q=ps[j]:=by rw[List.getElem?_eq_getElem hj']at e;exact(Bk e).symm
    simp[List.getElem?_eq_getElem hj'',hj',h1,hq]
   ·rw[List.getElem?_eq_none (by simpa[hsz]using Nat.le_of_not_lt hj'),List.getElem?_eq_none (by simpa using Nat.le_of_not_lt hj')]
  rw[hl]
  refine⟨hj,fun t' k' ht=>?_⟩
  have hle:s_0.toks<=s_1.toks:=by obtain⟨_,_,_,rfl,_,_,_,h⟩:=gp;exact h
  have gp':iR pS s_0 {s_2 with toks:=k'}:=by
   obtain⟨h',tk',g',e,q1,q2,q3,q4⟩:=gp.moved hm hw hg
   rw[e]
   exact⟨h',k',g',rfl,q1,q2,q3,A7 hle ht⟩
  obtain⟨F_2,k_2⟩:=FI.tab (H:=⟨T,D,L,0⟩) S F hP gp'
  exact⟨.str _ _,F_2,k_2⟩
end
section
local macro_rules | `(tactic|walk_at "ints")=>`(tactic|first
 |exact LX.nil
 |(refine LX.cons EX.cint ?_ rfl;walk_at "ints"))
def d9:List Int:=[173,847,6150,6155,6156,6157,8203,8204,8205,8288,65279,65024,65025,65026,65027,65028,65029,65030,65031,65032,65033,65034,65035,65036,65037,65038,65039]
def cR:List Int:=[119808,119860,119912,120016,120172,120224,120276,120328,120380,120432]
def iS:List (Int×Str):=[(64259,"ffi"),(64260,"ffl"),(64256,"ff"),(64257,"fi"),(64258,"fl")]
def kI(number:Int)(i c:Nat):Nat:=(cR.getD ((number+(i:Int)).fmod 10).toNat 0+(c:Int)-97).toNat
def d6(number:Int)(i:Nat):Nat:=(d9.getD ((number+7*(i:Int)).fmod 27).toNat 0).toNat
def pI(number:Int)(i:Nat):Nat:=((number.fdiv (4^i)).fmod 4).toNat
def dX(number:Int)(i c:Nat):Str:=match pI number i with
 |0=>ch c
 |1=>Txt.upper (ch c)
 |2=>ch (kI number i c)
 |_=>ch (d6 number i)++ch c
def aQ(number:Int)(x:Str)(a:Nat×Nat):Str:=x++dX number a.2 a.1
def eR(x:Str)(a:Int×Str):Str:=Txt.replace x a.2 (ch a.1.toNat)
def dL(ab:Str)(number:Int):Str:=(iS.take (number.fmod 6).toNat).foldl eR (ab.cps.toList.zipIdx.foldl (aQ number) "")
theorem eY{a b:Int}(hb:0<b):0<=a.fmod b/\a.fmod b<b:=⟨Bz a hb,Bw a hb⟩
theorem getD_some{α:Type}(l:List α)(d:α){i:Nat}(h:i<l.length):l[i]? = some (l.getD i d):=by
 rw[List.getD_eq_getElem?_getD,List.getElem?_eq_getElem h];rfl
theorem nR:∀ i,i<10->∀ c:Nat,c<128->0<=cR.getD i 0+(c:Int)-97/\cR.getD i 0+(c:Int)-97<=120600:=by
 intro i hi c hc
 have:∀ i,i<10->119808<=cR.getD i 0/\cR.getD i 0<=120432:=by decide +kernel
 have:=this i hi
 omega
theorem nU:∀ i,i<27->0<=d9.getD i 0/\d9.getD i 0<=65279:=by decide +kernel
theorem rJ{number:Int}{i:Nat}(h:i<6):Builtin.divisionGoesByPylong number (4^i)=false:=by
 rcases i with _|_|_|_|_|_|i
 ·kernel_rfl
 ·kernel_rfl
 ·kernel_rfl
 ·kernel_rfl
 ·kernel_rfl
 ·kernel_rfl
 ·omega
theorem a70{c:Nat}(h:c=102\/c=105\/c=108):c<128:=by omega
theorem t9{c:Nat}(h:c=102\/c=105\/c=108):(Txt.upper (ch c)).length=1:=by
 rcases h with rfl|rfl|rfl <;> decide +kernel
theorem q0(number:Int)(i c:Nat)(h:c=102\/c=105\/c=108):(dX number i c).length<=2:=by
 unfold dX
 split
 ·exact Ad 1
 ·rw[t9 h];decide
 ·exact Ad 1
 ·rw[d0];exact A4 2
theorem cut5{α:Type}(a b c d e:α){i:Int}(h0:0<=i)(h1:i<6):i0 [a,b,c,d,e] none (some i)=[a,b,c,d,e].take i.toNat:=by
 obtain⟨n,rfl⟩:=Int.eq_ofNat_of_zero_le h0
 have hn:n<6:=by omega
 rcases n with _|_|_|_|_|_|n
 ·rfl
 ·rfl
 ·rfl
 ·rfl
 ·rfl
 ·rfl
 ·omega
def kR(K:Nat)(a:Int×Str):PV:=.tup [.int a.1,.stk a.2 fun t=>1<=t/\t<K]
section
variable{T:Heap}
theorem vN{a:Addr}(hlim:T.NoLimit)(hnb:NoneBooked T)(F:Fun T "_law_typed" typedB typedS ["word","number"] a)(ho:Bi T "ord" (.builtin "ord"))(hc:Bi T "chr" (.builtin "chr"))(hls:Bi T "list" (.type "list"))(hr:Bi T "range" (.type "range"))
  (he:Bi T "enumerate" (.type "enumerate")) {ab:Str} {number:Int} (hw:∀ c∈ab.cps.toList,c=102\/c=105\/c=108) (hl:ab.length<=6) (hn0:0<=number) (hn1:number<2^40) :
  FN aa w T (.ref a) 1 [.str ab,.int number] (.str (dL ab number)) :=
 FN.mk (out:=.ret [] (.str (dL ab number))) hlim F ⋯ rfl rfl fun A Z env R S eo=>by
  show SXs aa w A ⟨T,N0,[],0⟩ Z env [(Str.ofString "word",.str ab),(Str.ofString "number",.int number)] typedB _
  have hA:=R.hd
  have szl:(1000:Nat)<=sizeLine:=by decide
  unfold typedB
  refine SXs.cons (SX.set S eo (EX.as (EX.bin (EX.ints (is:=d9.take 11) ⋯ (by show 11<=sizeLine;decide)) (EX.callT (NM.b S eo hls ⋯ ⋯) (LX.cons (EX.callT (NM.b S eo hr ⋯ ⋯) (LX.ints (is:=[65024,65040]) ⋯) CB.range2 rfl rfl rfl) LX.nil rfl) (CB.listRng (a:=65024) (b:=65040) 16 ⋯ hA ⋯ ‹o›) rfl rfl rfl) (O2.addL (by show 11+16<=sizeLine;decide))) (q:=.lst (d9.map .int)) ⋯) ⋯ ⋯) ?_
  refine SXs.cons (SX.set S eo (EX.ints (is:=cR) ⋯ (by show 10<=sizeLine;decide)) ⋯ ⋯) ?_
  refine SXs.cons (SX.set S eo EX.cstr ⋯ ⋯) ?_
  have el:∀(x:Str) (st:Str),Sub [("text",.str st),("starts",.lst (cR.map .int)),("unseen",.lst (d9.map .int)),("number",.int number),("word",.str ab)] [("text",.str st),("starts",.lst (cR.map .int)),("unseen",.lst (d9.map .int)),("word",.str ab),("number",.int number)]:=fun x st =>
   ‹sub›
  refine SXs.cons (SX.fold2 (items:=ab.cps.toList.zipIdx) (φ:=fun a=>.int (a.2:Int)) (ψ:=fun a=>.str (ch a.1)) (h:=aQ number)
   (f:=fun st=>[("text",.str st),("starts",.lst (cR.map .int)),("unseen",.lst (d9.map .int)),("number",.int number),("word",.str ab)])
   (Inv:=fun i st=>st.length<=2*i) (st₀:=("" : Str)) hA S eo ⋯ ⋯ (A4 0) (el "" "") (IX.enumS hA (NM.b S eo he ⋯ ⋯) ‹nm› rfl rfl) ?_ (fun _=>rfl)) ?_
  ·intro Z' S' i st p hi hp
   obtain⟨c,j⟩:=p
   have hj:i<6:=by
    have:=(A8.mp hp).1
    simp only[List.length_zipIdx,len_list]at this;omega
   simp only[List.getElem?_zipIdx,Nat.zero_add]at hp
   obtain⟨c',hc',e⟩:=Bb.mp hp
   obtain⟨rfl,rfl⟩:c'=c/\i=j:=by simpa using e
   have hcm:c'∈ab.cps.toList:=As hc'
   have hcf:=hw c' hcm
   have hpl:=q0 number i c' hcf
   obtain⟨f1,f2⟩:=eY (a:=number+(i:Int)) (b:=10) ‹d›
   obtain⟨g1,g2⟩:=eY (a:=number+7*(i:Int)) (b:=27) ‹d›
   obtain⟨k1,k2⟩:=eY (a:=number.fdiv (4^i)) (b:=4) ‹d›
   have sr:=nR ((number+(i:Int)).fmod 10).toNat ‹o› c' (a70 hcf)
   have ur:=nU ((number+7*(i:Int)).fmod 27).toNat ‹o›
   refine⟨?_,_,SXs.cons (SX.set (p:=.str (ch (kI number i c'))) S' eo (EX.callB (NM.b S' eo hc ⋯ ⋯) (LX.cons (EX.bin (EX.bin (EX.sub ‹nm› (EX.bin (EX.bin ‹nm› ‹nm› O2.addI) EX.cint (O2.modI ‹d›)) (SB.list (p:=.int (cR.getD ((number+(i:Int)).fmod 10).toNat 0)) f1 ‹o› ?_ (fun _ _=>rfl) (fun _ _=>rfl)))
     (EX.callB (NM.b S' eo ho ⋯ ⋯) (LX.cons ‹nm› LX.nil rfl) CB.ord rfl rfl rfl) O2.addI) EX.cint O2.subI) LX.nil rfl) (CB.chr ?_) rfl rfl rfl) ⋯ ⋯)
    (SXs.cons (SX.set (p:=.str (ch (d6 number i)++ch c')) S' eo (EX.bin (EX.callB (NM.b S' eo hc ⋯ ⋯) (LX.cons (EX.sub ‹nm› (EX.bin (EX.bin ‹nm› (EX.bin EX.cint ‹nm› (O2.mulI ?_)) O2.addI) EX.cint (O2.modI ‹d›)) (SB.list (p:=.int (d9.getD ((number+7*(i:Int)).fmod 27).toNat 0)) g1 ‹o› ?_ (fun _ _=>rfl) (fun _ _=>rfl))) LX.nil rfl) (CB.chr ?_) rfl rfl rfl) ‹nm› (O2.addS ?_)) ⋯ ⋯)
    (SXs.one (SX.set S' eo (EX.bin ‹nm› (EX.sub (EX.list (ps:=[.str (ch c'),.str (Txt.upper (ch c')),.str (ch (kI number i c')),.str (ch (d6 number i)++ch c')]) (LX.cons ‹nm› (LX.cons (EX.mc0 ‹nm› (GMs.p GMs.upper) (CB.upper ?_) rfl) (LX.cons ‹nm› (LX.cons ‹nm› LX.nil rfl) rfl) rfl) rfl) ?_)
     (EX.bin (EX.bin ‹nm› (EX.bin EX.cint ‹nm› (O2.powI (n:=(i:Int)) ?_ ?_ ?_)) (O2.fdivI ?_ ?_)) EX.cint (O2.modI ‹d›)) (SB.item (p:=.str (dX number i c')) ?_ ?_ ?_ (fun _ _=>rfl))) (O2.addS ?_)) ⋯ ⋯))),?_⟩
   ·show(st++dX number i c').length<=_
    rw[d0];omega
   ·rw[List.getElem?_map,getD_some cR 0 (by show _<10;omega)];rfl
   ·simp only[Bool.or_eq_false_iff,decide_eq_false_iff_not];omega
   ·exact IntMulOk.of_left ‹k›
   ·rw[List.getElem?_map,getD_some d9 0 (by show _<27;omega)];rfl
   ·simp only[Bool.or_eq_false_iff,decide_eq_false_iff_not];omega
   ·show 1+1<=sizeLine;decide
   ·show 1<=5592405;decide
   ·show 4<=sizeLine;decide
   ·omega
   ·omega
   ·decide
   ·rw[Int.toNat_natCast];exact Int.ne_of_gt (Int.pow_pos ‹d›)
   ·rw[Int.toNat_natCast];exact rJ hj
   ·rw[Int.toNat_natCast];exact k1
   ·rw[Int.toNat_natCast];omega
   ·rw[Int.toNat_natCast]
    show([PV.str (ch c'),PV.str (Txt.upper (ch c')),PV.str (ch (kI number i c')),PV.str (ch (d6 number i)++ch c')]:List PV)[pI number i]? = some (PV.str (dX number i c'))
    have hf:pI number i<4:=by unfold pI;omega
    unfold dX
    generalize pI number i=v at hf
    rcases v with _|_|_|_|v
    ·rfl
    ·rfl
    ·rfl
    ·rfl
    ·omega
   ·omega
   ·exact Sub.cons (by show Lk _ _ (.str (st++dX number i c'));walk_at "lk") (‹sub›)
  ·obtain⟨m1,m2⟩:=eY (a:=number) (b:=6) ‹d›
   have hx0:(ab.cps.toList.zipIdx.foldl (aQ number) "").length<=12:=by
    have key:∀(l:List (Nat×Nat)) (x:Str),(∀ a∈l,a.1=102\/a.1=105\/a.1=108)->(l.foldl (aQ number) x).length<=x.length+2*l.length:=by
     intro l
     induction l with
     |nil=>intro x _;exact A4 _
     |cons a l ih =>
      intro x hx
      rw[List.foldl_cons,List.length_cons]
      have h1:=ih (aQ number x a) fun b hb=>hx b (Ae _ hb)
      have h2:=q0 number a.2 a.1 (hx a Ah)
      have h3:(aQ number x a).length=x.length+(dX number a.2 a.1).length:=d0 _ _
      omega
    have:=key ab.cps.toList.zipIdx "" fun a ha=>hw a.1 (by
     obtain⟨i,h1,h2⟩:=List.mem_iff_getElem.mp ha
     rw[List.getElem_zipIdx]at h2
     subst h2
     exact Co _)
    rw[List.length_zipIdx,len_list]at this
    have e0:("" : Str).length=0:=⋯
    omega
   refine SXs.cons (SX.foldK2 (items:=iS.take (number.fmod 6).toNat) (φ:=fun a=>.int a.1) (ψ:=fun K a=>.stk a.2 fun t=>1<=t/\t<K) (h:=eR)
    (f:=fun st=>[("text",.str st),("number",.int number)]) (Inv:=fun i st=>st.length<=13*2^i-1/\i<=5) hA S eo ⋯ ⋯ (st₀:=ab.cps.toList.zipIdx.foldl (aQ number) "") ⟨by omega,by omega⟩ (‹sub›)
    (IXk.as (IXk.slice (l:=fun K=>iS.map (kR K)) (n:=5) (lo:=none) (hi:=some (number.fmod 6)) hA (EXk.list (n:=5) (LXk.cons EXk.pairIS (LXk.cons EXk.pairIS (LXk.cons EXk.pairIS (LXk.cons EXk.pairIS (LXk.cons EXk.pairIS LXk.nil rfl) rfl) rfl) rfl) rfl) (fun _=>rfl) ‹d›) (fun _=>rfl) ‹d›
     PX.none (PX.some (EX.bin (p:=.int number) ‹nm› EX.cint (O2.modI ‹d›)))) ?_) ?_ (fun _=>rfl)) (SXs.one (SX.retn (EX.as (p:=.str ((iS.take (number.fmod 6).toNat).foldl eR (ab.cps.toList.zipIdx.foldl (aQ number) ""))) ‹nm› rfl)))
   ·funext K
    show i0 [kR K (64259,"ffi"),kR K (64260,"ffl"),kR K (64256,"ff"),kR K (64257,"fi"),kR K (64258,"fl")] none (some (number.fmod 6))=_
    rw[cut5 _ _ _ _ _ m1 m2]
    show(iS.map (kR K)).take _=_
    rw[<-List.map_take]
    rfl
   ·intro K hK Z' S' i st p ⟨hi,hi5⟩ hp
    have hp5:i<5:=by
     have:=(A8.mp hp).1
     rw[List.length_take]at this
     have e5:iS.length=5:=rfl
     omega
    have hpm:p∈iS:=List.mem_of_mem_take (As hp)
    have hchr:∀ a∈iS,(decide (a.1<0)||decide (a.1>0x10FFFF))=false:=by decide +kernel
    have hpow:2^i<=16:=by
     have:2^i<=2^4:=Db ‹d› ‹o›
     omega
    have hpow':2^(i+1)=2*2^i:=by rw[Nat.pow_succ];omega
    refine⟨⟨?_,by omega⟩,_,SXs.one (SX.set (p:=.str (eR st p)) S' eo (EX.sm1 ‹nm› GMs.replace (LX.cons ‹nm› (LX.cons (EX.callB (NM.b S' eo hc ⋯ ⋯) (LX.cons ‹nm› LX.nil rfl) (CB.chrK (hchr p hpm)) rfl rfl rfl) LX.nil rfl) rfl) (CB.replace (fun t u h1 h2=>?_) ?_ hnb) rfl rfl rfl) ⋯ ⋯),?_⟩
    ·have:=kK st p.2 (ch p.1.toNat)
     have e1:(ch p.1.toNat).length=1:=rfl
     rw[e1,Nat.mul_one]at this
     show(Txt.replace st p.2 (ch p.1.toNat)).length<=13*2^(i+1)-1
     have hi':st.length<=13*2^i-1:=hi
     rw[hpow']
     have h1:1<=2^i:=Nat.one_le_two_pow
     clear hpow' hpow hi
     generalize 2^i=q at *
     omega
    ·have h2:K<=u:=h2
     omega
    ·show st.length+(st.length+1)*1<=16777216
     have hi':st.length<=13*2^i-1:=hi
     clear hpow'
     generalize 2^i=q at *
     omega
    ·exact ‹sub›
end
end
section
variable{T:Heap}
theorem xN{a b:Addr}{S1:Int->Bool}{k:Nat}(hlim:T.NoLimit)(F:Fun T "in_table_b1" inb1B inb1S ["code"] a)(ho:Bi T "ord" (.builtin "ord"))(hb:Gl T "b1_set" (.ref b))(hS:T.SetOf (intKind aa w) b S1 k){c:Nat} :
  FN aa w T (.ref a) 1 [.str (ch c)] (.bool (S1 c)) :=
 FN.mk (out:=.ret [] (.bool (S1 c))) hlim F ⋯ rfl rfl fun A Z env R S eo=>by
  show SXs aa w A ⟨T,N0,[],0⟩ Z env [(Str.ofString "code",.str (ch c))] inb1B _
  unfold inb1B
  refine SXs.one (SX.retn (EX.cmp (EX.callB (NM.b S eo ho ⋯ ⋯) (LX.cons ‹nm› LX.nil rfl) CB.ord rfl rfl rfl) (EX.raw (NM.glob S (by rw[eo.kind];kernel_rfl) hb ⋯)) (O2.inSet hS) rfl))
def jZ(m:Int->Option Str)(c:Nat):Str:=(m c).getD (Txt.lower (ch c))
theorem v9{a b:Addr}{m:Int->Option Str}(hlim:T.NoLimit)(F:Fun T "map_table_b3" mapb3B mapb3S ["code"] a)(ho:Bi T "ord" (.builtin "ord"))(hb:Gl T "b3_exceptions" (.ref b))(hM:j4 aa w T b m){c:Nat} :
  FN aa w T (.ref a) 1 [.str (ch c)] (.str (jZ m c)) :=
 FN.mk (out:=.ret [] (.str (jZ m c))) hlim F ⋯ rfl rfl fun A Z env R S eo=>by
  show SXs aa w A ⟨T,N0,[],0⟩ Z env [(Str.ofString "code",.str (ch c))] mapb3B _
  unfold mapb3B
  refine SXs.cons (SX.set S eo (p:=optS (m c)) (EX.mc1 (EX.raw (NM.glob S (by rw[eo.kind];kernel_rfl) hb ⋯)) (GMp.dictGet hM) (LX.cons (EX.callB (NM.b S eo ho ⋯ ⋯) (LX.cons ‹nm› LX.nil rfl) CB.ord rfl rfl rfl) LX.nil rfl) (CB.dictGet hM) rfl rfl rfl) ⋯ ⋯) ?_
  cases hm:m c with
  |some x =>
   have e:jZ m c=x:=by unfold jZ;rw[hm];rfl
   rw[e]
   refine SXs.ret (SX.ite (b:=true) (TX.cmp ‹nm› EX.cnone (O2.isNotNone (p:=.str x) (b:=false) rfl) rfl) (fun _=>SXs.one (SX.retn (p:=.str x) ‹nm›)) (fun h=>by cases h))
  |none =>
   have e:jZ m c=Txt.lower (ch c):=by unfold jZ;rw[hm];rfl
   rw[e]
   refine SXs.cons (SX.ite (b:=false) (TX.cmp ‹nm› EX.cnone (O2.isNotNone (p:=.none) (b:=true) rfl) rfl) (fun h=>by cases h) (fun _=>SXs.nil)) (SXs.one (SX.retn (EX.mc0 ‹nm› (GMs.p GMs.lower) (CB.lower (by show 1<=5592405;decide)) rfl)))
def l8(S1:Int->Bool)(m:Int->Option Str)(text:Str):Str:=Txt.join "" ((text.cps.toList.filter fun(c:Nat)=>!S1 c).map fun(c:Nat)=>jZ m c)
theorem w6{a a1 a2 b1 b2:Addr}{S1:Int->Bool}{k:Nat}{m:Int->Option Str}(hlim:T.NoLimit)(F:Fun T "_law_read" readB readS ["text"] a)(F1:Fun T "in_table_b1" inb1B inb1S ["code"] a1)(F2:Fun T "map_table_b3" mapb3B mapb3S ["code"] a2)
  (ho:Bi T "ord" (.builtin "ord")) (hz:Bi T "zip" (.type "zip")) (hb1:Gl T "b1_set" (.ref b1)) (hS:T.SetOf (intKind aa w) b1 S1 k) (hb2:Gl T "b3_exceptions" (.ref b2)) (hM:j4 aa w T b2 m) {text:Str}
  (hl:text.length<=1000) (hj:JoinOk ("" : Str) ((text.cps.toList.filter fun(c:Nat)=>!S1 c).map fun(c:Nat)=>jZ m c)=true) :
  FN aa w T (.ref a) 2 [.str text] (.str (l8 S1 m text)) :=
 FN.mk (out:=.ret [] (.str (l8 S1 m text))) hlim F ⋯ rfl rfl fun A Z env R S eo=>by
  show SXs aa w A ⟨T,N0,[],0⟩ Z env [(Str.ofString "text",.str text)] readB _
  have hA:=R.hd
  have hu:A.units+16<cLine:=by have:=R.un;omega
  have szl:(1000:Nat)<=sizeLine:=by decide
  unfold readB
  refine SXs.cons (SX.comp1 (items:=text.cps.toList) (φ:=fun c=>.str (ch c)) (te:=fun _=>true) (f:=fun(c:Nat)=>.bool (S1 c)) S eo ⋯ ⋯ (IX.str hA ‹nm›) ?_ ?_ (fun _=>rfl) (by exact iE (H:=⟨T,N0,[],0⟩) S eo ⋯)) ?_
  ·intro c hc C Z2 S2 eo2
   exact⟨CT.nil,fun _=>EX.fn S2 eo2 R F1 ⋯ ⋯ (LX.cons ‹nm› LX.nil rfl) (xN hlim F1 ho hb1 hS) rfl rfl⟩
  ·rw[len_list];omega
  rw[dG]
  refine SXs.cons (SX.ite (b:=false) (TX.cmp (EX.as (q:=.lst []) (EX.comp1 (items:=text.cps.toList) (φ:=fun(c:Nat)=>.bool (S1 c)) (te:=fun(c:Nat)=>(!(S1 c==true))&&(!(S1 c==false))) (f:=fun(c:Nat)=>.bool (S1 c)) S eo ⋯ (IX.lst hA ‹nm›) ?_ ?_ (fun _=>rfl)) ?_)
   (EX.list LX.nil (Ap _)) (O2.neD (p:=.lst []) (q:=.lst []) (dJ (xs:=[]) fun _ h=>by cases h) (dJ (xs:=[]) fun _ h=>by cases h) hu) rfl) (fun h=>by cases h) (fun _=>SXs.nil)) (SXs.one (SX.retn
   (EX.sm1 EX.cstr GMs.join (LX.cons (EX.as (EX.comp2 (items:=text.cps.toList.zip (text.cps.toList.map fun(c:Nat)=>S1 c)) (φ:=fun a=>.str (ch a.1)) (ψ:=fun a=>.bool a.2) (te:=fun a=>!a.2) (f:=fun a=>.str (jZ m a.1)) hA S eo ⋯ ?_ ?_ ?_ (fun _=>rfl)) ?_) LX.nil rfl) (CB.join hj) rfl rfl rfl)))
  ·intro c hc C Z2 S2 eo2
   exact⟨CT.one (TX.all (AT.consAnd (TX.cmp ‹nm› EX.cbool O2.isNotBool rfl) fun _=>AT.oneAnd (TX.cmp ‹nm› EX.cbool O2.isNotBool rfl))),fun _=>by walk_at "nm"⟩
  ·rw[len_list];omega
  ·have e0:(text.cps.toList.filter fun(c:Nat)=>(!(S1 c==true))&&(!(S1 c==false)))=[]:=by
    rw[List.filter_eq_nil_iff]
    intro c _
    cases S1 c <;> decide
   rw[e0];rfl
  ·have e2:((text.cps.toList.zip (text.cps.toList.map fun(c:Nat)=>S1 c)).map fun a=>PV.tup [.str (ch a.1),.bool a.2])=((text.cps.toList.zip (text.cps.toList.map fun(c:Nat)=>PV.bool (S1 c))).map fun a=>PV.tup [.str (ch a.1),a.2]):=by
    generalize text.cps.toList=l
    induction l with
    |nil=>rfl
    |cons c l ih=>simpa using ih
   rw[e2]
   exact IX.zipS (x:=text) (l:=text.cps.toList.map fun(c:Nat)=>PV.bool (S1 c)) hA (NM.b S eo hz ⋯ ⋯) ‹nm› ‹nm› ‹s› rfl rfl rfl
  ·intro a ha C Z2 S2 eo2
   refine⟨CT.one (TX.not (TX.val (p:=.bool a.2) (b:=a.2) ‹nm› ?_ rfl)),fun _=>EX.fn S2 eo2 R F2 ⋯ ⋯ (LX.cons ‹nm› LX.nil rfl) (v9 hlim F2 ho hb2 hM) rfl rfl⟩
   intro s E v G hv
   cases hv
   exact Dt ⟨rfl,Kp.refl _ _⟩
  ·simp only[List.length_zip,List.length_map,Nat.min_self,len_list];omega
  ·generalize text.cps.toList=l
   congr 1
   induction l with
   |nil=>rfl
   |cons c l ih =>
    rw[List.map_cons,List.zip_cons_cons,List.filter_cons,List.filter_cons]
    cases h:S1 c <;> simp[h] <;> simpa using ih
def sD(av x:Str):Bool:=(PV.py.pys [.str "  ",.str av]).any fun y=>PyData.eqv y (PyData.str (jD x none (some 2)))
def qY(x:Str):Str:=jD x (some 2) none
def mR(av:Str)(delta:List Str):List Str:=(delta.filter (sD av)).map qY
theorem t5{x:Str}{lo hi:Option Int}(h:PyData.strOk x=true):PyData.strOk (jD x lo hi)=true:=by
 unfold jD Txt.slice
 split
 ·exact h
 refine lK fun c hc=>?_
 obtain⟨i,_,e⟩:=List.mem_filterMap.mp hc
 exact j9 h c (by
  have:=As (l:=x.cps.toList) (i:=i) (a:=c) (by simpa using e)
  exact this)
inductive kP:PV->Int->Prop
 |int (k:Int):kP (.int k) k
 |fig (x:Str) (k:Int):nS x=some k->kP (.str x) k
theorem kP.ex{A:Around}{H:Ctx}{Z:ZP}{env:Env}{ρ:List (Str×PV)}{f:Str}{np pos:Pos}{e:Expr}{p:PV}{k:Int}(h:kP p k)(hf:NM aa w A H Z env f (.type "int"))(he:EX aa w A H Z env ρ e p)
  (hs:starEach [e] env=(false,eval e env)::starEach [] env) (hplain:(backTo pos (starEach [] env)).any (·.1)=false)
  (hev:eval (.Call (.Name f np) [e] [] pos) env=(do callWith pos (<-eval (.Name f np) env) [] (backTo pos (starEach [e] env)) (backToKw pos (keywordEach [] env)))):EX aa w A H Z env ρ (.Call (.Name f np) [e] [] pos) (.int k):=by
 cases h with
 |int k=>exact EX.callT hf (LX.cons he LX.nil hs) CB.intI hs hplain hev
 |fig x k hx=>exact EX.callT hf (LX.cons he LX.nil hs) (CB.intF hx) hs hplain hev
theorem iN{delta:List Str}{wh:PV}{k:Int}{av:Str}(hw:kP wh k)(ht:(k=1/\av = "- ")\/(k=2/\av = "+ "))(hd:∀ x∈delta,PyData.strOk x=true/\x.length<=sizeLine)(hi:Bi T "int" (.type "int")) :
  yQ aa w T 2 ["delta","which"] [.lst (delta.map .str),wh] restoreB restoreS.names (mR av delta):=by
 intro A Z Zc Zd env n_0 s R S eo hco hzc hwo hzd hn F0
 have F:FI ⟨T,N0,[],0⟩ Z env [("delta",.lst (delta.map .str)),("which",wh)] s:=F0
 have kt:∀{sa sb:Shared},Kp (Tn ⟨T,N0,[],0⟩ env) sa sb->Kp (Wo n_0 Zd) sa sb:=fun k=>k.weak fun a q=>q.elim (hwo a) fun d=>d.elim
 have hA:=R.hd
 refine seg_func ?_
 refine rI (SX.doc (by unfold interactive;rw[S.fn];rfl)) F fun s1 F1 k1=>?_
 refine rI (SX.try (SXs.one (SX.set S eo (EX.pick2 ‹d› (hw.ex (NM.b S eo hi ⋯ ⋯) ‹nm› rfl rfl rfl) ht (fun _ _=>rfl)) ⋯ ⋯))) F1 fun s2 F2 k2=>?_
 refine rI (SX.set S eo (EX.tuple (LX.cons EX.cstr (LX.cons (p:=.str av) ‹nm› LX.nil rfl) rfl) (by show 2<=sizeLine;decide)) ⋯ ⋯) F2 fun s3 F3 k3=>?_
 have k03:=(kt k1).trans ((kt k2).trans (kt k3))
 have up:∀ b o,¬Wo n_0 Zd b->s.heap.get? b=some o->s3.heap.get? b=some o:=fun b o z e=>k03.get z e
 have hl:(mR av delta).length=(delta.filter (sD av)).length:=Ej ..
 rw[hl]
 refine qR (H:=⟨T,N0,[],0⟩) (Z:=Z) (φ:=PV.str) (items:=delta) (te:=sD av) (fx:=qY) (b:=fun x=>[("line",.str x)]) (xs:=["line"]) S (IX.lst hA ‹nm›) F3 (fun _=>rfl)
  (fun a q=>⟨(hzc a q).1,(hzc a q).2,fun d=>d.elim⟩) hwo (fun a q=>?_) (fun b o e=>up b o (fun q=>by rw[q.1]at e;cases e) (hn b o e)) ?_ ?_ hco ?_ k03 rfl
 ·obtain⟨o,e⟩:=hzd a q
  exact⟨o,up a o (fun q'=>q'.2 q) e⟩
 ·intro Z' hz S' x hx
  refine⟨BD.name S' (eo.bds ⋯),?_,fun _=>?_⟩
  ·show TX aa w _ _ Z' env [("line",.str x),("prefixes",.tup [.str "  ",.str av]),("tag",.str av),("delta",.lst (delta.map .str)),("which",wh)] _ _
   refine TX.cmp (EX.slice ‹nm› PX.none (PX.some EX.cint) (SLC.str (hd x hx).2)) ‹nm› (O2.inT ?_ ?_ ?_) rfl
   ·exact⟨rfl,t5 (hd x hx).1,by show 0<=8;decide⟩
   ·refine⟨rfl,?_,by show 1<=8;decide⟩
    rcases ht with⟨_,rfl⟩|⟨_,rfl⟩ <;> kernel_rfl
   ·have:=R.un;omega
  ·show EX aa w _ _ Z' env [("line",.str x),("prefixes",.tup [.str "  ",.str av]),("tag",.str av),("delta",.lst (delta.map .str)),("which",wh)] _ _
   exact EX.slice ‹nm› (PX.some EX.cint) PX.none (SLC.str (hd x hx).2)
 ·intro x y q e
  show List.lookup y (("line",PV.str x)::[("prefixes",.tup [.str "  ",.str av]),("tag",.str av),("delta",.lst (delta.map .str)),("which",wh)])=some q
  rw[a7,if_neg]
  ·exact e
  ·rintro rfl
   revert e
   show List.lookup ("line" : Str) [("prefixes",PV.tup [.str "  ",.str av]),("tag",.str av),("delta",.lst (delta.map .str)),("which",wh)]=some q->False
   rw[show List.lookup ("line" : Str) [(("prefixes" : Str),PV.tup [.str "  ",.str av]),("tag",.str av),("delta",.lst (delta.map .str)),("which",wh)]=none from by kernel_rfl]
   intro e;cases e
 ·intro s_0 s' k
  exact seg_end (.ok (.ret .none)) ⟨rfl,rfl,k⟩
end
def gR(ad:Str)(c:Nat):Str:=if eH ad (ch c)then(" " ++ Txt.upper (ch c)) ++ " " else ch c
def eN(ab ad:Str):Str:=Txt.join "" (ab.cps.toList.map (gR ad))
def d7(ab ad:Str):List Str:=Txt.words (eN ab ad)
def aW(ab:Str):Int:=1+(ab.length:Int).fmod 2
def oJ(side:Int):Str:=if side=1 then "-" else "+"
def sM(aw:Str):Bool:=(PV.py.pys [.str "F",.str "I",.str "L"]).any fun y=>PyData.eqv y (PyData.str aw)
def gL(side:Int)(aw:Str):List Str:=if sM aw then[((oJ side ++ " ")++Txt.lower aw) ++ "\n","? ^\n"]else[("  " ++ aw) ++ "\n"]
def dK(ab ad:Str):List Str:=(d7 ab ad).foldl (fun d p=>d++gL (aW ab) p) [("--- " ++ ab) ++ "\n",("+++ " ++ ad) ++ "\n"]
def pA(side:Int):Str:=if side=1 then "- " else "+ "
def lB(ab ad:Str):List Str:=mR (pA (3-aW ab)) (dK ab ad)
def aB(ab ad:Str):Str:=Txt.replace (Txt.join "" (lB ab ad)) "\n" ""
def cZ(ab ad:Str):Bool :=
 ab.cps.toList.all (fun c=>c==102||c==105||c==108)&&decide (ab.length<=6)&&decide (ad.length<=6)&&PyData.strOk ad &&
 JoinOk "" (ab.cps.toList.map (gR ad))&&decide ((eN ab ad).length<=100)&&decide ((Builtin.Str.spaceWords (eN ab ad) ((eN ab ad).length+1)).length<=100) &&
 decide ((d7 ab ad).length<=20)&&(d7 ab ad).all (fun p=>PyData.strOk p&&decide (p.length<=20)&&decide ((Txt.lower p).length<=100)) &&
 (dK ab ad).all (fun r=>PyData.strOk r&&decide (r.length<=200))&&decide ((dK ab ad).length<=100) &&
 (mR (pA (aW ab)) (dK ab ad)==(d7 ab ad).map fun p=>Txt.lower p ++ "\n") &&
 (mR (pA (aW ab)) (dK ab ad)).all PyData.strOk&&JoinOk "" (lB ab ad)&&decide ((lB ab ad).length<=100)&&decide ((Txt.join "" (lB ab ad)).length<=1000)
section
variable{T:Heap}
theorem iW(ab:Str):aW ab=1\/aW ab=2:=by
 unfold aW
 have:((ab.length:Int).fmod 2)=(ab.length:Int)%2:=Int.fmod_eq_emod_of_nonneg _ ‹d›
 rw[this];omega
theorem CB.strI{A:Around}{H:Ctx}{Z:ZP}{i:Int}(hi:i.natAbs.log2<1920):CB aa w A H Z (.type "str") [.int i] (.str (toString i:String)):=by
 intro s E vs G P
 obtain⟨_,_,rfl,h1,P⟩:=aI P
 obtain rfl:=cX P
 obtain⟨t,rfl⟩:=Rp.intI h1
 exact PySem.P.str_of_int hi ⟨.str _ _,Kp.toks _ _ _⟩
theorem O2.neSame{A:Around}{H:Ctx}{Z:ZP}{xs ys:List Str}(h:xs=ys)(hx:∀ x∈xs,PyData.strOk x=true)(hu:A.units+16<cLine):O2 aa w A H Z (compareOp .NotEq) (.lst (xs.map .str)) (.lst (ys.map .str)) (.bool false):=by
 subst h
 have:=O2.neD (aa:=aa) (w:=w) (A:=A) (H:=H) (Z:=Z) (dJ hx) (dJ hx) hu
 rwa [PySem.SeqAt.eqv_refl _ (dJ hx).lay]at this
theorem nH{a ar:Addr}(hlim:T.NoLimit)(hnb:NoneBooked T)(F:Fun T "_law_struck" struckB struckS ["word","struck"] a)(FR:oL T "restore" restoreB restoreS ["delta","which"] ar)(hle:Bi T "len" (.builtin "len"))(hls:Bi T "list" (.type "list"))(hst:Bi T "str" (.type "str"))(hi:Bi T "int" (.type "int"))
  {ab ad:Str} (ok:cZ ab ad=true):FN aa w T (.ref a) 6 [.str ab,.str ad] (.str (aB ab ad)) :=
 FN.mk (out:=.ret [] (.str (aB ab ad))) hlim F ⋯ rfl rfl fun A Z env R S eo=>by
  show SXs aa w A ⟨T,N0,[],0⟩ Z env [(Str.ofString "word",.str ab),(Str.ofString "struck",.str ad)] struckB _
  have hA:=R.hd
  have hu:A.units+16<cLine:=by have:=R.un;omega
  have szl:(1000:Nat)<=sizeLine:=by decide
  unfold cZ at ok
  simp only[Bool.and_eq_true,decide_eq_true_eq,List.all_eq_true,Bool.or_eq_true,beq_iff_eq]at ok
  obtain⟨⟨⟨⟨⟨⟨⟨⟨⟨⟨⟨⟨⟨⟨⟨hw,hwl⟩,hsl⟩,hso⟩,hj⟩,hjl⟩,hsp⟩,hpl⟩,hp⟩,hd⟩,hdl⟩,heq⟩,hro⟩,hlj⟩,hll⟩,hljl⟩:=ok
  unfold struckB
  refine SXs.cons (SX.set (p:=.int (aW ab)) S eo (EX.bin EX.cint (EX.bin (EX.callB (NM.b S eo hle ⋯ ⋯) (LX.cons ‹nm› LX.nil rfl) (CB.lenS ?_) rfl rfl rfl) EX.cint (O2.modI ‹d›)) O2.addI) ⋯ ⋯) ?_
  ·omega
  refine SXs.cons (SX.set (p:=.lst ((d7 ab ad).map .str)) S eo (EX.mc0 (EX.sm1 EX.cstr GMs.join (LX.cons (EX.as (EX.comp1 (items:=ab.cps.toList) (φ:=fun c=>.str (ch c)) (te:=fun _=>true) (f:=fun c=>.str (gR ad c)) S eo ⋯ (IX.str hA ‹nm›) ?_ ?_ (fun _=>rfl)) (q:=.lst ((ab.cps.toList.map (gR ad)).map .str)) ?_) LX.nil rfl) (CB.join hj) rfl rfl rfl) (GMs.p GMs.split) (CB.split0 ?_ ?_) rfl) ⋯ ⋯) ?_
  ·intro c hc C Z2 S2 eo2
   refine⟨CT.nil,fun _=>EX.ifexp (c:=eH ad (ch c)) (TX.cmp ‹nm› ‹nm› O2.inS rfl) (fun h=>EX.as (EX.bin (EX.bin EX.cstr (EX.mc0 ‹nm› (GMs.p GMs.upper) (CB.upper ?_) rfl) (O2.addS ?_)) EX.cstr (O2.addS ?_)) ?_) (fun h=>EX.as (p:=.str (ch c)) ‹nm› ?_)⟩
   ·show 1<=5592405;decide
   ·rcases hw c hc with(rfl|rfl)|rfl <;>(show _<=16777216;decide +kernel)
   ·rcases hw c hc with(rfl|rfl)|rfl <;>(show _<=16777216;decide +kernel)
   ·unfold gR;rw[if_pos h]
   ·unfold gR;rw[if_neg (by rw[h];decide)]
  ·rw[len_list];omega
  ·rw[dG,List.map_map];rfl
  ·show(eN ab ad).length<=_;omega
  ·show(Builtin.Str.spaceWords (eN ab ad) ((eN ab ad).length+1)).length<=_;omega
  refine SXs.cons (SX.set (p:=.lst ([("--- " ++ ab) ++ "\n",("+++ " ++ ad) ++ "\n"].map .str)) S eo (EX.list (ps:=[.str (("--- " ++ ab) ++ "\n"),.str (("+++ " ++ ad) ++ "\n")]) (LX.cons (EX.bin (EX.bin EX.cstr ‹nm› (O2.addS ?_)) EX.cstr (O2.addS ?_)) (LX.cons (EX.bin (EX.bin EX.cstr ‹nm› (O2.addS ?_)) EX.cstr (O2.addS ?_)) LX.nil rfl) rfl) ?_) ⋯ ⋯) ?_
  ·have e:("--- " : Str).length=4:=⋯
   omega
  ·have e:("--- " : Str).length=4:=⋯
   have e1:("\n" : Str).length=1:=⋯
   rw[d0];omega
  ·have e:("+++ " : Str).length=4:=⋯
   omega
  ·have e:("+++ " : Str).length=4:=⋯
   have e1:("\n" : Str).length=1:=⋯
   rw[d0];omega
  ·show 2<=sizeLine;decide
  refine SXs.cons (SX.for1 (items:=d7 ab ad) (φ:=PV.str) (h:=fun d p=>d++gL (aW ab) p) (st₀:=[("--- " ++ ab) ++ "\n",("+++ " ++ ad) ++ "\n"])
   (f:=fun d=>[("delta",.lst (d.map .str)),("side",.int (aW ab)),("parts",.lst ((d7 ab ad).map .str)),("word",.str ab),("struck",.str ad)]) (Inv:=fun i d=>d.length<=2+2*i) S eo ⋯ ?_ ?_ (IX.lst hA ‹nm›) ?_ (fun _=>rfl)) ?_
  ·exact A4 2
  ·exact ‹sub›
  ·intro Z' S' i d p hi hpi
   have hpm:p∈d7 ab ad:=As hpi
   have hil:i<20:=by
    have:=(A8.mp hpi).1
    omega
   obtain⟨⟨hp1,hp2⟩,hp3⟩:=hp p hpm
   have e1:("\n" : Str).length=1:=⋯
   have e2:(" " : Str).length=1:=⋯
   have e3:("  " : Str).length=2:=⋯
   have rl:(gL (aW ab) p).length<=2:=by
    unfold gL
    split
    ·exact A4 2
    ·exact Ad 1
   have hsg:∃ c,oJ (aW ab)=ch c/\(seqIndex? (aW ab) (Str.ofString " -+").length).bind ((Str.ofString " -+").cps[·]?)=some c/\(decide (aW ab < -(2^63:Int))||decide (aW ab≥2^63))=false:=by
    rcases iW ab with h|h <;> rw[h]
    ·exact⟨45,⋯,⋯,⋯⟩
    ·exact⟨43,⋯,⋯,⋯⟩
   obtain⟨sc,hs1,hs2,hs3⟩:=hsg
   have hsl:(ch sc).length=1:=rfl
   refine⟨by rw[List.length_append];omega,_,SXs.one (SX.ite (b:=sM p) (TX.cmp (p:=.str p) ‹nm› (EX.tuple (ps:=[.str "F",.str "I",.str "L"]) (LX.cons EX.cstr (LX.cons EX.cstr (LX.cons EX.cstr LX.nil rfl) rfl) rfl) ?_) (O2.inT (p:=.str p) (l:=[.str "F",.str "I",.str "L"]) ⟨rfl,hp1,by show 0<=8;decide⟩ ⟨rfl,⋯,by show 1<=8;decide⟩ hu) rfl)
    (fun h=>SXs.one (SX.set (p:=.lst ((d++gL (aW ab) p).map .str)) S' eo (EX.as (EX.bin ‹nm› (EX.list (ps:=[.str (((oJ (aW ab) ++ " ")++Txt.lower p) ++ "\n"),.str "? ^\n"]) (LX.cons (EX.bin (EX.bin (EX.bin (EX.as (EX.sub EX.cstr ‹nm› (SB.str hs3 hs2 (fun _ _=>rfl) (fun _ _=>rfl))) (q:=.str (oJ (aW ab))) ?_) EX.cstr (O2.addS ?_)) (EX.mc0 ‹nm› (GMs.p GMs.lower) (CB.lower ?_) rfl) (O2.addS ?_)) EX.cstr (O2.addS ?_)) (LX.cons EX.cstr LX.nil rfl) rfl) ?_) (O2.addL ?_)) ?_) ⋯ ⋯))
    (fun h=>SXs.one (SX.set (p:=.lst ((d++gL (aW ab) p).map .str)) S' eo (EX.as (EX.bin ‹nm› (EX.list (ps:=[.str (("  " ++ p) ++ "\n")]) (LX.cons (EX.bin (EX.bin EX.cstr ‹nm› (O2.addS ?_)) EX.cstr (O2.addS ?_)) LX.nil rfl) ?_) (O2.addL ?_)) ?_) ⋯ ⋯))),?_⟩
   ·show 3<=sizeLine;decide
   ·rw[hs1]
   ·rw[hs1];omega
   ·omega
   ·rw[hs1,d0];omega
   ·rw[hs1,d0,d0];omega
   ·show 2<=sizeLine;decide
   ·rw[List.length_map];show _+2<=_;omega
   ·unfold gL;rw[if_pos h,List.map_append];rfl
   ·omega
   ·rw[d0];omega
   ·show 1<=sizeLine;decide
   ·rw[List.length_map];show _+1<=_;omega
   ·unfold gL;rw[if_neg (by rw[h];decide),List.map_append];rfl
   ·exact ‹sub›
  show SXs aa w A ⟨T,N0,[],0⟩ Z env [("delta",.lst ((dK ab ad).map .str)),("side",.int (aW ab)),("parts",.lst ((d7 ab ad).map .str)),("word",.str ab),("struck",.str ad)] _ _
  refine SXs.cons (SX.ite (b:=false) (TX.cmp (EX.listG (n:=3) (xs:=mR (pA (aW ab)) (dK ab ad)) ?_ (NM.b S eo hls ⋯ ⋯) (GX.fn S eo ?_ hlim FR ⋯ ⋯ ⋯ rfl (LX.cons (p:=.lst ((dK ab ad).map .str)) ‹nm› (LX.cons (p:=.int (aW ab)) ‹nm› LX.nil rfl) rfl) (iN (kP.int _) ?_ ?_ hi) rfl rfl) ?_ rfl rfl rfl)
   (EX.as (EX.comp1 (items:=d7 ab ad) (φ:=PV.str) (te:=fun _=>true) (f:=fun p=>.str (Txt.lower p ++ "\n")) S eo ⋯ (IX.lst hA ‹nm›) ?_ ?_ (fun _=>rfl)) (q:=.lst (((d7 ab ad).map fun p=>Txt.lower p ++ "\n").map .str)) ?_) (O2.neSame heq ?_ hu) rfl) (fun h=>?_) (fun _=>SXs.nil)) ?_
  ·exact⟨R.hd,by have:=R.dp;omega,by have:=R.un;omega⟩
  ·exact⟨R.hd,by have:=R.dp;omega,by have:=R.un;omega⟩
  ·rcases iW ab with h|h
   ·exact .inl ⟨h,by rw[h];rfl⟩
   ·exact .inr ⟨h,by rw[h];rfl⟩
  ·exact fun x hx=>⟨(hd x hx).1,by have:=(hd x hx).2;omega⟩
  ·have:=E4 (sD (pA (aW ab))) (dK ab ad)
   show((List.filter _ _).map qY).length<=_
   rw[List.length_map];omega
  ·intro p hpm C Z2 S2 eo2
   exact⟨CT.nil,fun _=>EX.bin (EX.mc0 ‹nm› (GMs.p GMs.lower) (CB.lower (by have:=(hp p hpm).1.2;omega)) rfl) EX.cstr (O2.addS (by
    have:=(hp p hpm).2
    have e1:("\n" : Str).length=1:=⋯
    omega))⟩
  ·omega
  ·rw[dG,List.map_map];rfl
  ·exact hro
  ·cases h
  refine SXs.one (SX.retn (EX.replC (EXp.joinG (n:=3) (xs:=lB ab ad) ?_ (GX.fn S eo ?_ hlim FR ⋯ ⋯ ⋯ rfl (LX.cons (p:=.lst ((dK ab ad).map .str)) ‹nm› (LX.cons (EX.callT (NM.b S eo hst ⋯ ⋯) (LX.cons (EX.bin EX.cint ‹nm› O2.subI) LX.nil rfl) (CB.strI ?_) rfl rfl rfl) LX.nil rfl) rfl) (iN (k:=3-aW ab) (kP.fig _ _ ?_) ?_ ?_ hi) rfl rfl) ?_ hlj rfl rfl rfl) ?_ hnb rfl rfl rfl rfl))
  ·exact⟨R.hd,by have:=R.dp;omega,by have:=R.un;omega⟩
  ·exact⟨R.hd,by have:=R.dp;omega,by have:=R.un;omega⟩
  ·rcases iW ab with h|h <;> rw[h] <;> decide
  ·rcases iW ab with h|h <;> rw[h] <;> kernel_rfl
  ·rcases iW ab with h|h <;> rw[h]
   ·exact .inr ⟨rfl,rfl⟩
   ·exact .inl ⟨rfl,rfl⟩
  ·exact fun x hx=>⟨(hd x hx).1,by have:=(hd x hx).2;omega⟩
  ·omega
  ·have e0:("" : Str).length=0:=⋯
   rw[e0];omega
end
def cA:List Str:=["f","i","l","fi","fl","il"]
def cD(ab ad:Str):List Nat:=ad.cps.toList.filter fun c=>!eH ab (ch c)
def dM(ab ad:Str):List Nat:=ad.cps.toList.filter fun c=>eH (chained ab ad).1 (ch c)
def aR:Nat->Str->Option (List Str)
 |0,_=>none
 |n+1,ab=>if ab == "" then some []else cA.foldr (fun ad ai=>if(cD ab ad).isEmpty&&(dM ab ad).isEmpty then(match aR n (aB ab ad)with|some ak=>some (ad::ak)|none=>ai)else ai) none
def f7:Nat->Str->Bool
 |0,_=>false
 |n+1,ab=>ab == "" ||(PyData.strOk ab&&decide (ab.length<=20)&&cA.foldr (fun ad ai=>if(cD ab ad).isEmpty&&(dM ab ad).isEmpty then
   cZ ab ad&&PyData.strOk (chained ab ad).1&&f7 n (aB ab ad)&&decide (((aR n (aB ab ad)).getD []).length<=100)&&(match aR n (aB ab ad)with|some ak=>true|none=>ai)else ai) true)
def rX:Option (List Str)->PV
 |none=>.none
 |some l=>.lst (l.map .str)
section
variable{T:Heap}
def bR(n:Nat)(ab:Str)(_:Unit)(ad:Str):Stp Unit :=
 if(cD ab ad).isEmpty&&(dM ab ad).isEmpty then(match aR n (aB ab ad)with|some ak=>.ret [] (.lst ((ad::ak).map .str))|none=>.go ())else .go ()
theorem y2(n:Nat)(ab:Str):∀ ws:List Str,runFor (bR n ab) ws ()=match ws.foldr (fun ad ai=>if(cD ab ad).isEmpty&&(dM ab ad).isEmpty then(match aR n (aB ab ad)with|some ak=>some (ad::ak)|none=>ai)else ai) none with
  |some l=>.inr ([],.lst (l.map .str))
  |none=>.inl ():=by
 intro ws
 induction ws with
 |nil=>rfl
 |cons p r ih =>
  rw[runFor,List.foldr_cons]
  unfold bR
  by_cases h:((cD ab p).isEmpty&&(dM ab p).isEmpty)=true
  ·rw[if_pos h,if_pos h]
   cases aR n (aB ab p)with
   |some ak=>rfl
   |none=>exact ih
  ·rw[if_neg h,if_neg h]
   exact ih
theorem zQ{n:Nat}{ab:Str}:∀{ws:List Str},ws.foldr (fun ad ai=>if(cD ab ad).isEmpty&&(dM ab ad).isEmpty then
   cZ ab ad&&PyData.strOk (chained ab ad).1&&f7 n (aB ab ad)&&decide (((aR n (aB ab ad)).getD []).length<=100)&&(match aR n (aB ab ad)with|some ak=>true|none=>ai)else ai) true=true ->
  ∀(i:Nat) p,ws[i]? = some p->(∀(j:Nat) q,j<i->ws[j]? = some q->bR n ab () q=.go ())->((cD ab p).isEmpty&&(dM ab p).isEmpty)=true->cZ ab p=true/\f7 n (aB ab p)=true/\PyData.strOk (chained ab p).1=true/\((aR n (aB ab p)).getD []).length<=100:=by
 intro ws
 induction ws with
 |nil=>intro _ i p h;simp at h
 |cons q r ih =>
  intro h i p hp hb hc
  rw[List.foldr_cons]at h
  cases i with
  |zero =>
   simp at hp;subst hp
   rw[if_pos hc]at h
   simp only[Bool.and_eq_true,decide_eq_true_eq]at h
   exact⟨h.1.1.1.1,h.1.1.2,h.1.1.1.2,h.1.2⟩
  |succ i =>
   have h0:=hb 0 q (Nat.succ_pos _) rfl
   refine ih ?_ i p (by simpa using hp) (fun j q' hj hq=>hb (j+1) q' (Nat.succ_lt_succ hj) (by simpa using hq)) hc
   unfold bR at h0
   by_cases hq:((cD ab q).isEmpty&&(dM ab q).isEmpty)=true
   ·rw[if_pos hq]at h h0
    cases e:aR n (aB ab q)with
    |some ak=>rw[e]at h0;cases h0
    |none =>
     rw[e]at h
     exact(A6.mp h).2
   ·rwa [if_neg hq]at h
def uQ{σ:Type}(g:σ->Led)(f:σ->List (Str×PV)):Stp σ->Out
 | .go st=>.next (g st) (f st)
 | .brk st=>.brk (g st) (f st)
 | .ret L q=>.ret L q
theorem SXs.turn{σ:Type}{A:Around}{H:Ctx}{Z:ZP}{env:Env}{ρ:List (Str×PV)}{body:List Stmt}{stp:Stp σ}{g:σ->Led}{f:σ->List (Str×PV)}{P:σ->Prop}(hi:∀ x,stp=.go x->P x)(hb:SXs aa w A H Z env ρ body (uQ g f stp)) :
  match(generalizing:=false) stp with
  | .go x=>P x/\(SXs aa w A H Z env ρ body (.next (g x) (f x))\/SXs aa w A H Z env ρ body (.cont (g x) (f x)))
  | .brk x=>SXs aa w A H Z env ρ body (.brk (g x) (f x))
  | .ret L q=>SXs aa w A H Z env ρ body (.ret L q):=by
 cases stp with
 |go x=>exact⟨hi x rfl,.inl hb⟩
 |brk x=>exact hb
 |ret L q=>exact hb
theorem oU{x:Str}{l:List Nat}(h:PyData.strOk x=true)(hl:∀ c∈l,c∈x.cps.toList):∀ c∈l,PyData.strOk (ch c)=true:=fun c hc=>kN h (hl c hc)
theorem zC{a ac as ar:Addr}(hlim:T.NoLimit)(hnb:NoneBooked T)(F:Fun T "_law_way" wayB wayS ["word"] a)(FC:Fun T "_law_chained" chainedB chainedS ["word","begins"] ac)(FS':Fun T "_law_struck" struckB struckS ["word","struck"] as)
  (FR:oL T "restore" restoreB restoreS ["delta","which"] ar) (hr:Bi T "range" (.type "range")) (hle:Bi T "len" (.builtin "len")) (hls:Bi T "list" (.type "list")) (hst:Bi T "str" (.type "str")) (hi:Bi T "int" (.type "int")) :
  ∀(n:Nat) (ab:Str),f7 n ab=true->FN aa w T (.ref a) (7+n) [.str ab] (rX (aR n ab)):=by
 intro n
 induction n with
 |zero=>intro ab h;cases h
 |succ n ih =>
  intro ab ok
  refine FN.mk (n:=7+n) (out:=.ret [] (rX (aR (n+1) ab))) hlim F ⋯ rfl rfl fun A Z env R S eo=>?_
  show SXs aa w A ⟨T,N0,[],0⟩ Z env [(Str.ofString "word",.str ab)] wayB _
  have hA:=R.hd
  have hu:A.units+16<cLine:=by have:=R.un;omega
  have szl:(1000:Nat)<=sizeLine:=by decide
  unfold wayB
  by_cases h0:(ab == "")=true
  ·have e0:aR (n+1) ab=some []:=by unfold aR;rw[if_pos h0]
   rw[e0]
   refine SXs.ret (SX.ite (b:=true) (TX.cmp (p:=.str ab) ‹nm› EX.cstr (by have:=O2.eqS (aa:=aa) (w:=w) (A:=A) (H:=⟨T,N0,[],0⟩) (Z:=Z) (x:=ab) (y := "");rwa [h0]at this) rfl) (fun _=>SXs.one (SX.retn (EX.list LX.nil (Ap _)))) (fun h=>by cases h))
  have h0':(ab == "")=false:=by simpa using h0
  unfold f7 at ok
  simp only[h0',Bool.false_or]at ok
  simp only[Bool.and_eq_true (PyData.strOk ab&&_),Bool.and_eq_true (PyData.strOk ab),decide_eq_true_eq]at ok
  obtain⟨⟨hw,hwl⟩,ok⟩:=ok
  have e0:aR (n+1) ab=cA.foldr (fun ad ai=>if(cD ab ad).isEmpty&&(dM ab ad).isEmpty then(match aR n (aB ab ad)with|some ak=>some (ad::ak)|none=>ai)else ai) none:=by
   rw[aR,if_neg h0]
  have hrun:=y2 n ab cA
  rw[<-e0]at hrun
  refine SXs.cons (SX.ite (b:=false) (TX.cmp (p:=.str ab) ‹nm› EX.cstr (by have:=O2.eqS (aa:=aa) (w:=w) (A:=A) (H:=⟨T,N0,[],0⟩) (Z:=Z) (x:=ab) (y := "");rwa [h0']at this) rfl) (fun h=>by cases h) (fun _=>SXs.nil)) ?_
  refine SXs.forThen (SX.for (xs:=["struck"]) (φ:=PV.str) (items:=cA) (step:=bR n ab) (f:=fun _=>[(Str.ofString "word",.str ab)]) (g:=fun _=>[]) (bd:=fun p=>[("struck",.str p)]) (Inv:=fun i _=>∀(j:Nat) q,j<i->cA[j]? = some q->bR n ab () q=.go ()) (st₀:=())
    S rfl (IX.tup (φ:=PV.str) (l:=cA) hA (EX.tuple (LX.cons EX.cstr (LX.cons EX.cstr (LX.cons EX.cstr (LX.cons EX.cstr (LX.cons EX.cstr (LX.cons EX.cstr LX.nil rfl) rfl) rfl) rfl) rfl) rfl) (by show 6<=sizeLine;decide))) (fun j q hj=>absurd hj (Dm _)) ?turn (fun _=>rfl)) ?next ?ret
  case next =>
   intro x hx
   rw[hrun]at hx
   cases hw':aR (n+1) ab with
   |none=>exact SXs.one (SX.retn EX.cnone)
   |some l=>rw[hw']at hx;cases hx
  case ret =>
   intro L p hx
   rw[hrun]at hx
   cases hw':aR (n+1) ab with
   |none=>rw[hw']at hx;cases hx
   |some l=>rw[hw']at hx;cases hx;rfl
  case turn =>
   intro Z' hz S' i st p hinv hp
   have hpw:p∈cA:=As hp
   have hpl:p.length<=2/\PyData.strOk p=true:=by
    revert p
    have:∀ q∈cA,q.length<=2/\PyData.strOk q=true:=by decide +kernel
    intro p hp hpw;exact this p hpw
   refine⟨BD.name S' (eo.bds ⋯),?_⟩
   have go:∀{ρ:List (Str×PV)},bR n ab st p=.go ()->Lk ρ "word" (.str ab)->SXs aa w A ⟨T,N0,[],0⟩ Z' env ρ [] (uQ (fun _=>[]) (fun _=>[(Str.ofString "word",.str ab)]) (bR n ab st p)):=fun{ρ} e hk=>by
    rw[e]
    exact(SXs.nil (H:=⟨T,N0,[],0⟩)).next_forget (Sub.cons hk Sub.nil)
   refine SXs.turn (stp:=bR n ab st p) (g:=fun _=>[]) (f:=fun _=>[(Str.ofString "word",.str ab)]) (P:=fun _=>∀(j:Nat) q,j<i+1->cA[j]? = some q->bR n ab () q=.go ()) (fun x hx j q hj hq=>?_) ?_
   ·rcases Nat.lt_succ_iff_lt_or_eq.mp hj with h|rfl
    ·exact hinv j q h hq
    ·rw[hp]at hq;cases hq;exact hx
   show SXs aa w A ⟨T,N0,[],0⟩ Z' env [("struck",.str p),("word",.str ab)] _ _
   refine SXs.one (SX.ite (b:=(cD ab p).isEmpty) (TX.eqNil (xs:=cD ab p) (g:=ch) (EX.comp1 (items:=p.cps.toList) (φ:=fun c=>.str (ch c)) (te:=fun c=>!eH ab (ch c)) (f:=fun d=>.str (ch d)) S' eo ⋯ (IX.str hA ‹nm›) ?_ ?_ (fun _=>rfl)) ?_ hu) (fun hm=>?_) (fun hm=>go (by unfold bR;rw[hm];rfl) ‹lk›))
   ·intro c hc C Z2 S2 eo2
    exact⟨CT.one (TX.cmp ‹nm› ‹nm› O2.notInS rfl),fun _=>by walk_at "nm"⟩
   ·rw[len_list];omega
   ·exact oU hpl.2 fun c hc=>(C0.mp hc).1
   refine SXs.cons (SX.assignT (EX.fn S' eo R FC ⋯ ⋯ (LX.cons (p:=.str ab) ‹nm› (LX.cons (p:=.str p) ‹nm› LX.nil rfl) rfl) ((kW hlim FC hr hw hpl.2 ‹o›).le ‹o›) rfl rfl) (BD.tuple hA (BDs.cons S' (eo.bds ⋯) (BDs.cons S' (eo.bds ⋯) BDs.nil)) rfl rfl) rfl rfl rfl) ?_
   show SXs aa w A ⟨T,N0,[],0⟩ Z' env [("begins",.str (chained ab p).2),("ends",.str (chained ab p).1),("struck",.str p),("word",.str ab)] _ _
   refine SXs.one (SX.ite (b:=(dM ab p).isEmpty) (TX.eqNil (xs:=dM ab p) (g:=ch) (EX.comp1 (items:=p.cps.toList) (φ:=fun c=>.str (ch c)) (te:=fun c=>eH (chained ab p).1 (ch c)) (f:=fun d=>.str (ch d)) S' eo ⋯ (IX.str hA ‹nm›) ?_ ?_ (fun _=>rfl)) ?_ hu) (fun hc=>?_) (fun hc=>go (by unfold bR;rw[hc,Bool.and_false];rfl) ‹lk›))
   ·intro c hc C Z2 S2 eo2
    exact⟨CT.one (TX.cmp ‹nm› ‹nm› O2.inS rfl),fun _=>by walk_at "nm"⟩
   ·rw[len_list];omega
   ·exact oU hpl.2 fun c hc=>(C0.mp hc).1
   have hb:((cD ab p).isEmpty&&(dM ab p).isEmpty)=true:=by rw[hm,hc];rfl
   obtain⟨k1,k2,k3,k4⟩:=zQ ok i p hp (fun j q hj hq=>hinv j q hj hq) hb
   refine SXs.cons (SX.set (p:=rX (aR n (aB ab p))) S' eo (EX.fn S' eo R F ⋯ ⋯ (LX.cons (EX.fn S' eo R FS' ⋯ ⋯ (LX.cons (p:=.str ab) ‹nm› (LX.cons (p:=.str p) ‹nm› LX.nil rfl) rfl) ((nH hlim hnb FS' FR hle hls hst hi k1).le ‹o›) rfl rfl) LX.nil rfl) (ih _ k2) rfl rfl) ⋯ ⋯) ?_
   cases hw':aR n (aB ab p)with
   |none =>
    show SXs aa w A ⟨T,N0,[],0⟩ Z' env [("way",.none),("begins",.str (chained ab p).2),("ends",.str (chained ab p).1),("struck",.str p),("word",.str ab)] _ _
    exact SXs.one (SX.ite (b:=false) (TX.cmp (p:=.none) ‹nm› EX.cnone (O2.isNotNone (b:=true) rfl) rfl) (fun h=>by cases h) (fun _=>go (by unfold bR;rw[if_pos hb,hw']) ‹lk›))
   |some ak =>
    rw[hw']at k4
    have k4:ak.length<=100:=k4
    have e:bR n ab st p=.ret [] (.lst ((p::ak).map .str)):=by unfold bR;rw[if_pos hb,hw']
    rw[e]
    show SXs aa w A ⟨T,N0,[],0⟩ Z' env [("way",.lst (ak.map .str)),("begins",.str (chained ab p).2),("ends",.str (chained ab p).1),("struck",.str p),("word",.str ab)] _ _
    refine SXs.one (SX.ite (b:=true) (TX.cmp (p:=.lst (ak.map .str)) ‹nm› EX.cnone (O2.isNotNone (b:=false) rfl) rfl) (fun _=>?_) (fun h=>by cases h))
    exact SXs.one (SX.retn (EX.bin (EX.list (ps:=[.str p]) (LX.cons ‹nm› LX.nil rfl) (by show 1<=sizeLine;decide)) ‹nm› (O2.addL (by rw[List.length_map];show 1+_<=_;omega))))
end
section
open Lean Meta Elab Tactic
set_option genInjectivity false
set_option genSizeOf false
section
structure LwK(aa:Program)(w:World)(T:Heap) where
 (K:Frag)
 (aTy aRd aI1 aM3 aCh aSk aWy aSd aRe bS bM hC hI hV hG hN hW qC qI qS q1 q2 qB qF mC mS mF cC cI cc cd cP cQ cL cS kL tL kS tS:Addr)
 (S1:Int->Bool) (n1:Nat) (mM:Int->Option Str)
 lim:T.NoLimit
 nb:NoneBooked T
 inn:K.In T
 sm:∃ o,T.get? sysModules=some o
 enu:Bi T "enumerate" (.type "enumerate")
 ran:Bi T "range" (.type "range")
 lst:Bi T "list" (.type "list")
 tup:Bi T "tuple" (.type "tuple")
 str:Bi T "str" (.type "str")
 set:Bi T "set" (.type "set")
 zip:Bi T "zip" (.type "zip")
 int:Bi T "int" (.type "int")
 keyE:Bi T "KeyError" (.type "KeyError")
 valE:Bi T "ValueError" (.type "ValueError")
 len:Bi T "len" (.builtin "len")
 ord:Bi T "ord" (.builtin "ord")
 chr:Bi T "chr" (.builtin "chr")
 fTy:Fun T "_law_typed" typedB typedS ["word","number"] aTy
 fRd:Fun T "_law_read" readB readS ["text"] aRd
 fI1:Fun T "in_table_b1" inb1B inb1S ["code"] aI1
 fM3:Fun T "map_table_b3" mapb3B mapb3S ["code"] aM3
 fCh:Fun T "_law_chained" chainedB chainedS ["word","begins"] aCh
 fSk:Fun T "_law_struck" struckB struckS ["word","struck"] aSk
 fWy:Fun T "_law_way" wayB wayS ["word"] aWy
 fSd:Fun T "_law_stands" standsB standsS ["word"] aSd
 fRe:oL T "restore" restoreB restoreS ["delta","which"] aRe
 gS:Gl T "b1_set" (.ref bS)
 hS:T.SetOf (intKind aa w) bS S1 n1
 gM:Gl T "b3_exceptions" (.ref bM)
 hM:j4 aa w T bM mM
 hd:HdK T K hC hI hV hG hN hW
 hdG:Gl T "Headers" (.ref hC)
 hdC:eJ K hC=true
 sq:SmK T K qC qI qS q1 q2 qB qF
 sqG:Gl T "SequenceMatcher" (.ref qC)
 sqC:eJ K qC=true
 ma:MaK aa w T K mC mS mF
 maG:Gl T "Match" (.ref mC)
 maC:eJ K mC=true
 maI:lO (model aa w) T mC
 ac:AcK aa T K cC cI cc cd cP cQ cL cS
 acG:Gl T "_Accumulator" (.ref cC)
 acC:eJ K cC=true
 acN:∀{h:Heap},K.In h->vY (model aa w) h cC
 acI:findIn K (.ref cC) "__init__" = some (some (.ref cI))
 acF:typeIn K (.ref cI)=some (.type "function")
 cpG:specialIn K (.ref cP) "__get__" = some (some (.builtin "function.__get__"))
 cpT:takesIn K (.ref cP)=some false
 ag:AcG aa w T K cC cL cS kL tL kS tS
noncomputable def tailOf(i:Nat):List Stmt:=lawB.drop i
abbrev Tx:=List (Nat×Str)
def txD(tx:Tx):List (Str×PV):=tx.map fun a=>(ch a.1,.str a.2)
def i6(tx:Tx)(c:Nat):Option Str:=(tx.find? fun b=>b.1==c).map (·.2)
theorem sI{c:Nat}{v:Str}:∀{tx:Tx},i6 tx c=some v->fU (txD tx) (ch c)=some (.str v)
 |[],h=>by cases h
 |a::r,h=>by
  unfold i6 at h
  show Option.map _ (List.find? _ ((ch a.1,PV.str a.2)::txD r))=_
  rw[List.find?_cons]at h ⊢
  by_cases q:a.1=c
  ·rw[show(a.1==c)=true from beq_iff_eq.mpr q]at h
   rw[show decide ((ch a.1,PV.str a.2).1=ch c)=true from decide_eq_true (by show ch a.1=ch c;rw[q])]
   cases h;rfl
  ·rw[show(a.1==c)=false from beq_eq_false_iff_ne.mpr q]at h
   rw[show decide ((ch a.1,PV.str a.2).1=ch c)=false from decide_eq_false fun e=>q (by injection e with e;injection e with e;injection e)]
   exact sI h
def i4(tx:Tx):List (Str×Str):=tx.map fun a=>(Txt.upper (ch a.1),a.2)
def gA(tx:Tx)(c:Nat):Str:=(hdGet (i4 tx) (ch c)).getD ""
def iK(tx:Tx)(cut:Str):Str:=Txt.join "" (cut.cps.toList.map (gA tx))
def gX(tx:Tx)(cut:Str):List Str:=iK tx cut::tx.map fun a=>gA tx a.1
def gH(st:List (Str×Str))(c:Nat):List (Str×Str):=st++[(("" : Str),ch c)]++st
def aY(n:Nat):List (Str×Str):=(("abc" : Str).cps.toList.take n).foldl gH []
def cN(n:Nat):Str:=nP (aY n)
def rO(tx:Tx)(c:Nat):Bool:=(hdGet (i4 tx) (ch c)).isSome&&eS mB (Txt.lower (ch c)).cps&&decide ((Txt.lower (ch c)).cps.size<1000)
def dO(tx:Tx)(cut:Str)(n:Nat):Bool :=
 wL (i4 tx)&&cut.cps.toList.all (rO tx)&&tx.all (fun a=>rO tx a.1&&(i6 tx a.1==some a.2))&&decide (n<=3)&&decide (tx.length<=100)&&decide (cut.cps.toList.length<=100) &&
 JoinOk "" (cut.cps.toList.map (gA tx))&&pJ (aY n)&&JoinOk "" ((aY n).map mK)&&decide (preSum (dE (aY n)) (aY n).length=2^n-1) &&
 (gX tx cut).all fun p=>oF (cN n) p&&decide ((aP (cN n) p).2.1=Txt.find (cN n) p)
end
end
section
def qU{α:Type}(st:Setting):Nat->Nat->Sem α->Nat×Sem α
 |0,tk,t=>(tk,t)
 |n+1,tk,t=>match t with
  | .rule _ k=>qU st n tk (k ())
  | .point _ k=>qU st n tk (k ())
  | .ask k=>qU st n tk (k st)
  | .fresh k=>qU st n (tk+1) (k tk)
  |t=>(tk,t)
def uD{α:Type}:Sem α->Option Code
 | .call c none _ _ _=>some c
 |_=>none
def callK{α:Type}:Sem α->Result->Sem α
 | .call _ _ _ _ k,r=>k r
 |t,_=>t
end
section
variable{α:Type}{M:Model}{Q:α->Shared->Prop}
theorem lU(n:Nat):∀{t:Sem α} {s:Shared},wpAny M A (qU ⟨M.prog,M.w.params⟩ n s.toks t).2 Q E {s with toks:=(qU ⟨M.prog,M.w.params⟩ n s.toks t).1}->wpAny M A t Q E s:=by
 induction n with
 |zero=>exact fun h=>h
 |succ n ih =>
  intro t s h
  cases t <;> first|exact h|exact nd_rule (ih h)|exact nd_point (ih h)|exact nd_ask (ih h)|exact nd_fresh (ih (s:={s with toks:=s.toks+1}) h)
theorem tH(n:Nat){t t':Sem α}{tk:Nat}(h:qU ⟨M.prog,M.w.params⟩ n s.toks t=(tk,t'))(h':wpAny M A t' Q E {s with toks:=tk}):wpAny M A t Q E s:=lU n (by rw[h];exact h')
theorem oV{t:Sem α}{c:Code}(hc:uD t=some c)(h:codeAny M A c (fun r s'=>wpAny M A (callK t r) Q E s') s):wpAny M A t Q E s:=by
 cases t <;> first|cases hc|skip
 rename_i c' h' g l k
 cases h' <;> cases hc
 unfold wpAny
 exact fun Γ p hΓ=>wpCode_mono (fun r s' z=>by unfold wpAny at z;exact z Γ p hΓ) (h _ p rfl (hΓ.enter c none p (by intro x;cases x)))
end
section
theorem m7{T:String}{name:Str}{id:String}{B:Builtin}{self:Value}{ai:List Value}{m:PySem.Made}{R:Result->Shared->Prop}{s:Shared}(slot:Slot T name id)(hT:s.TypeIs self T)
  (entry:entryFor table id=some B) (args:argsOk id ⟨self::ai,[]⟩) (g:Gives (B ⟨self::ai,[]⟩) m) (h:m.post (fun v s'=>R (.ok (.ret v)) s') s):codeAny (model aa w) A (.call (.builtin id) ⟨self::ai,[]⟩) R s :=
 Ba slot.plain entry (slot.check _ _ _ _ _ _ _ _ hT args (g aa w A R s h))
theorem r4(t u:Tok):Meets (Builtin.«str.__mod__» ⟨[.str "unknown delta choice (must be 1 or 2): %r" t,.str "3" u],[]⟩) (fun _ R s=>∀ t' k,s.toks<=k->R (.ok (.ret (.str "unknown delta choice (must be 1 or 2): '3'" t'))) {s with toks:=k}) :=
 Ge fun aa w A R s h=>by
  have key:∀ b:Bool,wpAny (model aa (w.withFollow "special-get-raises" b)) A.in1 (Builtin.«str.__mod__» ⟨[.str "unknown delta choice (must be 1 or 2): %r" t,.str "3" u],[]⟩) (fun fin s'=>∃ v,fin=.done (.ret v)/\R (.ok (.ret v)) s') (fun e s'=>R (.error e) s') s:=fun b=>by
   cases b
   all_goals
    refine lU 90 (oV (c:=.call (.builtin "str.__repr__") ⟨[.str "3" u],[]⟩) ⋯ ?_)
    refine m7 PySem.F.slot_str_repr (G6 _ _ _) PySem.F.entry_str_repr (PySem.F.args_str_repr_1 _) (gives_str_repr "3" u) ⟨by decide +kernel,tH (tk:=s.toks+1+1) 90 (t':=.pure (.done (.ret (.str "unknown delta choice (must be 1 or 2): '3'" (s.toks+1))))) ⋯ ?_⟩
    exact A1 ⟨_,rfl,h _ _ (E7 _ 2)⟩
  have:=key (w.params.followText "special-get-raises")
  rwa [World.withFollow_self]at this
theorem O2.fmt3:O2 aa w A H Z (binaryOp .Mod) (.str "unknown delta choice (must be 1 or 2): %r") (.str "3") (.str "unknown delta choice (must be 1 or 2): '3'"):=by
 intro s E v u G h1 h2
 obtain⟨t,rfl⟩:=Rp.strI h1
 obtain⟨t',rfl⟩:=Rp.strI h2
 exact binaryOp_meets (T := "str") (op:=.Mod) (G6 s _ t) (G6 s _ t') PySem.F.fills_str_mod PySem.F.slot_str_mod PySem.F.entry_str_mod (PySem.F.args_str_mod_2 _ _) (r4 t t') (fun t' k hk=>⟨(fun e=>nomatch e),.str _ _,Kp.toks _ _ _ hk⟩)
end
def eZ(h:Heap)(e:Addr)(cls:String)(a0 tb ctx:Value)(b:Bool):Prop:=∃ oe,h.get? e=some oe/\oe.cls=.type cls/\oe.data=.fields #[a0,tb,ctx,.none,.bool b,.none]
def oH(h:Heap)(T:Addr)(fl:Value):Prop:=∃ oT ts,h.get? T=some oT/\oT.data=.fields ts/\ts[3]? = some fl
def SK(X:ZP)(l:List Env)(h h':Heap):Prop:=∀ b o,¬X b->h.get? b=some o->∃ sl,h'.get? b=some {o with slots:=sl}/\(b∉l.filterMap (·.frame)->h'.get? b=some o)
theorem SK.of{X:ZP}{l:List Env}{h h':Heap}(k:∀ b o,¬X b->h.get? b=some o->h'.get? b=some o):SK X l h h':=fun b o z e=>⟨o.slots,k b o z e,fun _=>k b o z e⟩
theorem SK.trans{X:ZP}{l:List Env}{h h' h'':Heap}(x:SK X l h h')(y:SK X l h' h''):SK X l h h'':=fun b o z e=>by
 obtain⟨sl,e1,k1⟩:=x b o z e
 obtain⟨sl',e2,k2⟩:=y b _ z e1
 refine⟨sl',e2,fun n=>?_⟩
 obtain⟨_,_,k3⟩:=y b o z (k1 n)
 exact k3 n
theorem SK.weak{X Y:ZP}{l:List Env}{h h':Heap}(x:SK X l h h')(k:∀ a,X a->Y a):SK Y l h h':=fun b o z e=>x b o (fun q=>z (k b q)) e
theorem SK.frames{X:ZP}{l:List Env}{h h' base:Heap}(x:SK X l h h')(hX:∀ a o,X a->h.get? a=some o->∃ vs,o.data=.fields vs){l':List Env}(f:h.FunFrames base l'):h'.FunFrames base l' :=
 f.of_keeps fun b o e n=>by
  obtain⟨sl,e1,_⟩:=x b o (fun q=>by obtain⟨vs,d⟩:=hX b o q e;exact n vs d) e
  exact⟨_,e1,rfl⟩
theorem SK.ex{X:ZP}{l:List Env}{h h' base:Heap}{e:Addr}{cls:String}{a0 tb ctx:Value}{b:Bool}(x:SK X l h h')(n:¬X e)(he:eZ h e cls a0 tb ctx b):eZ h' e cls a0 tb ctx b:=by
 obtain⟨oe,e1,e2,e3⟩:=he
 obtain⟨sl,e4,_⟩:=x e oe n e1
 exact⟨_,e4,e2,e3⟩
section
variable{M:Model}{ae:List Env}{base:Heap}{L e T:Addr}{cls:String}{a0 ctx:Value}{b:Bool}{Q:Unit->Shared->Prop}
theorem nB{head:Value}{hadNext:Bool}{tb:Value}(hfr:A.frames=some (env::ae))(hl:s.heap.FunFrames base (env::ae))(hf:env.frame=some L)(he:eZ s.heap e cls a0 tb ctx b)
  (h:∀ h' T,SK (fun a=>a=e) (env::ae) s.heap h'->s.heap.get? T=none->T≠e->eZ h' e cls a0 (.ref T) ctx b->oH h' T (rawInt L)->Q () {s with heap:=h'}) :
  wpAny M A (do let a <-frameOf env;let pl <-entryPlaceOf L hadNext;let b <-EntryCells.newEntry head a .none (rawInt L) .none pl;setField (.ref e) 1 b) Q E s:=by
 obtain⟨oe,he,hc,hd⟩:=he
 refine A0 (wpAny_frameOf_fun hfr hl hf fun h_1 hs_1=>?_)
 refine A0 (wpAny_entryPlaceOf fun pl hpl=>?_)
 unfold EntryCells.newEntry newFields
 refine A0 (Aj ?_ (hpl.sizeOk5 _ _ _ _ _))
 have nm:e∉(env::ae).filterMap (·.frame):=fun hm=>by
  obtain⟨_,o,ho,hnf⟩:=hl.mem hm
  rw[he]at ho;injection ho with ho;subst ho;exact hnf _ hd
 have he_1:h_1.get? e=some oe:=(hs_1.2.1 e nm).trans he
 have he_2:=A2 (h:=h_1) {cls:=.type "traceback",dict:=none,data:=.fields ([head,.ref L,.none,rawInt L,.none]++(if pl.isEmpty then List.replicate 6 Value.none else pl)).toArray} he_1
 have hTe:h_1.objs.size≠e:=G8 (Ac he_1)
 have hd3:=Cv hd (·.setIfInBounds 1 (Value.ref h_1.objs.size))
 refine Cg he_2 hd (show 1<6 by decide) (h _ h_1.objs.size (fun b o n q=>?_) ?_ hTe ?_ ?_)
 ·obtain⟨sl,k⟩:=hs_1.2.2 b o q
  have up:∀ o',h_1.get? b=some o'->((h_1.push {cls:=.type "traceback",dict:=none,data:=.fields ([head,.ref L,.none,rawInt L,.none]++(if pl.isEmpty then List.replicate 6 Value.none else pl)).toArray}).update e (Obj.mapFields (·.setIfInBounds 1 (.ref h_1.objs.size)))).get? b=some o':=fun o' x=>by
   rw[Heap.get?_update_other _ _ (Ne.symm n)];exact A2 _ x
  exact⟨sl,up _ k,fun m=>up _ ((hs_1.2.1 b m).trans q)⟩
 ·exact aE _ (by rw[hs_1.1];exact A4 _)
 ·refine⟨_,Af _ he_2 (Cy hd3),(Fi _ _).trans hc,hd3⟩
 ·exact⟨_,_,(Am _ _ (Ci hTe)).trans (A3 h_1 rfl),rfl,by rcases hpl with rfl|⟨_,_,_,_,_,_,_,rfl⟩ <;> rfl⟩
theorem l9(hfr:A.frames=some (env::ae))(hl:s.heap.FunFrames base (env::ae))(hf:env.frame=some L)(he:eZ s.heap e cls a0 .none ctx b)
  (h:∀ h' T,SK (fun a=>a=e) (env::ae) s.heap h'->s.heap.get? T=none->T≠e->eZ h' e cls a0 (.ref T) ctx b->oH h' T (rawInt L)->Q () {s with heap:=h'}):wpAny M A (noteFrame (.ref e) env) Q E s:=by
 unfold noteFrame
 simp only[hf]
 obtain⟨oe,e1,e2,e3⟩:=id he
 refine A0 (An e1 e3 (x:=.none) rfl ?_)
 rw[if_neg ‹d›]
 exact nB hfr hl hf he h
theorem j0{fl:Value}(f:Option Addr)(he:eZ s.heap e cls a0 (.ref T) ctx b)(ht:oH s.heap T fl)(hTe:T≠e)
  (h:∀ h',SK (fun a=>a=T) (env::ae) s.heap h'->oH h' T (f.elim .none fun f=>rawInt f)->Q () {s with heap:=h'}):wpAny M A (setFlight (.ref e) f) Q E s:=by
 obtain⟨oe,e1,e2,e3⟩:=he
 obtain⟨oT,ts,t1,t2,t3⟩:=ht
 have hsz:=(Ey.mp t3).1
 unfold setFlight
 refine A0 (An e1 e3 (x:=.ref T) rfl ?_)
 rw[if_pos (show(Value.ref T != Value.none)=true from by simp)]
 refine Cg t1 t2 hsz (h _ (SK.of fun b o n q=>(Am _ _ (Ci n)).trans q) ⟨_,_,Af _ t1 (Cy (Cv t2 _)),Cv t2 _,by simp[hsz]⟩)
theorem xQ(hfr:A.frames=some (env::ae))(hl:s.heap.FunFrames base (env::ae))(hf:env.frame=some L)(he:eZ s.heap e cls a0 (.ref T) ctx b)(ht:oH s.heap T .none)(hTe:T≠e)
  (h:∀ h' T',SK (fun a=>a=e\/a=T) (env::ae) s.heap h'->s.heap.get? T'=none->T'≠e->eZ h' e cls a0 (.ref T') ctx b->oH h' T' (rawInt L)->Q () {s with heap:=h'}):wpAny M A (noteFrame (.ref e) env) Q E s:=by
 obtain⟨oe,e1,e2,e3⟩:=id he
 obtain⟨oT,ts,t1,t2,t3⟩:=id ht
 unfold noteFrame
 simp only[hf]
 refine A0 (An e1 e3 (x:=.ref T) rfl ?_)
 rw[if_pos (show(Value.ref T != Value.none)=true from by simp)]
 refine A0 (An t1 t2 t3 ?_)
 rw[if_neg (show ¬((Value.none==rawInt L)=true)from by simp[rawInt])]
 refine A0 (Cg t1 t2 (Ey.mp t3).1 ?_)
 have k:SK (fun a=>a=e\/a=T) (env::ae) s.heap (s.heap.update T (Obj.mapFields (·.setIfInBounds 3 .none))):=SK.of fun b o n q=>(Am _ _ fun q=>n (.inr q.symm)).trans q
 have kf:∀ a o,(a=e\/a=T)->s.heap.get? a=some o->∃ vs,o.data=.fields vs:=fun a o q x=>by
  rcases q with rfl|rfl
  ·rw[e1]at x;cases x;exact⟨_,e3⟩
  ·rw[t1]at x;cases x;exact⟨_,t2⟩
 refine nB hfr (k.frames kf hl) hf ⟨oe,(Am _ _ hTe).trans e1,e2,e3⟩ fun h' T' k' hn bn hx hT=>h h' T' (k.trans (k'.weak fun _ q=>.inl q)) ?_ bn hx hT
 cases q:s.heap.get? T' with
 |none=>rfl
 |some o =>
  by_cases z:T'=T
  ·subst z;rw[Heap.get?_update_self _ t1 (Obj.isFreed_of_fields (Obj.data_mapFields t2 _))]at hn;cases hn
  ·rw[(Heap.get?_update_other _ _ (Ne.symm z)).trans q]at hn;cases hn
theorem rB(hf:env.frame=some L)(he:eZ s.heap e cls a0 (.ref T) ctx b)(ht:oH s.heap T (rawInt L))(h:Q () s):wpAny M A (noteFrame (.ref e) env) Q E s:=by
 obtain⟨oe,e1,e2,e3⟩:=he
 obtain⟨oT,ts,t1,t2,t3⟩:=ht
 exact wpAny_noteFrame_inFlight hf e1 e3 rfl t1 t2 t3 h
end
theorem m6:entryFor table "proto.unchain" = some Builtin.«proto.unchain»:=E8 ⋯
section
theorem r9{cls c1:String}(F:ExcRaiseFacts cls){x:Expr}{k:Nat}{cp pos:Pos}{e1:Addr}{Q:Flow->Shared->Prop}(hh:A.handled=some (.ref e1))
  (h:wpAny (model aa w) A (eval x env) (fun v s_1=>∃ e t,v=.ref e/\s_1.heap.get? e=some {cls:=.type cls,data:=.fields #[.ref t,.none,.none,.none,.bool false,.none]}/\e≠e1/\(∃ a0 tb b,eZ s_1.heap e1 c1 a0 tb .none b) /\
   ∀ h',(∀ b,b≠e->h'.get? b=s_1.heap.get? b)->eZ h' e cls (.ref t) .none (.ref e1) true->E (.ref e) {s_1 with heap:=h'}) E s) :
  wpAny (model aa w) A (exec (.Raise (some x) (some (.Constant .none k cp)) pos) env) Q E s:=by
 rw[arm_exec_Raise]
 show wpAny (model aa w) A (do standAt pos;raiseStmt env (some (do let v <-eval x env;standAt pos;pure v)) (some (do let c <-eval (.Constant .none k cp) env;standAt pos;pure c))) Q E s
 refine A0 (Ag ?_)
 unfold raiseStmt
 refine A0 (A0 (wpM h (fun v s_1 h_1=>A0 (Ag (A1 ?_)))))
 obtain⟨e,t,rfl,he,bn,⟨a0,tb,b,o1,g1,g2,g3⟩,hE⟩:=h_1
 refine A0 (A5 (A0 (wpAny_Constant_none (A0 (Ag (A1 (A0 (A1 ?_))))))))
 dsimp only
 obtain⟨hp,g,d,tk,os⟩:=s_1
 have hsub:=F.isExc
 have hmeta:=F.plainMeta
 repeat (first|refine Cq he ?_|wp_step)
 have he1:=Af (Obj.mapFields fun x=>x.setIfInBounds 3 Value.none) he rfl
 have he2:=Af (Obj.mapFields fun x=>x.setIfInBounds 4 (Value.bool true)) he1 rfl
 generalize hH:(hp.update e (Obj.mapFields fun x=>x.setIfInBounds 3 Value.none)).update e (Obj.mapFields fun x=>x.setIfInBounds 4 (Value.bool true))=H2 at he2 ⊢
 have ot:∀ b,b≠e->H2.get? b=hp.get? b:=fun b n=>by rw[<-hH,Heap.get?_update_other _ _ (Ne.symm n),Heap.get?_update_other _ _ (Ne.symm n)]
 unfold raiseNew
 refine A0 (Fl ?_)
 rw[hh]
 dsimp only
 rw[if_pos (show(Value.ref e1 != Value.ref e)=true from by simp[Ne.symm bn])]
 refine A0 (A5 ?_)
 refine Gd (Bv m6 ?_)
 show wpAny _ _ (field (.ref e1) 2 >>= _) _ _ _
 refine A0 (An (s:=⟨H2,g,d,tk,os⟩) ((ot e1 (Ci bn)).trans g1) g3 (x:=.none) rfl ?_)
 rw[if_pos (show(Value.none==Value.none)=true from rfl)]
 refine A0 (A1 (A1 ?_))
 refine A0 (m:=setField (.ref e) 2 (.ref e1)) (Cg (s:=⟨H2,g,d,tk,os⟩) he2 rfl (show 2<6 by decide) (Ed (hE _ (fun b n=>(Am _ _ (Ci n)).trans (ot b n)) ⟨_,Af _ he2 rfl,rfl,rfl⟩)))
theorem tM{k1 k2 k:Int}{v1 v2:Str}{n1 n2 n3 n4:Nat}{p1 p2 p3 p4 bh pos:Pos}{az:Expr}{s:Shared}{Q:ZV}{E:ZV}(hA:A.handled=none)(hsm:∃ o,H.H.get? sysModules=some o)(hn:k1≠k2)(hi:EX aa w A H Z env ρ az (.int k))(h1:k≠k1)(h2:k≠k2)
  (hs:∀ a u,subscripted az false (.ref a) (.int k u)=operate [.ref a,.int k u] (getItem (.ref a) (.int k u))) (F:FI H Z env ρ s)
  (hE:∀ s' a a0,Kp N0 s s'->s.heap.get? a=none->eZ s'.heap a "KeyError" a0 .none .none false->E (.ref a) s') :
  wpAny (model aa w) A (eval (.Subscript (.Dict [some (.Constant (.int k1) n1 p1),some (.Constant (.int k2) n2 p2)] [.Constant (.str v1) n3 p3,.Constant (.str v2) n4 p4] bh) az pos) env) Q E s:=by
 refine Ao (A4 s.toks) ?_
 refine Et ?_
 refine wpAny_Dict_walk (knd:=intKind aa w) rfl rfl (List.cons_ne_nil _ _) (by show 2<=15;decide) ?_
 refine De ?_
 refine Ce ?_
 refine Av ?_
 refine De ?_
 refine Ce ?_
 refine Av ?_
 refine pairTrees_nil_walk ?_
 refine⟨[(k1,Value.str v1 (s.toks+1)),(k2,Value.str v2 (s.toks+1+1+1))],⟨by simp[intKind,Value.isInt],rfl,by simp[intKind,Value.isInt],rfl,trivial⟩,Eh s.heap,fun h' hd hsb=>?_⟩
 have hn0:s.heap.get? s.heap.objs.size=none:=aE _ (A4 _)
 have k0:Kp N0 s {s with heap:=h',toks:=s.toks+1+1+1+1+2}:=Kp.mk (tk:=s.toks+1+1+1+1+2) fun b o _ e=>hsb.extBut b o (Au (Ac e)) (A2 _ e)
 refine wpM (hi.run _ _ (F.kp0 k0)) (fun u s_2 h_2=>?_)
 obtain⟨hu,k_2⟩:=h_2
 obtain⟨t,rfl⟩:=Rp.intI hu
 have M:=fN hd.mapOf (h':=s_2.heap) fun b o e=>k_2.get (fun q=>q) e
 refine fM M.typeIs slot_dict_getitem.lookup (wpAny_getItem_missing_of (knd:=intKind aa w) (k:=k) (by simp[intKind,Value.isInt]) ?_ hA M ?_ fun h3 e hx htk=>?_) (hs _ t)
 ·obtain⟨o,e⟩:=hsm
  refine Aw.mpr fun q=>?_
  have:=F.top _ _ e
  rw[<-q,hn0]at this;cases this
 ·rw[merged_nil_of_nodup _ (by simp[hn])]
  simp[valueAt,Ne.symm h1,Ne.symm h2]
 ·obtain⟨ob,tt,he,hcls,hd⟩:=hx.there
  have k02:=k0.trans k_2
  exact hE _ e tt (k02.trans (Kp.mk (tk:=s_2.toks+1) fun b o _ q=>hx.keeps b o q)) (k02.none (fun q=>q) hx.new) ⟨ob,he,hcls,hd⟩
end
def hdlOf:List Stmt->List ExceptHandler|[_,.Try _ hs _ _ _,_,_]=>hs|_=>[]
def nQ:Str := "unknown delta choice (must be 1 or 2): '3'"
theorem SK.join{X:ZP}{l:List Env}{h h' h'':Heap}(x:SK N0 l h h')(y:SK X l h' h'')(n:∀ a,X a->h.get? a=none):SK N0 l h h'':=fun b o z e=>by
 obtain⟨sl,e1,k1⟩:=x b o z e
 have nb:¬X b:=fun q=>by rw[n b q]at e;cases e
 obtain⟨sl',e2,k2⟩:=y b _ nb e1
 refine⟨sl',e2,fun m=>?_⟩
 obtain⟨_,_,k3⟩:=y b o nb (k1 m)
 exact k3 m
theorem SK.none{l:List Env}{h h':Heap}(x:SK N0 l h h'){a:Addr}(e:h'.get? a=none):h.get? a=none:=by
 cases q:h.get? a with
 |none=>rfl
 |some o=>obtain⟨sl,e1,_⟩:=x a o (fun z=>z) q;rw[e]at e1;cases e1
structure yX(h h':Heap)(l:List Env)(a:Addr):Prop where
 sk:SK N0 l h h'
 new:h.get? a=none
 is:∃ T t ctx tm,eZ h' a "ValueError" (.ref t) (.ref T) ctx true/\oH h' T .none/\T≠a/\h.get? T=none/\h.get? t=none/\t≠a/\t≠T/\h'.get? t=some {cls:=.type "tuple",data:=.seq #[.str nQ tm]}
section
variable{T:Heap}{ae:List Env}{base:Heap}
theorem kJ{x:Str}{v:Value}{pos:Pos}{u:Shared}{Q:ZV}{E:ZV}(hB:Bi T x v)(S:FS T Z env)(top:∀ b o,T.get? b=some o->u.heap.get? b=some o)(kl:env.kindOf x=some .globalImplicit)(hd:(x==("__debug__" : Str))=false)(hQ:Q v u):wpAny (model aa w) A (eval (.Name x pos) env) Q E u:=by
 obtain⟨m1,mb,g1,g2,g3,g4⟩:=hB
 exact Be S.fn kl (Cp (by rw[S.gl];exact g1.keeps top) g2 (by rw[S.bl];exact g3.keeps top) g4 hQ) hd
theorem v8{x:Str}{k:Nat}{p pos:Pos}{s:Shared}{Q:Flow->Shared->Prop}{E:ZV}(hi:interactive env=false)(h:Q .next {s with toks:=s.toks+1}):wpAny (model aa w) A (exec (.Expr (.Constant (.str x) k p) pos) env) Q E s:=wpAny_Expr (hi:=hi) (Av h)
def zR:List ExceptHandler:=by
 run_tac do
  let g <-Lean.Elab.Tactic.getMainGoal
  let e <-Lean.ofExceptKernelException (Lean.Kernel.whnf (<-Lean.getEnv) (<-Lean.getLCtx) (Lean.mkApp (Lean.mkConst ``hdlOf) (Lean.mkConst ``restoreB)))
  g.assign e
structure Hot(h h':Heap)(l:List Env)(L a a1:Addr):Prop where
 sk:SK (fun b=>b=a1) l h h'
 new:h.get? a=none
 is:∃ T t ctx tm,eZ h' a "ValueError" (.ref t) (.ref T) ctx true/\oH h' T (rawInt L)/\T≠a/\h.get? T=none/\h.get? t=none/\t≠a/\t≠T/\h'.get? t=some {cls:=.type "tuple",data:=.seq #[.str nQ tm]}
theorem q5{s:Shared}{Q:Flow->Shared->Prop}{E:ZV}{a:Addr}{a0:Value}(S:FS T Z env)(eo:EO env restoreS.names)(hA:A.handled=none)(hfr:A.frames=some (env::ae))(hf:env.frame=some env.locals)
  (hff:s.heap.FunFrames base (env::ae)) (hT:∀ b o,T.get? b=some o->b∉(env::ae).filterMap (·.frame)) (top:∀ b o,T.get? b=some o->s.heap.get? b=some o) (hk:Bi T "KeyError" (.type "KeyError")) (hv:Bi T "ValueError" (.type "ValueError"))
  (hw:∃ m t,s.heap.Ns env.locals m/\m "which" = some (.str "3" t)) (hx:eZ s.heap a "KeyError" a0 .none .none false) (hTa:T.get? a=none) (hE:∀ h' tk g e,GnK s.gens g->s.toks<=tk->e≠a->Hot s.heap h' (env::ae) env.locals e a->E (.ref e) {s with heap:=h',toks:=tk,gens:=g}) :
  wpAny (model aa w) A (noteFrame (.ref a) env) (fun _ s_2=>wpAny (model aa w) A (setFlight (.ref a) none) (fun _ s₃=>wpAny (model aa w) A (handleBy (.ref a) env zR) Q E s₃) E s_2) E s:=by
 refine l9 hfr hff hf hx fun h1 T1 sk1 nT1 hT1a hx1 ht1=>?_
 refine j0 (env:=env) (ae:=ae) none hx1 ht1 hT1a fun h2 sk2 ht2=>?_
 have sk02:SK (fun b=>b=a) (env::ae) s.heap h2:=fun b o z e=>by
  obtain⟨sl,e1,k1⟩:=sk1 b o z e
  have nb:¬(b=T1):=fun q=>by rw[q,nT1]at e;cases e
  obtain⟨sl',e2,k2⟩:=sk2 b _ nb e1
  exact⟨sl',e2,fun m=>by obtain⟨_,_,k3⟩:=sk2 b o nb (k1 m);exact k3 m⟩
 have hx2:eZ h2 a "KeyError" a0 (.ref T1) .none false:=sk2.ex (base:=base) (fun q=>hT1a q.symm) hx1
 have nfa:∀ b o,T.get? b=some o->¬(b=a):=fun b o e q=>by rw[q,hTa]at e;cases e
 have top2:∀ b o,T.get? b=some o->h2.get? b=some o:=fun b o e=>by
  obtain⟨_,_,k⟩:=sk02 b o (nfa b o e) (top b o e)
  exact k (hT b o e)
 refine wpAny_handleBy_builtin (X := "KeyError") (T := "KeyError") (b:=true) (C7 ‹k›) (C7 ‹k›) (C7 ‹k›) ?_
 refine kJ hk S top2 (by rw[eo.kind];kernel_rfl) rfl ⟨rfl,(by obtain⟨oe,e1,e2,e3⟩:=hx2;exact⟨oe,e1,e2⟩),?_⟩
 rw[if_pos rfl]
 refine j0 (s:={s with heap:=h2}) (env:=env) (ae:=ae) none hx2 ht2 hT1a fun h3 sk3 ht3=>?_
 have sk03:SK (fun b=>b=a) (env::ae) s.heap h3:=fun b o z e=>by
  obtain⟨sl,e1,k1⟩:=sk02 b o z e
  have nb:¬(b=T1):=fun q=>by rw[q,nT1]at e;cases e
  obtain⟨sl',e2,k2⟩:=sk3 b _ nb e1
  exact⟨sl',e2,fun m=>by obtain⟨_,_,k3⟩:=sk3 b o nb (k1 m);exact k3 m⟩
 have hx3:eZ h3 a "KeyError" a0 (.ref T1) .none false:=sk3.ex (base:=base) (fun q=>hT1a q.symm) hx2
 have top3:∀ b o,T.get? b=some o->h3.get? b=some o:=fun b o e=>by
  obtain⟨_,_,k⟩:=sk03 b o (nfa b o e) (top b o e)
  exact k (hT b o e)
 have hw3:∃ m t,h3.Ns env.locals m/\m "which" = some (.str "3" t):=by
  obtain⟨m,t,⟨o,es,ep,e1,e2,e3⟩,e4⟩:=hw
  obtain⟨sl,e5,_⟩:=sk03 env.locals o (fun q=>by obtain⟨oe,x1,x2,x3⟩:=hx;rw[q,x1]at e1;cases e1;rw[x3]at e2;cases e2) e1
  exact⟨m,t,⟨_,es,ep,e5,e2,e3⟩,e4⟩
 have hff3:h3.FunFrames base (env::ae):=sk03.frames (fun b o q e=>by obtain⟨oe,x1,x2,x3⟩:=hx;rw[q,x1]at e;cases e;exact⟨_,x3⟩) hff
 generalize hs3:({s with heap:=h3}:Shared)=s3
 have hs3h:s3.heap=h3:=by rw[<-hs3]
 obtain⟨m,t,hNs,hm⟩:=hw3
 refine Aq ?_
 refine r9 (c1 := "KeyError") (e1:=a) PySem.F.excRaise_ValueError rfl ?_
 refine wpAny_Call_ofName ?_
 refine kJ hv S (by rw[hs3h];exact top3) (by rw[eo.kind];kernel_rfl) rfl ?_
 refine callWith_excType rfl ?_
 refine Calls.evalArgs_plain (Calls.spliced_cons ?_)
 refine wpAny_BinOp ?_
 refine Av ?_
 have hm3:{s3 with toks:=s3.toks+1}.heap.Ns env.locals m:=by show s3.heap.Ns _ _;rw[hs3h];exact hNs
 refine Cz (B5 S.fn (by rw[eo.kind];kernel_rfl) hm3 hm ?_) rfl
 refine wpM (O2.fmt3 (H:=⟨{},N0,[],0⟩) (Z:=N0) {s3 with toks:=s3.toks+1} _ _ _ ⟨⟨fun b o e=>?_,fun a q=>q.elim⟩,Ap _,fun a q=>q.elim,fun a m e=>nomatch e⟩ (.str _ _) (.str _ _)) (fun y s4 h4=>?_)
 ·exact absurd (Ac e) (Dm _)
 obtain⟨hy,k4⟩:=h4
 obtain⟨tm,rfl⟩:=Rp.strI hy
 refine Calls.spliced_nil ?_
 have k34:=k4
 obtain⟨h4,t4,g4,e4,kk4,gn4,tk4⟩:=k4
 subst e4
 refine wpAny_call_exc PySem.F.excCall_ValueError fun h5 e hmade=>?_
 obtain⟨tt,he,htn,htt⟩:=hmade.there
 have k45:=hmade.keeps
 have keep5:∀ b o,h3.get? b=some o->h5.get? b=some o:=fun b o q=>k45 b o (kk4 b o (fun z=>z) (by show s3.heap.get? b=_;rw[hs3h];exact q))
 have nea:e≠a:=fun q=>by
  obtain⟨oe,e1,_⟩:=hx3
  have:=kk4 a oe (fun z=>z) (by show s3.heap.get? a=_;rw[hs3h];exact e1)
  rw[<-q,hmade.new]at this;cases this
 have hx5:eZ h5 a "KeyError" a0 (.ref T1) .none false:=by obtain⟨oe,e1,e2,e3⟩:=hx3;exact⟨oe,keep5 _ _ e1,e2,e3⟩
 refine⟨e,tt,rfl,he,nea,⟨_,_,_,hx5⟩,fun h6 k6 hx6=>?_⟩
 have top5:h3.get? e=none:=by
  cases q:h3.get? e with
  |none=>rfl
  |some o =>
   have:=kk4 e o (fun z=>z) (by show s3.heap.get? e=_;rw[hs3h];exact q)
   rw[hmade.new]at this;cases this
 have keep6:∀ b o,h3.get? b=some o->h6.get? b=some o:=fun b o q=>(k6 b fun z=>by rw[z,top5]at q;cases q).trans (keep5 b o q)
 have sk06:SK (fun b=>b=a) (env::ae) s.heap h6:=sk03.trans (SK.of fun b o _ q=>keep6 b o q)
 have hff6:h6.FunFrames base (env::ae):=(SK.of (X:=N0) (l:=env::ae) fun b o _ q=>keep6 b o q).frames (fun b o q=>q.elim) hff3
 have hs0:s3.toks=s.toks/\s3.gens=s.gens/\s3.drawn=s.drawn/\s3.os=s.os:=by rw[<-hs3];exact⟨rfl,rfl,rfl,rfl⟩
 refine l9 (s:=⟨h6,g4,s3.drawn,t4,s3.os⟩) (ae:=ae) (base:=base) hfr hff6 hf hx6 fun h7 T7 sk7 nT7 hT7e hx7 ht7=>?_
 obtain⟨oe7,w1,w2,w3⟩:=id hx7
 refine A0 (An (s:=⟨h7,g4,s3.drawn,t4,s3.os⟩) w1 w3 (x:=.ref T7) rfl ?_)
 rw[if_neg ‹s›]
 refine j0 (s:=⟨h7,g4,s3.drawn,t4,s3.os⟩) (env:=env) (ae:=ae) env.frame hx7 ht7 hT7e fun h8 sk8 ht8=>?_
 obtain⟨q1,q2,q3,q4⟩:=hs0
 have hlast:=hE h8 t4 g4 e (by rw[<-q2];exact gn4) (by rw[<-q1];exact A7 (Ad _) tk4) nea ?_
 ·rw[<-q3,<-q4]at hlast;exact hlast
 have none3:∀ b,h3.get? b=none->s.heap.get? b=none:=fun b q=>by
  cases r:s.heap.get? b with
  |none=>rfl
  |some o =>
   by_cases z:b=a
   ·obtain⟨oe,e1,_⟩:=hx3;rw[<-z,q]at e1;cases e1
   ·obtain⟨sl,e1,_⟩:=sk03 b o z r;rw[q]at e1;cases e1
 have sk38:SK (fun b=>b=a) (env::ae) s.heap h8:=fun b o z r=>by
  obtain⟨sl,e1,c1⟩:=sk06 b o z r
  have nb:¬b=e:=fun q=>by rw[q,none3 e top5]at r;cases r
  have nb7:¬b=T7:=fun q=>by rw[q,nT7]at e1;cases e1
  obtain⟨sl',e2,c2⟩:=sk7 b _ nb e1
  obtain⟨sl'',e3,c3⟩:=sk8 b _ nb7 e2
  refine⟨sl'',e3,fun m=>?_⟩
  obtain⟨_,_,d3⟩:=sk7 b o nb (c1 m)
  obtain⟨_,_,d4⟩:=sk8 b o nb7 (d3 m)
  exact d4 m
 have tt3:h3.get? tt=none:=by
  cases q:h3.get? tt with
  |none=>rfl
  |some o =>
   have:=kk4 tt o (fun z=>z) (by show s3.heap.get? tt=_;rw[hs3h];exact q)
   rw[htn]at this;cases this
 have tte:tt≠e:=fun q=>by rw[q,he]at htt;have:=Az (Option.map (·.cls)) htt;simp at this
 have ttT:tt≠T7:=fun q=>by rw[<-q,(k6 tt tte).trans htt]at nT7;cases nT7
 refine⟨sk38,none3 e top5,T7,tt,_,tm,sk8.ex (base:=base) (fun q=>hT7e q.symm) hx7,?_,hT7e,none3 T7 ?_,none3 tt tt3,tte,ttT,?_⟩
 ·have:=ht8;rw[hf]at this;exact this
 ·cases q:h3.get? T7 with
  |none=>rfl
  |some o=>rw[keep6 _ _ q]at nT7;cases nT7
 ·have m0:tt∉(env::ae).filterMap (·.frame):=fun m=>by
   obtain⟨_,o,ho,_⟩:=hff3.mem m
   rw[tt3]at ho;cases ho
  obtain⟨_,_,c7⟩:=sk7 tt _ tte ((k6 tt tte).trans htt)
  obtain⟨_,_,c8⟩:=sk8 tt _ ttT (c7 m0)
  exact c8 m0
theorem mA{s:Shared}{E:ZV}{l:List PV}(F:FI ⟨T,N0,[],0⟩ Z env [("delta",.lst l),("which",.str "3")] s)(S:FS T Z env)(eo:EO env restoreS.names)(hA:A.handled=none)(hfr:A.frames=some (env::ae))(hf:env.frame=some env.locals)
  (hff:s.heap.FunFrames base (env::ae)) (hT:∀ b o,T.get? b=some o->b∉(env::ae).filterMap (·.frame)) (sm:∃ o,T.get? sysModules=some o) (hi:Bi T "int" (.type "int")) (hk:Bi T "KeyError" (.type "KeyError")) (hv:Bi T "ValueError" (.type "ValueError"))
  (hE:∀ h' tk g a,GnK s.gens g->s.toks<=tk->yX s.heap h' (env::ae) a->E (.ref a) {s with heap:=h',toks:=tk,gens:=g}) {Q:Flow->Shared->Prop} :
  wpAny (model aa w) A (execs restoreB env) Q (fun e s'=>wpAny (model aa w) A (leaving env e) (fun _ s''=>E e s'') (fun _ _=>False) s') s:=by
 unfold restoreB
 refine Ao (A4 s.toks) ?_
 refine Aq ?_
 have hi0:interactive env=false:=by unfold interactive;rw[S.fn];rfl
 refine v8 hi0 ?_
 have k0:Kp N0 s {s with toks:=s.toks+1}:=Kp.toks N0 s (s.toks+1)
 have F0:=F.kp0 k0
 generalize({s with toks:=s.toks+1}:Shared)=s0 at k0 F0 ⊢
 refine Aq ?_
 refine Fu ?_
 refine Aq ?_
 refine By ?_
 refine tM (H:=⟨T,N0,[],0⟩) (Z:=Z) (ρ:=[("delta",.lst l),("which",.str "3")]) (k:=3) hA sm ?_ ?_ ?_ ?_ ?_ F0 ?_
 ·decide
 ·exact EX.callT (NM.b S eo hi ⋯ ⋯) (LX.cons (p:=.str "3") ‹nm› LX.nil rfl) (CB.intF ⋯) rfl rfl rfl
 ·decide
 ·decide
 ·exact fun _ _=>rfl
 intro s1 a a0 k1 hn hx
 have k01:=k0.trans k1
 have F1:=F.kp0 k01
 have top1:∀ b o,T.get? b=some o->s1.heap.get? b=some o:=F1.toGS.top
 have aT:T.get? a=none:=by
  cases q:T.get? a with
  |none=>rfl
  |some o=>have:=F0.toGS.top _ _ q;rw[hn]at this;cases this
 have hff1:s1.heap.FunFrames base (env::ae):=(SK.of (X:=N0) (l:=env::ae) fun b o _ q=>k01.get (fun z=>z) q).frames (fun b o q=>q.elim) hff
 have hw1:∃ m t,s1.heap.Ns env.locals m/\m "which" = some (.str "3" t):=by
  obtain⟨m,hm,hr⟩:=F1.ns
  obtain⟨v,e1,e2⟩:=hr "which" (.str "3") ⋯ (by rw[eo.kind];kernel_rfl)
  cases e2 with
  |str _ t=>exact⟨m,t,hm,e1⟩
 refine q5 S eo hA hfr hf hff1 hT top1 hk hv hw1 hx aT fun h' tk g e hg ht bn hot=>?_
 obtain⟨sk,new,T9,t,ctx,tm,x9,tb9,n1,n2,n3,n4,n5,n6⟩:=hot
 obtain⟨h1,t1,g1,e1,kk,gn,tk1⟩:=k01
 subst e1
 have up:∀ b,h1.get? b=none->s.heap.get? b=none:=fun b q=>by
  cases r:s.heap.get? b with
  |none=>rfl
  |some o=>have:=kk b o (fun z=>z) r;rw[q]at this;cases this
 have hff9:h'.FunFrames base (env::ae):=sk.frames (fun b o q r=>by obtain⟨oe,x1,x2,x3⟩:=hx;rw[q]at r;have:=x1.symm.trans r;cases this;exact⟨_,x3⟩) hff1
 unfold leaving
 refine fun _=>A0 (rB (s:={s with heap:=h',toks:=tk,gens:=g}) hf x9 tb9 ?_)
 refine j0 (s:={s with heap:=h',toks:=tk,gens:=g}) (env:=env) (ae:=ae) none x9 tb9 n1 fun h2 sk2 ht2=>?_
 refine hE h2 tk g e (gn.trans hg) (A7 tk1 ht) ⟨fun b o _ q=>?_,up e new,T9,t,ctx,tm,sk2.ex (base:=base) (fun q=>n1 q.symm) x9,ht2,n1,up T9 n2,up t n3,n4,n5,?_⟩
 ·have q1:h1.get? b=some o:=kk b o (fun z=>z) q
  have na:¬b=a:=fun z=>by rw[z]at q;have:=k0.get (fun z=>z) q;rw[hn]at this;cases this
  obtain⟨sl,e2,c2⟩:=sk b o na q1
  have nb:¬b=T9:=fun z=>by rw[z,up T9 n2]at q;cases q
  obtain⟨sl',e3,c3⟩:=sk2 b _ nb e2
  refine⟨sl',e3,fun m=>?_⟩
  obtain⟨_,_,d3⟩:=sk2 b o nb (c2 m)
  exact d3 m
 ·have m0:t∉(env::ae).filterMap (·.frame):=fun m=>by
   obtain⟨_,o,ho,_⟩:=hff1.mem m
   have:=ho.symm.trans n3;cases this
  obtain⟨_,_,c3⟩:=sk2 t _ n5 n6
  exact c3 m0
end
structure Fresh(T:Heap)(B:List Stmt)(sc:List (Str×NameKind))(ρ:List (Str×PV))(s s1:Shared)(I:Addr)(genv:Env):Prop where
 kp:Kp N0 s s1
 gen:∃ g,s1.heap.IsGen I g/\s1.gens[g]? = some (.fresh (.func B genv))/\s.gens.size<=g
 fs:FS T (Fa genv) genv
 eo:EO genv sc
 fr:genv.frame=some genv.locals
 fi:FI ⟨T,N0,[],0⟩ (Fa genv) genv ρ s1
 new:s.heap.get? genv.locals=none
section
theorem vW{x:Str}{aj pos:Pos}{e:Expr}{ai:List Expr}{B:List Stmt}{Sc:Scope}{names:List Str}{a:Addr}{n:Nat}{ps:List PV}(S:FS H.H Z env)(eo:EO env sc)(R:Rm (n+1) A)(hlim:H.H.NoLimit)(F:oL H.H x B Sc names a)
  (hx:sc.lookup x=some .globalImplicit) (hd:(x==("__debug__" : Str))=false) (hS:Sc.names.all (fun x=>x.2 != .free)=true) (bo:ps.length=names.length)
  (hl:LX aa w A H Z env ρ pos (e::ai) ps) {s:Shared} {E:ZV} (FF:FI H Z env ρ s)
  (hs:starEach (e::ai) env=(false,eval e env)::starEach ai env)
  (he:eval (.Call (.Name x aj) (e::ai) [] pos) env=(do callWith pos (<-eval (.Name x aj) env) [] (backTo pos (starEach (e::ai) env)) (backToKw pos (keywordEach [] env)))) :
  wpAny (model aa w) A (eval (.Call (.Name x aj) (e::ai) [] pos) env) (fun v s1=>∃ I genv,v=.ref I/\Fresh H.H B Sc.names (names.zip ps) s s1 I genv) E s:=by
 obtain⟨fd,D,rfl⟩:=F.df
 refine Call_ (wpM ((NM.glob S (by rw[eo.kind];exact hx) F.gl hd) s E ρ aj FF) (fun u s' q=>?_)) he
 obtain⟨rfl,rfl⟩:=q
 obtain⟨o,ho,hdat⟩:=D.obj
 refine callWith_def hdat (wpM (hl.run s' E FF) (fun vs s_2 h_2=>⟨(FF.kp0 h_2.2).top _ _ ho,?_⟩)) hs
 obtain⟨P,k02⟩:=h_2
 have G:=(FF.kp0 k02).toGS
 have hvl:vs.length=names.length:=by rw[(a8 P).1,bo]
 have hm:(names.zip vs).map (·.1)=names:=by
  rw[List.map_fst_zip];omega
 have top:∀ b o,H.H.get? b=some o->s_2.heap.get? b=some o:=G.top
 refine Ao (A4 _) ?_
 refine B6 (codeAny_call_generator (by have:=R.dp;omega) (top _ _ ho) hdat D.co D.gen D.body (D.code.keeps top) ?_)
 rw[D.bind vs hvl,D.clo]
 refine A1 (Da D.kind (fun x hx=>D.kinds _ x.1 ?_) fun genv hge s₃ X=>?_)
 ·have:x.1∈(names.zip vs).map (·.1):=Bp hx
  rwa [hm]at this
 have hge':genv=callEnvC fd s_2.heap.objs.size a:=hge
 clear hge
 subst hge'
 generalize hL:s_2.heap.objs.size=L at *
 have keep3:∀ b o,s_2.heap.get? b=some o->s₃.heap.get? b=some o:=X.toInCall.keep
 refine⟨(hlim.keeps top).keeps keep3,?_⟩
 have hloc:(callEnvC fd L a).locals=L:=rfl
 have hcel:∀ x c,(callEnvC fd L a).cells.lookup x=some c->L<c:=fun x c e=>by
  rcases aF e with q|q
  ·simp at q
  ·exact q
 have hfa:∀ b,Fa (callEnvC fd L a) b->L<=b:=fun b q=>by
  rcases q with q|⟨y,q⟩
  ·rw[q,hloc];exact A4 _
  ·exact Dw (hcel y b q)
 have hnew:∀ b,Fa (callEnvC fd L a) b->s_2.heap.get? b=none:=fun b q=>aE _ (hL▸hfa b q)
 obtain⟨h_1,t_1,hs_1,_⟩:=X.done
 intro htk
 have kfin:Kp N0 s' {s₃ with gens:=s₃.gens.push (.fresh (.func B (callEnvC fd L a))),toks:=s₃.toks+1+1,heap:=s₃.heap.push {cls:=.type "generator",data:=.fields #[.int s₃.gens.size 0,.str fd.name s₃.toks,.str fd.qualname (s₃.toks+1)]}}:=by
  refine k02.trans ?_
  subst hs_1
  refine⟨_,_,_,rfl,fun b o _ e=>A2 _ (keep3 b o e),⟨fun i x e=>?_,fun i x e=>?_⟩,htk⟩
  ·rw[Array.getElem?_push,if_neg (Nat.ne_of_lt (eQ e))];exact e
  ·rw[Array.getElem?_push]at e
   split at e
   ·cases e;exact .inr rfl
   ·exact .inl e
 have keep5:∀ b o,s₃.heap.get? b=some o->(s₃.heap.push {cls:=.type "generator",data:=.fields #[.int s₃.gens.size 0,.str fd.name s₃.toks,.str fd.qualname (s₃.toks+1)]}).get? b=some o:=fun b o e=>A2 _ e
 have hfx:∀ b,Fa (callEnvC fd L a) b->∃ o,s₃.heap.get? b=some o:=fun b q=>by
  rcases q with q|⟨y,q⟩
  ·subst q;obtain⟨o,_,_,e,_⟩:=X.toInCall.ns;exact⟨o,e⟩
  ·obtain⟨o,e,_⟩:=X.cell y b q;exact⟨o,e⟩
 refine⟨_,_,rfl,kfin,⟨s₃.gens.size,⟨_,_,_,A3 _ rfl,rfl,rfl,rfl⟩,Fm ..,?_⟩,?_,EO.fn hS,rfl,?_,?_⟩
 ·have:=lX k02.gens;subst hs_1;exact this
 ·exact⟨fun b q=>G.none (hnew b q),D.kind,D.gl,D.bl,.inl rfl,bK (fun x y c h=>by simp at h) (fun x c h=>by simp at h)⟩
 ·have rp:∀{p:PV} {v:Value},Rp Z s_2.heap p v->Rp (Fa (callEnvC fd L a)) (s₃.heap.push {cls:=.type "generator",data:=.fields #[.int s₃.gens.size 0,.str fd.name s₃.toks,.str fd.qualname (s₃.toks+1)]}) p v:=fun x=>(x.sub fun b o e q=>by rw[hnew b q]at e;cases e).keep fun b o _ e=>keep5 b o (keep3 b o e)
  refine⟨⟨⟨fun b o e=>keep5 b o (keep3 b o (top b o e)),fun b q=>?_⟩,Ap _,fun a d=>d.elim,fun a m e=>by simp at e⟩,⟨_,X.toInCall.ns.keeps keep5,fun x p e l=>?_⟩,fun x p e l=>?_,fun x c e=>⟨.inr ⟨x,e⟩,_,(X.cell x c e).keeps keep5⟩,fun a d=>d.elim⟩
  ·obtain⟨o,e⟩:=hfx b q;exact⟨o,keep5 b o e⟩
  ·obtain⟨v,hv,rv⟩:=bQ P e
   exact⟨v,fA (by rw[hm];exact D.nd) hv l,rp rv⟩
  ·obtain⟨v,hv,rv⟩:=bQ P e
   have hx:x∈names:=by
    have:=Bp (f:=Prod.fst) hv
    rwa [hm]at this
   have l':fd.scope.names.lookup x≠some .local:=l
   rcases D.kinds L x hx with q|⟨q1,q2⟩
   ·exact absurd q l'
   ·obtain⟨c,hc⟩:=Ar.mp q2
    refine⟨.inl q1,c,v,hc,?_,rp rv⟩
    have:=(X.cell x c hc).keeps keep5
    rwa [eV (by rw[hm];exact D.nd) hv l]at this
 ·rw[hloc];exact k02.none (fun q=>q) (aE _ ‹o›)
theorem u7{I:Addr}{g:Nat}{B:List Stmt}{genv:Env}{cls:String}{Q:Option Value->Shared->Prop}(hl:s.heap.NoLimit)(hroom:A.depth<recursionLimit)(hg:s.heap.IsGen I g)(hgs:s.gens[g]? = some (.fresh (.func B genv)))
  (hc:isSubtype (.type cls) (.type "StopIteration")=pure false)
  (hb:wpAny (model aa w) (A.in1.over (.func B genv) []) (execs B genv) (fun _ _=>False) (fun e s'=>wpAny (model aa w) (A.in1.over (.func B genv) []) (leaving genv e) (fun _ s''=>∃ a,e=.ref a/\s''.TypeIs (.ref a) cls/\s''.heap.IsGen I g/\E e (s''.setGen g .finished)) (fun _ _=>False) s') (s.setGen g .running)) :
  wpAny (model aa w) A (pyNext (.ref I)) Q E s:=by
 unfold pyNext
 refine A0 (Bl (B0 (name:=Str.ofString "__next__") hg.typeIs Fk
  (B3 Fk hg.typeIs entry_gen_next ?_ (args_gen_next _))))
 show wpAny _ A.in1 (Builtin.Generator.genWake (.ref I) (.send .none)) _ _ s
 unfold Builtin.Generator.genWake
 refine A0 (A5 (wpAny_genNumber hg (A0 (wpAny_genState hgs ?_))))
 refine A0 (wpAny_roomToWake hl hroom ?_)
 show wpAny _ A.in1 (.resume g (.send .none) [] _) _ _ s
 refine wpAny_resumeQ (n:=0) (Y:=fun _ _ _ _ _=>False) (R:=fun n s_0 r s_1=>∃ e a,r=.error e/\e=.ref a/\s_1.TypeIs (.ref a) cls/\s_1.heap.IsGen I g/\E e (s_1.setGen g .finished)) hgs ⟨rfl,?_⟩ (fun x s_1 hx=>?_) (fun v s_1 gs' hb hv=>hv.elim)
 ·refine seg_func (seg_wrap (B1 hb (fun _ _ x=>x.elim) fun e s' h=>seg_wrap (B1 h (fun _ s'' h=>?_) fun _ _ x=>x.elim)))
  obtain⟨a,h1,h2,h3,h4⟩:=h
  exact seg_end (.error e) ⟨e,a,rfl,h1,h2,h3,h4⟩
 ·obtain⟨e,a,rfl,rfl,ht,hgI,hE⟩:=hx
  obtain⟨o,nm,qn,ho,hcl,hdt,_⟩:=hgI
  show wpAny _ A.in1 (Builtin.Generator.genLeft (.ref I) (.ref a)) _ _ _
  unfold Builtin.Generator.genLeft Builtin.Generator.madeByALambda
  refine A0 (A0 (A0 (Ct (s:=s_1.setGen g .finished) ho (A1 ?_))))
  refine A1 (A0 (Bo (s:=s_1.setGen g .finished) ht hc ?_))
  rw[Bool.and_false,if_neg ‹d›]
  show wpAny _ _ (Builtin.Generator.genEscaped (.ref a)) _ _ _
  unfold Builtin.Generator.genEscaped
  refine A0 (Bo (s:=s_1.setGen g .finished) ht hc ?_)
  rw[if_pos ‹d›]
  refine Ed ?_
  refine A0 (Bo (s:=s_1.setGen g .finished) ht hc ?_)
  rw[if_neg ‹d›]
  exact Ed hE
theorem qH{I:Addr}{Q:ZV}(hg:∃ g,s.heap.IsGen I g)
  (hN:∀(Q':Option Value->Shared->Prop) s_1,Kp N0 s s_1->wpAny (model aa w) A.in1.in1 (pyNext (.ref I)) Q' E s_1):wpAny (model aa w) A (call (.type "list") [.ref I]) Q E s:=by
 generalize hSs:s.heap.objs.size=S at *
 have hSI:S≠I:=fun e=>by
  obtain⟨g,o,_,_,h,_⟩:=hg
  exact absurd (Ac h) (by rw[hSs,e];exact At _)
 have hS0:s.heap.get? S=none:=aE _ ‹o›
 refine callType_codes (Q₁:=fun obj s_1=>obj=.ref S/\s_1={s with heap:=s.heap.push {cls:=.type "list",data:=.seq #[]}}) F.called_list (F.typeCall_list_1 _) F.entry_list_init
  (code_list_new _ ⟨by rw[hSs],rfl⟩) fun obj s_1 h_1=>?_
 obtain⟨rfl,rfl⟩:=h_1
 have hS:(s.heap.push {cls:=.type "list",data:=.seq #[]}).get? S=some {cls:=.type "list",data:=.seq #[]}:=hSs▸A3 _ rfl
 refine⟨⟨_,hS,rfl⟩,F.args_list_init_2 _ _,?_⟩
 show wpAny _ A.in1.in1 (do let old <-Builtin.List.listItems (.ref S);Builtin.List.listUpdate (.ref S) (fun _=>#[]);letGo old.toList.reverse;Builtin.List.listExtendWith (.ref S) (.ref I) .none) _ _ _
 refine A0 ?_
 unfold Builtin.List.listItems
 refine A0 (Ax hS rfl (A1 ?_))
 show wpAny _ A.in1.in1 (updateSeq S (fun _=>#[]) >>= fun _=>letGo (#[]:Array Value).toList.reverse >>= fun _=>Builtin.List.listExtendWith (.ref S) (.ref I) .none) _ _ _
 refine A0 (Bc hS rfl ?_)
 have hS2:=Af (Obj.mapSeq (fun _=>(#[]:Array Value))) hS rfl
 refine A0 (D6 ?_)
 obtain⟨g,hg⟩:=hg
 have up:∀ b o,b≠S->s.heap.get? b=some o->((s.heap.push {cls:=.type "list",data:=.seq #[]}).update S (Obj.mapSeq (fun _=>(#[]:Array Value)))).get? b=some o:=fun b o hb e=>(Am _ _ (Ci hb)).trans (A2 _ e)
 generalize(s.heap.push {cls:=.type "list",data:=.seq #[]}).update S (Obj.mapSeq (fun _=>(#[]:Array Value)))=h1 at hS2 up ⊢
 have hg1:h1.IsGen I g:=by obtain⟨o,nm,qn,ho,r⟩:=hg;exact⟨o,nm,qn,up _ _ (Ci hSI) ho,r⟩
 have hty:({s with heap:=h1}:Shared).TypeIs (.ref I) "generator":=Heap.IsGen.typeIs (s:={s with heap:=h1}) hg1
 unfold Builtin.List.listExtendWith
 refine A0 (C9 (s:={s with heap:=h1}) hty ?_)
 have e1:Builtin.List.listSameRef (.ref S) (.ref I)=false:=by simp[Builtin.List.listSameRef,hSI]
 have e2:(Value.type "generator" == Value.type "list")=false:=by decide
 have e3:(Value.type "generator" == Value.type "tuple")=false:=by decide
 simp only[e1,e2,e3,Bool.or_false,Bool.false_eq_true,if_false]
 refine A0 (Ft (s:={s with heap:=h1}) hg1 ?_)
 refine A0 (A5 ?_)
 unfold Builtin.List.listLengthHint
 refine A0 (Bu (s:={s with heap:=h1}) hty F.gen_no_len ?_)
 show wpAny _ _ (specialOf (Value.ref I) (Str.ofString "__length_hint__") >>= _) _ _ _
 refine A0 (Bu (s:={s with heap:=h1}) hty F.gen_no_hint ?_)
 refine A1 ?_
 show wpAny _ _ (rule "list.extend.makes-room" >>= fun _=>Builtin.List.listTouch (.ref S) >>= fun _ =>
  again (.builtin "list.extend.loop" ⟨[.ref S,.ref I,.none],[]⟩)) _ _ _
 refine A0 (Cf ?_)
 refine A0 ?_
 show wpAny _ _ (updateSeq S (·.push .none) >>= fun _=>updateSeq S (·.pop)) _ _ _
 refine A0 (Bc (s:={s with heap:=h1}) hS2 rfl ?_)
 have hS3:=Af (Obj.mapSeq (·.push Value.none)) hS2 rfl
 refine Bc (hz:=by seq_fits) hS3 rfl ?_
 refine A1 ⟨Cb Em _,Bv El ?_⟩
 rw[Around.under_plainId F.plain_extend_loop _]
 show wpAny _ A.in1.in1 (pyNext (.ref I) >>= _) _ _ _
 refine A0 (B1 (hN (fun _ _=>False) _ ?_) (fun _ _ x=>x.elim) fun e s' h=>h)
 exact Kp.mk (tk:=s.toks) fun b o _ e=>by
  have hb:b≠S:=fun q=>by rw[q,hS0]at e;cases e
  exact(Am _ _ (Ci hb)).trans ((Am _ _ (Ci hb)).trans (up b o hb e))
theorem lJ{T:Heap}{Z:ZP}{env:Env}{ρ:List (Str×PV)}{H:Ctx}{s s':Shared}(F:FI H Z env ρ s)(k:∀ o,s.heap.get? env.locals=some o->s'.heap.get? env.locals=some o)(S:FS T Z env)(hf:env.frame=some env.locals){l:List Env}(h:s'.heap.FunFrames {} l):s'.heap.FunFrames {} (env::l):=by
 obtain⟨m,⟨o,es,ep,e1,e2,_⟩,_⟩:=F.ns
 refine⟨by rw[S.fn];decide,⟨env.locals,o,hf,?_,k _ e1,fun vs q=>by rw[e2]at q;cases q⟩,h⟩
 cases q:({}:Heap).get? env.locals with
 |none=>rfl
 |some o=>exact absurd (Ac q) (Dm _)
theorem zO{x y:Str}{np np2 p p2:Pos}{e:Expr}{ai:List Expr}{a:Addr}{l:List PV}{s:Shared}{E:ZV}{Q:ZV}(S:FS H.H Z env)(eo:EO env sc)(R:Rm 5 A)(hlim:H.H.NoLimit)(Fr:oL H.H y restoreB restoreS ["delta","which"] a)
  (hlist:NM aa w A H Z env x (.type "list")) (hy:sc.lookup y=some .globalImplicit) (hd:(y==("__debug__" : Str))=false) (hl:LX aa w A H Z env ρ p2 (e::ai) [.lst l,.str "3"]) (hfr:A.frames=some [env]) (hf:env.frame=some env.locals) (F:FI H Z env ρ s)
  (sm:∃ o,H.H.get? sysModules=some o) (hi:Bi H.H "int" (.type "int")) (hk:Bi H.H "KeyError" (.type "KeyError")) (hv:Bi H.H "ValueError" (.type "ValueError"))
  (hs:starEach (e::ai) env=(false,eval e env)::starEach ai env)
  (he:eval (.Call (.Name y np2) (e::ai) [] p2) env=(do callWith p2 (<-eval (.Name y np2) env) [] (backTo p2 (starEach (e::ai) env)) (backToKw p2 (keywordEach [] env))))
  (hs2:starEach [.Call (.Name y np2) (e::ai) [] p2] env=(false,eval (.Call (.Name y np2) (e::ai) [] p2) env)::starEach [] env) (hplain:(backTo p (starEach [] env)).any (·.1)=false)
  (he2:eval (.Call (.Name x np) [.Call (.Name y np2) (e::ai) [] p2] [] p) env=(do callWith p (<-eval (.Name x np) env) [] (backTo p (starEach [.Call (.Name y np2) (e::ai) [] p2] env)) (backToKw p (keywordEach [] env))))
  (hE:∀ h' tk g a,s.toks<=tk->GnK s.gens g->yX s.heap h' [env] a->E (.ref a) {s with heap:=h',toks:=tk,gens:=g}) :
  wpAny (model aa w) A (eval (.Call (.Name x np) [.Call (.Name y np2) (e::ai) [] p2] [] p) env) Q E s:=by
 refine Call_ (wpM (hlist s E ρ np F) (fun u s' q=>?_)) he2
 obtain⟨rfl,rfl⟩:=q
 refine callWith_type1 (B2 (wpM (vW S eo R hlim Fr hy hd ⋯ rfl hl F hs he) (fun v s_1 h_1=>Bt ?_)) hs2) hs2 hplain
 obtain⟨I,genv,rfl,N⟩:=h_1
 obtain⟨k1,⟨g,hg,hgs,hge⟩,gS,geo,gfr,gfi,gnew⟩:=N
 refine qH ⟨g,hg⟩ fun Q' s_2 k2=>?_
 have k02:=k1.trans k2
 have F2:=F.kp0 k02
 have G2:=gfi.kp0 k2
 have hg2:s_2.heap.IsGen I g:=hg.keeps fun b o e=>k2.get (fun z=>z) e
 have hgs2:s_2.gens[g]? = some (.fresh (.func restoreB genv)):=k2.gens.1 _ _ hgs
 have hdp:=R.dp
 refine u7 (cls := "ValueError") (hlim.keeps F2.toGS.top) (by show A.depth<recursionLimit;omega) hg2 hgs2 (C7 ‹k›) ?_
 have lne:genv.locals≠env.locals:=fun q=>by
  obtain⟨m,⟨o,_,_,e1,_⟩,_⟩:=F.ns
  rw[q,e1]at gnew;cases gnew
 have G3:FI ⟨H.H,N0,[],0⟩ (Fa genv) genv [("delta",.lst l),("which",.str "3")] (s_2.setGen g .running):=⟨⟨⟨G2.top,G2.zex⟩,G2.tk,G2.dz,G2.ld⟩,G2.ns,G2.cl,G2.zc,G2.lf⟩
 refine mA (A:=A.in1.in1.in1.over (.func restoreB genv) []) (base:={}) (ae:=[env]) (l:=l) G3 gS geo R.hd (show pushEnvs [genv] (pushEnvs [] A.frames)=some [genv,env] by rw[hfr];rfl) gfr ?_ (fun b o q m=>?_) sm hi hk hv fun h' tk g' e hgn htk hfl=>?_
 ·exact lJ (s:=s_2) (s':=s_2.setGen g .running) G2 (fun o e=>e) gS gfr (lJ (s:=s') (s':=s_2.setGen g .running) F (fun o e=>k02.get (fun z=>z) e) S hf trivial)
 ·have:b=genv.locals\/b=env.locals:=by
   rw[List.filterMap_cons_some gfr,List.filterMap_cons_some hf]at m
   simpa using m
  rcases this with rfl|rfl
  ·rw[gS.zt _ gS.zl]at q;cases q
  ·rw[S.zt _ S.zl]at q;cases q
 have hfl0:=hfl
 obtain⟨sk,n0,T9,t,ctx,tm,x9,tb9,n1,n2,n3,n4,n5,n6⟩:=hfl
 have hIg:h'.IsGen I g:=by
  obtain⟨o,nm,qn,ho,c1,c2,c3⟩:=hg2
  obtain⟨_,_,q⟩:=sk I o (fun z=>z) ho
  have nI:I∉[genv,env].filterMap (·.frame):=fun m=>by
   rw[List.filterMap_cons_some gfr,List.filterMap_cons_some hf]at m
   have m:I=genv.locals\/I=env.locals:=by simpa using m
   rcases m with rfl|rfl
   ·obtain⟨m,⟨o',_,_,e1,e2,_⟩,_⟩:=G2.ns
    have:=e1.symm.trans ho;cases this;rw[c2]at e2;cases e2
   ·obtain⟨m,⟨o',_,_,e1,e2,_⟩,_⟩:=F2.ns
    have:=e1.symm.trans ho;cases this;rw[c2]at e2;cases e2
  exact⟨o,nm,qn,q nI,c1,c2,c3⟩
 refine⟨e,rfl,by obtain⟨oe,e1,e2,e3⟩:=x9;exact⟨oe,e1,e2⟩,hIg,?_⟩
 obtain⟨h1,t1,g1,e1,kk,gn,tk1⟩:=k02
 subst e1
 have up:∀ b,h1.get? b=none->s'.heap.get? b=none:=fun b q=>by
  cases r:s'.heap.get? b with
  |none=>rfl
  |some o=>have:=kk b o (fun z=>z) r;rw[q]at this;cases this
 refine hE h' tk _ e (A7 tk1 htk) ?_ ⟨fun b o _ q=>?_,up e n0,T9,t,ctx,tm,x9,tb9,n1,up T9 n2,up t n3,n4,n5,n6⟩
 ·have b1:g<g1.size:=eQ (s:={s' with heap:=h1,toks:=t1,gens:=g1}) hgs2
  have st:∀(gg:Array GenState) (x:GenState) (i:Nat),i≠g->(gg.setIfInBounds g x)[i]? = gg[i]?:=fun gg x i n=>by rw[Array.getElem?_setIfInBounds];simp[Ne.symm n]
  refine⟨fun i x q=>?_,fun i x q=>?_⟩
  ·have ni:i≠g:=by have:=eQ q;omega
   exact(st _ _ i ni).trans (hgn.1 i x ((st _ _ i ni).trans (gn.1 i x q)))
  ·by_cases ni:i=g
   ·subst ni
    have q':(g'.setIfInBounds i GenState.finished)[i]? = some x:=q
    rw[Array.getElem?_setIfInBounds]at q'
    split at q'
    ·split at q'
     ·cases q';exact .inr rfl
     ·cases q'
    ·exact absurd rfl ‹_›
   ·rcases hgn.2 i x ((st _ _ i ni).symm.trans q)with r|r
    ·exact gn.2 i x ((st _ _ i ni).symm.trans r)
    ·exact .inr r
 ·have q1:h1.get? b=some o:=kk b o (fun z=>z) q
  obtain⟨sl,e1,c1⟩:=sk b o (fun z=>z) q1
  refine⟨sl,e1,fun m=>c1 fun m'=>?_⟩
  rw[List.filterMap_cons_some gfr]at m'
  rcases Ab.mp m' with rfl|m'
  ·rw[gnew]at q;cases q
  ·exact m m'
end
theorem SK.ns{X:ZP}{l:List Env}{h h':Heap}{a:Addr}{m:Str->Option Value}(x:SK X l h h')(n:¬X a)(k:h.Ns a m):h'.Ns a m:=by
 obtain⟨o,es,ep,e1,e2,e3⟩:=k
 obtain⟨sl,e4,_⟩:=x a o n e1
 exact⟨_,es,ep,e4,e2,e3⟩
theorem SK.off{X:ZP}{env:Env}{h h':Heap}(hf:env.frame=some env.locals)(x:SK X [env] h h'){b:Addr}{o:Obj}(n:¬X b)(n':b≠env.locals)(e:h.get? b=some o):h'.get? b=some o:=by
 obtain⟨_,_,q⟩:=x b o n e
 exact q fun m=>by rw[List.filterMap_cons_some hf]at m;exact n' (by simpa using m)
theorem FI.renew{H:Ctx}{Z:ZP}{env:Env}{ρ ρ':List (Str×PV)}{s s':Shared}{m:Str->Option Value}(S:FS H.H Z env)(F:FI H Z env ρ s)(off:∀ b o,b≠env.locals->s.heap.get? b=some o->s'.heap.get? b=some o)(tk:s.toks<=s'.toks)
  (hm:s'.heap.Ns env.locals m) (own:∀ m0,s.heap.Ns env.locals m0->(∀ x p,ρ.lookup x=some p->env.kindOf x=some .local->∃ v,m0 x=some v/\Rp Z s.heap p v)->∀ x p,ρ'.lookup x=some p->env.kindOf x=some .local->∃ v,m x=some v/\Rp Z s'.heap p v)
  (oth:∀ x p,ρ'.lookup x=some p->env.kindOf x≠some .local->ρ.lookup x=some p):FI H Z env ρ' s':=by
 have zk:∀ b o,¬Z b->s.heap.get? b=some o->s'.heap.get? b=some o:=fun b o n e=>off b o (fun q=>n (q▸S.zl)) e
 have notL:∀{c v},s.heap.IsCell c v->c≠env.locals:=fun hc q=>by
  obtain⟨m0,⟨o,es,ep,e1,e2,_⟩,_⟩:=F.ns
  obtain⟨o',e1',e2'⟩:=hc
  rw[q]at e1';rw[e1]at e1';cases e1';rw[e2]at e2';cases e2'
 refine⟨⟨⟨fun b o e=>zk b o (fun z=>by rw[S.zt b z]at e;cases e) (F.top b o e),fun a z=>?_⟩,A7 F.tk tk,F.dz,fun a m e=>?_⟩,⟨m,hm,?_⟩,fun x p e l=>?_,fun x c e=>?_,F.lf⟩
 ·by_cases q:a=env.locals
  ·obtain⟨o,_,_,e,_⟩:=hm;exact⟨o,q▸e⟩
  ·obtain⟨o,e⟩:=F.zex a z;exact⟨o,off a o q e⟩
 ·obtain⟨d,k⟩:=F.ld a m e
  exact⟨d,k.keep (fun o e=>off a o (fun q=>F.lf a d (.inl q)) e) zk⟩
 ·obtain⟨m0,n0,k0⟩:=F.ns
  exact own m0 n0 k0
 ·obtain⟨q1,c,v,q2,q3,q4⟩:=F.cl x p (oth x p e l) l
  obtain⟨o,e1,e2⟩:=id q3
  exact⟨q1,c,v,q2,⟨o,off c o (notL q3) e1,e2⟩,q4.keep zk⟩
 ·obtain⟨z,v,q3⟩:=F.zc x c e
  obtain⟨o,e1,e2⟩:=id q3
  exact⟨z,v,o,off c o (notL q3) e1,e2⟩
section
theorem a00{s:Shared}{E:ZV}{t:Tok}{k:Nat}{p:Pos}{Q:ZV}(hu:A.units+16<cLine)(hQ:∀ s',Kp N0 {s with toks:=s.toks+1} s'->Q (.bool true) s') :
  wpAny (model aa w) A (eval (.Constant (.str nQ) k p) env) (fun u s_1=>wpAny (model aa w) A (compareOp .Eq (.str nQ t) u) Q E s_1) E s:=by
 refine Av ?_
 refine wpM (O2.eqD (H:=⟨{},N0,[],0⟩) (Z:=N0) (p:=.str nQ) (q:=.str nQ) ⟨rfl,⋯,by show 0<=8;decide⟩ ⟨rfl,⋯,by show 0<=8;decide⟩ hu {s with toks:=s.toks+1} _ _ _ ⟨⟨fun b o e=>absurd (Ac e) (Dm _),fun a q=>q.elim⟩,Ap _,fun a q=>q.elim,fun a m e=>nomatch e⟩ (.str _ _) (.str _ _)) (fun y s4 h4=>?_)
 obtain⟨hy,k4⟩:=h4
 rw[PySem.SeqAt.eqv_refl _ ⋯]at hy
 cases hy with
 |bool=>exact hQ _ k4
theorem SX.trySays{z:Expr}{rpos np p1 p2 p3 p4 p5 p6 p7 hpos tpos:Pos}{kk:Nat}(S:FS H.H Z env)(eo:EO env sc)(R:Rm 5 A)(hfr:A.frames=some [env])(hf:env.frame=some env.locals)
  (hraise:∀ s (Q E:ZV),FI H Z env ρ s->(∀ h' tk g a,s.toks<=tk->GnK s.gens g->yX s.heap h' [env] a->E (.ref a) {s with heap:=h',toks:=tk,gens:=g})->wpAny (model aa w) A (eval z env) Q E s)
  (hv:Bi H.H "ValueError" (.type "ValueError")) (hstr:Bi H.H "str" (.type "str")) (n1:sc.lookup ("ValueError" : Str)=some .globalImplicit) (n2:sc.lookup ("str" : Str)=some .globalImplicit) (n3:sc.lookup ("error" : Str)=some .local) (n4:sc.lookup ("plain" : Str)=some .local) (n5:ρ.lookup ("error" : Str)=none) :
  SX aa w A H Z env ρ (.Try [.Return (some z) rpos] [.ExceptHandler (some (.Name "ValueError" np)) (some "error") [.Assign [.Name "plain" p1] (.Compare (.Call (.Name "str" p2) [.Name "error" p3] [] p4) [.Eq] [.Constant (.str nQ) kk p5] p6) p7] hpos] [] [] tpos) (.next H.L (("plain",.bool true)::ρ)):=by
 have hu:A.units+16<cLine:=by have:=R.un;omega
 refine⟨fun s E F=>?_⟩
 refine Fu ?_
 refine Aq ?_
 refine Fg ?_
 refine hraise s _ _ F fun h1 tk1 g1 a htk hgn hfl=>?_
 obtain⟨sk1,nw,T9,t,ctx,tm,x9,tb9,d1,d2,d3,d4,d5,ht⟩:=hfl
 have Lnew:∀ b,s.heap.get? b=none->b≠env.locals:=fun b q r=>by obtain⟨m,⟨o,_,_,e,_⟩,_⟩:=F.ns;rw[<-r,q]at e;cases e
 have tL:=Lnew t d3
 obtain⟨m0,hm0,hr0⟩:=F.ns
 have hm1:=sk1.ns (fun z=>z) hm0
 have hff1:h1.FunFrames {} [env]:=sk1.frames (fun b o q=>q.elim) (lJ (s':=s) F (fun o e=>e) S hf trivial)
 refine xQ (s:={s with heap:=h1,toks:=tk1,gens:=g1}) (ae:=[]) (base:={}) hfr hff1 hf x9 tb9 d1 fun h2 T2 sk2 nT2 hT2 x2 tb2=>?_
 have aL:=Lnew a nw
 have TL:=Lnew T9 d2
 have ht2:h2.get? t=some {cls:=.type "tuple",data:=.seq #[.str nQ tm]}:=sk2.off hf (fun q=>q.elim (fun q=>d4 q) fun q=>d5 q) tL ht
 have hm2:=sk2.ns (fun q=>q.elim (fun q=>aL q.symm) fun q=>TL q.symm) hm1
 have sk02:SK N0 [env] s.heap h2:=sk1.join sk2 fun b q=>by rcases q with rfl|rfl <;> assumption
 have nT2s:s.heap.get? T2=none:=sk1.none nT2
 have T2L:=Lnew T2 nT2s
 have tT2:t≠T2:=fun q=>by rw[<-q]at nT2;exact absurd (nT2.symm.trans ht) ‹s›
 refine j0 (s:={s with heap:=h2,toks:=tk1,gens:=g1}) (env:=env) (ae:=[]) none x2 tb2 hT2 fun h3 sk3 tb3=>?_
 have x3:=sk3.ex (base:={}) (fun q=>hT2 q.symm) x2
 have ht3:=sk3.off hf tT2 tL ht2
 have hm3:=sk3.ns (fun q=>T2L q.symm) hm2
 have sk03:SK N0 [env] s.heap h3:=sk02.join sk3 fun b q=>by rw[q];exact nT2s
 have topOf:∀{h:Heap},SK N0 [env] s.heap h->∀ b o,H.H.get? b=some o->h.get? b=some o:=fun k b o e=>k.off hf (fun z=>z) (fun q=>by rw[q,S.zt _ S.zl]at e;cases e) (F.top b o e)
 refine wpAny_handleBy_builtin_as (X := "ValueError") (T := "ValueError") (b:=true) (C7 ‹k›) (C7 ‹k›) (C7 ‹k›) ?_
 refine kJ (u:={s with heap:=h3,toks:=tk1,gens:=g1}) hv S (topOf sk03) (by rw[eo.kind];exact n1) rfl ⟨rfl,(by obtain⟨oe,e1,e2,e3⟩:=x3;exact⟨oe,e1,e2⟩),?_⟩
 rw[if_pos rfl]
 refine j0 (s:={s with heap:=h3,toks:=tk1,gens:=g1}) (env:=env) (ae:=[]) none x3 tb3 hT2 fun h4 sk4 tb4=>?_
 have x4:=sk4.ex (base:={}) (fun q=>hT2 q.symm) x3
 have ht4:=sk4.off hf tT2 tL ht3
 have hm4:=sk4.ns (fun q=>T2L q.symm) hm3
 have sk04:SK N0 [env] s.heap h4:=sk03.join sk4 fun b q=>by rw[q];exact nT2s
 have hp:(env.scope.kind==.class||(env.scope.kind==.module&&env.locals != env.globals))=false:=by rw[S.fn];rfl
 refine E3 (s:={s with heap:=h4,toks:=tk1,gens:=g1}) (by rw[eo.kind];exact n3) hm4 (fun h5 hm5 sb5=>?_) hp
 have ht5:h5.get? t=_:=(sb5.2 t tL).trans ht4
 have x5:eZ h5 a "ValueError" (.ref t) (.ref T2) ctx true:=by obtain⟨oe,e1,e2,e3⟩:=x4;exact⟨oe,(sb5.2 a aL).trans e1,e2,e3⟩
 have off5:∀ b o,b≠env.locals->s.heap.get? b=some o->h5.get? b=some o:=fun b o n e=>(sb5.2 b n).trans (sk04.off hf (fun z=>z) n e)
 have top5:∀ b o,H.H.get? b=some o->h5.get? b=some o:=fun b o e=>off5 b o (fun q=>by rw[q,S.zt _ S.zl]at e;cases e) (F.top b o e)
 refine Aq ?_
 refine By ?_ rfl
 refine Ep ?_ rfl
 refine wpAny_Call_ofName ?_
 refine kJ (u:={s with heap:=h5,toks:=tk1+1,gens:=g1}) hstr S top5 (by rw[eo.kind];exact n2) rfl ?_
 refine callWith_type1 ?_ rfl rfl
 refine Calls.spliced_cons ?_
 refine Cz (B5 (s:={s with heap:=h5,toks:=tk1+1,gens:=g1}) S.fn (by rw[eo.kind];exact n3) hm5 (if_pos rfl) ?_) rfl
 refine Calls.spliced_nil ?_
 have xe:h5.ExcAt a "ValueError" (.ref t):=by obtain⟨oe,e1,e2,e3⟩:=x5;exact⟨oe,_,e1,e2,e3,rfl⟩
 refine P.str_of_exc_one (s:={s with heap:=h5,toks:=tk1+1,gens:=g1}) PySem.F.excStr_ValueError (by show A.units+2<cLine;omega) xe (m:=nQ) (tk:=tm) ⟨_,_,ht5,rfl,rfl⟩ ?_
 refine a00 (A:=A.mark (some (.ref a))) hu fun s6 k6=>?_
 obtain⟨h6,t6,g6,e6,kk6,gn6,tk6⟩:=k6
 subst e6
 have off6:∀ b o,b≠env.locals->s.heap.get? b=some o->h6.get? b=some o:=fun b o n e=>kk6 b o (fun z=>z) (off5 b o n e)
 have hm6:h6.Ns env.locals _:=hm5.keeps fun b o e=>kk6 b o (fun z=>z) e
 refine E3 (s:={s with heap:=h6,toks:=t6,gens:=g6}) (by rw[eo.kind];exact n4) hm6 (fun h7 hm7 sb7=>?_) hp
 refine C8 ?_
 refine wpAny_nameGoes_keeps (s:={s with heap:=h7,toks:=t6+1,gens:=g6}) (by rw[eo.kind];exact n3) hm7 hp fun h8 v hm8 sb8=>?_
 have off8:∀ b o,b≠env.locals->s.heap.get? b=some o->h8.get? b=some o:=fun b o n e=>(sb8.2 b n).trans ((sb7.2 b n).trans (off6 b o n e))
 have tkl:s.toks<=t6+1+1:=by have:tk1+1+1<=t6:=tk6;omega
 refine⟨⟨rfl,?_⟩,?_⟩
 ·refine FI.renew (s:=s) (s':={s with heap:=h8,toks:=t6+1+1,gens:=g6}) S F off8 tkl hm8 (fun m1 hm1' hr x p e l=>?_) fun x p e l=>?_
  ·have zk:∀ b o,¬Z b->s.heap.get? b=some o->h8.get? b=some o:=fun b o n e=>off8 b o (fun q=>n (q▸S.zl)) e
   rw[a7]at e
   split at e
   ·rename_i q
    cases e
    exact⟨.bool true,by rw[q];rw[if_neg ‹d›,if_pos rfl],.bool _⟩
   ·rename_i q
    obtain⟨u,e1,e2⟩:=hr0 x p e l
    have ne:x≠("error" : Str):=fun q'=>by rw[q',n5]at e;cases e
    exact⟨u,by rw[if_neg ne,if_neg q,if_neg ne,e1],e2.keep zk⟩
  ·rw[a7]at e
   split at e
   ·rename_i q;rw[q,eo.kind]at l;exact absurd n4 l
   ·exact e
 ·exact⟨h8,t6+1+1,g6,rfl,fun b o z e=>off8 b o (fun q=>z (.inl (.inl q))) e,hgn.trans gn6,tkl⟩
theorem EXd.andT{a b:Expr}{q:PV}{L:Led}{pos:Pos}(ha:EX aa w A H Z env ρ a (.bool true))(hb:EXd aa w A H Z env ρ b q L):EXd aa w A H Z env ρ (.BoolOp .And [a,b] pos) q L:=by
 refine⟨fun s E F=>?_⟩
 show wpAny (model aa w) A (do let v <-eval a env;standAt pos;let t <-holding [v] (truthy v);match BoolOp.And,t with| .And,false| .Or,true=>pure v|_,_=>boolOp pos .And [eval b env]) _ E s
 refine A0 (wpM (ha.run s E F) (fun v s_1 h_1=>?_))
 obtain⟨r,k⟩:=h_1
 obtain rfl:=Rp.boolI r
 refine A0 (Ag (A0 (A5 (Dt ?_))))
 exact wpM (hb.run s_1 E (F.kp0 k)) (fun v s_2 h_2=>⟨h_2.1,h_2.2.1,k.z.trans h_2.2.2⟩)
def yM:List Stmt:=by
 run_tac do
  let g <-Lean.Elab.Tactic.getMainGoal
  let e <-Lean.ofExceptKernelException (Lean.Kernel.whnf (<-Lean.getEnv) (<-Lean.getLCtx) (Lean.mkApp (Lean.mkConst ``tailOf) (Lean.mkRawNatLit 13)))
  g.assign e
def yC:List Stmt:=by
 run_tac do
  let g <-Lean.Elab.Tactic.getMainGoal
  let e <-Lean.ofExceptKernelException (Lean.Kernel.whnf (<-Lean.getEnv) (<-Lean.getLCtx) (Lean.mkApp (Lean.mkConst ``tailOf) (Lean.mkRawNatLit 16)))
  g.assign e
def yG:List Stmt:=by
 run_tac do
  let g <-Lean.Elab.Tactic.getMainGoal
  let e <-Lean.ofExceptKernelException (Lean.Kernel.whnf (<-Lean.getEnv) (<-Lean.getLCtx) (Lean.mkApp (Lean.mkConst ``tailOf) (Lean.mkRawNatLit 19)))
  g.assign e
end
section
variable{T:Heap}{D Z:ZP}{tk:Nat}
theorem IX.txt{H:Ctx}{ρ:List (Str×PV)}{tgt e:Expr}{tx:Tx}(hA:A.handled=none)(h:EX aa w A H Z env ρ e (aK (strKind aa w) (txD tx))):IX aa w A H Z env ρ tgt e (tx.map fun a=>.str (ch a.1)):=by
 have:=IX.of h (It.dic (tgt:=tgt) (kp:=PV.str) hA fun k v Z h hk=>by
  cases v <;> first|cases hk|skip
  rw[beq_iff_eq.mp hk];exact .str _ _)
 rwa [txD,List.map_map]at this
theorem SB.txt{H:Ctx}{tx:Tx}{c:Nat}{v:Str}{o i:Expr}(h:i6 tx c=some v)(hs:∀ a u,subscripted i false (.ref a) u=operate [.ref a,u] (getItem (.ref a) u)):SB aa w A H Z o i (aK (strKind aa w) (txD tx)) (.str (ch c)) (.str v) :=
 SB.dic (k:=ch c) (fun{Z h v} r=>by cases r;exact G9 aa w _ _) (sI h) hs
abbrev lawR(aa:Program)(w:World)(a b c:Int)(ab:Str)(size:Nat)(ak:List Str)(tx:Tx):List (Str×PV) :=
 [("texts",aK (strKind aa w) (txD tx)),("way",.lst (ak.map .str)),("size",.int (size:Int)),("word",.str ab),("cells",.lst [.int a,.int b,.int c])]
def dH(W:LwK aa w T):Led:=[(W.tL,fW),(W.tS,fW)]
theorem Sub.skip{ρ' ρ:List (Str×PV)}{x:Str}{q:PV}(h:((ρ'.lookup x).isNone)=true)(s:Sub ρ' ρ):Sub ρ' ((x,q)::ρ):=fun y p e=>by
 rw[a7,if_neg fun q=>by rw[<-q,e]at h;cases h]
 exact s y p e
theorem SX.out{H:Ctx}{ρ:List (Str×PV)}{st:Stmt}{o o':Out}(h:SX aa w A H Z env ρ st o)(e:o=o'):SX aa w A H Z env ρ st o':=e▸h
theorem lG{α:Type}:∀(l b:List α),l.foldl (fun a p=>a++[p]) b=b++l
 |[],b=>(List.append_nil b).symm
 |x::l,b=>by rw[List.foldl_cons,lG l,List.append_assoc];rfl
theorem wJ:∀ n:Nat,n<4->(jD "abc" none (some (n:Int))).cps.toList=("abc" : Str).cps.toList.take n:=by decide +kernel
abbrev qQ(W:LwK aa w T)(a b c:Int)(ab cut:Str)(size:Nat)(ak:List Str)(tx:Tx)(x:Addr):List (Str×PV) :=
 ("pile",.raw (.ref x))::("whole",.str (iK tx cut))::("table",hdF W.hC (i4 tx))::lawR aa w a b c ab size ak tx
abbrev e9(W:LwK aa w T)(x dx:Addr)(k:Int)(l:List (Str×Str)):Led:=(x,aJ W.cC dx (l.map dI))::(dx,a9 m9 [.int k])::dH W
theorem qA(W:LwK aa w T){y:Addr}(h:y=W.tL\/y=W.tS):(dH W).lookup y=some fW:=by
 unfold dH
 rw[List.lookup_cons]
 cases e:(y==W.tL)with
 |true=>rfl
 |false => 
  rcases h with h|h
  ·rw[h]at e;simp at e
  ·rw[h,List.lookup_cons];simp
theorem uX(W:LwK aa w T){x dx:Addr}{k:Int}{l:List (Str×Str)}(bn:∀ a m,(dH W).lookup a=some m->a≠dx/\a≠x){y:Addr}(h:y=W.tL\/y=W.tS):(e9 W x dx k l).lookup y=some fW:=by
 obtain⟨h1,h2⟩:=bn y _ (qA W h)
 rw[List.lookup_cons,beq_eq_false_iff_ne.mpr h2,List.lookup_cons,beq_eq_false_iff_ne.mpr h1]
 exact qA W h
theorem EX.hget(W:LwK aa w T)(R:Rm 2 A){tx:Tx}(o1:wL (i4 tx)=true){L:Led}{ρ:List (Str×PV)}{o e:Expr}{ap pos:Pos}{pl:Sem Bool}{cc:Nat}(S:FS T Z env)(hc:rO tx cc=true)(ho:EX aa w A ⟨T,D,L,tk⟩ Z env ρ o (hdF W.hC (i4 tx)))(he:EX aa w A ⟨T,D,L,tk⟩ Z env ρ e (.str (ch cc)))(hs:starEach [e] env=[(false,eval e env)])
  (hev:eval (.Call (.Attribute o "get" ap) [e] [] pos) env=(do
    let ov <-eval o env
    standAt ap.atName
    let(f,first) <-holding [ov] (getMethod ov "get" pl)
    callWith pos f first (backTo pos (starEach [e] env)) [])):EX aa w A ⟨T,D,L,tk⟩ Z env ρ (.Call (.Attribute o "get" ap) [e] [] pos) (.str (gA tx cc)):=by
 unfold rO at hc
 simp only[Bool.and_eq_true,decide_eq_true_eq]at hc
 obtain⟨⟨h1,h2⟩,h3⟩:=hc
 obtain⟨v,hv⟩:=Ar.mp h1
 have e1:gA tx cc=v:=by unfold gA;rw[hv];rfl
 rw[e1]
 exact EX.methF (H:=⟨T,D,L,tk⟩) (C:=W.hC) (ns:=["_headers"]) (ps:=[hdL (i4 tx)]) S W.inn W.hd.dfG.at ho W.hd.mG ⋯ (LX.cons he LX.nil hs) (xO W.hd R S.zt hv o1 (show 1<=1000 by decide) h2 h3) (.inr ⟨_,_,by rw[hs];rfl⟩) hev
theorem z0(W:LwK aa w T)(S:FS T Z env)(eo:EO env lawS.names)(R:Rm 5 A)(hfr:A.frames=some [env])(hf:env.frame=some env.locals){a b c k:Int}{ab cut:Str}(hwl:ab.length<=6){size:Nat}{ak:List Str}{tx:Tx}{x dx:Addr}(nx:x≠dx)(bn:∀ a m,(dH W).lookup a=some m->a≠dx/\a≠x)(ok:dO tx cut ak.length=true)(hk:b.fmod 4=k) :
  SXs aa w A ⟨T,D,e9 W x dx k (aY ak.length),tk⟩ Z env (qQ W a b c ab cut size ak tx x) yG (.ret (e9 W x dx k (aY ak.length)) (.bool true)):=by
 have hA:=R.hd
 have hu:A.units+16<cLine:=by have:=R.un;omega
 unfold dO at ok
 simp only[Bool.and_eq_true,decide_eq_true_eq]at ok
 obtain⟨⟨⟨⟨⟨⟨⟨⟨⟨⟨o1,o2⟩,o3⟩,o4⟩,o5⟩,o6⟩,o7⟩,o8⟩,o9⟩,o10⟩,o11⟩:=ok
 have lx:(e9 W x dx k (aY ak.length)).lookup x=some (aJ W.cC dx ((aY ak.length).map dI)):=by rw[List.lookup_cons];simp
 have ld:(e9 W x dx k (aY ak.length)).lookup dx=some (a9 m9 [.int k]):=by rw[List.lookup_cons,beq_eq_false_iff_ne.mpr (Ne.symm nx),List.lookup_cons];simp
 unfold yG
 refine SXs.cons (SX.trySays S eo R hfr hf (fun s Q E F hE=>?_) W.valE W.str ⋯ ⋯ ⋯ ⋯ ⋯) ?_
 ·refine Ep ?_ rfl
  refine zO (l:=[.str (("  " : Str)++ab)]) S eo R W.lim W.fRe (NM.b S eo W.lst ⋯ ⋯) ⋯ rfl (LX.cons (EX.list (ps:=[.str (("  " : Str)++ab)]) (LX.cons (EX.bin (p:=.str "  ") (q:=.str ab) EX.cstr ‹nm› ?_) LX.nil rfl) (by show 1<=sizeLine;decide)) (LX.cons EX.cstr LX.nil rfl) rfl) hfr hf F W.sm W.int W.keyE W.valE rfl rfl rfl rfl rfl hE
  exact O2.addS (A7 (show 2+ab.length<=8 by omega) ‹d›)
 have hk0:0<=k:=by rw[<-hk];exact Bz b ‹d›
 have hk4:k<4:=by rw[<-hk];exact Bw b ‹d›
 have htot:gP k (aY ak.length)=k+2^ak.length-1:=by unfold gP;rw[o10];omega
 have hp8:(2:Int)^ak.length<=8:=by
  have:ak.length=0\/ak.length=1\/ak.length=2\/ak.length=3:=by omega
  rcases this with h|h|h|h <;> rw[h] <;> decide
 have hp1:(1:Int)<=2^ak.length:=by
  have:ak.length=0\/ak.length=1\/ak.length=2\/ak.length=3:=by omega
  rcases this with h|h|h|h <;> rw[h] <;> decide
 show SXs aa w A ⟨T,D,e9 W x dx k (aY ak.length),tk⟩ Z env (("plain",.bool true)::qQ W a b c ab cut size ak tx x) _ _
 refine SXs.ret (SX.retD (EXd.andT ‹nm› (EXd.cmp (p:=.int (gP k (aY ak.length))) (q:=.int (k+2^ak.length-1)) S (EXd.accLen (n:=4) (x:=x) (dx:=dx) (l:=(aY ak.length).map dI) (k:=.int k) W.ac.ok W.inn S R W.ac.mL lx ld (NM.b S eo W.len ⋯ ⋯) ‹nm› ?_ ?_ (fun A' R'=>(yR (D:=D) (L:=e9 W x dx k (aY ak.length)) W.ag (R'.le ‹d›) S.zt o8 hk0 ‹o› (uX W bn (.inl rfl)) lx ld).d) rfl rfl) ?_ ?_ rfl)))
 ·omega
 ·omega
 ·refine EX.bin (p:=.int (k+2^ak.length)) (q:=.int 1) (EX.bin (p:=.int k) (q:=.int (2^ak.length)) (hk▸EX.bin (EX.sub (p:=.lst [.int a,.int b,.int c]) ‹nm› EX.cint (SB.item (p:=.int b) ‹d› ‹d› rfl (fun _ _=>rfl))) EX.cint (O2.modI ‹d›)) (EX.bin (p:=.int 2) (q:=.int (ak.length:Int)) EX.cint (EX.callB (NM.b S eo W.len ⋯ ⋯) (LX.cons (p:=.lst (ak.map .str)) ‹nm› LX.nil rfl) ?_ rfl rfl rfl) (O2.powI ‹o› ‹o› ‹d›)) O2.addI) EX.cint O2.subI
  have:=CB.lenL (aa:=aa) (w:=w) (A:=A) (H:=⟨T,D,e9 W x dx k (aY ak.length),tk⟩) (Z:=Z) (l:=ak.map PV.str) (by rw[List.length_map];omega)
  rwa [Ej]at this
 ·rw[htot];have:=O2.eqI (aa:=aa) (w:=w) (A:=A) (H:=⟨T,D,e9 W x dx k (aY ak.length),tk⟩) (Z:=Z) (a:=k+2^ak.length-1) (b:=k+2^ak.length-1);rw[show(k+2^ak.length-1==k+2^ak.length-1)=true from beq_self_eq_true _]at this;exact this
theorem zU(W:LwK aa w T)(S:FS T Z env)(eo:EO env lawS.names)(R:Rm 5 A)(hfr:A.frames=some [env])(hf:env.frame=some env.locals){a b c k:Int}{ab cut:Str}(hwl:ab.length<=6){size:Nat}{ak:List Str}{tx:Tx}{x dx:Addr}(nx:x≠dx)(bn:∀ a m,(dH W).lookup a=some m->a≠dx/\a≠x)(ok:dO tx cut ak.length=true)(hk:b.fmod 4=k) :
  SXs aa w A ⟨T,D,e9 W x dx k [],tk⟩ Z env (qQ W a b c ab cut size ak tx x) yC (.ret (e9 W x dx k (aY ak.length)) (.bool true)):=by
 have hA:=R.hd
 have hu:A.units+16<cLine:=by have:=R.un;omega
 have ok0:=ok
 unfold dO at ok
 simp only[Bool.and_eq_true,decide_eq_true_eq]at ok
 obtain⟨⟨⟨⟨⟨⟨⟨⟨⟨⟨o1,o2⟩,o3⟩,o4⟩,o5⟩,o6⟩,o7⟩,o8⟩,o9⟩,o10⟩,o11⟩:=ok
 have lx:∀{l:List (Str×Str)},(e9 W x dx k l).lookup x=some (aJ W.cC dx (l.map dI)):=fun{l}=>by rw[List.lookup_cons];simp
 have ld:∀{l:List (Str×Str)},(e9 W x dx k l).lookup dx=some (a9 m9 [.int k]):=fun{l}=>by rw[List.lookup_cons,beq_eq_false_iff_ne.mpr (Ne.symm nx),List.lookup_cons];simp
 unfold yC
 refine SXs.cons (SX.foldG1 (φ:=fun c=>.str (ch c)) (items:=("abc" : Str).cps.toList.take ak.length) (h:=gH) (g:=e9 W x dx k) (f:=fun _=>qQ W a b c ab cut size ak tx x) (st₀:=[]) (Inv:=fun i st=>st.length+1=2^i) S eo ⋯ rfl rfl (Sub.refl _)
  (wJ ak.length (E1 o4)▸IX.str hA (EX.slice (x:=.str "abc") EX.cstr PX.none (PX.some (EX.callB (NM.b S eo W.len ⋯ ⋯) (LX.cons (p:=.lst (ak.map .str)) ‹nm› LX.nil rfl) (by have:=CB.lenL (aa:=aa) (w:=w) (A:=A) (H:=⟨T,D,e9 W x dx k [],tk⟩) (Z:=Z) (l:=ak.map PV.str) (by rw[List.length_map];omega);rwa [Ej]at this) rfl rfl rfl)) (SLC.str (by show 3<=sizeLine;decide)))) ?_ (fun _=>rfl)) ?_
 ·intro Z2 S2 i st cc hi hcc
  have hi4:i<3:=Bh (A8.mp hcc).1 (by rw[List.length_take];exact Nat.min_le_right _ _)
  have h2i:2^i<=4:=Db (n:=2) ‹d› (Nat.le_of_lt_succ hi4)
  refine⟨by unfold gH;rw[List.length_append,List.length_append,Nat.pow_succ,<-hi];simp only[List.length_cons,List.length_nil];omega,?_⟩
  refine⟨_,SXs.cons (SX.setD S2 eo (EXd.accMeth (x:=x) (dx:=dx) (k:=.int k) (l:=st.map dI) (ps:=[.int 0]) (r:=.lst (st.map dI)) (L':=e9 W x dx k []) W.ac.ok W.inn S2 W.ac.mQ W.ac.dfQ.at lx ld ⋯ ‹nm› (AX.of (LX.cons EX.cint LX.nil rfl) (.inr ⟨_,_,rfl⟩)) (zA W.ac (R.le ‹d›) S2.zt (by rw[List.length_map];omega)).d rfl) ⋯) (SXs.one (SX.out (SX.foldG1 (φ:=dI) (items:=gH st cc) (h:=fun acc p=>acc++[p]) (g:=e9 W x dx k) (f:=fun _=>("below",.lst (st.map dI))::("new",.str (ch cc))::qQ W a b c ab cut size ak tx x) (st₀:=[]) (Inv:=fun i acc=>acc.length=i) S2 eo ⋯ rfl rfl (Sub.refl _) ?_ ?_ (fun _=>rfl)) (Az (fun l=>Out.next (e9 W x dx k l) _) (lG _ _)))),?_⟩
  ·show IX aa w A ⟨T,D,e9 W x dx k [],tk⟩ Z2 env _ _ _ ((st++[(("" : Str),ch cc)]++st).map dI)
   rw[List.map_append,List.map_append]
   refine IX.of (EX.bin (EX.bin (p:=.lst (st.map dI)) ‹nm› (EX.list (ps:=[dI ("",ch cc)]) (LX.cons (EX.tuple (LX.cons EX.cstr (LX.cons (p:=.str (ch cc)) ‹nm› LX.nil rfl) rfl) (by show 2<=sizeLine;decide)) LX.nil rfl) (by show 1<=sizeLine;decide)) (O2.addL ?_)) (q:=.lst (st.map dI)) ‹nm› (O2.addL ?_)) (It.lst hA)
   ·exact A7 (show(st.map dI).length+1<=1000 by rw[List.length_map];omega) ‹d›
   ·exact A7 (show _<=1000 by rw[List.length_append,List.length_map];show st.length+1+st.length<=1000;omega) ‹d›
  ·intro Z3 S3 j acc q hj hq
   have hj8:j<9:=Bh (A8.mp hq).1 (by unfold gH;rw[List.length_append,List.length_append];simp only[List.length_cons,List.length_nil];omega)
   refine⟨by rw[List.length_append,hj];rfl,_,SXs.one (SX.expr (EXd.accStar (x:=x) (dx:=dx) (k:=.int k) (l:=acc.map dI) (ps:=[.str q.1,.str q.2]) (r:=.none) (L':=e9 W x dx k (acc++[q])) W.ac.ok W.inn S3 W.ac.mP W.ac.dfP.at W.cpG W.cpT ⋯ lx ld ⋯ ‹nm› ‹nm› (by show 2<=1000;decide) ?_ rfl) (by unfold interactive;rw[S3.fn];rfl) rfl),Sub.skip ⋯ (Sub.refl _)⟩
   rw[show e9 W x dx k (acc++[q])=(x,aJ W.cC dx (acc.map dI++[dI (q.1,q.2)]))::(dx,a9 m9 [.int k])::dH W from by rw[<-List.map_singleton,<-List.map_append]]
   exact xS (k:=k) W.ac (R.le ‹d›) S3.zt (by rw[List.lookup_cons];simp) (Ci nx) (by rw[List.length_map];omega) q.1 q.2
  ·exact Sub.skip ⋯ (Sub.skip ⋯ (Sub.refl _))
 show SXs aa w A ⟨T,D,e9 W x dx k (aY ak.length),tk⟩ Z env (qQ W a b c ab cut size ak tx x) _ _
 refine SXs.cons (SX.setD S eo (EXd.accStr (n:=4) (x:=x) (dx:=dx) (l:=(aY ak.length).map dI) (k:=.int k) (t:=cN ak.length) W.ac.ok W.inn S R W.ac.mS lx ld (NM.b S eo W.str ⋯ ⋯) ‹nm› (fun A' R'=>(a40 (D:=D) (L:=e9 W x dx k (aY ak.length)) W.ag (R'.le ‹d›) S.zt o8 o9 (uX W bn (.inr rfl)) lx).d) rfl rfl) ⋯) ?_
 refine SXs.cons (SX.foldG1 (φ:=PV.str) (items:=gX tx cut) (h:=fun(u:Unit) _=>u) (g:=fun _=>e9 W x dx k (aY ak.length)) (f:=fun _=>("ruler",.str (cN ak.length))::qQ W a b c ab cut size ak tx x) (st₀:=()) (Inv:=fun _ _=>True) S eo ⋯ rfl trivial (Sub.refl _) ?_ ?_ (fun _=>rfl)) ?_
 ·refine IX.of (EX.bin (EX.list (ps:=[.str (iK tx cut)]) (LX.cons ‹nm› LX.nil rfl) (by show 1<=sizeLine;decide)) (EX.as (q:=.lst (tx.map fun a=>.str (gA tx a.1))) (EX.comp1 (items:=tx) (φ:=fun a=>.str (ch a.1)) (te:=fun _=>true) (f:=fun a=>.str (gA tx a.1)) S eo ⋯ (IX.txt hA ‹nm›) (fun p hp C Z' S' eo'=>⟨.nil,fun _=>?_⟩) (A7 o5 ‹d›) (fun _=>rfl)) (by rw[dG])) (O2.addL ?_)) ?_
  ·exact EX.hget W (R.le ‹d›) o1 S' (A6.mp (A9.mp o3 p hp)).1 ‹nm› ‹nm› rfl rfl
  ·rw[List.length_map];exact A7 (show 1+tx.length<=101 by omega) ‹d›
  ·have:(gX tx cut).map PV.str=[PV.str (iK tx cut)]++tx.map fun a=>PV.str (gA tx a.1):=by rw[gX,List.map_cons,List.map_map];rfl
   rw[this];exact It.lst hA
 ·intro Z2 S2 i st p _ hp
  have h11:=A9.mp o11 p (As hp)
  simp only[Bool.and_eq_true,decide_eq_true_eq]at h11
  obtain⟨f1,f2⟩:=h11
  have f3:=f1
  unfold oF at f3
  simp only[Bool.and_eq_true (_&&_) _,Bool.and_eq_true (p.cps.all _) _,decide_eq_true_eq]at f3
  obtain⟨⟨⟨⟨⟨hx,hpl⟩,hrl⟩,_⟩,hb1⟩,hb2⟩:=f3
  refine⟨trivial,_,SXs.cons (SX.set (p:=.tup [.int (Txt.find (cN ak.length) p),.int 0,.int (p.length:Int)]) S2 eo (EX.callT (NM.b S2 eo W.tup ⋯ ⋯) (LX.cons ?_ LX.nil rfl) (CB.tupM hA W.maI (by show 3<=sizeLine;decide)) rfl rfl rfl) ⋯ ⋯)
   (SXs.one (SX.ite (b:=false) (TX.as (TX.cmp (p:=.tup [.int (Txt.find (cN ak.length) p),.int 0,.int (p.length:Int)]) (q:=.tup [.int (Txt.find (cN ak.length) p),.int 0,.int (p.length:Int)]) ‹nm› (EX.tuple (LX.cons (EX.mc1 (p:=.str (cN ak.length)) (ps:=[.str p]) ‹nm› (GMs.p GMs.find) (LX.cons ‹nm› LX.nil rfl) CB.find rfl rfl rfl) (LX.cons EX.cint (LX.cons (EX.callB (NM.b S2 eo W.len ⋯ ⋯) (LX.cons (p:=.str p) ‹nm› LX.nil rfl) (CB.lenS ‹o›) rfl rfl rfl) LX.nil rfl) rfl) rfl) (by show 3<=sizeLine;decide)) (O2.neD ⟨rfl,rfl,by show 1<=8;decide⟩ ⟨rfl,rfl,by show 1<=8;decide⟩ hu) rfl) ?_) (fun h=>by cases h) fun _=>SXs.nil)),Sub.skip ⋯ (Sub.skip ⋯ (Sub.refl _))⟩
  ·rw[<-f2,<-hb1,<-hb2]
   refine EX.madeCall (n:=4) (K:=W.K) (C:=W.qC) (fI:=W.qI) (fF:=W.qF) (ns:=dR) (ns':=dR) (qs:=dQ aa w (cN ak.length) p) (qs':=dQ aa w (cN ak.length) p) (ps:=[.none,.str (cN ak.length),.str p]) S2 W.inn W.sqC W.sq.mak W.sq.mF W.sq.dfF.at R ⋯ (NM.glob S2 (by rw[eo.kind];kernel_rfl) W.sqG ⋯) (LX.cons EX.cnone (LX.cons ‹nm› (LX.cons ‹nm› LX.nil rfl) rfl) rfl) (.inr ⟨_,_,rfl⟩) rfl rfl
    (fun A' x dx R' hz'=>y1 W.sq R' hz' W.sm W.enu W.set W.len hx hpl) (fun x dx hz'=>wE (i:=0) (j:=0) (k:=0) W.sq (R.le ‹d›) hz' W.sm W.len W.ran W.maG W.maC f1 fun R' hz=>zW W.ma R' hz W.tup _ _ _) rfl
  ·rw[PySem.SeqAt.eqv_refl _ rfl];rfl
 exact SXs.forget (z0 W S eo R hfr hf hwl nx bn ok0 hk) (Sub.skip ⋯ (Sub.refl _))
theorem zB(W:LwK aa w T)(S:FS T Z env)(eo:EO env lawS.names)(R:Rm 5 A)(hfr:A.frames=some [env])(hf:env.frame=some env.locals){a b c:Int}{ab cut:Str}(hwl:ab.length<=6){size:Nat}{ak:List Str}{tx:Tx}(hcut:jD ab none (some (size:Int))=cut)(ok:dO tx cut ak.length=true) :
  SXs aa w A ⟨T,D,dH W,tk⟩ Z env (lawR aa w a b c ab size ak tx) yM (.ret (dH W) (.bool true)):=by
 have hA:=R.hd
 have hu:A.units+16<cLine:=by have:=R.un;omega
 have ok0:=ok
 unfold dO at ok
 simp only[Bool.and_eq_true,decide_eq_true_eq]at ok
 obtain⟨⟨⟨⟨⟨⟨⟨⟨⟨⟨o1,o2⟩,o3⟩,o4⟩,o5⟩,o6⟩,o7⟩,o8⟩,o9⟩,o10⟩,o11⟩:=ok
 unfold yM
 refine SXs.cons (SX.set (p:=hdF W.hC (i4 tx)) S eo ?_ ⋯ ⋯) ?_
 ·refine EX.madeF (n:=4) (K:=W.K) (fI:=W.hI) S W.inn W.hdC W.hd.mak R (NM.glob S (by rw[eo.kind];kernel_rfl) W.hdG ⋯) (LX.cons (p:=hdL (i4 tx)) ?_ LX.nil rfl) (.inr ⟨_,_,rfl⟩) rfl rfl (fun A' x dx R' hz'=>uO (L:=[]) W.hd (R'.le ‹d›) hz' o1)
  refine EX.as (EX.comp1 (items:=tx) (φ:=fun a=>.str (ch a.1)) (te:=fun _=>true) (f:=fun a=>.tup [.str (Txt.upper (ch a.1)),.str a.2]) S eo ⋯ (IX.txt hA ‹nm›) (fun p hp C Z' S' eo'=>⟨.nil,fun _=>?_⟩) (A7 o5 ‹d›) (fun _=>rfl)) ?_
  ·have h3:=A9.mp o3 p hp
   exact EX.tuple (LX.cons (EX.mc0 (p:=.str (ch p.1)) ‹nm› GMs.upper.p (CB.upper (show 1<=5592405 by decide)) rfl) (LX.cons (EX.sub (p:=aK (strKind aa w) (txD tx)) (q:=.str (ch p.1)) ‹nm› ‹nm› (SB.txt (Ai.mp (A6.mp h3).2) fun _ _=>rfl)) LX.nil rfl) rfl) (by show 2<=sizeLine;decide)
  ·rw[dG,hdL,i4,List.map_map];rfl
 refine SXs.cons (SX.set (p:=.str (iK tx cut)) S eo ?_ ⋯ ⋯) ?_
 ·refine EX.mc1 (p:=.str "") EX.cstr (GMs.p GMs.join) (LX.cons (p:=.lst ((cut.cps.toList.map (gA tx)).map .str)) ?_ LX.nil rfl) (CB.join o7) rfl rfl rfl
  refine EX.as (EX.comp1 (items:=cut.cps.toList) (φ:=fun c=>.str (ch c)) (te:=fun _=>true) (f:=fun c=>.str (gA tx c)) S eo ⋯ (IX.str hA (hcut▸EX.slice (x:=.str ab) ‹nm› PX.none (PX.some (i:=(size:Int)) ‹nm›) (SLC.str ?_))) (fun p hp C Z' S' eo'=>⟨.nil,fun _=>?_⟩) (A7 o6 ‹d›) (fun _=>rfl)) ?_
  ·exact A7 hwl ‹d›
  ·exact EX.hget W (R.le ‹d›) o1 S' (A9.mp o2 p hp) ‹nm› ‹nm› rfl rfl
  ·rw[dG,List.map_map];rfl
 refine SXs.keptA (C:=W.cC) (k:=b.fmod 4) (l':=(aY ak.length).map dI) W.ac.toAcF S eo ⋯ W.acC W.acN W.acI W.acF (R.le ‹d›) (NM.glob S (by rw[eo.kind];kernel_rfl) W.acG ⋯) (EX.bin (EX.sub (p:=.lst [.int a,.int b,.int c]) ‹nm› EX.cint (SB.item (p:=.int b) ‹d› ‹d› rfl (fun _ _=>rfl))) EX.cint (O2.modI ‹d›)) rfl rfl fun x dx bn nx S'=>?_
 exact zU W S' eo R hfr hf hwl nx bn ok0 rfl
end
section
def rE(t:Tx)(c:Nat)(v:Str):Tx:=if t.any (fun b=>b.1==c)then t.map (fun b=>if b.1==c then(b.1,v)else b)else t++[(c,v)]
def dS(s:Nat):Nat:=(("abc" : Str).cps.toList)[s]?.getD 0
def xP(bm ao:Str)(new:Nat)(a:Nat×Str):Str:=((if eH ao (ch a.1)then ch new else Str.empty)++Txt.join (ch new) (signs a.2))++(if !eH bm (ch a.1)then ch new else Str.empty)
def q9(bm ao:Str)(new:Nat)(tx:Tx):Tx:=tx.foldl (fun t a=>rE t a.1 (xP bm ao new a)) []
def tN(st:Str)(new:Nat)(old:Tx)(c:Nat):Str:=if eH st (ch c)then ch new else(i6 old c).getD ""
def stepT(row st:Str)(s:Nat)(tx:Tx):Tx:=row.cps.toList.foldl (fun t c=>rE t c (tN st (dS s) (q9 (chained row st).1 (chained row st).2 (dS s) tx) c)) []
def oX(rows ak:List Str)(tx:Tx)(i:Nat):Tx:=stepT (rows.getD (ak.length-1-i) "") (ak.getD (ak.length-1-i) "") (ak.length-1-i) tx
def cT(rows ak:List Str)(n:Nat):Tx:=(List.range n).foldl (oX rows ak) []
def stepOk(row st:Str)(s:Nat)(tx:Tx):Bool :=
 PyData.strOk row&&PyData.strOk st&&decide (st.length<=100)&&decide (row.length<=100)&&decide (s<3)&&decide (tx.length<=100)&&(tx.all fun a=>(i6 tx a.1==some a.2)&&decide (a.2.length<=1000)&&JoinOk (ch (dS s)) (signs a.2)&&decide ((Txt.join (ch (dS s)) (signs a.2)).length<=10000)) &&
 row.cps.toList.all fun c=>eH st (ch c)||(i6 (q9 (chained row st).1 (chained row st).2 (dS s) tx) c).isSome
def kH(rows ak:List Str):Bool:=(List.range ak.length).all fun i=>stepOk (rows.getD (ak.length-1-i) "") (ak.getD (ak.length-1-i) "") (ak.length-1-i) (cT rows ak i)
def yB:List Stmt:=by
 run_tac do
  let g <-Lean.Elab.Tactic.getMainGoal
  let e <-Lean.ofExceptKernelException (Lean.Kernel.whnf (<-Lean.getEnv) (<-Lean.getLCtx) (Lean.mkApp (Lean.mkConst ``tailOf) (Lean.mkRawNatLit 11)))
  g.assign e
end
theorem qX{a b:Nat}:ch a=ch b↔a=b:=⟨nX,fun e=>by rw[e]⟩
theorem wH(t:Tx)(c:Nat)(v:Str):g8 (txD t) (ch c) (.str v)=txD (rE t c v):=by
 unfold g8 rE txD
 rw[List.any_map]
 have e:((fun kv:Str×PV=>decide (kv.1=ch c)) ∘ fun a:Nat×Str=>(ch a.1,PV.str a.2))=fun b:Nat×Str=>b.1==c:=by
  funext b
  show decide (ch b.1=ch c)=(b.1==c)
  rw[show decide (ch b.1=ch c)=decide (b.1=c)from decide_eq_decide.mpr qX];rfl
 rw[e]
 split
 ·rw[List.map_map,List.map_map]
  refine En fun b _=>?_
  show(if ch b.1=ch c then(ch b.1,PV.str v)else(ch b.1,PV.str b.2))=(ch (if(b.1==c)=true then(b.1,v)else b).1,PV.str (if(b.1==c)=true then(b.1,v)else b).2)
  by_cases q:b.1=c
  ·rw[if_pos (qX.mpr q),if_pos (beq_iff_eq.mpr q)]
  ·rw[if_neg (fun h=>q (qX.mp h)),if_neg (fun h=>q (beq_iff_eq.mp h))]
 ·rw[List.map_append];rfl
theorem oA{α:Type}{key:α->Nat}{val:α->Str}:∀(l:List α) (t:Tx),l.foldl (fun D p=>g8 D (ch (key p)) (.str (val p))) (txD t)=txD (l.foldl (fun t p=>rE t (key p) (val p)) t)
 |[],t=>rfl
 |a::l,t=>by rw[List.foldl_cons,wH,oA l,List.foldl_cons]
theorem lH:∀ n:Nat,n<4->Builtin.divisionGoesByPylong (-1-((n:Int)-1)) (-1)=false/\Builtin.Range.small ((n:Int)-1) (-1) (-1)=true/\Builtin.Range.rangeSize ((n:Int)-1) (-1) (-1)=(n:Int):=by decide +kernel
theorem oB(b:Bool)(n:Nat):(if b then ch n else Str.empty).length<=1:=by cases b <;> first|exact A4 1|exact Ap 1
theorem zX:∀ s:Nat,s<3->(seqIndex? (s:Int) ("abc" : Str).length).bind (("abc" : Str).cps[·]?)=some (dS s):=by decide +kernel
theorem lV{env:Env}{sc:List (Str×NameKind)}{k v:Expr}{gs:List Comprehension}{scope:Scope}{p tp:Pos}{t:Str}{n:Nat}(eo:EO env sc)(h:sc.lookup t=some .cell):swapsWith (.DictComp k v gs scope p) (some (.Name t tp)) n env=pure false:=by
 show(pure (env.blockKind==.function&&env.kindOf t==some .local&&tp.line==p.line && !(scope.names.any fun(n,k)=>n==t&&(k==.local||k==.cell))):Sem Bool)=pure false
 rw[eo.kind t,h,show(some NameKind.cell==some NameKind.local)=false from rfl,Bool.and_false,Bool.false_and,Bool.false_and]
section
variable{T:Heap}{D Z:ZP}{tk:Nat}
theorem CB.lenM{α:Type}{φ:α->PV}{H:Ctx}{l:List α}(h:l.length<=1000):CB aa w A H Z (.builtin "len") [.lst (l.map φ)] (.int l.length):=by
 have:=CB.lenL (aa:=aa) (w:=w) (A:=A) (H:=H) (Z:=Z) (l:=l.map φ) (by rw[List.length_map];omega)
 rwa [Ej]at this
theorem zV(W:LwK aa w T)(S:FS T Z env)(eo:EO env lawS.names)(R:Rm 5 A)(hfr:A.frames=some [env])(hf:env.frame=some env.locals){a b c:Int}{ab cut:Str}(hwl:ab.length<=6){size:Nat}{rows ak:List Str}(hcut:jD ab none (some (size:Int))=cut)(hn:ak.length<=rows.length)(ok1:kH rows ak=true)(ok:dO (cT rows ak ak.length) cut ak.length=true) :
  SXs aa w A ⟨T,D,dH W,tk⟩ Z env [("rows",.lst (rows.map .str)),("way",.lst (ak.map .str)),("size",.int (size:Int)),("word",.str ab),("cells",.lst [.int a,.int b,.int c])] yB (.ret (dH W) (.bool true)):=by
 have hA:=R.hd
 have hu:A.units+16<cLine:=by have:=R.un;omega
 have hw3:ak.length<=3:=by
  unfold dO at ok
  simp only[Bool.and_eq_true,decide_eq_true_eq]at ok
  exact ok.1.1.1.1.1.1.1.2
 unfold yB
 refine SXs.cons (SX.set S eo (EX.dict0 (knd:=strKind aa w) W.sm) ⋯ ⋯) ?_
 refine SXs.cons (SX.for1 (φ:=fun(i:Nat)=>.int ((ak.length:Int)-1+(i:Int)*(-1))) (items:=List.range ak.length) (h:=oX rows ak) (f:=fun tx=>[("texts",aK (strKind aa w) (txD tx)),("rows",.lst (rows.map .str)),("way",.lst (ak.map .str)),("size",.int (size:Int)),("word",.str ab),("cells",.lst [.int a,.int b,.int c])]) (st₀:=([]:Tx)) (Inv:=fun i tx=>tx=cT rows ak i) S eo ⋯ rfl (Sub.refl _) ?_ ?_ (fun _=>rfl)) ?_
 ·refine IX.of (EX.callT (NM.b S eo W.ran ⋯ ⋯) (LX.cons (EX.bin (p:=.int (ak.length:Int)) (EX.callB (NM.b S eo W.len ⋯ ⋯) (LX.cons (p:=.lst (ak.map .str)) ‹nm› LX.nil rfl) ?_ rfl rfl rfl) EX.cint O2.subI) (LX.cons (EX.neg EX.cint) (LX.cons (EX.neg EX.cint) LX.nil rfl) rfl) rfl) (CB.range3 ‹d› ?_) rfl rfl rfl) (It.rngD hA ?_ ?_)
  ·exact CB.lenM (A7 hw3 ‹d›)
  ·exact(lH ak.length (E1 hw3)).1
  ·exact(lH ak.length (E1 hw3)).2.1
  ·exact(lH ak.length (E1 hw3)).2.2
 ·intro Z2 S2 i tx j hi hj
  obtain⟨hlt,rfl⟩:i<ak.length/\i=j:=by
   obtain⟨h1,h2⟩:=A8.mp hj
   rw[List.getElem_range]at h2
   exact⟨by rwa [List.length_range]at h1,h2⟩
  subst hi
  refine⟨by show _=cT rows ak (i+1);unfold cT;rw[List.range_succ,List.foldl_append];rfl,?_⟩
  have o:=A9.mp ok1 i (Bj.mpr hlt)
  generalize hs:ak.length-1-i=s at o
  generalize htx:cT rows ak i=tx at o ⊢
  have e1:(ak.length:Int)-1+(i:Int)*(-1)=(s:Int):=by omega
  have hs1:s<ak.length:=by omega
  obtain⟨row,hrow⟩:∃ row,rows[s]? = some row:=⟨rows[s],Al ‹o›⟩
  obtain⟨st,hst⟩:∃ st,ak[s]? = some st:=⟨ak[s],Al hs1⟩
  have e2:oX rows ak tx i=stepT row st s tx:=by
   unfold oX
   rw[hs,List.getD_eq_getElem?_getD,hrow,List.getD_eq_getElem?_getD,hst];rfl
  rw[List.getD_eq_getElem?_getD,hrow,List.getD_eq_getElem?_getD,hst,Option.getD_some,Option.getD_some]at o
  rw[e1,e2]
  unfold stepOk at o
  simp only[Bool.and_eq_true,decide_eq_true_eq]at o
  obtain⟨⟨⟨⟨⟨⟨⟨p1,p2⟩,p3⟩,p4⟩,p5⟩,p6⟩,p7⟩,p8⟩:=o
  have ks:(s:Int)<2^63:=by omega
  refine⟨[("texts",aK (strKind aa w) (txD (stepT row st s tx))),("step",.int (s:Int)),("rows",.lst (rows.map .str)),("way",.lst (ak.map .str)),("size",.int (size:Int)),("word",.str ab),("cells",.lst [.int a,.int b,.int c])],?_,?_⟩
  ·refine SXs.cons (SX.assignT (EX.fn S2 eo (n:=1) (R.le ‹d›) W.fCh ⋯ ⋯ (LX.cons (EX.sub (p:=.lst (rows.map .str)) (q:=.int (s:Int)) ‹nm› ‹nm› (SB.item (p:=.str row) (Ch s) ks ?_ (fun _ _=>rfl))) (LX.cons (EX.sub (p:=.lst (ak.map .str)) (q:=.int (s:Int)) ‹nm› ‹nm› (SB.item (p:=.str st) (Ch s) ks ?_ (fun _ _=>rfl))) LX.nil rfl) rfl) (kW W.lim W.fCh W.ran p1 p2 p3) rfl rfl) (BD.tuple hA (BDs.cons S2 (eo.bds ⋯) (BDs.cons S2 (eo.bds ⋯) BDs.nil)) rfl rfl) rfl rfl rfl) ?_
   ·rw[Int.toNat_natCast,List.getElem?_map,hrow];rfl
   ·rw[Int.toNat_natCast,List.getElem?_map,hst];rfl
   refine SXs.cons (SX.set (p:=.str (ch (dS s))) S2 eo (EX.sub (p:=.str "abc") (q:=.int (s:Int)) EX.cstr ‹nm› (SB.str (c:=dS s) ?_ (zX s p5) (fun _ _=>rfl) (fun _ _=>rfl))) ⋯ ⋯) ?_
   ·simp only[Bool.or_eq_false_iff,decide_eq_false_iff_not];omega
   refine SXs.cons (SX.set (p:=aK (strKind aa w) (txD (q9 (chained row st).1 (chained row st).2 (dS s) tx))) S2 eo (EX.as (EX.dcomp (knd:=strKind aa w) (items:=tx) (φ:=fun a=>.str (ch a.1)) (key:=fun a=>ch a.1) (kp:=fun a=>.str (ch a.1)) (vp:=fun a=>.str (xP (chained row st).1 (chained row st).2 (dS s) a)) S2 eo ⋯ W.sm (IX.txt hA ‹nm›) ?_ ?_ ?_ (fun _ _=>rfl) (fun _=>rfl)) (Az (aK (strKind aa w)) (oA (key:=Prod.fst) tx []))) ⋯ (lV eo ⋯)) ?_
   ·intro p hp Z' env' hz S' eo'
    have h7:=A9.mp p7 p hp
    simp only[Bool.and_eq_true,decide_eq_true_eq,beq_iff_eq]at h7
    obtain⟨⟨⟨q1,q2⟩,q3⟩,q4⟩:=h7
    refine⟨by walk_at "nm",EX.bin (EX.bin (EX.bin (p:=.str (ch (dS s))) ‹nm› (EX.cmp (p:=.str (ch p.1)) (q:=.str (chained row st).2) ‹nm› ‹nm› O2.inS rfl) O2.mulSB) (EX.mc1 (p:=.str (ch (dS s))) ‹nm› (GMs.p GMs.join) (LX.cons (p:=.str p.2) (EX.sub (p:=aK (strKind aa w) (txD tx)) (q:=.str (ch p.1)) ‹nm› ‹nm› (SB.txt q1 fun _ _=>rfl)) LX.nil rfl) (CB.joinT hA q3) rfl rfl rfl) (O2.addS ?_))
     (EX.bin (p:=.str (ch (dS s))) ‹nm› (EX.cmp (p:=.str (ch p.1)) (q:=.str (chained row st).1) ‹nm› ‹nm› O2.notInS rfl) O2.mulSB) (O2.addS ?_)⟩
    ·exact A7 (Go (oB _ _) q4) ‹d›
    ·rw[d0];exact A7 (Go (Go (oB _ _) q4) (oB _ _)) ‹d›
   ·intro p _ Z h v r;cases r;exact G9 aa w _ _
   ·exact A7 p6 ‹d›
   refine SXs.next_forget (SXs.one (SX.set (p:=aK (strKind aa w) (txD (stepT row st s tx))) S2 eo (EX.as (EX.dcomp (knd:=strKind aa w) (items:=row.cps.toList) (φ:=fun c=>.str (ch c)) (key:=ch) (kp:=fun c=>.str (ch c)) (vp:=fun c=>.str (tN st (dS s) (q9 (chained row st).1 (chained row st).2 (dS s) tx) c)) S2 eo ⋯ W.sm (IX.str hA (EX.sub (p:=.lst (rows.map .str)) (q:=.int (s:Int)) ‹nm› ‹nm› (SB.item (p:=.str row) (Ch s) ks ?_ (fun _ _=>rfl)))) ?_ ?_ ?_ (fun _ _=>rfl) (fun _=>rfl)) (Az (aK (strKind aa w)) (oA (key:=id) row.cps.toList []))) ⋯ (lV eo ⋯))) ?_
   ·rw[Int.toNat_natCast,List.getElem?_map,hrow];rfl
   ·intro c hc Z' env' hz S' eo'
    refine⟨by walk_at "nm",EX.ifexp (c:=eH st (ch c)) (TX.cmp (p:=.str (ch c)) (q:=.str st) ‹nm› (EX.sub (p:=.lst (ak.map .str)) (q:=.int (s:Int)) ‹nm› ‹nm› (SB.item (p:=.str st) (Ch s) ks ?_ (fun _ _=>rfl))) O2.inS rfl) (fun h=>?_) fun h=>?_⟩
    ·rw[Int.toNat_natCast,List.getElem?_map,hst];rfl
    ·unfold tN;rw[if_pos h];walk_at "nm"
    ·have h8:=A9.mp p8 c hc
     rw[h,Bool.false_or]at h8
     obtain⟨v,hv⟩:=Ar.mp h8
     unfold tN
     rw[if_neg (by rw[h];decide),hv]
     exact EX.sub (p:=aK (strKind aa w) (txD (q9 (chained row st).1 (chained row st).2 (dS s) tx))) (q:=.str (ch c)) ‹nm› ‹nm› (SB.txt hv fun _ _=>rfl)
   ·intro p _ Z h v r;cases r;exact G9 aa w _ _
   ·rw[len_list];exact A7 p4 ‹d›
   ·exact Sub.cons Lk.here (Sub.skip ⋯ (Sub.skip ⋯ (Sub.skip ⋯ (Sub.skip ⋯ (Sub.skip ⋯ (Sub.cons Lk.here (Sub.skip ⋯ (Sub.skip ⋯ (Sub.refl _)))))))))
  ·exact Sub.cons Lk.here (Sub.skip ⋯ (Sub.skip ⋯ (Sub.refl _)))
 ·show SXs aa w A ⟨T,D,dH W,tk⟩ Z env [("texts",aK (strKind aa w) (txD (cT rows ak ak.length))),("rows",.lst (rows.map .str)),("way",.lst (ak.map .str)),("size",.int (size:Int)),("word",.str ab),("cells",.lst [.int a,.int b,.int c])] _ _
  exact SXs.forget (zB W S eo R hfr hf hwl hcut ok) (‹sub›)
end
section
def fK(rs:List Str)(st:Str):List Str:=rs++[aB (rs.getLast?.getD "") st]
def bX(cut:Str)(ak:List Str)(n:Nat):List Str:=(ak.take n).foldl fK [cut]
def qG(cut:Str)(ak:List Str):Bool:=(List.range ak.length).all fun i=>cZ ((bX cut ak i).getLast?.getD "") (ak.getD i "")
def eK(ab:Str):Nat:=match aZ ab with| .int i=>i.toNat|_=>0
def iQ(ab:Str)(n:Nat):Str:=jD ab none (some (n:Int))
def k8(ab:Str):List Str:=(aR 4 (iQ ab (eK ab))).getD []
def m3(ab:Str):List Str:=bX (iQ ab (eK ab)) (k8 ab) (k8 ab).length
def txW(ab:Str):Tx:=cT (m3 ab) (k8 ab) (k8 ab).length
def isInt:PV->Nat->Bool| .int i,n=>i==(n:Int)|_,_=>false
def jO(ab:Str):Bool :=
 ab.cps.toList.all (fun c=>c==102||c==105||c==108)&&decide (ab.length<=6)&&isInt (aZ ab) (eK ab)&&decide (eK ab<=6) &&
 f7 4 (iQ ab (eK ab))&&(aR 4 (iQ ab (eK ab))).isSome&&(!decide (eK ab<ab.length)||(f7 4 (iQ ab (eK ab+1))&&(aR 4 (iQ ab (eK ab+1))).isNone)) &&
 qG (iQ ab (eK ab)) (k8 ab)&&decide ((k8 ab).length<=(m3 ab).length)&&kH (m3 ab) (k8 ab)&&dO (txW ab) (iQ ab (eK ab)) (k8 ab).length
def law5:List Stmt:=by
 run_tac do
  let g <-Lean.Elab.Tactic.getMainGoal
  let e <-Lean.ofExceptKernelException (Lean.Kernel.whnf (<-Lean.getEnv) (<-Lean.getLCtx) (Lean.mkApp (Lean.mkConst ``tailOf) (Lean.mkRawNatLit 5)))
  g.assign e
end
section
variable{T:Heap}{D Z:ZP}{tk:Nat}
structure wK(W:LwK aa w T)(ab:Str)(c:Int):Prop where
 r:l8 W.S1 W.mM (dL ab c)=ab
 l:(dL ab c).length<=1000
 j:JoinOk ("" : Str) (((dL ab c).cps.toList.filter fun(c:Nat)=>!W.S1 c).map fun(c:Nat)=>jZ W.mM c)=true
theorem law_5(W:LwK aa w T)(S:FS T Z env)(eo:EO env lawS.names)(R:Rm 12 A)(hfr:A.frames=some [env])(hf:env.frame=some env.locals){a b c:Int}{ab:Str}(ok:jO ab=true)(rd:wK W ab c)(c0:0<=c)(c1:c<2^40) :
  SXs aa w A ⟨T,D,dH W,tk⟩ Z env [("word",.str ab),("cells",.lst [.int a,.int b,.int c])] law5 (.ret (dH W) (.bool true)):=by
 have hA:=R.hd
 have hu:A.units+16<cLine:=by have:=R.un;omega
 unfold jO at ok
 simp only[Bool.and_eq_true (_&&_) _,Bool.and_eq_true (ab.cps.toList.all _) _,decide_eq_true_eq]at ok
 obtain⟨⟨⟨⟨⟨⟨⟨⟨⟨⟨o1,o2⟩,o3⟩,o4⟩,o5⟩,o6⟩,o7⟩,o8⟩,o9⟩,o10⟩,o11⟩:=ok
 have hw:∀ c∈ab.cps.toList,c=102\/c=105\/c=108:=fun c hc=>by
  have:=A9.mp o1 c hc
  simp only[Bool.or_eq_true,beq_iff_eq]at this
  rcases this with(h|h)|h
  ·exact .inl h
  ·exact .inr (.inl h)
  ·exact .inr (.inr h)
 have e3:aZ ab=.int (eK ab:Int):=by
  generalize aZ ab=p at o3
  cases p <;> first|(rw[beq_iff_eq.mp o3])|cases o3
 obtain⟨ak,hway⟩:=Ar.mp o6
 have ew:k8 ab=ak:=by unfold k8;rw[hway];rfl
 rw[ew]at o8 o9 o10 o11
 unfold txW m3 at o11 
 unfold m3 at o9 o10
 rw[ew]at o9 o10 o11
 generalize hs:eK ab=size at *
 generalize hc:iQ ab size=cut at *
 unfold law5
 refine SXs.cons (SX.set (p:=.int (size:Int)) S eo (e3▸EX.fn (n:=1) S eo (R.le ‹d›) W.fSd ⋯ ⋯ (LX.cons (p:=.str ab) ‹nm› LX.nil rfl) (tW W.lim W.fSd W.ran W.len W.enu hw o2) rfl rfl) ⋯ ⋯) ?_
 have cutE:∀{ρ:List (Str×PV)} {H:Ctx} {e v:Expr} {p pos:Pos} {n:Nat},EX aa w A H Z env ρ v (.str ab)->EX aa w A H Z env ρ e (.int (n:Int))->EX aa w A H Z env ρ (.Subscript v (.Slice none (some e) none p) pos) (.str (iQ ab n)):=fun h1 h2=>EX.slice h1 PX.none (PX.some h2) (SLC.str (A7 o2 ‹d›))
 have wy:∀{x:Str},f7 4 x=true->FN aa w T (.ref W.aWy) 11 [.str x] (rX (aR 4 x)):=fun{x} h=>zC W.lim W.nb W.fWy W.fCh W.fSk W.fRe W.ran W.len W.lst W.str W.int 4 x h
 refine SXs.cons (SX.set (p:=.lst (ak.map .str)) S eo (EX.as (EX.fn (n:=11) S eo (R.le ‹d›) W.fWy ⋯ ⋯ (LX.cons (p:=.str cut) (EX.as (cutE ‹nm› ‹nm›) (Az PV.str hc)) LX.nil rfl) (wy o5) rfl rfl) (by rw[hway];rfl)) ⋯ ⋯) ?_
 refine SXs.cons (SX.ite (b:=false) (TX.all (AT.consOr (b:=false) (TX.as (TX.cmp (p:=.str ab) (q:=.str ab) (EX.as (EX.fn (n:=2) S eo (R.le ‹d›) W.fRd ⋯ ⋯ (LX.cons (EX.fn (n:=1) S eo (R.le ‹d›) W.fTy ⋯ ⋯ (LX.cons (p:=.str ab) ‹nm› (LX.cons (EX.sub (p:=.lst [.int a,.int b,.int c]) ‹nm› EX.cint (SB.item (p:=.int c) ‹d› ‹d› rfl (fun _ _=>rfl))) LX.nil rfl) rfl) (vN W.lim W.nb W.fTy W.ord W.chr W.lst W.ran W.enu hw o2 c0 c1) rfl rfl) LX.nil rfl)
   (w6 W.lim W.fRd W.fI1 W.fM3 W.ord W.zip W.gS W.hS W.gM W.hM rd.l rd.j) rfl rfl) (Az PV.str rd.r)) ‹nm› O2.neS rfl) (bne_self_eq_false _)) fun _=>AT.oneOr (TX.cmp (p:=.lst (ak.map .str)) ‹nm› EX.cnone (O2.isNone rfl) rfl))) (fun h=>by cases h) fun _=>SXs.nil) ?_
 refine SXs.cons (SX.ite (b:=false) (TX.as (TX.all (AT.consAnd (b:=decide ((size:Int)<(ab.length:Int))) (c:=false) (TX.cmp (p:=.int (size:Int)) (q:=.int (ab.length:Int)) ‹nm› (EX.callB (NM.b S eo W.len ⋯ ⋯) (LX.cons (p:=.str ab) ‹nm› LX.nil rfl) (CB.lenS ‹o›) rfl rfl rfl) O2.ltI rfl) fun h=>?_)) (Bool.and_false _)) (fun h=>by cases h) fun _=>SXs.nil) ?_
 ·rw[decide_eq_true (show size<ab.length from by have:=of_decide_eq_true h;omega),Bool.not_true,Bool.false_or]at o7
  obtain⟨q1,q2⟩:=A6.mp o7
  have q3:aR 4 (iQ ab (size+1))=none:=Dc.mp q2
  exact AT.oneAnd (TX.cmp (p:=.none) (EX.as (EX.fn (n:=11) S eo (R.le ‹d›) W.fWy ⋯ ⋯ (LX.cons (p:=.str (iQ ab (size+1))) (cutE ‹nm› (EX.bin (p:=.int (size:Int)) ‹nm› EX.cint O2.addI)) LX.nil rfl) (wy q1) rfl rfl) (by rw[q3];rfl)) EX.cnone (O2.isNotNone (b:=true) rfl) rfl)
 refine SXs.grow (l:=[.str cut]) (l':=(bX cut ak ak.length).map .str) (ρ':=[("way",.lst (ak.map .str)),("size",.int (size:Int)),("word",.str ab),("cells",.lst [.int a,.int b,.int c])]) S eo ⋯ (EXn.list (LX.cons (EX.as (cutE ‹nm› ‹nm›) (Az PV.str hc)) LX.nil rfl) (by show 1<=sizeLine;decide)) (fun g S'=>?_) (zV W S eo (R.le ‹d›) hfr hf o2 hc o9 o10 o11)
 refine SX.out (SX.foldG1 (φ:=PV.str) (items:=ak) (h:=fK) (g:=fun rs=>(g,cH (rs.map PV.str))::dH W) (f:=fun _=>[("rows",.raw (.ref g)),("way",.lst (ak.map .str)),("size",.int (size:Int)),("word",.str ab),("cells",.lst [.int a,.int b,.int c])]) (st₀:=[cut]) (Inv:=fun i rs=>rs=bX cut ak i/\rs.length=i+1) S' eo ⋯ rfl ⟨rfl,rfl⟩ (Sub.refl _) (IX.lst hA ‹nm›) ?_ (fun _=>rfl)) (by unfold bX;rw[List.take_length])
 intro Z2 S2 i rs st hi hst
 obtain⟨rfl,hl⟩:=hi
 have hlt:=(A8.mp hst).1
 have h7:ak.length<=100:=by
  unfold dO at o11
  simp only[Bool.and_eq_true,decide_eq_true_eq]at o11
  omega
 have ok:=A9.mp o8 i (Bj.mpr hlt)
 rw[List.getD_eq_getElem?_getD,hst,Option.getD_some]at ok
 refine⟨⟨?_,?_⟩,_,SXs.one (SX.out (SX.expr (EXd.append (g:=g) (l:=(bX cut ak i).map PV.str) (L:=dH W) (p:=.str (aB ((bX cut ak i).getLast?.getD "") st)) S2 rfl ‹nm› (EX.fn (n:=6) S2 eo (R.le ‹d›) W.fSk ⋯ ⋯ (LX.cons (p:=.str ((bX cut ak i).getLast?.getD "")) (EX.sub (p:=.raw (.ref g)) (q:=.int (-1)) ‹nm› (EX.neg EX.cint) (SB.lastL (l:=(bX cut ak i).map PV.str) ?_ ?_ ?_ (fun _ _=>rfl))) (LX.cons (p:=.str st) ‹nm› LX.nil rfl) rfl) (nH W.lim W.nb W.fSk W.fRe W.len W.lst W.str W.int ok) rfl rfl) ?_ rfl rfl rfl rfl) (by unfold interactive;rw[S2.fn];rfl) rfl) (by unfold fK;rw[List.map_append];rfl)),?_⟩
 ·unfold bX;rw[List.take_add_one,List.foldl_append,hst];rfl
 ·unfold fK;rw[List.length_append,hl];rfl
 ·show List.lookup g ((g,_)::_)=_;rw[List.lookup_cons];simp
 ·rw[List.getLast?_map]
  cases e:(bX cut ak i).getLast? with
  |none=>rw[List.getLast?_eq_none_iff]at e;rw[e]at hl;cases hl
  |some x=>rfl
 ·rw[List.length_map,hl];omega
 ·rw[List.length_map,hl];exact A7 (show i+1<=1000 by omega) ‹d›
 ·exact Sub.skip ⋯ (Sub.refl _)
end
section
def c9(st:List Int)(a:Int×Nat):List Int:=st.set (a.2%3) (st.getD (a.2%3) 0+a.1.fmod 1000000)
def bW(m:Nat):Nat:=match m with|0=>102|1=>105|_=>108
def gK(ms:List Nat):Str:=⟨(ms.map bW).toArray⟩
def mT(a:Int)(i:Nat):Nat:=(([1,2,1,2,0]:List Nat)[(((a.fdiv 3).fdiv (5^i)).fmod 5).toNat]?).getD 0
def eX(a:Int)(st:List Nat×Nat)(i:Nat):List Nat×Nat:=(st.1++[st.2],(st.2+mT a i)%3)
end
theorem wG{α β:Type}(f:α->β)(l:List α)(lo hi:Option Int):i0 (l.map f) lo hi=(i0 l lo hi).map f:=by
 unfold i0
 rw[List.length_map,List.map_filterMap]
 congr 1
 funext i
 rw[List.getElem?_map]
theorem zY:∀ s:Nat,s<3->(seqIndex? (s:Int) ("fil" : Str).length).bind (("fil" : Str).cps[·]?)=some (bW s):=by decide +kernel
theorem qP{number:Int}{i:Nat}(h:i<6):Builtin.divisionGoesByPylong number (5^i)=false:=by
 rcases i with _|_|_|_|_|_|i <;> first|omega|kernel_rfl
theorem cut60:∀ n:Nat,n<64->(sliceRange (sliceBounds none (some 60) none n).1 (sliceBounds none (some 60) none n).2.1 (sliceBounds none (some 60) none n).2.2).length<=63:=by decide +kernel
theorem rR{k:Nat}{st:List Int}{a:Int×Nat}(h:st.length=3/\∀ x∈st,0<=x/\x<=9375+1000000*(k:Int)):(c9 st a).length=3/\∀ x∈c9 st a,0<=x/\x<=9375+1000000*((k+1:Nat):Int):=by
 have hn:a.2%3<st.length:=by rw[h.1];exact Ga _ ‹d›
 have gd:st.getD (a.2%3) 0=st[a.2%3]:=by rw[List.getD_eq_getElem?_getD,List.getElem?_eq_getElem hn];rfl
 have m1:=Bz a.1 (b:=1000000) ‹d›
 have m2:=Bw a.1 (b:=1000000) ‹d›
 refine⟨by unfold c9;rw[List.length_set];exact h.1,fun y hy=>?_⟩
 rcases List.mem_or_eq_of_mem_set hy with q|rfl
 ·have:=h.2 y q;omega
 ·have:=h.2 _ (Co hn)
  rw[gd];omega
section
variable{T:Heap}{D Z:ZP}{tk:Nat}
theorem SX.outL{H:Ctx}{ρ ρ':List (Str×PV)}{st:Stmt}{L L':Led}(h:SX aa w A H Z env ρ st (.next L ρ'))(e:L=L'):SX aa w A H Z env ρ st (.next L' ρ'):=e▸h
theorem law_0(W:LwK aa w T)(S:FS T Z env)(eo:EO env lawS.names)(R:Rm 12 A)(hfr:A.frames=some [env])(hf:env.frame=some env.locals){ns:List Int}(hns:ns.length<64)(hw:∀ ms:List Nat,4<=ms.length->ms.length<=6->(∀ m∈ms,m<3)->jO (gK ms)=true/\∀ c:Int,0<=c->c<2^40->wK W (gK ms) c) :
  SXs aa w A ⟨T,D,dH W,tk⟩ Z env [("script",.lst (ns.map .int))] lawB (.ret (dH W) (.bool true)):=by
 have hA:=R.hd
 have hl63:(i0 ns none (some 60)).length<=63:=A7 (Fj _ _) (cut60 ns.length hns)
 generalize hm:i0 ns none (some 60)=xs at hl63
 unfold lawB
 refine SXs.growG (m:=kE [.int 9375,.int 2,.int 4576]) (m':=kE ((xs.zipIdx.foldl c9 [9375,2,4576]).map .int)) (p:=.lst ((xs.zipIdx.foldl c9 [9375,2,4576]).map .int)) (ρ':=[("script",.lst (ns.map .int))]) S eo ⋯ W.sm (EXn.ls (EXn.list (LX.ints (is:=[9375,2,4576]) ⋯) (by show 3<=sizeLine;decide))) (fun g S'=>?_) tO ?_
 ·refine SX.foldG2 (φ:=fun a:Int×Nat=>.int (a.2:Int)) (ψ:=fun a=>.int a.1) (items:=xs.zipIdx) (h:=c9) (g:=fun st=>(g,kE (st.map PV.int))::dH W) (f:=fun _=>[("cells",.raw (.ref g)),("script",.lst (ns.map .int))]) (st₀:=[9375,2,4576])
   (Inv:=fun i st=>st.length=3/\∀ x∈st,0<=x/\x<=9375+1000000*i) hA S' eo ⋯ ⋯ rfl ⟨rfl,by intro x hx;simp at hx;omega⟩ (Sub.refl _) ?_ ?_ (fun _=>rfl)
  ·show IX aa w A ⟨T,fun a=>D a\/a=g,(g,kE [.int 9375,.int 2,.int 4576])::dH W,tk⟩ (aX Z g) env _ _ _ _
   refine IX.as (IX.enumL (l:=xs.map PV.int) hA (NM.b S' eo W.enu ⋯ ⋯) (EX.as (EX.slice (x:=.lst (ns.map .int)) ‹nm› PX.none (PX.some EX.cint) (SLC.list ?_)) (by rw[wG,hm])) rfl rfl) ?_
   ·rw[List.length_map];exact A7 (Dw hns) ‹d›
   ·rw[List.zipIdx_map,List.map_map];rfl
  ·intro Z2 S2 i st p hi hp
   obtain⟨x,j⟩:=p
   rw[List.getElem?_zipIdx]at hp
   obtain⟨x',hx',e⟩:=Bb.mp hp
   obtain⟨rfl,rfl⟩:x'=x/\i=j:=by simpa using e
   have hj:i<63:=Bh (A8.mp hx').1 hl63
   have hn:i%3<st.length:=by rw[hi.1];exact Ga _ ‹d›
   have gd:st.getD (i%3) 0=st[i%3]:=by rw[List.getD_eq_getElem?_getD,List.getElem?_eq_getElem hn];rfl
   refine⟨rR (a:=(x',i)) hi,_,SXs.one (SX.outL (SX.augL (g:=g) (l:=st.map PV.int) (n:=i%3) (L:=dH W) (p:=.int (st.getD (i%3) 0)) (r:=.int (st.getD (i%3) 0+x'.fmod 1000000)) S2 rfl ‹nm› (EX.as (EX.bin (p:=.int (i:Int)) ‹nm› EX.cint (O2.modI ‹d›)) ?_) ?_ (EX.bin (p:=.int x') ‹nm› EX.cint (O2.modI ‹d›)) O2.iaddI ?_) ?_),Sub.skip ⋯ (Sub.skip ⋯ (Sub.refl _))⟩
   ·rw[Int.fmod_eq_emod_of_nonneg _ ‹d›];rfl
   ·rw[List.getElem?_map,List.getElem?_eq_getElem hn,gd];rfl
   ·have:=Ga i (show 3>0 by decide);omega
   ·unfold c9;rw[List.map_set]
 have hc:∀(l:List (Int×Nat)) (st:List Int) (k:Nat),(st.length=3/\∀ x∈st,0<=x/\x<=9375+1000000*(k:Int))->(l.foldl c9 st).length=3/\∀ x∈l.foldl c9 st,0<=x/\x<=9375+1000000*((k+l.length:Nat):Int):=by
  intro l
  induction l with
  |nil=>exact fun _ _ h=>h
  |cons a l ih =>
   intro st k h
   have:=ih (c9 st a) (k+1) (rR h)
   rw[List.length_cons,show k+(l.length+1)=k+1+l.length by omega]
   exact this
 obtain⟨h3,hb⟩:=hc xs.zipIdx [9375,2,4576] 0 ⟨rfl,by intro x hx;simp at hx;omega⟩
 generalize xs.zipIdx.foldl c9 [9375,2,4576]=cs at h3 hb
 rw[List.length_zipIdx]at hb
 obtain⟨a,b,c,rfl⟩:∃ a b c,cs=[a,b,c]:=by
  match cs,h3 with
  |[a,b,c],_=>exact⟨a,b,c,rfl⟩
 have a0:=hb a ‹s›
 have b0:=hb b ‹s›
 have c0:=hb c ‹s›
 have b1:=Bz b (b:=3) ‹d›
 have b2:=Bw b (b:=3) ‹d›
 have a1:=Bz a (b:=3) ‹d›
 have a2:=Bw a (b:=3) ‹d›
 obtain⟨n,hn⟩:∃ n:Nat,4+b.fmod 3=(n:Int):=⟨(4+b.fmod 3).toNat,by omega⟩
 show SXs aa w A ⟨T,D,dH W,tk⟩ Z env [("cells",.lst [.int a,.int b,.int c]),("script",.lst (ns.map .int))] _ _
 refine SXs.cons (SX.set S eo EX.cstr ⋯ ⋯) ?_
 refine SXs.cons (SX.set (p:=.int (a.fmod 3)) S eo (EX.bin (EX.sub (p:=.lst [.int a,.int b,.int c]) ‹nm› EX.cint (SB.item (p:=.int a) ‹d› ‹d› rfl (fun _ _=>rfl))) EX.cint (O2.modI ‹d›)) ⋯ ⋯) ?_
 refine SXs.cons (SX.for1 (φ:=fun(i:Nat)=>.int (0+(i:Int))) (items:=List.range n) (h:=eX a) (f:=fun st=>[("mark",.int (st.2:Int)),("word",.str (gK st.1)),("cells",.lst [.int a,.int b,.int c])]) (st₀:=([],(a.fmod 3).toNat)) (Inv:=fun i st=>st.1.length=i/\(∀ m∈st.1,m<3)/\st.2<3) S eo ⋯ ⟨rfl,(fun m hm=>by cases hm),by show(a.fmod 3).toNat<3;omega⟩ ?_ (IX.rng n ‹o› hA (EX.callT (NM.b S eo W.ran ⋯ ⋯) (LX.cons (p:=.int (n:Int)) (hn▸EX.bin EX.cint (EX.bin (EX.sub (p:=.lst [.int a,.int b,.int c]) ‹nm› EX.cint (SB.item (p:=.int b) ‹d› ‹d› rfl (fun _ _=>rfl))) EX.cint (O2.modI ‹d›)) O2.addI) LX.nil rfl) CB.range1 rfl rfl rfl) ?_) ?_ (fun _=>rfl)) ?_
 ·exact Sub.cons (by show Lk _ _ (.int (((a.fmod 3).toNat:Nat):Int));rw[Int.toNat_of_nonneg a1];walk_at "lk") (Sub.cons (by show Lk _ _ (.str "");walk_at "lk") (‹sub›))
 ·have:∀ n:Nat,n<8->Builtin.Range.small 0 (n:Int) 1=true:=by decide +kernel
  exact this n ‹o›
 ·intro Z2 S2 i st j hi hj
  obtain⟨h1,h2,h3'⟩:=hi
  obtain⟨hlt,rfl⟩:i<n/\i=j:=by
   obtain⟨h1,h2⟩:=A8.mp hj
   rw[List.getElem_range]at h2
   exact⟨by rwa [List.length_range]at h1,h2⟩
  have hi6:i<6:=by omega
  have s3:mT a i<3:=by
   unfold mT
   have:=Bw ((a.fdiv 3).fdiv (5^i)) (b:=5) ‹d›
   have h5:((((a.fdiv 3).fdiv (5^i)).fmod 5).toNat)<5:=by omega
   generalize(((a.fdiv 3).fdiv (5^i)).fmod 5).toNat=q at h5
   have:∀ q,q<5->(([1,2,1,2,0]:List Nat)[q]?).getD 0<3:=by decide
   exact this q h5
  refine⟨⟨by unfold eX;rw[List.length_append,h1];rfl,fun m hm=>?_,Ga _ ‹d›⟩,_,SXs.cons (SX.set (p:=.str (gK (st.1++[st.2]))) S2 eo (EX.as (EX.bin (p:=.str (gK st.1)) ‹nm› (EX.sub (p:=.str "fil") (q:=.int (st.2:Int)) EX.cstr ‹nm› (SB.str (c:=bW st.2) ?_ ?_ (fun _ _=>rfl) (fun _ _=>rfl))) (O2.addS ?_)) ?_) ⋯ ⋯)
   (SXs.one (SX.set (p:=.int (((st.2+mT a i)%3:Nat):Int)) S2 eo (EX.as (EX.bin (EX.bin (p:=.int (st.2:Int)) ‹nm› (EX.sub (EX.ints (is:=[1,2,1,2,0]) ⋯ (by show 5<=sizeLine;decide)) (EX.bin (EX.bin (EX.bin (EX.sub (p:=.lst [.int a,.int b,.int c]) ‹nm› EX.cint (SB.item (p:=.int a) ‹d› ‹d› rfl (fun _ _=>rfl))) EX.cint (O2.fdivI ‹d› ?_)) (EX.bin EX.cint (q:=.int (0+(i:Int))) ‹nm› (O2.powI ?_ ?_ ?_)) (O2.fdivI ?_ ?_)) EX.cint (O2.modI ‹d›)) (SB.item (p:=.int (mT a i:Int)) ?_ ?_ ?_ (fun _ _=>rfl))) O2.addI) EX.cint (O2.modI ‹d›)) ?_) ⋯ ⋯)),?_⟩
  ·have hm':m∈st.1++[st.2]:=hm
   rcases Cl.mp hm' with q|q
   ·exact h2 m q
   ·rw[List.mem_singleton.mp q];exact h3'
  ·simp only[Bool.or_eq_false_iff,decide_eq_false_iff_not];omega
  ·exact zY st.2 h3'
  ·have:(gK st.1).length=i:=by show(st.1.map bW).toArray.size=i;rw[List.size_toArray,List.length_map,h1]
   rw[this];exact A7 (show i+1<=1000 by omega) ‹d›
  ·unfold gK
   rw[List.map_append]
   exact Az (fun y=>PV.str ⟨y⟩) (show(st.1.map bW).toArray++#[bW st.2]=_ by simp)
  ·kernel_rfl
  ·omega
  ·omega
  ·decide
  ·rw[Int.zero_add,Int.toNat_natCast];exact Int.ne_of_gt (Int.pow_pos ‹d›)
  ·rw[Int.zero_add,Int.toNat_natCast];exact qP hi6
  ·rw[Int.zero_add,Int.toNat_natCast];exact Bz _ ‹d›
  ·rw[Int.zero_add,Int.toNat_natCast]
   have:=Bw ((a.fdiv 3).fdiv (5^i)) (b:=5) ‹d›;omega
  ·rw[Int.zero_add,Int.toNat_natCast]
   have e1:=Bw ((a.fdiv 3).fdiv (5^i)) (b:=5) ‹d›
   have h5:((((a.fdiv 3).fdiv (5^i)).fmod 5).toNat)<5:=by omega
   unfold mT
   generalize(((a.fdiv 3).fdiv (5^i)).fmod 5).toNat=q at h5
   rw[List.getElem?_map]
   have:∀ q,q<5->([1,2,1,2,0]:List Int)[q]? = some (((([1,2,1,2,0]:List Nat)[q]?).getD 0:Nat):Int):=by decide
   rw[this q h5];rfl
  ·rw[Int.fmod_eq_emod_of_nonneg _ ‹d›];rfl
  ·exact Sub.cons Lk.here (Sub.cons (by show Lk _ _ (.str (gK (st.1++[st.2])));walk_at "lk") (‹sub›))
 ·have hfin:∀(l:List Nat) (st:List Nat×Nat),(∀ m∈st.1,m<3)->st.2<3->(∀ m∈(l.foldl (eX a) st).1,m<3)/\(l.foldl (eX a) st).1.length=st.1.length+l.length:=by
   intro l
   induction l with
   |nil=>exact fun st h _=>⟨h,rfl⟩
   |cons x l ih =>
    intro st h h'
    obtain⟨i1,i2⟩:=ih (eX a st x) (fun m hm=>by
     have hm':m∈st.1++[st.2]:=hm
     rcases Cl.mp hm' with q|q
     ·exact h m q
     ·rw[List.mem_singleton.mp q];exact h') (Ga _ ‹d›)
    refine⟨i1,?_⟩
    rw[List.foldl_cons,i2]
    show(st.1++[st.2]).length+l.length=st.1.length+(l.length+1)
    rw[List.length_append];simp only[List.length_cons,List.length_nil];omega
  obtain⟨f1,f2⟩:=hfin (List.range n) ([],(a.fmod 3).toNat) (fun m hm=>by cases hm) (by show(a.fmod 3).toNat<3;omega)
  rw[List.length_range]at f2
  have f2:((List.range n).foldl (eX a) ([],(a.fmod 3).toNat)).1.length=n:=by rw[f2];exact Nat.zero_add n
  obtain⟨w1,w2⟩:=hw _ (by rw[f2];omega) (by rw[f2];omega) f1
  have c1:c<2^40:=by omega
  exact SXs.forget (law_5 W S eo R hfr hf w1 (w2 c c0.1 c1) c0.1 c1) (Sub.skip ⋯ (Sub.refl _))
end
section
def y5:Obj:={cls:=.none,data:=.freed}
def oC(h:Heap)(p q:Addr):Heap:={h with objs:=(h.objs.setIfInBounds p y5).setIfInBounds q y5}
theorem oZ{h:Heap}{p b:Addr}{o:Obj}(e:({h with objs:=h.objs.setIfInBounds p y5}:Heap).get? b=some o):h.get? b=some o/\b≠p:=by
 unfold Heap.get? at e ⊢
 rw[Array.getElem?_setIfInBounds]at e
 by_cases q:p=b
 ·rw[if_pos q]at e
  by_cases l:p<h.objs.size
  ·rw[if_pos l]at e;cases e
  ·rw[if_neg l]at e;cases e
 ·rw[if_neg q]at e
  exact⟨e,fun z=>q z.symm⟩
theorem gO{h:Heap}{p q b:Addr}{o:Obj}(e:(oC h p q).get? b=some o):h.get? b=some o/\b≠p/\b≠q:=by
 obtain⟨e1,n1⟩:=oZ (h:={h with objs:=h.objs.setIfInBounds p y5}) e
 obtain⟨e2,n2⟩:=oZ e1
 exact⟨e2,n2,n1⟩
theorem j7{h:Heap}{p q b:Addr}(z:b=p\/b=q):(oC h p q).get? b=none:=by
 cases e:(oC h p q).get? b with
 |none=>rfl
 |some o=>obtain⟨_,n1,n2⟩:=gO e;rcases z with z|z <;> contradiction
def lR(h:Heap):Frag:=h.objs.toList.zipIdx.filterMap fun x=>match x.1 with|⟨_,_,.freed,_⟩=>none|o=>some (x.2,o)
theorem j6:∀(l:List Obj) (i a:Nat) (o:Obj),((l.zipIdx i).filterMap fun x=>match x.1 with|⟨_,_,.freed,_⟩=>none|o=>some (x.2,o)).lookup a=some o->i<=a/\l[a-i]? = some o/\∀ c d s,o≠⟨c,d,.freed,s⟩
 |[],i,a,o,h=>by cases h
 |x::l,i,a,o,h=>by
  rw[List.zipIdx_cons,List.filterMap_cons]at h
  split at h
  ·obtain⟨h1,h2,h3⟩:=j6 l (i+1) a o h
   refine⟨by omega,?_,h3⟩
   rw[show a-i=(a-(i+1))+1 by omega,List.getElem?_cons_succ];exact h2
  ·rename_i y hy
   split at hy
   ·cases hy
   ·rename_i n
    cases hy
    rw[List.lookup_cons]at h
    split at h
    ·rename_i q
     cases h
     have q:=Ai.mp q
     refine⟨by omega,by rw[q,Nat.sub_self];rfl,fun c d s e=>n c d s e⟩
    ·obtain⟨h1,h2,h3⟩:=j6 l (i+1) a o h
     refine⟨by omega,?_,h3⟩
     rw[show a-i=(a-(i+1))+1 by omega,List.getElem?_cons_succ];exact h2
theorem aO(h:Heap):(lR h).In h:=by
 intro a o e
 obtain⟨_,h2,h3⟩:=j6 h.objs.toList 0 a o e
 unfold Heap.get?
 rw[<-Array.getElem?_toList,show h.objs.toList[a]? = some o from h2]
 split
 ·rename_i e;exact absurd (Bk e) (h3 _ _ _)
 ·rfl
def bH(h:Heap)(a:Addr):Obj:=(h.get? a).getD default
def iL(h:Heap)(a:Addr):Array DictEntry:=match(bH h a).data with| .dict es _=>es|_=>#[]
def bZ(h:Heap)(a:Addr):FuncData:=match(bH h a).data with| .func fd=>fd|_=>default
theorem cJ{h:Heap}{a:Addr}(b:(h.get? a).isSome=true):h.get? a=some (bH h a):=by
 unfold bH
 cases e:h.get? a with
 |none=>rw[e]at b;cases b
 |some o=>rfl
def rH:Value->Bool| .str _ _=>true|_=>false
def nsB(h:Heap)(a:Addr):Bool:=(h.get? a).isSome&&(match(bH h a).data with| .dict es _=>es.toList.all fun e=>rH e.key|_=>false)
theorem v3{h:Heap}{a:Addr}(b:nsB h a=true):h.Ns a (nsFind (iL h a)):=by
 obtain⟨b1,b2⟩:=A6.mp b
 unfold iL
 split at b2
 ·rename_i es n e'
  refine⟨_,es,n,cJ b1,e',fun e he=>?_,fun _=>rfl⟩
  have:=A9.mp b2 e (Ee.mpr he)
  cases hk:e.key <;> rw[hk]at this <;> first|exact⟨_,_,rfl⟩|cases this
 ·cases b2
def v5(h:Heap)(fd:FuncData):Bool:=match fd.code with
 | .ref c=>(h.get? c).isSome&&(match(bH h c).data with| .fields vs=>(match(vs[1]?:Option Value)with|some (Value.str q _)=>q==fd.qualname|_=>false)|_=>false)
 |_=>false
theorem xB{h:Heap}{fd:FuncData}(b:v5 h fd=true):h.CodeRec fd.code fd.qualname:=by
 unfold v5 at b
 split at b
 ·rename_i c e
  obtain⟨b1,b2⟩:=A6.mp b
  split at b2
  ·rename_i vs ev
   split at b2
   ·rename_i q t et
    exact⟨c,_,vs,t,e,cJ b1,ev,by rw[et,beq_iff_eq.mp b2]⟩
   ·cases b2
  ·cases b2
 ·cases b
def fnB(h:Heap)(a:Addr)(g:Bool)(names:List Str):Bool :=
 (h.get? a).isSome&&(match(bH h a).data with| .func _=>true|_=>false)&&v5 h (bZ h a)&&decide ((bZ h a).globals=mainGlobals)&&decide ((bZ h a).builtins=builtinsNs) &&
 names.eraseDups==names&&(names.all fun x=>(bZ h a).scope.names.lookup x==some .local) && !(bZ h a).scope.isCoroutine&&((bZ h a).scope.isGenerator==g)
theorem mI{h:Heap}{a:Addr}{g:Bool}{names:List Str}(b:fnB h a g names=true):(∃ o,h.get? a=some o/\o.data=.func (bZ h a))/\h.CodeRec (bZ h a).code (bZ h a).qualname/\(bZ h a).globals=mainGlobals/\(bZ h a).builtins=builtinsNs /\
  (∀ x∈names,(bZ h a).scope.names.lookup x=some .local)/\(bZ h a).scope.isCoroutine=false/\(bZ h a).scope.isGenerator=g:=by
 unfold fnB at b
 simp only[Bool.and_eq_true (_&&_) _,Bool.and_eq_true (Option.isSome _) _,decide_eq_true_eq,beq_iff_eq]at b
 obtain⟨⟨⟨⟨⟨⟨⟨⟨b1,b2⟩,b3⟩,b4⟩,b5⟩,b6⟩,b7⟩,b8⟩,b9⟩:=b
 refine⟨⟨_,cJ b1,?_⟩,xB b3,b4,b5,fun x hx=>Ai.mp (A9.mp b7 x hx),by simpa using b8,b9⟩
 unfold bZ
 split at b2
 ·rename_i fd e;rw[e]
 ·cases b2
end
section
open Lean Meta Elab Tactic
def placesT(t:Int->Bool)(l:List DictEntry):Nat->List Nat :=
 @List.rec DictEntry (fun _=>Nat->List Nat) (fun _=>[]) (fun e _ ih i=>@Bool.rec (fun _=>List Nat) (ih (Nat.succ i)) (i::ih (Nat.succ i)) (t e.hash)) l
theorem placesT_from{h:Int}{t:Int->Bool}(ht:∀ x,t x=true↔x=h)(f:Nat->Option Int):∀(l:List DictEntry) (i:Nat),(∀ j,f (i+j)=l[j]?.map (·.hash))->PySem.Fast.placesFrom f h l.length i=placesT t l i
 |[],_,_=>rfl
 |e::l,i,hf=>by
  have ih:=placesT_from ht f l (i+1) fun j=>by
   have:=hf (j+1)
   rw[List.getElem?_cons_succ]at this
   rw[<-this];congr 1;omega
  have h0:f i=some e.hash:=by simpa using hf 0
  show(if f i==some h then i::PySem.Fast.placesFrom f h l.length (i+1)else PySem.Fast.placesFrom f h l.length (i+1)) = @Bool.rec (fun _=>List Nat) (placesT t l (i+1)) (i::placesT t l (i+1)) (t e.hash)
  rw[h0,ih]
  cases q:t e.hash with
  |true =>
   have:=(ht _).mp q
   subst this
   simp
  |false =>
   have:e.hash≠h:=fun w=>by rw[(ht _).mpr w]at q;cases q
   simp[this]
def placesL(h:Int)(l:List DictEntry):Nat->List Nat :=
 @Int.rec (fun _=>Nat->List Nat) (fun m=>placesT (fun x=>@Int.rec (fun _=>Bool) (fun a=>Nat.beq a m) (fun _=>false) x) l) (fun m=>placesT (fun x=>@Int.rec (fun _=>Bool) (fun _=>false) (fun a=>Nat.beq a m) x) l) h
theorem placesL_from(h:Int)(f:Nat->Option Int)(l:List DictEntry)(i:Nat)(hf:∀ j,f (i+j)=l[j]?.map (·.hash)):PySem.Fast.placesFrom f h l.length i=placesL h l i:=by
 cases h with
 |ofNat m=>exact placesT_from (fun x=>by cases x with
  |ofNat a=>exact⟨fun q=>congrArg Int.ofNat (Nat.eq_of_beq_eq_true q),fun q=>by cases q;exact Nat.beq_refl _⟩
  |negSucc a=>exact⟨fun q=>(by cases q),fun q=>(by cases q)⟩) f l i hf
 |negSucc m=>exact placesT_from (fun x=>by cases x with
  |ofNat a=>exact⟨fun q=>(by cases q),fun q=>(by cases q)⟩
  |negSucc a=>exact⟨fun q=>congrArg Int.negSucc (Nat.eq_of_beq_eq_true q),fun q=>by cases q;exact Nat.beq_refl _⟩) f l i hf
theorem placesL_eq(es:Array DictEntry)(h:Int):placesWithHash es.size (fun i=>es[i]?.map (·.hash)) h=placesL h es.toList 0:=by
 rw[PySem.Fast.places_eq,<-placesL_from h (fun i=>es[i]?.map (·.hash)) es.toList 0 fun j=>by simp]
 rw[Array.length_toList]
noncomputable def dfPack:{f:Addr->Value->Int->Sem (Option Nat) // @dictFind=f}:=by
 refine⟨?f,?h⟩
 case h =>
  delta dictFind
  conv =>
   lhs
   simp only[placesL_eq]
def firstOf(c:Name):TacticM Unit:=do
 let some (.defnInfo d):=(<-getEnv).find? c|throwError "x"
 let v:=d.value.consumeMData
 unless v.isAppOfArity ``Subtype.mk 4 do throwError "x"
 (<-getMainGoal).assign (<-instantiateMVars v.getAppArgs[2]!)
noncomputable def dictFindY:Addr->Value->Int->Sem (Option Nat):=by run_tac firstOf ``dfPack
theorem dictFindY_eq:@dictFind=dictFindY:=dfPack.2
def anyY{α:Type}(as:Array α)(p:α->Bool)(start:Nat:=0)(stop:Nat:=as.size):Bool :=
 match Nat.beq start 0 with
 |false=>Array.any as p start stop
 |true=>match Nat.beq stop as.size with
  |false=>Array.any as p start stop
  |true=>@List.rec α (fun _=>Bool) false (fun a _ ih=>@Bool.rec (fun _=>Bool) ih true (p a)) as.toList
theorem anyL_eq{α:Type}(p:α->Bool)(l:List α):@List.rec α (fun _=>Bool) false (fun a _ ih=>@Bool.rec (fun _=>Bool) ih true (p a)) l=l.any p:=by
 induction l with
 |nil=>rfl
 |cons a l ih =>
  show @Bool.rec (fun _=>Bool) (@List.rec α (fun _=>Bool) false (fun a _ ih=>@Bool.rec (fun _=>Bool) ih true (p a)) l) true (p a)=_
  rw[ih,List.any_cons]
  cases p a <;> rfl
theorem anyY_eq:@Array.any.{0} = @anyY:=by
 funext α as p start stop
 unfold anyY
 cases h:Nat.beq start 0 with
 |false=>rfl
 |true =>
  cases h2:Nat.beq stop as.size with
  |false=>rfl
  |true =>
   have e1:=Nat.eq_of_beq_eq_true h
   have e2:=Nat.eq_of_beq_eq_true h2
   subst e1 e2
   show _ = @List.rec α (fun _=>Bool) false (fun a _ ih=>@Bool.rec (fun _=>Bool) ih true (p a)) as.toList
   rw[anyL_eq,Array.any_toList]
theorem tnMade:True:=by
 run_tac do
  let some (.defnInfo d):=(<-getEnv).find? `PySem.W.Fast.tw4202317264376624991|throwError "x"
  let any0:=mkConst ``Array.any [0]
  let T <-inferType any0
  let G <-withLocalDeclD `g T fun g=>mkLambdaFVars #[g] (d.value.replace fun x=>if x==any0 then some g else none)
  let B:=mkConst ``Builtin
  addDecl (.defnDecl {name:=`Mine.tnF,levelParams:=[],type:=B,value:=(mkApp G (mkConst ``anyY)).headBeta,hints:=d.hints,safety:=.safe})
  let pf <-mkCongrArg G (mkConst ``anyY_eq)
  addDecl (.thmDecl {name:=`Mine.tnF_eq,levelParams:=[],type:=<-mkEq (mkConst d.name) (mkConst `Mine.tnF),value:=pf})
 trivial
def tableY(id:String):Option Builtin:=match Nat.beq (PySem.W.Fast.tw13482112738370960269 id) (PySem.W.Fast.tw13482112738370960269 "type.__new__")with
 |true=>some tnF
 |false=>PySem.W.Fast.tw14364793385576792824 id
theorem typeNew_found:entriesT.find (code "type.__new__")=some Builtin.«type.__new__»:=by kernel_rfl
theorem tableY_eq:treeTable=tableY:=by
 funext id
 unfold tableY
 cases h:Nat.beq (PySem.W.Fast.tw13482112738370960269 id) (PySem.W.Fast.tw13482112738370960269 "type.__new__")with
 |false=>exact congrFun PySem.W.Fast.te14364793385576792824 id
 |true =>
  have e:=Nat.eq_of_beq_eq_true h
  have hc:@PySem.code=PySem.W.Fast.tw13482112738370960269:=PySem.W.Fast.te13482112738370960269
  rw[<-hc]at e
  show entriesT.find (code id)=some tnF
  rw[e,typeNew_found]
  exact congrArg some (PySem.W.Fast.te4202317264376624991.trans tnF_eq)
def orP{α:Type}(b:Bool)(x:Sem α)(h:Value->Sem α):Sem α:=match x with
 | .pure a=>.pure a
 |y=>if b=true then y else y.tryCatch h
theorem orP_eq{α:Type}(b:Bool)(x:Sem α)(h:Value->Sem α):(if b=true then x else x.tryCatch h)=orP b x h:=by
 cases x <;> first|rfl|(cases b <;> rfl)
noncomputable def bsPack:{f:Value->Str->Sem (Option (Value×List Value)) // @bindSpecialIfBound? = f}:=by
 refine⟨?f,?h⟩
 case h =>
  delta bindSpecialIfBound?
  conv =>
   lhs
   simp only[orP_eq]
noncomputable def bindY:Value->Str->Sem (Option (Value×List Value)):=by run_tac firstOf ``bsPack
theorem bindY_eq:@bindSpecialIfBound? = bindY:=bsPack.2
def unpk(b f:Nat):Nat->List Nat:=@Nat.rec (fun _=>Nat->List Nat) (fun _=>[]) (fun _ ih n=>(n%b)::ih (n / b)) f
def strN(b f n:Nat):Str:=⟨⟨unpk b f n⟩⟩
def atomN(x:ZE)(s:String)(mk:Bool:=false):MetaM (ZE×ZE):=do
 let c:=(`Mine.Ls).str ("h" ++ toString (hash s))
 if s.length<=120 || !(mk||(<-getEnv).contains c)then return <-Fast.atomTwin x s
 let b:Nat:=if s.toList.all fun c=>c.toNat<256 then 256 else 2097152
 let n:=s.toList.foldr (fun c n=>n*b+c.toNat) 0
 unless (<-getEnv).contains c do
  addDecl (.defnDecl {name:=c,levelParams:=[],type:=mkConst ``Str,value:=mkApp3 (mkConst ``strN) (mkRawNatLit b) (mkRawNatLit s.length) (mkRawNatLit n),hints:=.abbrev,safety:=.safe})
  Fast.primed.modify (·.insert c none)
 let cs:=mkApp4 (mkConst ``List.map [0,0]) (mkConst ``Nat) (mkConst ``Char) (mkConst ``Char.ofNat) (mkApp3 (mkConst ``unpk) (mkRawNatLit b) (mkRawNatLit s.length) (mkRawNatLit n))
 return(mkConst c,<-mkExpectedTypeHint (mkApp (mkConst ``Fast.ofString_ofList) cs) (<-mkEq x (mkConst c)))
def quickVal(e:ZE):MetaM ZE:=do
 let ds <-(<-Fast.twinsIn e).mapM fun d=>match Fast.isAtom d.1 with
  |some s=>atomN d.1 s
  |none=>pure d.2
 let xs <-Fast.twinsIn e
 let at_:Std.HashMap ZE Nat:=(xs.zipIdx.foldl (fun m (d,i)=>m.insert d.1 i) {})
 return Fast.putIn at_ (fun i=>ds[i]!.1) e
def turnedR(c:Name)(lps:List Name)(h:ReducibilityHints)(e:ZE)(ds:Array (ZE×ZE×ZE)):MetaM (ZE×ZE):=do
 let mine:Std.HashSet ZE:=ds.foldl (fun s d=>if d.1.isConst then s.insert d.1 else s) {}
 let ds <-ds.filterM fun(x,_,_)=>do return((Fast.bareType (<-inferType x)).find? fun y=>mine.contains y||y.isConstOf `PySem.W.Frag).isNone
 let tys <-ds.mapM fun(x,_,_)=>inferType x
 let at_:Std.HashMap ZE Nat:=(ds.zipIdx.foldl (fun m (d,i)=>m.insert d.1 i) {})
 let G <-Fast.withLocals tys.toList #[] fun xs=>do
  mkLambdaFVars xs (Fast.putIn at_ (fun i=>xs[i]!) e)
 let gn:=(`Mine.Tg).str ("g" ++ toString c.hash)
 let mut ty <-inferType G
 addDecl (.defnDecl {name:=gn,levelParams:=lps,type:=ty,value:=G,hints:=h,safety:=.safe})
 let G:=Lean.Expr.const gn (lps.map mkLevelParam)
 let mut f:=G
 let mut g:=G
 let mut pf <-mkEqRefl G
 for (x,y,h) in ds do
  let .forallE _ a b _:=ty|throwError "x"
  if b.hasLooseBVars then throwError "x"
  let(u,v):=(<-getLevel a,<-getLevel b)
  pf:=mkAppN (mkConst ``congr [u,v]) #[a,b,f,g,x,y,pf,h]
  f:=.app f x
  g:=.app g y
  ty:=b
 return(g,pf)
def treeTwin:Nat->ZE->StateT (Std.HashMap ZE ZE×Array (ZE×ZE×ZE)) MetaM ZE
 |0,e=>return e
 |n+1,e=>do
  if let some r:=(<-get).1.get? e then return r
  let r <-match Fast.isAtom e with
   |some s=>do
    let(y,h) <-atomN e s true
    if s.length>120 then modify fun(m,l)=>(m,l.push (e,y,h))
    pure (if s.length>120 then e else y)
   |none=>if e.isAppOfArity ``OfNat.ofNat 3&&e.getAppArgs[0]!.isConstOf ``Nat&&e.getAppArgs[1]!.isRawNatLit then pure e.getAppArgs[1]! else match e with
    | .app f a=>do
     let f' <-treeTwin n f
     let a' <-treeTwin n a
     pure (if f'==f&&a'==a then e else .app f' a')
    | .letE _ _ v b _=>treeTwin n (b.instantiate1 v)
    |_=>pure e
  modify fun(m,l)=>(m.insert e r,l)
  return r
def twinTree(c:Name)(tree:ZE):MetaM Unit:=do
 let some (.defnInfo d):=(<-getEnv).find? c|throwError "x"
 let(v0,(_,ds)) <-(treeTwin 100000 tree).run ({},#[])
 if v0==tree&&ds.isEmpty then Fast.primed.modify (·.insert c none)
 else
  let(n,e):=((`Mine.Ts).str ("t" ++ toString c.hash),(`Mine.Ts).str ("e" ++ toString c.hash))
  let(v,pf) <-if ds.isEmpty then pure (v0,<-mkEqRefl (mkConst c))else turnedR c [] .abbrev v0 ds
  addDecl (.defnDecl {name:=n,levelParams:=[],type:=d.type,value:=v,hints:=.abbrev,safety:=.safe})
  addDecl (.thmDecl {name:=e,levelParams:=[],type:=<-mkEq (mkConst c) (mkConst n),value:=pf})
  Fast.primed.modify (·.insert c (some (n,e)))
def stepY(den:Code->Sem Fin)(p:Program)(w:World):SharedT->Thread->Option (SharedT×Thread)
 |⟨T,n,life,gens,drawn,toks,os⟩,⟨cur,code,pos,stack⟩=>match cur with
  | .rule _ k=>some (⟨T,n,life,gens,drawn,toks,os⟩,⟨k (),code,pos,stack⟩)
  | .at q k=>some (⟨T,n,life,gens,drawn,toks,os⟩,⟨k (),code,q,stack⟩)
  | .point _ k=>some (⟨T,n,life,gens,drawn,toks,os⟩,⟨k (),code,pos,stack⟩)
  | .fresh k=>some (⟨T,n,life,gens,drawn,toks+1,os⟩,⟨k toks,code,pos,stack⟩)
  | .load a _ k=>match Nat.blt a n with
   |true=>match T.get a with
    |some o=>match alive o with
     |some o'=>some (⟨T,n,life,gens,drawn,toks,os⟩,⟨k o',code,pos,stack⟩)
     |none=>none
    |none=>none
   |false=>none
  | .update a _ f k=>match Nat.blt a n with
   |true=>match T.get a with
    |some o=>match alive o with
     |some _=>some (⟨T.set a f,n,life,gens,drawn,toks,os⟩,⟨k (),code,pos,stack⟩)
     |none=>none
    |none=>none
   |false=>none
  | .alloc o k=>match((T.ins n o).get n).isSome with
   |true=>some (⟨T.ins n o,n+1,life,gens,drawn,toks,os⟩,⟨k n,code,pos,stack⟩)
   |false=>none
  | .loadIfAlive a k=>match Nat.blt a n with
   |true=>match T.get a with
    |some o=>some (⟨T,n,life,gens,drawn,toks,os⟩,⟨k (alive o),code,pos,stack⟩)
    |none=>none
   |false=>some (⟨T,n,life,gens,drawn,toks,os⟩,⟨k none,code,pos,stack⟩)
  |c=>match step den p w ⟨{},gens,drawn,toks,os⟩ ⟨c,code,pos,stack⟩with
   | .go ⟨_,g,d,tk,o⟩ t'=>some (⟨T,n,life,g,d,tk,o⟩,t')
   | .halt _ _=>none
theorem stepY_eq:@PySem.W.stepT = @stepY:=by
 funext den p w s t
 obtain⟨T,n,life,gens,drawn,toks,os⟩:=s
 obtain⟨cur,code,pos,stack⟩:=t
 have key (r:Step):(match r with| .go s' t'=>some ((⟨T,n,life,s'.gens,s'.drawn,s'.toks,s'.os⟩:SharedT),t')| .halt _ _=>none)=(match r with| .go ⟨_,g,d,tk,o⟩ t'=>some ((⟨T,n,life,g,d,tk,o⟩:SharedT),t')| .halt _ _=>none):=by
  cases r with
  |go s' t'=>cases s';rfl
  |halt=>rfl
 cases cur <;> first|rfl|exact key _
def endY(b:Nat)(t:Thread):Option Flow:=match t.cur with
 | .pure (.done f)=>(match t.stack.length==b with|true=>some f|_=>none)
 |_=>none
theorem endY_eq:@endAt = @endY:=by
 funext b t
 obtain⟨cur,code,pos,stack⟩:=t
 unfold endAt endY
 dsimp only
 cases h:stack.length==b <;> cases cur <;> first|rfl|(rename_i f;cases f <;> rfl)
def stepOkY(n_0:Nat)(ann:Option Value)(t:Thread):Bool:=match t.cur with
 | .rule .. | .at .. | .point .. | .fresh .. | .load .. | .alloc .. | .loadIfAlive ..=>true
 |_=>PySem.W.stepOk n_0 ann t
theorem stepOkY_eq:@PySem.W.stepOk = @stepOkY:=by
 funext n_0 ann t
 obtain⟨cur,code,pos,stack⟩:=t
 cases cur <;> rfl
structure Reach where
 known:Std.HashMap Name Bool:={}
 order:Array Name:=#[]
def usesOf(env:Environment)(c:Name):List Name:=match env.find? c with
 |some (.defnInfo d)=>(Fast.constsOf d.value).filterMap fun x=>if x.isConst then some x.constName! else none
 |_=>[]
def leadsTo(env:Environment)(tgt:List Name):Nat->Reach->List Name->Reach×Bool
 |0,r,_=>(r,false)
 |_+1,r,[]=>(r,false)
 |n+1,r,c::cs =>
  let(r,b):=if tgt.contains c then(r,true)else match r.known.get? c with
   |some b=>(r,b)
   |none =>
    let r:={r with known:=r.known.insert c false}
    let(r,b):=leadsTo env tgt n r (usesOf env c)
    ({known:=r.known.insert c b,order:=if b then r.order.push c else r.order},b)
  let(r,b'):=leadsTo env tgt n r cs
  (r,b||b')
def twinNames(c:Name):Name×Name:=((`Mine.Tw).str ("t" ++ toString c.hash),(`Mine.Tw).str ("e" ++ toString c.hash))
def sameByRule(x y:ZE):MetaM Bool:=do
 match Fast.isAtom x with
 |some s=>return s.length<=120
 |none =>
  if y.getAppFn.isConst&&(`Mine.Tw).isPrefixOf y.getAppFn.constName! then return false
  match Kernel.isDefEq (<-getEnv) {} x y with
  | .ok b=>return b
  | .error _=>return false
def makeTwinR(c:Name):MetaM (Option (Name×Name)):=do
 let some (.defnInfo d):=(<-getEnv).find? c|return none
 if d.safety != .safe then return none
 let ds <-Fast.twinsIn d.value
 if ds.isEmpty then return none
 let easy <-ds.filterM fun(x,y,_)=>sameByRule x y
 let hard <-ds.filterM fun(x,y,_)=>return !(<-sameByRule x y)
 let at_:Std.HashMap ZE Nat:=(easy.zipIdx.foldl (fun m (d,i)=>m.insert d.1 i) {})
 let v0:=Fast.putIn at_ (fun i=>easy[i]!.2.1) d.value
 let us:=d.levelParams.map mkLevelParam
 let env <-getEnv
 let lay (n e:Name) (v pf:ZE):MetaM (Option (Name×Name)):=do
  try
   addDecl (.defnDecl {name:=n,levelParams:=d.levelParams,type:=d.type,value:=v,hints:=d.hints,safety:=.safe})
   addDecl (.thmDecl {name:=e,levelParams:=d.levelParams,type:=<-mkEq (mkConst c us) (mkConst n us),value:=pf})
   return some (n,e)
  catch _ =>
   setEnv env
   return none
 if hard.isEmpty then
  let(n,e):=((`Mine.Td).str ("t" ++ toString c.hash),(`Mine.Td).str ("e" ++ toString c.hash))
  if let some r <-lay n e v0 (<-mkEqRefl (mkConst c us))then return some r
 else
  let(n,e):=twinNames c
  let(v,pf) <-turnedR c d.levelParams d.hints v0 hard
  if let some r <-lay n e v pf then return some r
 let(n,e):=twinNames c
 Fast.makeTwin c n e
def twinVia(c d eq:Name):MetaM Unit:=do
 match <-makeTwinR d with
 |none=>Fast.primed.modify (·.insert c (some (d,eq)))
 |some (n,e) =>
  let en:=(`Mine.Tw).str ("v" ++ toString c.hash)
  let pf <-mkEqTrans (mkConst eq) (mkConst e)
  addDecl (.thmDecl {name:=en,levelParams:=[],type:=<-mkEq (mkConst c) (mkConst n),value:=pf})
  Fast.primed.modify (·.insert c (some (n,en)))
def twinAll(roots tgts:List Name):MetaM Nat:=do
 let env <-getEnv
 let(r,_):=leadsTo env tgts 100000 {} roots
 let mut k:=0
 for c in r.order do
  if tgts.contains c||(<-getEnv).contains (twinNames c).1||(<-getEnv).contains ((`Mine.Td).str ("t" ++ toString c.hash))then continue
  match <-makeTwinR c with
  |some r=>Fast.primed.modify (·.insert c (some r));k:=k+1
  |none=>logInfo m!"no twin: {c}"
 return k
end
section
open Lean Meta Elab Tactic
def quietRows(q:Bool)(l:List String):List String:=if q then(l.filter (· != "special-get-raises")).eraseDups else l.eraseDups
abbrev Objs:=Array (Obj×Obj×ZE)
def mergeE(row:ZE):ZE->ZE->Option ZE
 | .app f a,.app g b=>do return .app (<-mergeE row f g) (<-mergeE row a b)
 |a,b =>
  if a.isConstOf ``Bool.false&&b.isConstOf ``Bool.true then some (mkApp (mkConst ``Bool.not) row)
  else if a.isConstOf ``Bool.true&&b.isConstOf ``Bool.false then some row
  else if a==b then some a else none
def objV(i:Nat)(o o':Obj):MetaM ZE:=withLocalDeclD `P (mkConst ``Params) fun p=>do
 let(e,e'):=(objE p o,objE p o')
 let e <-if e==e' then pure e else match mergeE (mkApp2 (mkConst ``Params.followText) p (mkStrLit "set-order")) e e' with
  |some x=>pure x
  |none=>throwError "head: an object is the world's: {i}"
 mkLambdaFVars #[p] (<-quickVal e)
def layO(fin old:Objs)(s s':Shared):MetaM Objs:=do
 let P:=mkConst ``Params
 let tyO <-mkArrow P (mkConst ``Obj)
 unless s.heap.objs.size==s'.heap.objs.size do throwError "x"
 let mut out:=#[]
 for i in[0:s.heap.objs.size] do
  let(o,o'):=(s.heap.objs[i]!,s'.heap.objs[i]!)
  if let some r:=(old[i]?.toList++fin[i]?.toList).find? fun(a,a',_)=>sameObjNow a o&&sameObjNow a' o' then
   out:=out.push r
   continue
  let c <-defAt `o tyO (<-objV i o o')
  Fast.primed.modify (·.insert c.constName! none)
  out:=out.push (o,o',c)
 unless toExpr s.heap.life==toExpr s'.heap.life do throwError "x"
 return out
def finName(i:Nat):Name:=(`Mine.Fo).str s!"o{i}"
def finOf(s s':Shared):MetaM Objs:=do
 if s.heap.objs.size != s'.heap.objs.size || !(<-getEnv).contains (finName 0)then return #[]
 return(Array.range s.heap.objs.size).map fun i=>(s.heap.objs[i]!,s'.heap.objs[i]!,mkConst (finName i))
def stT(fin old:Objs)(s s':Shared):MetaM (Objs×PySem.W.State):=do
 let objs <-layO fin old s s'
 unless toExpr s.drawn==toExpr s'.drawn&&s.toks==s'.toks do throwError "x"
 let P:=mkConst ``Params
 let os:=objs.map (·.2.2)
 let v <-withLocalDeclD `P P fun p=>mkLambdaFVars #[p] (treeE p os 1 0)
 let t <-defAt `tree (<-mkArrow P (mkConst ``BT)) v
 Fast.primed.modify (·.insert t.constName! none)
 return(objs,{heap:=default,gens:=<-gensE s s',drawn:=toExpr s.drawn,toks:=mkRawNatLit s.toks,tree:=some (t,mkRawNatLit s.heap.objs.size,toExpr s.heap.life)})
def stH(fin old:Objs)(s s':Shared):MetaM (Objs×PySem.W.State):=do
 let objs <-layO fin old s s'
 unless toExpr s.drawn==toExpr s'.drawn&&s.toks==s'.toks do throwError "x"
 let P:=mkConst ``Params
 let v <-withLocalDeclD `P P fun p=>do
  let l:=listE (mkConst ``Obj) (objs.toList.map fun(_,_,e)=>mkApp e p)
  mkLambdaFVars #[p] (mkApp2 (mkConst ``Heap.mk) (mkApp2 (mkConst ``Array.mk [0]) (mkConst ``Obj) l) (toExpr s.heap.life))
 let hc <-defAt `heap (<-mkArrow P (mkConst ``Heap)) v
 Fast.primed.modify (·.insert hc.constName! none)
 return(objs,⟨hc,<-gensE s s',toExpr s.drawn,mkRawNatLit s.toks,none⟩)
def overWO(f:ZE->ZE->MetaM ZE):MetaM ZE :=
 withLocalDeclD `w (mkConst ``World) fun w=>withLocalDeclD `os (mkConst ``OsState) fun os=>do mkLambdaFVars #[w,os] (<-f w os)
def lemmaOf(ty pf:ZE):MetaM ZE:=do return mkConst (<-withOptions (Elab.async.set · false) (mkAuxLemma [] ty pf (cache:=false)))
abbrev Thr:=ZE->ZE->ZE
def behindOf(go:ZE->ZE->MetaM ZE)(rows:List String):MetaM ZE:=do
 let fixed (w:ZE):=rows.foldl (fun w r=>mkApp3 (mkConst ``World.withFollow) w (mkStrLit r) (mkConst ``Bool.false)) w
 overWO fun w os=>do
  let W:=fixed w
  let r <-whnfQuick (<-go W os)
  unless r.isAppOfArity ``Option.some 2 do throwError "x"
  let r2 <-Dig.kw r.appArg!
  unless r2.isAppOfArity ``Prod.mk 4 do throwError "x"
  let t2:=r2.appArg!
  return if W==w then t2 else t2.replace fun x=>if x==W then some w else none
def tidyState:Nat->ZE->StateM (Std.HashMap ZE ZE) ZE
 |0,e=>return e
 |k+1,e=>do
 if let some r:=(<-get).get? e then return r
 let r <-(match e with
  | .app f a=>do
   let f' <-tidyState k f
   let a' <-tidyState k a
   let r:=Lean.Expr.app f' a'
   match f' with
   | .const n _ =>
    if a'.isAppOfArity ``Shared.mk 5 then
     let as:=a'.getAppArgs
     return if n == ``Shared.heap then as[0]! else if n == ``Shared.gens then as[1]! else if n == ``Shared.drawn then as[2]! else if n == ``Shared.toks then as[3]! else if n == ``Shared.os then as[4]! else r
    return r
   |_ =>
    if r.isAppOfArity ``HAdd.hAdd 6 then
     let as:=r.getAppArgs
     if as[0]!.isConstOf ``Nat then
      let lit (x:ZE):Option Nat:=match x with
       | .lit (.natVal n)=>some n
       |_=>if x.isAppOfArity ``OfNat.ofNat 3 then x.getAppArgs[1]!.rawNatLit? else none
      if let(some m,some k):=(lit as[4]!,lit as[5]!)then return mkRawNatLit (m+k)
    return r
  | .lam n t b i=>do return .lam n (<-tidyState k t) (<-tidyState k b) i
  | .forallE n t b i=>do return .forallE n (<-tidyState k t) (<-tidyState k b) i
  | .letE n t v b d=>do return .letE n (<-tidyState k t) (<-tidyState k v) (<-tidyState k b) d
  | .mdata _ b=>tidyState k b
  | .proj n i b=>do return .proj n i (<-tidyState k b)
  |e=>return e:StateM (Std.HashMap ZE ZE) ZE)
 modify (·.insert e r)
 return r
def foldOf(pE:ZE):MetaM (ZE->ZE):=do
 let b <-mkAppM ``Module.body #[<-mkAppM ``Program.main #[pE]]
 let some cells <-cellsD? b|throwError "x"
 let T:=mkConst ``Stmt
 let mut m:Std.HashMap ZE ZE:={}
 for i in[0:cells.length] do
  m:=m.insert (listE T (cells.drop i)) (mkApp3 (mkConst ``List.drop [0]) T (mkRawNatLit i) b)
 return fun e=>e.replace fun x=>if x.isApp then m.get? x else none
theorem restEx{α:Type}(l:List α)(k:Nat):∃ bs,bs++List.drop k l=l:=⟨List.take k l,List.take_append_drop k l⟩
def proofsIn:Nat->List ZE->Std.HashSet ZE->Array ZE->Array ZE
 |k+1,e::r,m,o=>if m.contains e then proofsIn k r m o else
  let m:=m.insert e
  match e with
  | .app .. =>
   let f:=e.getAppFn
   if !e.hasLooseBVars&&(f.isConstOf `List.forIn'.loop.match_1||f.isConstOf ``Exists.intro)then proofsIn k r m (o.push e)else proofsIn k (f::e.getAppArgs.toList++r) m o
  | .lam _ t b _| .forallE _ t b _=>proofsIn k (t::b::r) m o
  | .letE _ t v b _=>proofsIn k (t::v::b::r) m o
  | .proj _ _ b=>proofsIn k (b::r) m o
  |_=>proofsIn k r m o
 |_,_,_,o=>o
def lenIn:Nat->ZE->MetaM Nat
 |0,_=>throwError "x"
 |n+1,e=>do
  let .ok r:=Kernel.whnf (<-getEnv) (<-getLCtx) e|throwError "x"
  if r.isAppOfArity ``List.cons 3 then return(<-lenIn n r.appArg!)+1
  return 0
def foldProofs(e:ZE):MetaM ZE:=do
 let mut m:Std.HashMap ZE ZE:={}
 for p in proofsIn 100000000 [e] {} #[] do
  let ty <-inferType p
  unless ty.isAppOfArity ``Exists 2 do continue
  let .lam _ α b _:=ty.appArg! |continue
  unless b.isAppOfArity ``Eq 3 do continue
  let(l,full):=(b.getAppArgs[1]!,b.getAppArgs[2]!)
  unless l.isAppOfArity ``HAppend.hAppend 6 && !full.hasLooseBVars && !l.appArg!.hasLooseBVars do continue
  let k:=mkRawNatLit ((<-lenIn 10000 full)-(<-lenIn 10000 l.appArg!))
  m:=m.insert l.appArg! (mkApp3 (mkConst ``List.drop [0]) α.appArg! k full)
  m:=m.insert p (mkApp3 (mkConst ``restEx) α.appArg! full k)
 return e.replace fun x=>if x.isApp then m.get? x else none
def threadDef(fold:ZE->ZE)(v:ZE):MetaM Thr:=do
 let v:=fold v
 let v:=(tidyState 1000000 v).run' {}|>.run
 let v <-lambdaBoundedTelescope v 2 fun xs b=>do mkLambdaFVars xs (<-squeezeAt 72 8 (<-foldProofs b))
 let c <-defAt `thread (<-mkArrow (mkConst ``World) (<-mkArrow (mkConst ``OsState) (mkConst ``Thread))) v
 Fast.primed.modify (·.insert c.constName! none)
 return fun w os=>mkApp2 c w os
structure Setup where
 pE:ZE
 p:Program
 t:Trace
 t':Trace
 bE:ZE
 envE:ZE
 qE:ZE
 cE:ZE
 B:ZE
 m0:ZE
 annE:ZE
 cells:List ZE
 fin:Objs
def Setup.ask(u:Setup)(n:ZE)(f:Name)(w:ZE)(extra:Array ZE)(s th:ZE):ZE:=mkAppN (mkConst f) (#[mkConst ``treeTable,u.pE,w,u.m0,u.annE]++extra++#[n,s,th])
def Setup.endOf(u:Setup)(st pos:ZE):MetaM ZE:=do mkAppM ``some #[<-mkAppM ``Prod.mk #[mkConst ``Flow.next,<-mkAppM ``Prod.mk #[st,<-mkAppM ``Prod.mk #[u.cE,pos]]]]
def one:ZE:=mkRawNatLit 1
def groupCuts(m:Nat)(l:Array (Nat×Shared×List String)):Array (Nat×Shared×List String):=Id.run do
 let mut out:=#[]
 let mut k:=0
 let mut n:=0
 let mut rs:List String:=[]
 for (c,s,r) in l do
  k:=k+1
  n:=n+c
  rs:=rs++r
  if k==m then
   out:=out.push (n,s,rs.eraseDups)
   k:=0
   n:=0
   rs:=[]
 return out
def Setup.cutIn(u:Setup)(grp cap idx:Nat)(o0:Objs)(S1:PySem.W.State)(pos1:Pos)(S':PySem.W.State)(x:Snap)(from1 from2:Shared)(whole P:ZE):MetaM ZE:=do
 let fold <-foldOf u.pE
 let th:=piecesOf ((u.t.body.drop idx).take 1) u.t.benv u.t.bcode pos1 [topFrame u.t.framePos]
 let cutsPlain (k:Int) (s:Shared) (t:Thread):MetaM (Array (Nat×Shared×List String)×List String):=do
  match <-cutsFix u.p k [("special-get-raises",true)] cap (x.steps+1) s t with
  | .ok a=>return(a.map fun(c,s)=>(c,s,[]),[])
  | .error m=>throwError "head: {m}"
 let plain:=x.steps≥5000
 let(cuts,lastRows) <-if plain then cutsPlain 1 from1 th else cutsNow u.p 1 cap x.steps from1 th
 let(cuts',lastRows') <-if plain then cutsPlain 2 from2 th else cutsNow u.p 2 cap x.steps from2 th
 unless cuts.size==cuts'.size do throwError "x"
 let(cuts,cuts'):=if plain then(groupCuts grp cuts,groupCuts grp cuts')else(cuts,cuts')
 let mut done:=#[]
 let mut Sj:=S1
 let mut thr:Thr:=fun _ _=>whole
 let mut oj:=o0
 let mut left:=x.steps
 for ((c,sj,rj),(c',sj',rj')) in cuts.toList.zip cuts'.toList do
  unless c==c' do throwError "x"
  let(o2,Sn) <-stT u.fin oj sj sj'
  let(Sp,tp):=(Sj,thr)
  let asked:=quietRows plain (rj++rj')
  let go (w os:ZE):MetaM ZE:=pure (u.ask (mkRawNatLit c) ``segGoT w #[one] (Sp.atT w os) (tp w os))
  let tn <-threadDef fold (<-behindOf go asked)
  let lem <-liftT (<-byPiece asked go fun w os=>do mkAppM ``some #[<-mkAppM ``Prod.mk #[Sn.atT w os,tn w os]]) ``segGo_of
  done:=done.push (c,Sp,tp,Sn,tn,lem)
  Sj:=Sn
  thr:=tn
  oj:=o2
  left:=left-c
 let(Sl,tl):=(Sj,thr)
 let last <-liftT (<-byPiece (quietRows plain (lastRows++lastRows')) (fun w os=>pure (u.ask (mkRawNatLit left.succ) ``segRunT w #[one] (Sl.atT w os) (tl w os))) fun w os=>u.endOf (S'.atT w os) (toExpr x.pos)) ``segRun_of
 let(ty,pf) <-withLocalDeclD `w (mkConst ``World) fun w=>do
  let f <-withLocalDeclD `os (mkConst ``OsState) fun os=>do
   let r <-u.endOf (S'.at w os) (toExpr x.pos)
   let mut k <-mkAppM ``congrFun #[mkApp last w,os]
   let mut N':=mkRawNatLit left.succ
   for (c,Sp,tp,Sn,tn,l) in done.toList.reverse do
    k:=mkAppN (mkConst ``seg_go) #[mkConst ``treeTable,u.pE,w,u.m0,u.annE,one,mkRawNatLit c,N',Sp.at w os,Sn.at w os,tp w os,tn w os,r.appArg!,<-mkAppM ``congrFun #[mkApp l w,os],k]
    N':=mkApp2 (mkConst ``Nat.add) (mkRawNatLit c) N'
   mkLambdaFVars #[os] k
  pure (<-mkForallFVars #[w] (mkApp P w).headBeta,<-mkLambdaFVars #[w] (<-mkAppM ``funext #[f]))
 lemmaOf ty pf
def Setup.piece(u:Setup)(grp idx cap:Nat)(o0:Objs)(S1:PySem.W.State)(pos1:Pos)(S':PySem.W.State)(x x':Snap)(from1 from2:Shared)(stE:ZE):MetaM ZE:=do
 let whole:ZE:=mkAppN (mkConst ``piecesOf) #[stE,u.envE,u.cE,toExpr pos1,u.B]
 let rows:=quietRows (x.steps≥5000) (x.rows++x'.rows)
 if x.steps<=cap*3 / 2 then
  liftT (<-byPiece rows (fun w os=>pure (u.ask (mkRawNatLit x.steps.succ) ``segRunT w #[one] (S1.atT w os) whole)) fun w os=>u.endOf (S'.atT w os) (toExpr x.pos)) ``segRun_of
 else
  let P <-withLocalDeclD `w (mkConst ``World) fun w=>withLocalDeclD `os (mkConst ``OsState) fun os=>do
   let r <-u.endOf (S'.at w os) (toExpr x.pos)
   mkLambdaFVars #[w] (<-mkEq (<-mkLambdaFVars #[os] (u.ask (mkRawNatLit x.steps.succ) ``segRun w #[one] (S1.at w os) whole)) (<-mkLambdaFVars #[os] r))
  u.cutIn grp cap idx o0 S1 pos1 S' x from1 from2 whole P
def openingIn(fin:Objs)(pE:ZE)(p:Program)(NE:ZE)(H0:PySem.W.State):MetaM ZE:=do
 let((cuts,left,se,rl),(cuts',left',se',rl')) <-match <-impCutsNow p 1,<-impCutsNow p 2 with
  | .ok a,.ok b=>pure (a,b)
  | .error m,_|_,.error m=>throwError "head: the opening: {m}"
 unless cuts.size==cuts'.size&&left==left' do throwError "x"
 let lastOf (all grouped:Array (Nat×Shared×List String)):Array (Nat×Shared×List String):=Id.run do
  let n:=all.foldl (fun a x=>a+x.1) 0
  let m:=grouped.foldl (fun a x=>a+x.1) 0
  match all.back? with
  |some (_,s,_)=>return if m<n then grouped.push (n-m,s,(all.toList.flatMap fun x=>x.2.2).eraseDups)else grouped
  |none=>return grouped
 let(cuts,cuts'):=(lastOf cuts (groupCuts 8 cuts),lastOf cuts' (groupCuts 8 cuts'))
 let(cuts,cuts'):=if left==0 then(cuts,cuts')else(cuts.push (left,se,rl),cuts'.push (left',se',rl'))
 let fold <-foldOf pE
 let qE <-mkAppM ``opening #[pE]
 let stE <-mkAppM ``start #[qE]
 let os0 <-mkAppM ``Shared.os #[<-mkAppM ``Prod.fst #[stE]]
 let imp (f:Name) (n w s th:ZE):=mkAppN (mkConst f) #[mkConst ``treeTable,qE,w,n,s,th]
 let t0E <-mkAppM ``Prod.snd #[stE]
 let s0:=(start (opening p)).1
 let(oz,Sz) <-stT fin #[] s0 s0
 let mut done:=#[]
 let mut Sj:=Sz
 let mut oj:=oz
 let mut thr:Thr:=fun _ _=>t0E
 for ((c,sj,rj),(c',sj',rj')) in cuts.toList.zip cuts'.toList do
  unless c==c' do throwError "x"
  let(o2,Sn) <-stT fin oj sj sj'
  let(Sp,tp):=(Sj,thr)
  let asked:=quietRows false (rj++rj')
  let go (w os:ZE):MetaM ZE:=pure (imp ``impGoT (mkRawNatLit c) w (Sp.atT w os) (tp w os))
  let tn <-threadDef fold (<-behindOf go asked)
  let lem <-liftT (<-byPiece asked go fun w os=>do mkAppM ``some #[<-mkAppM ``Prod.mk #[Sn.atT w os,tn w os]]) ``impGo_of
  done:=done.push (c,Sp,tp,Sn,tn,lem)
  Sj:=Sn
  thr:=tn
  oj:=o2
 let(Se,tl):=(Sj,thr)
 let last <-byPiece [] (fun w os=>pure (imp ``importEnds one w (Se.at w os) (tl w os))) fun w os=>mkAppM ``some #[Se.at w os]
 let some (tr,nE,lifeE):=Se.tree|throwError "x"
 let heT <-withLocalDeclD `P (mkConst ``Params) fun P=>mkLambdaFVars #[P] (mkApp3 (mkConst ``absHeap) (mkApp tr P) nE lifeE)
 let mut M':=one
 for (c,_) in done.toList.reverse do M':=mkApp2 (mkConst ``Nat.add) (mkRawNatLit c) M'
 let(ty,pf) <-withLocalDeclD `w (mkConst ``World) fun w=>do
  let r:=Se.at w os0
  let mut k <-mkAppM ``congrFun #[mkApp last w,os0]
  let mut N':=one
  for (c,Sp,tp,Sn,tn,l) in done.toList.reverse do
   k:=mkAppN (mkConst ``imp_go) #[mkConst ``treeTable,qE,w,mkRawNatLit c,N',Sp.at w os0,Sn.at w os0,r,tp w os0,tn w os0,<-mkAppM ``congrFun #[mkApp l w,os0],k]
   N':=mkApp2 (mkConst ``Nat.add) (mkRawNatLit c) N'
  let ty <-mkEq (imp ``importEnds M' w (<-mkAppM ``Prod.fst #[stE]) t0E) (<-mkAppM ``some #[r])
  pure (<-mkForallFVars #[w] ty,<-mkLambdaFVars #[w] k)
 let hE <-lemmaOf ty pf
 let(fs,_,_) <-forallMetaTelescope (<-inferType (mkConst ``open_cut))
 let vs:=#[pE,NE,M',heT,H0.heap,Se.gens,H0.gens,Se.drawn,H0.drawn,Se.toks,H0.toks]
 for (m,v) in fs.zip vs do m.mvarId!.assign v
 let .forallE n d b bi <-instantiateMVars (<-inferType fs[13]!)|throwError "x"
 let fE <-byKernelQuick (.lam n d b bi) []
 let leE <-mkDecideProof (<-instantiateMVars (<-inferType fs[12]!))
 return mkAppN (mkConst ``open_cut) (vs++#[hE,leE,fE])
end
section
open Lean Meta Elab Tactic
def setUp(pE:ZE)(p:Program)(t t':Trace):MetaM Setup:=do
 let bE <-mkAppM ``behindTheImports #[pE]
 let main <-mkAppM ``Program.main #[pE]
 let scope <-mkAppM ``Module.scope #[main]
 let envE <-Term.TermElabM.run' do
  let pS <-Term.exprToSyntax scope
  let cS <-Term.exprToSyntax (toExpr t.code)
  let e <-Term.withSynthesize (Term.elabTermEnsuringType (<-`(({scope:=$pS,locals:=mainNs,globals:=mainNs,cells:=[],code:=$cS,frame:=some $(quote t.frame)}:Env))) (mkConst ``Env))
  instantiateMVars e
 let some cells <-cellsD? bE|throwError "x"
 unless cells.length==t.pieces.length do throwError "x"
 let envE <-defAt `env (mkConst ``Env) envE
 let qE:=toExpr t.framePos
 let cE:=mkApp2 (mkConst ``Code.body) bE envE
 let B:=listE (mkConst ``Frame) [mkApp (mkConst ``topFrame) qE]
 return{pE,p,t,t',bE,envE,qE,cE,B,m0:=mkRawNatLit t.s0.heap.objs.size,annE:=toExpr t.ann,cells,fin:=<-finOf t.fin.s t'.fin.s}
def hdRows(x y:Snap):List String:=(x.rows++y.rows).eraseDups
def runIn(u:Setup)(grp cap:Nat)(only:Nat->Bool:=fun _=>true):MetaM (PySem.W.State×PySem.W.State×ZE×ZE):=do
 let(t,t'):=(u.t,u.t')
 let(o,S0) <-stH u.fin #[] t.s0 t'.s0
 let(o,Sa) <-stH u.fin o t.pre.s t'.pre.s
 let stub:=mkApp (mkConst ``topStub) u.pE
 let pre <-byPiece (hdRows t.pre t'.pre) (fun w os=>pure (u.ask (mkRawNatLit t.pre.steps) ``topGo w #[] (S0.at w os) stub)) fun w os=>do
  mkAppM ``some #[<-mkAppM ``Prod.mk #[Sa.at w os,mkApp4 (mkConst ``Thread.mk) (mkApp2 (mkConst ``denote) (mkConst ``treeTable) u.cE) u.cE (toExpr t.pre.pos) u.B]]
 let(o,Sb) <-stT u.fin o t.block.s t'.block.s
 let block <-byPiece (hdRows t.block t'.block) (fun w os=>pure (u.ask (mkRawNatLit t.block.steps.succ) ``segRun w #[one] (Sa.at w os) (mkAppN (mkConst ``blockOf) #[u.bE,u.envE,u.cE,toExpr t.pre.pos,u.B]))) fun w os=>u.endOf (Sb.at w os) (toExpr t.block.pos)
 let mut o:=o
 let mut S:=Sb
 let mut pos:=t.block.pos
 let mut lems:=#[]
 let mut idx:=0
 let mut from1:=t.block.s
 let mut from2:=t'.block.s
 for (st,x,x') in u.cells.zip (t.pieces.zip t'.pieces) do
  let stE <-defAt `sts (mkApp (mkConst ``List [0]) (mkConst ``Stmt)) (mkApp3 (mkConst ``List.take [0]) (mkConst ``Stmt) one (mkApp3 (mkConst ``List.drop [0]) (mkConst ``Stmt) (mkRawNatLit idx) u.bE))
  twinTree stE.constName! (listE (mkConst ``Stmt) [st])
  let(o',S') <-stT u.fin o x.s x'.s
  let x:={x with steps:=max x.steps x'.steps}
  if only idx then
   let lem <-u.piece grp idx cap o S pos S' x x' from1 from2 stE
   lems:=lems.push (stE,S,pos,S',x,lem)
  o:=o'
  S:=S'
  pos:=x.pos
  idx:=idx+1
  from1:=x.s
  from2:=x'.s
 let(_,Sf) <-stH u.fin o t.fin.s t'.fin.s
 let(Sm,posm):=(S,pos)
 let fin <-byPiece (hdRows t.fin t'.fin) (fun w os=>pure (u.ask (mkRawNatLit t.fin.steps.succ) ``topRun w #[] (Sm.at w os) (mkApp4 (mkConst ``Thread.mk) (mkApp (mkConst ``doneF) (mkConst ``Flow.next)) u.cE (toExpr posm) u.B))) fun w os=>mkAppM ``some #[Sf.at w os]
 if lems.size != u.cells.length then throwError "x"
 let mut M:=mkRawNatLit t.fin.steps.succ
 for (_,_,_,_,x,_) in lems.toList.reverse do M:=mkApp2 (mkConst ``Nat.add) (mkRawNatLit x.steps.succ) M
 let Mb:=mkApp2 (mkConst ``Nat.add) (mkRawNatLit t.block.steps.succ) M
 let Mall:=mkApp2 (mkConst ``Nat.add) (mkRawNatLit t.pre.steps) Mb
 let run <-withLocalDeclD `w (mkConst ``World) fun w=>withLocalDeclD `os (mkConst ``OsState) fun os=>do
  let atW (l:ZE):MetaM ZE:=do mkAppM ``congrFun #[mkApp l w,os]
  let r:=Sf.at w os
  let mut k <-atW fin
  let mut N':=mkRawNatLit t.fin.steps.succ
  let mut rest:=listE (mkConst ``Stmt) []
  let common:=#[mkConst ``treeTable,u.pE,w,u.m0,u.annE,u.envE,u.qE]
  for (stE,S1,pos1,S',x,lem) in lems.toList.reverse do
   k:=mkAppN (mkConst ``piece_app) (common++#[mkRawNatLit x.steps.succ,N',S1.at w os,S'.at w os,r,stE,rest,u.cE,toExpr pos1,toExpr x.pos,<-atW lem,k])
   N':=mkApp2 (mkConst ``Nat.add) (mkRawNatLit x.steps.succ) N'
   rest <-mkAppM ``HAppend.hAppend #[stE,rest]
  k:=mkAppN (mkConst ``piece_block) (common++#[mkRawNatLit t.block.steps.succ,N',Sa.at w os,Sb.at w os,r,u.bE,u.cE,toExpr t.pre.pos,toExpr t.block.pos,<-atW block,k])
  N':=mkApp2 (mkConst ``Nat.add) (mkRawNatLit t.block.steps.succ) N'
  k:=mkAppN (mkConst ``go_top) (#[mkConst ``treeTable,u.pE,w,u.m0,u.annE,mkRawNatLit t.pre.steps,N',S0.at w os,Sa.at w os,r,stub,mkApp4 (mkConst ``Thread.mk) (mkApp2 (mkConst ``denote) (mkConst ``treeTable) u.cE) u.cE (toExpr t.pre.pos) u.B,<-atW pre,k])
  let ty <-mkEq (u.ask Mall ``topRun w #[] (S0.at w os) stub) (<-mkAppM ``some #[r])
  pure (<-mkForallFVars #[w,os] ty,<-mkLambdaFVars #[w,os] k)
 let runN <-lemmaOf run.1 run.2
 return(S0,Sf,runN,Mall)
def readyTwins:MetaM Unit:=do
 twinVia ``bindSpecialIfBound? ``bindY ``bindY_eq
 let k0 <-twinAll [``dictFind] [``bindSpecialIfBound?]
 twinVia ``dictFind ``dictFindY ``dictFindY_eq
 discard <|twinAll [``step,``denote] [``dictFind,``bindSpecialIfBound?]
 twinVia ``PySem.W.stepT ``stepY ``stepY_eq
 twinVia ``endAt ``endY ``endY_eq
 twinVia ``PySem.W.stepOk ``stepOkY ``stepOkY_eq
 let k <-twinAll [``step,``denote,``segRun,``segGo,``topGo,``topRun,``impGo,``importEnds,``fenceModules?,``openSeen,``opening,``start,``segRunT,``segGoT,``impGoT,``piecesOf,``blockOf,``topStub] [``dictFind,``bindSpecialIfBound?,``PySem.W.stepT,``endAt,``PySem.W.stepOk]
 Fast.primed.modify (·.insert ``PySem.Challenge.pw_wy0058_01 none)
 Fast.primed.modify (·.insert ``treeTable (some (``tableY,``tableY_eq)))
end
section
open Lean Meta Elab Tactic
noncomputable def viewBody:List Stmt:=by
 run_tac do
  let some cells <-cellsD? (<-mkAppM ``Module.body #[<-mkAppM ``Program.main #[mkConst ``PySem.Challenge.pw_wy0058_01]])|throwError "x"
  let some c:=cells.getLast? |throwError "x"
  (<-getMainGoal).assign (listE (mkConst ``Stmt) [c])
noncomputable def qv:Program:={PySem.Challenge.pw_wy0058_01 with main:={PySem.Challenge.pw_wy0058_01.main with body:=viewBody}}
def looseN:List Str:=["_sre","_wall","_tuplegetter","Match","_calculate_ratio","SequenceMatcher","restore","EMPTYSTRING","_Accumulator","b1_set","in_table_b1","b3_exceptions","map_table_b3","_name_disallowed_re","_value_disallowed_re","Headers","_law_typed","_law_read","_law_chained","_law_struck","_law_way","_law_stands"]
def topN:Nat:=40000
def obsT(s:Shared):Heap×Nat:=(s.heap,s.toks)
def lookIn:Nat->ZE->ZE->MetaM ZE
 |0,l,r=>do
  let P <-withLocalDeclD `w (mkConst ``World) fun w=>do
   mkLambdaFVars #[w] (<-mkEq (mkApp l w).headBeta (mkApp r w).headBeta)
  let e <-byKernelQuick P []
  overWO fun w os=>mkAppM ``congrFun #[mkApp e w,os]
 |n+1,l,r=>do
  let parts <-withLocalDeclD `w (mkConst ``World) fun w=>withLocalDeclD `os (mkConst ``OsState) fun os=>do
   let open_ (e:ZE):MetaM ZE:=do
    let e:=(mkApp2 e w os).headBeta
    if e.isAppOfArity ``Prod.mk 4 then return e
    if e.isAppOf ``openSeen||e.isAppOf ``openGood then return(<-unfoldDefinition? e).getD e else return e
   let(a,b):=(<-open_ l,<-open_ r)
   if a.isAppOfArity ``Prod.mk 4&&b.isAppOfArity ``Prod.mk 4 then
    let f (e:ZE) (i:Nat):=mkLambdaFVars #[w,os] e.getAppArgs[i]!
    return some ((<-f a 2,<-f a 3),(<-f b 2,<-f b 3))
   return none
  match parts with
  |none=>lookIn 0 l r
  |some ((a1,a2),(b1,b2)) =>
   let x <-lookIn 0 a1 b1
   let y <-lookIn n a2 b2
   let(ty,pf) <-withLocalDeclD `w (mkConst ``World) fun w=>withLocalDeclD `os (mkConst ``OsState) fun os=>do
    let pf <-mkAppM ``looks_pair #[mkApp2 x w os,mkApp2 y w os]
    pure (<-mkForallFVars #[w,os] (<-mkEq (mkApp2 l w os).headBeta (mkApp2 r w os).headBeta),<-mkLambdaFVars #[w,os] pf)
   lemmaOf ty pf
def tracesOf(p:Program):MetaM (Trace×Trace):=do
 match <-traceTop p 40000 1,<-traceTop p 40000 2 with
 | .ok t,.ok t'=>pure (t,t')
 | .error m,_|_,.error m=>throwError "head: {m}"
def endTop:MetaM Unit:=do
 let pE:=mkConst ``PySem.Challenge.pw_wy0058_01
 Fast.primed.modify (·.insert ``PySem.Challenge.pw_wy0058_01 none)
 let p <-progOf pE
 let(t,t') <-tracesOf p
 let some cells <-cellsD? (<-mkAppM ``Module.body #[<-mkAppM ``Program.main #[pE]])|throwError "x"
 for c in cells do discard <|(treeTwin 100000 c).run ({},#[])
 let(s,s'):=(t.fin.s,t'.fin.s)
 let P:=mkConst ``Params
 let mut os:=#[]
 for i in[0:s.heap.objs.size] do
  let c <-defAs (finName i) (<-mkArrow P (mkConst ``Obj)) (<-objV i s.heap.objs[i]! s'.heap.objs[i]!)
  Fast.primed.modify (·.insert (finName i) none)
  os:=os.push c
 let v <-withLocalDeclD `P P fun p=>do
  mkLambdaFVars #[p] (mkApp2 (mkConst ``Heap.mk) (mkApp2 (mkConst ``Array.mk [0]) (mkConst ``Obj) (listE (mkConst ``Obj) (os.toList.map fun e=>mkApp e p))) (toExpr s.heap.life))
 discard <|defAs `Mine.topHeap (<-mkArrow P (mkConst ``Heap)) v
 Fast.primed.modify (·.insert `Mine.topHeap none)
 discard <|defAs `Mine.topToks (mkConst ``Nat) (mkRawNatLit s.toks)
def buildTop(grp cap:Nat):MetaM Unit:=do
 readyTwins
 let pE:=mkConst ``PySem.Challenge.pw_wy0058_01
 let p <-progOf pE
 let NE:=mkRawNatLit 40000
 let(t,t') <-tracesOf p
 let u <-setUp pE p t t'
 let(S0,Sf,runN,Mall) <-runIn u grp cap
 let open_ <-openingIn u.fin pE p NE S0
 let(top,toks):=(mkConst `Mine.topHeap,mkConst `Mine.topToks)
 let loose:=mkConst ``looseN
 let obs:=mkConst ``obsT
 let al <-mkAppM ``Prod #[mkConst ``Heap,mkConst ``Nat]
 let Xt:=Lean.Expr.lam `s (mkConst ``Shared) (mkConst ``Bool.true) .default
 let Ya <-withLocalDeclD `w (mkConst ``World) fun w=>do mkLambdaFVars #[w] (<-mkAppM ``Prod.mk #[mkApp top (mkApp (mkConst ``World.params) w),toks])
 let(ms,_,concl) <-forallMetaTelescope (<-inferType (mkConst ``LeftO.of_pieces))
 let vals:=#[pE,mkConst ``qv,loose,Xt,al,obs,Ya,NE,mkConst ``Bool.true,S0.heap,top,S0.gens,Sf.gens,S0.drawn,Sf.drawn,S0.toks,toks,u.m0,u.annE,Mall]
 for (m,v) in ms.zip vals do m.mvarId!.assign v
 let asP (ty:ZE):MetaM ZE:=do
  let .forallE n d b bi:=ty|throwError "x"
  pure (.lam n d b bi)
 let size <-byKernelQuick (<-asP (<-instantiateMVars (<-inferType ms[21]!))) []
 let .forallE _ _ bd _:=<-instantiateMVars (<-inferType ms[24]!)|throwError "x"
 let(l,r) <-withLocalDeclD `w (mkConst ``World) fun w=>do
  let some (_,l,r):=(bd.instantiate1 w).eq? |throwError "x"
  pure (<-mkLambdaFVars #[w] l,<-mkLambdaFVars #[w] r)
 let h <-do
  let h <-lookIn 2 l r
  pure h
 let looks <-withLocalDeclD `w (mkConst ``World) fun w=>do
  let f <-withLocalDeclD `os (mkConst ``OsState) fun os=>do mkLambdaFVars #[os] (mkApp2 h w os)
  mkLambdaFVars #[w] (<-mkAppM ``funext #[f])
 let le <-mkDecideProof (<-instantiateMVars (<-inferType ms[23]!))
 let pf:=mkAppN (mkConst ``LeftO.of_pieces) (vals++#[open_,size,runN,le,looks])
 addDecl (.thmDecl {name:=`Mine.topLeft,levelParams:=[],type:=<-instantiateMVars concl,value:=pf})
def finish(env0:Environment):MetaM Unit:=do
 setEnv (<-cleanTo env0 [`Mine.whole1,``dictFindY_eq,``bindY_eq,``tableY_eq,``strN,``restEx,``qv,``looseN,``obsT,`Mine.topHeap,`Mine.topToks])
 let l:=mkConst ``PySem.Challenge.rw_wy0058_01
 let said <-lookSplit (mkApp (mkConst ``OpenLaw.wellSaid) l)
 let r:=mkApp2 (mkConst ``Eq.refl [1]) (mkConst ``Bool) (mkConst ``Bool.true)
 let mut pf:=mkConst `Mine.whole1
 let mut ty <-inferType pf
 for i in[0:10] do
  let .forallE _ t b _:=ty|throwError "x"
  let n:=(`Mine).str s!"hard{i}"
  addDecl (.thmDecl {name:=n,levelParams:=[],type:=t,value:=if t.isForall then .lam `w (mkConst ``World) r .default else r})
  pf:=.app pf (mkConst n)
  ty:=b
 buildTop 8 3000
 addDecl (.thmDecl {name:=`Mine.whole,levelParams:=[],type:=mkApp (mkConst ``OpenLaw.Holds) l,value:=mkApp3 (mkConst ``holds_law) l said (.app pf (mkConst `Mine.topLeft))})
end
section
open Lean Meta Elab Tactic
theorem topEnd:True:=by
 run_tac endTop
 trivial
end
section
open Lean Meta Elab Tactic
def bodyRow:TacticM Unit:=do
 let g <-getMainGoal
 let some (_,l,r):=(<-instantiateMVars (<-g.getType)).eq? |throwError "x"
 let c:=r.appArg!
 let some (.defnInfo d):=(<-getEnv).find? c.constName! |throwError "x"
 let v:=d.value
 let(hd,rest):=(v.getAppArgs[1]!,v.getAppArgs[2]!)
 let(hd0,(_,ds)) <-(treeTwin 100000 hd).run ({},#[])
 if ds.isEmpty then g.assign (<-mkExpectedTypeHint (<-mkEqRefl l) (<-g.getType))
 else
  let(hd',pf0) <-turnedR c.constName! [] .abbrev hd0 ds
  let pf <-mkExpectedTypeHint pf0 (<-mkEq hd hd')
  let f:=Lean.Expr.lam `x (mkConst ``Stmt) (mkApp (mkConst ``FuncBody.stmts) (mkApp3 (mkConst ``List.cons [.zero]) (mkConst ``Stmt) (.bvar 0) rest)) .default
  let p1 <-mkExpectedTypeHint (<-mkEqRefl l) (<-mkEq l (f.beta #[hd']))
  let p2 <-mkCongrArg f pf
  let p2 <-mkExpectedTypeHint p2 (<-mkEq r (f.beta #[hd']))
  g.assign (<-mkEqTrans p1 (<-mkEqSymm p2))
end
section
theorem Dom.funC{T:Heap}{nm:Str}{B:List Stmt}{S:Scope}{names:List Str}{a:Addr}(hg:Gl T nm (.ref a))(b:fnB T a false []=true)(hB:(bZ T a).body=.stmts B)(hS:(bZ T a).scope=S)(hc:(bZ T a).closure=[])(hk:S.kind=.function)(nd:names.Nodup)
  (kinds:∀ L,∀ x∈names,S.names.lookup x=some .local\/(S.names.lookup x=some .cell/\((cellsFrom (L+1) S.names []).lookup x).isSome=true))
  (hb:∀ ba:List Value,ba.length=names.length->bindArgs (bZ T a) ⟨ba,[]⟩=pure (names.zip ba)):Fun T nm B S names a:=by
 obtain⟨b1,b2,b3,b4,b5,b6,b7⟩:=mI b
 subst hS
 exact⟨hg,_,⟨b1,b2,hB,hb,hc,b3,b4,nd,kinds,b6,b7,hk⟩,rfl⟩
theorem a30{S:Scope}{x:Str}(h:∀ L,S.names.lookup x=some .local\/(S.names.lookup x=some .cell/\((cellsFrom (L+1) S.names []).lookup x).isSome=true)):∀ L,∀ y∈[x],S.names.lookup y=some .local\/(S.names.lookup y=some .cell/\((cellsFrom (L+1) S.names []).lookup y).isSome=true):=fun L y hy=>by
 rw[List.mem_singleton.mp hy];exact h L
theorem vC{S:Scope}{x x':Str}(h:∀ L,S.names.lookup x=some .local\/(S.names.lookup x=some .cell/\((cellsFrom (L+1) S.names []).lookup x).isSome=true))(h':∀ L,S.names.lookup x'=some .local\/(S.names.lookup x'=some .cell/\((cellsFrom (L+1) S.names []).lookup x').isSome=true)):∀ L,∀ y∈[x,x'],S.names.lookup y=some .local\/(S.names.lookup y=some .cell/\((cellsFrom (L+1) S.names []).lookup y).isSome=true):=fun L y hy=>by
 rcases Ab.mp hy with rfl|hy
 ·exact h L
 ·rw[List.mem_singleton.mp hy];exact h' L
theorem Dom.fun{T:Heap}{nm:Str}{B:List Stmt}{S:Scope}{names:List Str}{a:Addr}(hg:Gl T nm (.ref a))(b:fnB T a false names=true)(hB:(bZ T a).body=.stmts B)(hS:(bZ T a).scope=S)(hc:(bZ T a).closure=[])(hk:S.kind=.function)(nd:names.Nodup)
  (hb:∀ ba:List Value,ba.length=names.length->bindArgs (bZ T a) ⟨ba,[]⟩=pure (names.zip ba)):Fun T nm B S names a:=by
 obtain⟨b1,b2,b3,b4,b5,b6,b7⟩:=mI b
 exact⟨hg,_,⟨b1,b2,hB,hb,hc,b3,b4,nd,fun L x hx=>.inl (b5 x hx),b6,b7,by rw[hS];exact hk⟩,hS⟩
theorem Dom.gen{T:Heap}{nm:Str}{B:List Stmt}{S:Scope}{names:List Str}{a:Addr}(hg:Gl T nm (.ref a))(b:fnB T a true names=true)(hB:(bZ T a).body=.stmts B)(hS:(bZ T a).scope=S)(hc:(bZ T a).closure=[])(hk:S.kind=.function)(nd:names.Nodup)
  (hb:∀ ba:List Value,ba.length=names.length->bindArgs (bZ T a) ⟨ba,[]⟩=pure (names.zip ba)):oL T nm B S names a:=by
 obtain⟨b1,b2,b3,b4,b5,b6,b7⟩:=mI b
 exact⟨hg,_,⟨b1,b2,hB,hb,hc,b3,b4,nd,fun L x hx=>.inl (b5 x hx),b6,b7,by rw[hS];exact hk⟩,hS⟩
theorem Dom.meth{T:Heap}{B:List Stmt}{S:Scope}{names:List Str}{a:Addr}(b:fnB T a false names=true)(hB:(bZ T a).body=.stmts B)(hS:(bZ T a).scope=S)(hc:(bZ T a).closure=[])(hk:S.kind=.function)(nd:names.Nodup):cB T B S names a:=by
 obtain⟨b1,b2,b3,b4,b5,b6,b7⟩:=mI b
 exact⟨_,⟨b1,b2,hB,hc,b3,b4,nd,fun L x hx=>.inl (b5 x hx),b6,b7,by rw[hS];exact hk⟩,hS⟩
theorem len1{α:Type}{v:List α}(h:v.length=1):∃ a,v=[a]:=by
 cases v with
 |nil=>cases h
 |cons a r=>cases r with
  |nil=>exact⟨a,rfl⟩
  |cons=>cases h
theorem lenS{α:Type}{v:List α}{n:Nat}(h:v.length=n+1):∃ a r,v=a::r/\r.length=n:=by
 cases v with
 |nil=>cases h
 |cons a r=>exact⟨a,r,rfl,Nat.succ.inj h⟩
theorem i9{α:Type}{v:List α}(h:v.length=0):v=[]:=List.eq_nil_of_length_eq_zero h
theorem pD{fd:FuncData}{x:Str}(h:∀ a,bindArgs fd ⟨[a],[]⟩=pure [(x,a)]):∀ ba:List Value,ba.length=[x].length->bindArgs fd ⟨ba,[]⟩=pure ([x].zip ba):=fun ba e=>by
 obtain⟨a,rfl⟩:=len1 e;exact h a
theorem rY{fd:FuncData}{x y:Str}(h:∀ a b,bindArgs fd ⟨[a,b],[]⟩=pure [(x,a),(y,b)]):∀ ba:List Value,ba.length=[x,y].length->bindArgs fd ⟨ba,[]⟩=pure ([x,y].zip ba):=fun ba e=>by
 obtain⟨a,r,rfl,e1⟩:=lenS e;obtain⟨b,rfl⟩:=len1 e1;exact h a b
theorem bB{T:Heap}{a:Addr}{k:Nat}{kw:List (Str×Value)}{names:List Str}{dps:List PV}(ds:List Value)(hk:k+ds.length=names.length)(hp:∀ Z h,Paired (Rp Z h) dps ds)(b:(T.get? a).isSome=true)(hb:∀ vs:List Value,vs.length=k->∀ S:Setting,peek (lR T) S (bindArgs (bZ T a) ⟨vs,kw⟩)=some (names.zip (vs++ds))):aV T a k kw names dps:=by
 refine⟨ds,hk,hp,fun o fd e d vs hv aa w=>?_⟩
 have:fd=bZ T a:=by
  have e':=cJ b
  rw[e]at e'
  have e':=Bk e'
  unfold bZ
  rw[<-e',d]
 rw[this];exact Gu (aO T) (hb vs hv _)
variable(P:Params)
def Tp:Heap:=oC (topHeap P) 312 319
theorem vH:(Tp P).Ns mainGlobals (nsFind (iL (Tp P) mainGlobals)):=v3 ⋯
theorem mb_at:(Tp P).Ns builtinsNs (nsFind (iL (Tp P) builtinsNs)):=v3 ⋯
theorem yK:(Tp P).Ns cStatics (nsFind (iL (Tp P) cStatics)):=v3 ⋯
theorem kQ:(Tp P).NoLimit:=⟨_,yK P,⋯⟩
theorem k_nb:NoneBooked (Tp P):=⟨_,yK P,⋯⟩
theorem k_sm:∃ o,(Tp P).get? sysModules=some o:=⟨_,cJ ⋯⟩
def wS(n:Str)(v:Value):Bool:=match v with| .str x _=>Fast.lEq x.cps.toList n.cps.toList|_=>false
theorem y8(n:Str)(v:Value):v.isStr n=wS n v:=by
 cases v with
 |str x _ =>
  obtain⟨⟨x⟩⟩:=x
  obtain⟨⟨n⟩⟩:=n
  show((⟨⟨x⟩⟩:Str)==⟨⟨n⟩⟩)=Fast.lEq x n
  rw[Bool.eq_iff_iff,beq_iff_eq,Fast.lEq_iff]
  exact⟨fun q=>by cases q;rfl,fun q=>by rw[q]⟩
 |_=>rfl
def nsF(es:Array DictEntry)(n:Str):Option Value:=@List.rec DictEntry (fun _=>Option Value) none (fun e _ ih=>@Bool.rec (fun _=>Option Value) ih (some e.val) (wS n e.key)) es.toList
theorem rF(es:Array DictEntry)(n:Str):nsFind es n=nsF es n:=by
 obtain⟨l⟩:=es
 unfold nsFind findBy
 rw[List.find?_toArray]
 induction l with
 |nil=>rfl
 |cons e l ih =>
  rw[List.find?_cons]
  dsimp only
  rw[y8]
  show _ = @Bool.rec (fun _=>Option Value) (nsF ⟨l⟩ n) (some e.val) (wS n e.key)
  cases wS n e.key with
  |true=>rfl
  |false=>exact ih
theorem dD{x:Str}{v:Value}(h:nsF (iL (Tp P) mainGlobals) x=some v):Gl (Tp P) x v:=⟨_,vH P,(rF _ _).trans h⟩
theorem dY{x:Str}{v:Value}(h:nsF (iL (Tp P) mainGlobals) x=none)(h':nsF (iL (Tp P) builtinsNs) x=some v):Bi (Tp P) x v:=⟨_,_,vH P,(rF _ _).trans h,mb_at P,(rF _ _).trans h'⟩
theorem k_enu:Bi (Tp P) "enumerate" (.type "enumerate"):=dY P ⋯ ⋯
theorem k_ran:Bi (Tp P) "range" (.type "range"):=dY P ⋯ ⋯
theorem yD:Bi (Tp P) "list" (.type "list"):=dY P ⋯ ⋯
theorem k_tup:Bi (Tp P) "tuple" (.type "tuple"):=dY P ⋯ ⋯
theorem yN:Bi (Tp P) "str" (.type "str"):=dY P ⋯ ⋯
theorem k_set:Bi (Tp P) "set" (.type "set"):=dY P ⋯ ⋯
theorem k_zip:Bi (Tp P) "zip" (.type "zip"):=dY P ⋯ ⋯
theorem k_int:Bi (Tp P) "int" (.type "int"):=dY P ⋯ ⋯
theorem z7:Bi (Tp P) "KeyError" (.type "KeyError"):=dY P ⋯ ⋯
theorem zF:Bi (Tp P) "ValueError" (.type "ValueError"):=dY P ⋯ ⋯
theorem yJ:Bi (Tp P) "len" (.builtin "len"):=dY P ⋯ ⋯
theorem k_ord:Bi (Tp P) "ord" (.builtin "ord"):=dY P ⋯ ⋯
theorem k_chr:Bi (Tp P) "chr" (.builtin "chr"):=dY P ⋯ ⋯
theorem zM:Bi (Tp P) "type" (.type "type"):=dY P ⋯ ⋯
theorem wV:Bi (Tp P) "super" (.type "super"):=dY P ⋯ ⋯
theorem k_sum:Bi (Tp P) "sum" (.builtin "sum"):=dY P ⋯ ⋯
theorem k_fTy:Fun (Tp P) "_law_typed" typedB typedS ["word","number"] 562:=Dom.fun (dD P ⋯) ⋯ ⋯ ⋯ ⋯ ⋯ ‹d› (rY fun a b=>⋯)
theorem k_fRd:Fun (Tp P) "_law_read" readB readS ["text"] 567:=Dom.fun (dD P ⋯) ⋯ ⋯ ⋯ ⋯ ⋯ ‹d› (pD fun a=>⋯)
theorem k_fI1:Fun (Tp P) "in_table_b1" inb1B inb1S ["code"] 372:=Dom.fun (dD P ⋯) ⋯ ⋯ ⋯ ⋯ ⋯ ‹d› (pD fun a=>⋯)
theorem k_fM3:Fun (Tp P) "map_table_b3" mapb3B mapb3S ["code"] 418:=Dom.fun (dD P ⋯) ⋯ ⋯ ⋯ ⋯ ⋯ ‹d› (pD fun a=>⋯)
theorem k_fCh:Fun (Tp P) "_law_chained" chainedB chainedS ["word","begins"] 572:=Dom.funC (dD P ⋯) ⋯ ⋯ ⋯ ⋯ ⋯ ‹d› (vC (fun L=>.inr ⟨⋯,⋯⟩) (fun L=>.inr ⟨⋯,⋯⟩)) (rY fun a b=>⋯)
theorem k_fSk:Fun (Tp P) "_law_struck" struckB struckS ["word","struck"] 577:=Dom.funC (dD P ⋯) ⋯ ⋯ ⋯ ⋯ ⋯ ‹d› (vC (fun L=>.inl ⋯) (fun L=>.inr ⟨⋯,⋯⟩)) (rY fun a b=>⋯)
theorem k_fWy:Fun (Tp P) "_law_way" wayB wayS ["word"] 582:=Dom.funC (dD P ⋯) ⋯ ⋯ ⋯ ⋯ ⋯ ‹d› (a30 (fun L=>.inr ⟨⋯,⋯⟩)) (pD fun a=>⋯)
theorem k_fSd:Fun (Tp P) "_law_stands" standsB standsS ["word"] 587:=Dom.fun (dD P ⋯) ⋯ ⋯ ⋯ ⋯ ⋯ ‹d› (pD fun a=>⋯)
theorem k_fRe:oL (Tp P) "restore" restoreB restoreS ["delta","which"] 270:=Dom.gen (dD P ⋯) ⋯ (by run_tac bodyRow) ⋯ ⋯ ⋯ ‹d› (rY fun a b=>⋯)
theorem m_hI:cB (Tp P) hdInitB hdInitS ["self","headers"] 443:=Dom.meth ⋯ (by run_tac bodyRow) ⋯ ⋯ ⋯ ‹d›
theorem m_hV:cB (Tp P) hdConvB hdConvS ["self","value","name"] 450:=Dom.meth ⋯ (by run_tac bodyRow) ⋯ ⋯ ⋯ ‹d›
theorem m_hG:cB (Tp P) hdGetB hdGetS ["self","name","default"] 498:=Dom.meth ⋯ (by run_tac bodyRow) ⋯ ⋯ ⋯ ‹d›
theorem m_sI:cB (Tp P) smInitB smInitS ["self","isjunk","a","b","autojunk"] 177:=Dom.meth ⋯ (by run_tac bodyRow) ⋯ ⋯ ⋯ ‹d›
theorem m_sS:cB (Tp P) smSeqsB smSeqsS ["self","a","b"] 184:=Dom.meth ⋯ (by run_tac bodyRow) ⋯ ⋯ ⋯ ‹d›
theorem m_s1:cB (Tp P) smSeq1B smSeq1S ["self","a"] 191:=Dom.meth ⋯ (by run_tac bodyRow) ⋯ ⋯ ⋯ ‹d›
theorem m_s2:cB (Tp P) smSeq2B smSeq2S ["self","b"] 198:=Dom.meth ⋯ (by run_tac bodyRow) ⋯ ⋯ ⋯ ‹d›
theorem m_sC:cB (Tp P) smChainB smChainS ["self"] 205:=Dom.meth ⋯ (by run_tac bodyRow) ⋯ ⋯ ⋯ ‹d›
theorem m_sF:cB (Tp P) smFindB smFindS ["self","alo","ahi","blo","bhi"] 213:=Dom.meth ⋯ (by run_tac bodyRow) ⋯ ⋯ ⋯ ‹d›
theorem m_mN:cB (Tp P) maNewB maNewS ["_cls","a","b","size"] 99:=Dom.meth ⋯ (by run_tac bodyRow) ⋯ ⋯ ⋯ ‹d›
theorem m_cP:cB (Tp P) accPushB accPushS ["self","fws","string"] 294:=Dom.meth ⋯ (by run_tac bodyRow) ⋯ ⋯ ⋯ ‹d›
theorem m_cQ:cB (Tp P) accPopB accPopS ["self","i"] 302:=Dom.meth ⋯ (by run_tac bodyRow) ⋯ ⋯ ⋯ ‹d›
theorem m_cL:cB (Tp P) accLenB accLenS ["self"] 317:=Dom.meth ⋯ (by run_tac bodyRow) ⋯ ⋯ ⋯ ‹d›
theorem m_cS:cB (Tp P) accStrB accStrS ["self"] 324:=Dom.meth ⋯ (by run_tac bodyRow) ⋯ ⋯ ⋯ ‹d›
theorem b_hI:aV (Tp P) 443 2 [] ["self","headers"] []:=bB [] rfl (fun Z h=>.nil) ⋯ (fun vs e S=>by
 obtain⟨a,r0,rfl,e0⟩:=lenS e;obtain⟨b,r1,rfl,e1⟩:=lenS e0;obtain rfl:=i9 e1;kernel_rfl)
theorem b_hV(b0:Bool):aV (Tp P) 450 2 [("name",.bool b0)] ["self","value","name"] [.bool b0]:=bB [.bool b0] rfl (fun Z h=>(.cons (.bool _) .nil)) ⋯ (fun vs e S=>by
 obtain⟨a,r0,rfl,e0⟩:=lenS e;obtain⟨b,r1,rfl,e1⟩:=lenS e0;obtain rfl:=i9 e1;kernel_rfl)
theorem b_hG:aV (Tp P) 498 2 [] ["self","name","default"] [.none]:=bB [.none] rfl (fun Z h=>(.cons .none .nil)) ⋯ (fun vs e S=>by
 obtain⟨a,r0,rfl,e0⟩:=lenS e;obtain⟨b,r1,rfl,e1⟩:=lenS e0;obtain rfl:=i9 e1;kernel_rfl)
theorem b_sI:aV (Tp P) 177 4 [] ["self","isjunk","a","b","autojunk"] [.bool true]:=bB [.bool true] rfl (fun Z h=>(.cons (.bool _) .nil)) ⋯ (fun vs e S=>by
 obtain⟨a,r0,rfl,e0⟩:=lenS e;obtain⟨b,r1,rfl,e1⟩:=lenS e0;obtain⟨c,r2,rfl,e2⟩:=lenS e1;obtain⟨d,r3,rfl,e3⟩:=lenS e2;obtain rfl:=i9 e3;kernel_rfl)
theorem b_sS:aV (Tp P) 184 3 [] ["self","a","b"] []:=bB [] rfl (fun Z h=>.nil) ⋯ (fun vs e S=>by
 obtain⟨a,r0,rfl,e0⟩:=lenS e;obtain⟨b,r1,rfl,e1⟩:=lenS e0;obtain⟨c,r2,rfl,e2⟩:=lenS e1;obtain rfl:=i9 e2;kernel_rfl)
theorem b_s1:aV (Tp P) 191 2 [] ["self","a"] []:=bB [] rfl (fun Z h=>.nil) ⋯ (fun vs e S=>by
 obtain⟨a,r0,rfl,e0⟩:=lenS e;obtain⟨b,r1,rfl,e1⟩:=lenS e0;obtain rfl:=i9 e1;kernel_rfl)
theorem b_s2:aV (Tp P) 198 2 [] ["self","b"] []:=bB [] rfl (fun Z h=>.nil) ⋯ (fun vs e S=>by
 obtain⟨a,r0,rfl,e0⟩:=lenS e;obtain⟨b,r1,rfl,e1⟩:=lenS e0;obtain rfl:=i9 e1;kernel_rfl)
theorem b_sC:aV (Tp P) 205 1 [] ["self"] []:=bB [] rfl (fun Z h=>.nil) ⋯ (fun vs e S=>by
 obtain⟨a,r0,rfl,e0⟩:=lenS e;obtain rfl:=i9 e0;kernel_rfl)
theorem b_sF:aV (Tp P) 213 1 [] ["self","alo","ahi","blo","bhi"] [.int 0,.none,.int 0,.none]:=bB [.int 0 559,.none,.int 0 560,.none] rfl (fun Z h=>(.cons (.int _ _) (.cons .none (.cons (.int _ _) (.cons .none .nil))))) ⋯ (fun vs e S=>by
 obtain⟨a,r0,rfl,e0⟩:=lenS e;obtain rfl:=i9 e0;kernel_rfl)
theorem b_mN:aV (Tp P) 99 4 [] ["_cls","a","b","size"] []:=bB [] rfl (fun Z h=>.nil) ⋯ (fun vs e S=>by
 obtain⟨a,r0,rfl,e0⟩:=lenS e;obtain⟨b,r1,rfl,e1⟩:=lenS e0;obtain⟨c,r2,rfl,e2⟩:=lenS e1;obtain⟨d,r3,rfl,e3⟩:=lenS e2;obtain rfl:=i9 e3;kernel_rfl)
theorem b_cP:aV (Tp P) 294 3 [] ["self","fws","string"] []:=bB [] rfl (fun Z h=>.nil) ⋯ (fun vs e S=>by
 obtain⟨a,r0,rfl,e0⟩:=lenS e;obtain⟨b,r1,rfl,e1⟩:=lenS e0;obtain⟨c,r2,rfl,e2⟩:=lenS e1;obtain rfl:=i9 e2;kernel_rfl)
theorem b_cQ:aV (Tp P) 302 2 [] ["self","i"] []:=bB [] rfl (fun Z h=>.nil) ⋯ (fun vs e S=>by
 obtain⟨a,r0,rfl,e0⟩:=lenS e;obtain⟨b,r1,rfl,e1⟩:=lenS e0;obtain rfl:=i9 e1;kernel_rfl)
theorem b_cL:aV (Tp P) 317 1 [] ["self"] []:=bB [] rfl (fun Z h=>.nil) ⋯ (fun vs e S=>by
 obtain⟨a,r0,rfl,e0⟩:=lenS e;obtain rfl:=i9 e0;kernel_rfl)
theorem b_cS:aV (Tp P) 324 1 [] ["self"] []:=bB [] rfl (fun Z h=>.nil) ⋯ (fun vs e S=>by
 obtain⟨a,r0,rfl,e0⟩:=lenS e;obtain rfl:=i9 e0;kernel_rfl)
end
section
def iH(h:Heap)(a:Addr):Array Value:=match(bH h a).data with| .fields vs=>vs| .seq vs _=>vs|_=>#[]
def nAt(h:Heap)(a:Addr):Nat:=match(bH h a).data with| .seq _ n=>n|_=>0
def x8(h:Heap)(a:Addr):Option ClassData:=match(bH h a).data with| .cls cd=>some cd|_=>none
theorem zH{h:Heap}{C:Addr}(b:(h.get? C).isSome=true)(hc:(x8 h C).isSome=true):∃ oc od cd sl,h.get? C=some ⟨oc,od,.cls cd,sl⟩:=by
 have e:=cJ b
 unfold x8 at hc
 cases q:bH h C with
 |mk c d dt sl =>
  rw[q]at e hc
  cases dt <;> first|exact⟨_,_,_,_,e⟩|cases hc
theorem y9{h:Heap}{a:Addr}{o:Obj}{fd:FuncData}(e:h.get? a=some o)(d:o.data=.func fd):fd=bZ h a:=by
 unfold bZ bH
 rw[e]
 show fd=match o.data with| .func fd=>fd|_=>default
 rw[d]
def lF(es:Array (Int×Value))(k:Int):Bool:=es.toList.any fun e=>e.2.isInt k
def rS(e:Int×Value):Bool:=match e.2 with| .int k _=>e.1==hashInt k&&e.2.scannable|_=>false
def l7(h:Heap)(a:Addr):Array (Int×Value):=match(bH h a).data with| .set es _ _=>es|_=>#[]
def setB(h:Heap)(a:Addr):Bool:=(h.get? a).isSome&&(match bH h a with|⟨c,d,.set es _ t,sl⟩=>c==.type "set" && d.isNone&&sl.isEmpty&&es.toList.all rS&&decide (es.size<scanBound)&&t.fits es.size|_=>false)
theorem zD{aa:Program}{w:World}{h:Heap}{a:Addr}(b:setB h a=true):h.SetOf (intKind aa w) a (lF (l7 h a)) (l7 h a).size:=by
 obtain⟨b1,b2⟩:=A6.mp b
 have e:=cJ b1
 unfold l7
 cases q:bH h a with
 |mk c d dt sl =>
  rw[q]at e b2
  cases dt <;> first|cases b2|skip
  rename_i es n t
  simp only[Bool.and_eq_true (_&&_) _,decide_eq_true_eq,Bool.and_eq_true (_==_) _,beq_iff_eq]at b2
  obtain⟨⟨⟨⟨⟨c1,c2⟩,c3⟩,c4⟩,c5⟩,c6⟩:=b2
  refine⟨_,es,n,t,e,⟨c1,Dc.mp c2,Array.isEmpty_iff.mp c3⟩,rfl,fun x hx=>?_,fun k=>?_,c5,c6,rfl⟩
  ·have:=A9.mp c4 x hx
   unfold rS at this
   split at this
   ·rename_i k tk hk
    rw[Bool.and_eq_true,beq_iff_eq]at this
    exact⟨⟨k,by rw[hk];simp[intKind,Value.isInt],this.1⟩,this.2⟩
   ·cases this
  ·unfold lF
   rw[List.any_eq_true];rfl
def g9(es:Array DictEntry)(k:Int):Option Str:=match findBy Value.isInt es k with|some (.str x _)=>some x|_=>none
def l4(e:DictEntry):Bool:=(match e.key with| .int k _=>e.hash==hashInt k|_=>false)&&rH e.val
def dictB(h:Heap)(a:Addr):Bool:=(h.get? a).isSome&&(match bH h a with|⟨c,d,.dict es _,sl⟩=>c==.type "dict" && d.isNone&&sl.isEmpty&&es.toList.all l4|_=>false)
theorem xU{aa:Program}{w:World}{h:Heap}{a:Addr}(b:dictB h a=true)(hs:(a==sysModules)=false):j4 aa w h a (g9 (iL h a)):=by
 obtain⟨b1,b2⟩:=A6.mp b
 have e:=cJ b1
 unfold iL
 cases q:bH h a with
 |mk c d dt sl =>
  rw[q]at e b2
  cases dt <;> first|cases b2|skip
  rename_i es n
  simp only[Bool.and_eq_true (_&&_) _,Bool.and_eq_true (_==_) _,beq_iff_eq]at b2
  obtain⟨⟨⟨c1,c2⟩,c3⟩,c4⟩:=b2
  refine⟨hs,findBy (intKind aa w).is es,⟨_,es,n,e,⟨c1,Dc.mp c2,Array.isEmpty_iff.mp c3⟩,rfl,fun x hx=>?_,fun _=>rfl⟩,fun k=>?_⟩
  ·have:=A9.mp c4 x (Ee.mpr hx)
   unfold l4 at this
   rw[Bool.and_eq_true]at this
   obtain⟨t1,_⟩:=this
   split at t1
   ·rename_i k tk hk
    exact⟨k,by rw[hk];simp[intKind,Value.isInt],Ai.mp t1⟩
   ·cases t1
  ·show match g9 es k with|some x=>∃ t,findBy Value.isInt es k=some (.str x t)|none=>findBy Value.isInt es k=none
   unfold g9
   cases hf:findBy Value.isInt es k with
   |none=>rfl
   |some v =>
    have hv:rH v=true:=by
     unfold findBy at hf
     obtain⟨x,hx,rfl⟩:=Bb.mp hf
     have hx:=Array.mem_of_find?_eq_some hx
     have:=A9.mp c4 x (Ee.mpr hx)
     unfold l4 at this
     exact(A6.mp this).2
    cases v <;> first|exact⟨_,rfl⟩|cases hv
end
section
variable(P:Params)
abbrev pwL:Program:=PySem.Challenge.pw_wy0058_01
theorem yE{T:Heap}{p c:Addr}{code:Array Nat}(b1:(T.get? p).isSome=true)(b2:(T.get? c).isSome=true)(h1:(bH T p).cls=.type "re.Pattern")(h2:(bH T p).dict=none)(h3:(bH T p).data=.fields (iH T p))(h4:(iH T p).getD 5 .none=.ref c)(h5:(iH T p).getD 6 .none=.int 0 0)(h6:(iH T p).getD 2 .none=.int 0 0)
  (h7:(bH T c).data=.seq (iH T c) (nAt T c)) (h8:((iH T c).map Builtin.Re.reRawOf).map (·.toNat)=code):RxK T p code:=⟨⟨_,_,c,_,_,_,cJ b1,h1,h2,h3,h4,h5,h6,cJ b2,h7,h8⟩⟩
theorem hd_k:HdK (Tp P) (lR (Tp P)) 551 443 450 498 423 428 where
 lim:=kQ P
 inn:=aO _
 mak:=⋯
 at_:=⋯
 st:=⋯
 mV:=⋯
 mG:=⋯
 dfI:=m_hI P
 dfV:=m_hV P
 dfG:=m_hG P
 bI:=b_hI P
 bV:=b_hV P
 bG:=b_hG P
 gN:=dD P ⋯
 gV:=dD P ⋯
 rN:=yE (c:=422) ⋯ ⋯ ⋯ ⋯ ⋯ ⋯ ⋯ ⋯ ⋯ ⋯
 rV:=yE (c:=427) ⋯ ⋯ ⋯ ⋯ ⋯ ⋯ ⋯ ⋯ ⋯ ⋯
 ty:=zM P
 str:=yN P
 lst:=yD P
theorem sm_k:SmK (Tp P) (lR (Tp P)) 259 177 184 191 198 205 213 where
 lim:=kQ P
 inn:=aO _
 mak:=⋯
 at_:=⋯
 st:=⋯
 mS:=⋯
 m1:=⋯
 m2:=⋯
 mC:=⋯
 mF:=⋯
 dfI:=m_sI P
 dfS:=m_sS P
 df1:=m_s1 P
 df2:=m_s2 P
 dfC:=m_sC P
 dfF:=m_sF P
 bI:=b_sI P
 bS:=b_sS P
 b1:=b_s1 P
 b2:=b_s2 P
 bC:=b_sC P
 bF:=b_sF P
variable{P}
theorem aM{α:Type}{aa:Program}{w:World}{h:Heap}{t:Sem α}{r:α}(K:Frag)(x:K.In h)(e:peek K ⟨aa,w.params⟩ t=some r):Looks (model aa w) h t r:=Gu x e
theorem mat_k(w:World):Mat (model pwL w) (Tp w.params) 152 where
 isT:=aM _ (aO _) ⋯
 sub:=aM _ (aO _) ⋯
 self:=aM _ (aO _) ⋯
 top:=aM _ (aO _) ⋯
 mro:=⟨.ref 152,[.type "tuple",.type "object"],aM _ (aO _) ⋯⟩
 made:=aM _ (aO _) ⋯
 base:=aM _ (aO _) ⋯
 init:=aM _ (aO _) ⋯
 call:=aM _ (aO _) ⋯
 typ:=aM _ (aO _) ⋯
 del:=aM _ (aO _) ⋯
 obj:=zH ⋯ ⋯
theorem ma_k(w:World):MaK pwL w (Tp w.params) (lR (Tp w.params)) 152 153 99 where
 lim:=kQ _
 inn:=aO _
 mat:=mat_k w
 new:=⋯
 df:=m_mN _
 b:=b_mN _
theorem mi_k(w:World):lO (model pwL w) (Tp w.params) 152 where
 iter:=aM _ (aO _) ⋯
 len:=aM _ (aO _) ⋯
 sub:=aM _ (aO _) ⋯
end
section
variable(S1:Int->Bool)(m:Int->Option Str)
def rd(l:List Nat):List Nat:=(l.filter fun(c:Nat)=>!S1 c).flatMap fun(c:Nat)=>(jZ m c).cps.toList
def eE:Bool :=
 ([102,105,108]:List Nat).all (fun c=>(rd S1 m [c]==[c])&&(rd S1 m (Txt.upper (ch c)).cps.toList==[c])&&decide ((Txt.upper (ch c)).length<=1)&&(List.range 10).all fun j=>rd S1 m [(cR.getD j 0+(c:Int)-97).toNat]==[c]) &&
 ((List.range 27).all fun k=>S1 ((d9.getD k 0).toNat:Nat))&&iS.all fun a=>rd S1 m [a.1.toNat]==rd S1 m a.2.cps.toList
variable{S1 m}
theorem jF(a b:List Nat):rd S1 m (a++b)=rd S1 m a++rd S1 m b:=by unfold rd;rw[List.filter_append,List.flatMap_append]
theorem nA:∀ xs:List Str,(Str.join "" xs).cps.toList=xs.flatMap fun x=>x.cps.toList
 |[]=>rfl
 |[x]=>by simp[Str.join]
 |x::y::r=>by
  have ih:=nA (y::r)
  show(x ++ "" ++ Str.join "" (y::r)).cps.toList=_
  rw[Str.cps_append,Str.cps_append,Array.toList_append,Array.toList_append,ih,List.flatMap_cons]
  simp
  rfl
theorem sS:∀(l:List Nat) (i:Nat),(l.zipIdx i).map (·.1)=l
 |[],i=>rfl
 |a::l,i=>by rw[List.zipIdx_cons,List.map_cons,sS l]
theorem tG(t:Str):(l8 S1 m t).cps.toList=rd S1 m t.cps.toList:=by
 unfold l8 Txt.join
 rw[StrLaws.glued_eq_join,nA,List.flatMap_map];rfl
theorem sU{y z:Str}(e:rd S1 m z.cps.toList=rd S1 m y.cps.toList):∀ xs:List Str,rd S1 m (Str.join z xs).cps.toList=rd S1 m (Str.join y xs).cps.toList
 |[]=>rfl
 |[x]=>rfl
 |x::x'::r=>by
  have ih:=sU e (x'::r)
  show rd S1 m (x++z++Str.join z (x'::r)).cps.toList=rd S1 m (x++y++Str.join y (x'::r)).cps.toList
  simp only[Str.cps_append,Array.toList_append,jF,e,ih]
theorem r7{x y z:Str}(e:rd S1 m z.cps.toList=rd S1 m y.cps.toList):rd S1 m (Txt.replace x y z).cps.toList=rd S1 m x.cps.toList:=by
 unfold Txt.replace
 split
 ·rfl
 ·conv=>rhs;rw[<-StrLaws.glued_between_self x y (x.length+1)]
  rw[StrLaws.glued_eq_join,StrLaws.glued_eq_join,sU e]
theorem xV(f:eE S1 m=true){number:Int}{i c:Nat}(hc:c=102\/c=105\/c=108):rd S1 m (dX number i c).cps.toList=[c]/\(dX number i c).length<=2:=by
 unfold eE at f
 simp only[Bool.and_eq_true (_&&_) _,Bool.and_eq_true (List.all _ _) _]at f
 obtain⟨⟨f1,f2⟩,f3⟩:=f
 have hm:c∈([102,105,108]:List Nat):=by rcases hc with rfl|rfl|rfl <;> decide
 have g:=A9.mp f1 c hm
 simp only[Bool.and_eq_true (_&&_) _,decide_eq_true_eq,beq_iff_eq,Bool.and_eq_true (_==_) _]at g
 obtain⟨⟨⟨g1,g2⟩,g3⟩,g4⟩:=g
 unfold dX
 split
 ·exact⟨g1,by show 1<=2;decide⟩
 ·exact⟨g2,by omega⟩
 ·refine⟨?_,by show 1<=2;decide⟩
  have:=A9.mp g4 ((number+(i:Int)).fmod 10).toNat (Bj.mpr (by have:=eY (a:=number+(i:Int)) (b:=10) ‹d›;omega))
  exact Ai.mp this
 ·refine⟨?_,by show 1+1<=2;decide⟩
  have:=A9.mp f2 ((number+7*(i:Int)).fmod 27).toNat (Bj.mpr (by have:=eY (a:=number+7*(i:Int)) (b:=27) ‹d›;omega))
  show rd S1 m [d6 number i,c]=[c]
  rw[show[d6 number i,c]=[d6 number i]++[c]from rfl,jF,g1]
  have e:rd S1 m [d6 number i]=[]:=by
   unfold rd
   rw[List.filter_cons_of_neg (by rw[show S1 (d6 number i:Nat)=true from this];decide)];rfl
  rw[e];rfl
theorem pO(f:eE S1 m=true){number:Int}:∀(l:List (Nat×Nat)) (x:Str),(∀ a∈l,a.1=102\/a.1=105\/a.1=108) ->
  rd S1 m (l.foldl (aQ number) x).cps.toList=rd S1 m x.cps.toList++l.map (·.1)/\(l.foldl (aQ number) x).length<=x.length+2*l.length
 |[],x,_=>⟨by simp,by simp⟩
 |a::l,x,h=>by
  obtain⟨p1,p2⟩:=xV f (number:=number) (i:=a.2) (h a (.head _))
  obtain⟨t1,t2⟩:=pO f (number:=number) l (aQ number x a) fun b hb=>h b (.tail _ hb)
  rw[List.foldl_cons]
  refine⟨?_,?_⟩
  ·rw[t1,aQ,Str.cps_append,Array.toList_append,jF,p1];simp
  ·have:(aQ number x a).length<=x.length+2:=by rw[aQ,Str.length_append];omega
   rw[List.length_cons];omega
theorem vS:∀(l:List (Int×Str)) (x:Str),(l.all fun a=>rd S1 m [a.1.toNat]==rd S1 m a.2.cps.toList)=true->rd S1 m (l.foldl eR x).cps.toList=rd S1 m x.cps.toList/\(l.foldl eR x).length+1<=2^l.length*(x.length+1)
 |[],x,_=>⟨rfl,by simp⟩
 |a::l,x,h=>by
  rw[List.all_cons,Bool.and_eq_true]at h
  obtain⟨t1,t2⟩:=vS l (eR x a) h.2
  rw[List.foldl_cons]
  refine⟨t1.trans (r7 (Ai.mp h.1)),?_⟩
  have:(eR x a).length+1<=2*(x.length+1):=by
   have:=kK x a.2 (ch a.1.toNat)
   have e:(ch a.1.toNat).length=1:=rfl
   rw[e]at this
   show(Txt.replace x a.2 (ch a.1.toNat)).length+1<=_
   omega
  rw[List.length_cons,Nat.pow_succ,Nat.mul_assoc]
  exact A7 t2 (Nat.mul_le_mul_left _ this)
theorem u8(xs:List Str):∀ a:Nat,xs.foldl (fun n x=>n+x.length+(("" : Str).length)) a=a+(xs.flatMap fun x=>x.cps.toList).length:=by
 induction xs with
 |nil=>intro a;rfl
 |cons x r ih =>
  intro a
  rw[List.foldl_cons,ih,List.flatMap_cons,List.length_append]
  show a+x.length+0+_=_
  have:x.length=x.cps.toList.length:=by rw[Array.length_toList];rfl
  omega
end
section
variable{T:Heap}
theorem zG(W:LwK aa w T)(f:eE W.S1 W.mM=true){ab:Str}(hw:∀ c∈ab.cps.toList,c=102\/c=105\/c=108)(hl:ab.length<=6)(c:Int):wK W ab c:=by
 have hz:∀ a∈ab.cps.toList.zipIdx,a.1=102\/a.1=105\/a.1=108:=fun a ha=>hw a.1 (List.fst_mem_of_mem_zipIdx ha)
 obtain⟨t1,t2⟩:=pO f (number:=c) ab.cps.toList.zipIdx "" hz
 have f3:(iS.all fun a=>rd W.S1 W.mM [a.1.toNat]==rd W.S1 W.mM a.2.cps.toList)=true:=by unfold eE at f;exact(A6.mp f).2
 have f4:((iS.take (c.fmod 6).toNat).all fun a=>rd W.S1 W.mM [a.1.toNat]==rd W.S1 W.mM a.2.cps.toList)=true:=A9.mpr fun a ha=>A9.mp f3 a (List.mem_of_mem_take ha)
 obtain⟨l1,l2⟩:=vS (iS.take (c.fmod 6).toNat) (ab.cps.toList.zipIdx.foldl (aQ c) "") f4
 have hr:rd W.S1 W.mM (dL ab c).cps.toList=ab.cps.toList:=by
  unfold dL
  rw[l1,t1]
  show[]++_=_
  rw[List.nil_append,sS]
 have bo:ab.cps.toList.length<=6:=by rw[Array.length_toList];exact hl
 refine⟨?_,?_,?_⟩
 ·have:=tG (S1:=W.S1) (m:=W.mM) (dL ab c)
  rw[hr]at this
  exact Str.ext' (Array.toList_inj.mp this)
 ·have h2:(iS.take (c.fmod 6).toNat).length<=5:=by rw[List.length_take];exact Nat.min_le_right _ _
  have h3:2^(iS.take (c.fmod 6).toNat).length<=2^5:=Db ‹d› h2
  have h4:(ab.cps.toList.zipIdx.foldl (aQ c) "").length+1<=13:=by
   rw[List.length_zipIdx]at t2
   have:("" : Str).length=0:=rfl
   omega
  have h5:=Nat.mul_le_mul h3 h4
  have h6:(dL ab c).length+1<=2^5*13:=A7 l2 h5
  omega
 ·unfold JoinOk
  rw[List.foldl_toArray,u8]
  have:(((dL ab c).cps.toList.filter fun(c:Nat)=>!W.S1 c).map fun(c:Nat)=>jZ W.mM c).flatMap (fun x=>x.cps.toList)=ab.cps.toList:=by rw[List.flatMap_map];exact hr
  rw[this]
  have hs:¬(0+ab.cps.toList.length>sizeLine):=by
   have:(6:Nat)<=sizeLine:=by decide
   omega
  show(!decide (0+ab.cps.toList.length>sizeLine))=true
  rw[decide_eq_false hs];rfl
end
set_option genInjectivity false
set_option genSizeOf false
section
variable{P:Params}
theorem xC{h:Heap}{a:Addr}(b:fnB h a false []=true):(h.get? a).isSome=true/\(bH h a).data=.func (bZ h a):=by
 obtain⟨⟨o,e,d⟩,_⟩:=mI b
 refine⟨by rw[e];rfl,?_⟩
 have:bH h a=o:=by unfold bH;rw[e];rfl
 rw[this];exact d
theorem w5{l:List Arg}{x:Str}(h:l.head?.map (·.arg)=some x):∃ ar,l.head? = some ar/\ar.arg=x:=by
 cases e:l.head? with
 |none=>rw[e]at h;cases h
 |some ar=>rw[e]at h;exact⟨ar,rfl,Bk h⟩
theorem y3{aa:Program}{T:Heap}{c:Addr}{t:Tok}(b:(T.get? c).isSome=true)(h1:(bH T c).data=.fields (iH T c))(h2:(iH T c)[2]? = some (.str aa.main.file t)):∃ oc vs file tf,T.get? c=some oc/\oc.data=.fields vs/\vs[2]? = some (.str file tf)/\((aa.main.file:Str)==file)=true :=
 ⟨_,_,_,t,cJ b,h1,h2,Fp _⟩
theorem yP:AcF pwL (Tp P) (lR (Tp P)) 350 287 274 286 where
 lim:=kQ _
 inn:=aO _
 ok:=sF.of ⋯
 fn:=by
  have b:fnB (Tp P) 287 false []=true:=⋯
  obtain⟨d1,d2⟩:=xC b
  obtain⟨_,b2,b3,b4,_⟩:=mI b
  refine⟨_,_,cJ d1,d2,by run_tac bodyRow,⋯,⋯,⋯,b2,b3,b4,fun M x v=>Gu (aO _) ?_,w5 ?_⟩
  ·generalize(⟨M.prog,M.w.params⟩:Setting)=S
   kernel_rfl
  ·kernel_rfl
 cell:=⟨_,cJ ⋯,⋯⟩
 file:=y3 (t:=701) ⋯ ⋯ ⋯
 top:=⋯
 sup:=wV _
 along:=⋯
 opq:=⋯
 at_:=⋯
theorem ac_k:AcK pwL (Tp P) (lR (Tp P)) 350 287 274 286 294 302 317 324 where
 toAcF:=yP
 bP:=⋯
 bG:=⋯
 bS:=⋯
 mP:=⋯
 mQ:=⋯
 mL:=⋯
 mS:=⋯
 dfP:=m_cP P
 dfQ:=m_cQ P
 biP:=b_cP P
 biQ:=b_cQ P
theorem acn_k{w:World}{h:Heap}(x:(lR (Tp w.params)).In h):vY (model pwL w) h 350 where
 isT:=aM _ x ⋯
 sub:=aM _ x ⋯
 self:=aM _ x ⋯
 mro:=⟨.ref 350,[.type "list",.type "object"],aM _ x ⋯⟩
 made:=aM _ x ⋯
 base:=aM _ x ⋯
 call:=aM _ x ⋯
 typ:=aM _ x ⋯
 del:=aM _ x ⋯
 obj:=by
  have e:(x8 (Tp w.params) 350).isSome=true:=⋯
  obtain⟨cd,hc⟩:=Ar.mp e
  have hl:(lR (Tp w.params)).lookup 350=some (bH (Tp w.params) 350):=⋯
  have hx:=x _ _ hl
  unfold x8 at hc
  cases q:bH (Tp w.params) 350 with
  |mk c d dt sl =>
   rw[q]at hx hc
   cases dt <;> first|exact⟨_,_,_,_,hx⟩|cases hc
theorem oR{T:Heap}{c p:Addr}{file:Str}{tf flags tg text tt:_}{inF:Bool}(b:(T.get? c).isSome=true)(h0:(bH T c).cls=.type "code")(h1:(bH T c).data=.fields (iH T c))(h2:(iH T c).getD 11 .none=.ref p)(h3:(iH T c).getD 18 .none=.str file tf)(h4:(iH T c).getD 7 .none=.int flags tg)(h5:(iH T c).getD 9 .none=.bool inF)(h6:(iH T c).getD 10 .none=.int text tt)(h7:(iH T c)[11]? = some (.ref p))(h8:T.get? p=none):sN T c p :=
 ⟨⟨_,_,file,tf,flags,tg,inF,text,tt,cJ b,h1,h2,h3,h4,h5,h6⟩,h8,⟨_,_,cJ b,h0,h1,h7⟩⟩
theorem uY{w:World}:AcG pwL w (Tp w.params) (lR (Tp w.params)) 350 317 324 316 312 323 319 where
 ok:=yP.ok
 inn:=aO _
 lim:=kQ _
 it:=⋯
 dfL:=m_cL _
 dfS:=m_cS _
 biL:=b_cL _
 biS:=b_cS _
 coL:=fun o fd e d=>by rw[y9 e d];kernel_rfl
 coS:=fun o fd e d=>by rw[y9 e d];kernel_rfl
 ctL:=oR (file:=pwL.main.file) (tf:=740) (flags:=3) (tg:=0) (inF:=true) (text:=276) (tt:=0) ⋯ ⋯ ⋯ ⋯ ⋯ ⋯ ⋯ ⋯ ⋯ (j7 (.inl rfl))
 ctS:=oR (file:=pwL.main.file) (tf:=747) (flags:=3) (tg:=0) (inF:=true) (text:=276) (tt:=0) ⋯ ⋯ ⋯ ⋯ ⋯ ⋯ ⋯ ⋯ ⋯ (j7 (.inr rfl))
 bf:=aM _ (aO _) ⋯
 cst:=⟨_,cJ ⋯⟩
 sum:=k_sum _
 len:=yJ _
 emp:=⟨684,dD _ ⋯⟩
 at_:=⋯
def m8(w:World):LwK pwL w (Tp w.params) where
 K:=lR (Tp w.params)
 aTy:=562
 aRd:=567
 aI1:=372
 aM3:=418
 aCh:=572
 aSk:=577
 aWy:=582
 aSd:=587
 aRe:=270
 bS:=362
 bM:=373
 hC:=551
 hI:=443
 hV:=450
 hG:=498
 hN:=423
 hW:=428
 qC:=259
 qI:=177
 qS:=184
 q1:=191
 q2:=198
 qB:=205
 qF:=213
 mC:=152
 mS:=153
 mF:=99
 cC:=350
 cI:=287
 cc:=274
 cd:=286
 cP:=294
 cQ:=302
 cL:=317
 cS:=324
 kL:=316
 tL:=312
 kS:=323
 tS:=319
 S1:=lF (l7 (Tp w.params) 362)
 n1:=(l7 (Tp w.params) 362).size
 mM:=g9 (iL (Tp w.params) 373)
 lim:=kQ _
 nb:=k_nb _
 inn:=aO _
 sm:=k_sm _
 enu:=k_enu _
 ran:=k_ran _
 lst:=yD _
 tup:=k_tup _
 str:=yN _
 set:=k_set _
 zip:=k_zip _
 int:=k_int _
 keyE:=z7 _
 valE:=zF _
 len:=yJ _
 ord:=k_ord _
 chr:=k_chr _
 fTy:=k_fTy _
 fRd:=k_fRd _
 fI1:=k_fI1 _
 fM3:=k_fM3 _
 fCh:=k_fCh _
 fSk:=k_fSk _
 fWy:=k_fWy _
 fSd:=k_fSd _
 fRe:=k_fRe _
 gS:=dD _ ⋯
 hS:=zD ⋯
 gM:=dD _ ⋯
 hM:=xU ⋯ ⋯
 hd:=hd_k _
 hdG:=dD _ ⋯
 hdC:=⋯
 sq:=sm_k _
 sqG:=dD _ ⋯
 sqC:=⋯
 ma:=ma_k w
 maG:=dD _ ⋯
 maC:=⋯
 maI:=mi_k w
 ac:=ac_k
 acG:=dD _ ⋯
 acC:=⋯
 acN:=fun x=>acn_k x
 acI:=⋯
 acF:=⋯
 cpG:=⋯
 cpT:=⋯
 ag:=uY
def RdK:Prop:=∀ w:World,eE (m8 w).S1 (m8 w).mM=true
end
abbrev L(l:List Nat):Str:=⟨l.toArray⟩
def tF:List Nat->Nat->Nat->Bool
 |a::b::r,c,d=>(a==c&&b==d)||tF (b::r) c d
 |_,_,_=>false
theorem f9(l:List Nat)(c:Nat):eH (L l) (ch c)=l.contains c:=by
 have:=StrLaws.found_one (L l) c
 refine(show eH (L l) (ch c)=decide (c∈(L l).cps.toList)from this).trans ?_
 rw[Bool.eq_iff_iff];simp
theorem sG:∀(l:List Nat) (c d:Nat),tF l c d=true↔∃ i,(l.drop i).take 2=[c,d]
 |[],c,d=>⟨fun h=>(by cases h),fun⟨i,h⟩=>by simp at h⟩
 |[a],c,d=>⟨fun h=>(by cases h),fun⟨i,h⟩=>by have:=Az List.length h;simp at this;omega⟩
 |a::b::r,c,d=>by
  rw[tF,Bool.or_eq_true,sG (b::r) c d]
  constructor
  ·rintro (h|⟨i,h⟩)
   ·simp only[Bool.and_eq_true,beq_iff_eq]at h
    exact⟨0,by simp[h.1,h.2]⟩
   ·exact⟨i+1,h⟩
  ·rintro ⟨i,h⟩
   cases i with
   |zero=>left;simp only[List.drop_zero,List.take_succ_cons,List.take_zero,List.cons.injEq,and_true]at h;simp[h.1,h.2]
   |succ i=>right;exact⟨i,h⟩
theorem pR(l:List Nat)(c d:Nat):eH (L l) (ch c++ch d)=tF l c d:=by
 rw[Bool.eq_iff_iff,sG]
 refine(StrLaws.found_iff (L l) (ch c++ch d)).trans ⟨?_,?_⟩
 ·rintro ⟨i,h1,h2⟩
  rw[StrLaws.subAt_eq]at h2
  exact⟨i,Ai.mp h2⟩
 ·rintro ⟨i,h⟩
  refine⟨i,?_,?_⟩
  ·have:=Az List.length h
   simp at this
   show i+2<=l.toArray.size
   rw[List.size_toArray];omega
  ·rw[StrLaws.subAt_eq];exact Ai.mpr h
def tK:List Nat:=[102,105,108]
def pW(l b:List Nat):List Nat:=tK.filter fun c=>!(b.filter fun d=>tF l c d).isEmpty
def rK(l b e:List Nat):List Nat:=tK.filter fun d=>!b.contains d && !(e.filter fun c=>tF l c d).isEmpty
def chL(l b:List Nat):List Nat×List Nat:=(List.range 3).foldl (fun st _=>(pW l st.2,st.2++rK l st.2 (pW l st.2))) ([],b)
theorem L_app(a b:List Nat):L a++L b=L (a++b):=Str.ext' (by show a.toArray++b.toArray=_;simp)
theorem u2(l e b:List Nat)(i:Nat):lP (L l) (L e,L b) i=(L (pW l b),L (b++rK l b (pW l b))):=by
 have h1:bN (L l) (L b)=pW l b:=by
  unfold bN pW oO
  show List.filter _ tK=_
  simp only[pR]
 have h2:∀ e',gB (L l) (L b) (L e')=rK l b e':=fun e'=>by
  unfold gB rK jR
  show List.filter _ tK=_
  simp only[pR,f9]
 unfold lP
 show(L (bN (L l) (L b)),L b++L (gB (L l) (L b) (L (bN (L l) (L b)))))=_
 rw[h1,h2,L_app]
theorem gW(l b:List Nat):chained (L l) (L b)=(L (chL l b).1,L (chL l b).2):=by
 unfold chained chL
 show List.foldl _ (L [],L b) _=_
 simp only[show List.range 3=[0,1,2]from rfl,List.foldl_cons,List.foldl_nil,u2]
def rZ(l s:List Nat):List Nat:=s.filter fun c=>!l.contains c
def y0(l s:List Nat):List Nat:=s.filter fun c=>(chL l s).1.contains c
theorem yT(l s:List Nat):cD (L l) (L s)=rZ l s:=by
 unfold cD rZ;simp only[f9]
theorem met_L(l s:List Nat):dM (L l) (L s)=y0 l s:=by
 unfold dM y0;simp only[gW,f9]
set_option genInjectivity false
set_option genSizeOf false
inductive PT where
 |nil
 |node (k:Nat) (l s:List Nat) (a b:PT)
def PT.has:PT->Nat->List Nat->List Nat->Bool
 | .nil,_,_,_=>false
 | .node k l s a b,n,l',s'=>bif Nat.blt n k then a.has n l' s' else bif Nat.blt k n then b.has n l' s' else l==l'&&s==s'
def PT.all(p:List Nat->List Nat->Bool):PT->Bool
 | .nil=>true
 | .node _ l s a b=>p l s&&a.all p&&b.all p
def PT.subs:Nat->PT->List PT
 |0,t=>[t]
 |_+1,.nil=>[]
 |n+1,.node _ _ _ a b=>a.subs n++b.subs n
def PT.top(p:List Nat->List Nat->Bool):Nat->PT->Bool
 |0,_=>true
 |_+1,.nil=>true
 |n+1,.node _ l s a b=>p l s&&(a.top p n&&b.top p n)
theorem PT.all_of{p:List Nat->List Nat->Bool}:∀(n:Nat) (t:PT),t.top p n=true->(∀ u∈t.subs n,u.all p=true)->t.all p=true
 |0,t,_,h=>h t (.head _)
 |_+1,.nil,_,_=>rfl
 |n+1,.node k l s a b,ht,h=>by
  have h1:=A6.mp (show(p l s&&(a.top p n&&b.top p n))=true from ht)
  have h2:=A6.mp h1.2
  have h:∀ u∈a.subs n++b.subs n,u.all p=true:=h
  rw[PT.all,h1.1,PT.all_of n a h2.1 fun u q=>h u (List.mem_append_left _ q),PT.all_of n b h2.2 fun u q=>h u (List.mem_append_right _ q)]
  rfl
theorem PT.has_all{p:List Nat->List Nat->Bool}{n:Nat}{l s:List Nat}:∀{t:PT},t.all p=true->t.has n l s=true->p l s=true
 | .nil,_,h=>by cases h
 | .node k l' s' a b,ha,h=>by
  rw[PT.all,Bool.and_eq_true,Bool.and_eq_true]at ha
  unfold PT.has at h
  cases h1:Nat.blt n k with
  |true=>rw[h1]at h;exact PT.has_all ha.1.2 h
  |false =>
   rw[h1]at h
   cases h2:Nat.blt k n with
   |true=>rw[h2]at h;exact PT.has_all ha.2 h
   |false =>
    rw[h2]at h
    have h:(l'==l&&s'==s)=true:=h
    rw[Bool.and_eq_true,beq_iff_eq,beq_iff_eq]at h
    rw[<-h.1,<-h.2];exact ha.1.1
def encL(l:List Nat):Nat:=l.foldl (fun n c=>n*4+((108-c) / 3+1)) 0
def zS(l s:List Nat):Nat:=encL l*64+encL s
def pM(l s:List Nat):List Nat:=l.filter fun c=>!s.contains c
def bD(l s:List Nat):Bool:=cZ (L l) (L s)&&(aB (L l) (L s)==L (pM l s))
def yH:List (List Nat):=[[102],[105],[108],[102,105],[102,108],[105,108]]
theorem vM:cA=yH.map L:=⋯
def qO(t:PT):Nat->List Nat->Option (Option (List (List Nat)))
 |0,_=>none
 |n+1,l=>if l.isEmpty then some (some [])else if(Nat.ble l.length 20&&l.all fun c=>Nat.ble c 200)then
   yH.foldr (fun s ai=>if(rZ l s).isEmpty&&(y0 l s).isEmpty then(if t.has (zS l s) l s then(match qO t n (pM l s)with|none=>none|some (some w)=>some (some (s::w))|some none=>ai)else none)else ai) (some none)
  else none
theorem mX:∀(n:Nat) (ab:Str) (ak:List Str),aR n ab=some ak->ak.length<=n
 |0,_,_,h=>by cases h
 |n+1,ab,ak,h=>by
  rw[aR]at h
  split at h
  ·cases h;exact Ap _
  ·have:∀(ws:List Str) (ak:List Str),ws.foldr (fun ad ai=>if(cD ab ad).isEmpty&&(dM ab ad).isEmpty then(match aR n (aB ab ad)with|some ak=>some (ad::ak)|none=>ai)else ai) none=some ak->ak.length<=n+1:=by
    intro ws
    induction ws with
    |nil=>intro ak h;cases h
    |cons s r ih =>
     intro ak h
     rw[List.foldr_cons]at h
     split at h
     ·split at h
      ·rename_i w' hw
       cases h
       exact B9 (mX n _ _ hw)
      ·exact ih ak h
     ·exact ih ak h
   exact this _ _ h
theorem w9(l b:List Nat):PyData.strOk (L (chL l b).1)=true:=by
 have h:∃ b',(chL l b).1=pW l b':=⟨_,rfl⟩
 obtain⟨b',h⟩:=h
 rw[h]
 show(pW l b').toArray.all _=true
 rw[List.all_toArray,List.all_eq_true]
 intro c hc
 have:c∈tK:=(C0.mp hc).1
 have:∀ c∈tK,decide (c<0x110000)=true:=by decide
 exact this c ‹_›
theorem xK{l:List Nat}(h:l.isEmpty=false):(L l==("" : Str))=false:=by
 rw[beq_eq_false_iff_ne]
 intro e
 have:=Az (fun(s:Str)=>s.cps.size) e
 have e2:(("" : Str)).cps.size=0:=⋯
 simp only[List.size_toArray,e2]at this
 rw[List.eq_nil_of_length_eq_zero this]at h
 cases h
theorem iB{t:PT}(ht:t.all bD=true):∀(n:Nat) (l:List Nat) (r:Option (List (List Nat))),n<=100->qO t n l=some r->f7 n (L l)=true/\aR n (L l)=r.map (·.map L)
 |0,_,_,_,h=>by cases h
 |n+1,l,r,hn,h=>by
  rw[qO]at h
  split at h
  ·rename_i he
   cases h
   rw[List.isEmpty_iff.mp he]
   exact⟨rfl,rfl⟩
  rename_i he
  have he:l.isEmpty=false:=by simpa using he
  split at h
  rotate_left
  ·cases h
  rename_i hl
  rw[Bool.and_eq_true]at hl
  rw[f7,aR,xK he,Bool.false_or,if_neg Bool.false_ne_true]
  have s1:PyData.strOk (L l)=true:=by
   show l.toArray.all _=true
   rw[List.all_toArray,List.all_eq_true]
   intro c hc
   have:=Ak (A9.mp hl.2 c hc)
   exact B8 ‹o›
  have s2:decide ((L l).length<=20)=true:=B8 (by show l.toArray.size<=20;rw[List.size_toArray];exact Ak hl.1)
  rw[s1,s2,Bool.true_and,Bool.true_and,vM]
  have key:∀(ws:List (List Nat)) (r:Option (List (List Nat))),ws.foldr (fun s ai=>if(rZ l s).isEmpty&&(y0 l s).isEmpty then(if t.has (zS l s) l s then(match qO t n (pM l s)with|none=>none|some (some w)=>some (some (s::w))|some none=>ai)else none)else ai) (some none)=some r ->
    (ws.map L).foldr (fun ad ai=>if(cD (L l) ad).isEmpty&&(dM (L l) ad).isEmpty then
     cZ (L l) ad&&PyData.strOk (chained (L l) ad).1&&f7 n (aB (L l) ad)&&decide (((aR n (aB (L l) ad)).getD []).length<=100)&&(match aR n (aB (L l) ad)with|some ak=>true|none=>ai)else ai) true=true /\
    (ws.map L).foldr (fun ad ai=>if(cD (L l) ad).isEmpty&&(dM (L l) ad).isEmpty then(match aR n (aB (L l) ad)with|some ak=>some (ad::ak)|none=>ai)else ai) none=r.map (·.map L):=by
   intro ws
   induction ws with
   |nil=>intro r h;cases h;exact⟨rfl,rfl⟩
   |cons s ws ih =>
    intro r h
    rw[List.foldr_cons]at h
    rw[List.map_cons,List.foldr_cons,List.foldr_cons,yT,met_L]
    split at h
    ·rename_i hc
     rw[if_pos hc,if_pos hc]
     split at h
     rotate_left
     ·cases h
     rename_i hm
     have hs:=PT.has_all ht hm
     unfold bD at hs
     rw[Bool.and_eq_true,beq_iff_eq]at hs
     rw[hs.2,hs.1,gW,w9]
     cases hr:qO t n (pM l s)with
     |none=>rw[hr]at h;cases h
     |some r' =>
      obtain⟨a1,a2⟩:=iB ht n _ _ ‹o› hr
      rw[hr]at h
      cases r' with
      |none =>
       obtain⟨b1,b2⟩:=ih r h
       rw[a1,a2]
       exact⟨b1,b2⟩
      |some w' =>
       cases h
       rw[a1,a2]
       have:=mX n _ _ a2
       have hd:decide ((((some w').map fun x=>x.map L).getD []).length<=100)=true:=B8 (A7 (show(w'.map L).length<=n from this) ‹o›)
       refine⟨?_,rfl⟩
       rw[hd];rfl
    ·rename_i hc
     rw[if_neg hc,if_neg hc]
     exact ih r h
  exact key _ _ h
section
def dA:Str->List Str->List Str
 |x,[]=>[x]
 |x,s::r=>x::dA (aB x s) r
theorem mH:∀(ws:List Str) (pre:List Str) (x:Str),ws.foldl fK (pre++[x])=pre++dA x ws
 |[],pre,x=>rfl
 |s::r,pre,x=>by
  rw[List.foldl_cons,fK,List.getLast?_append,List.getLast?_singleton]
  show List.foldl fK (pre++[x]++[aB x s]) r=_
  rw[mH r (pre++[x]),dA,List.append_assoc];rfl
theorem jL(x:Str)(ws:List Str)(n:Nat):bX x ws n=dA x (ws.take n):=mH (ws.take n) [] x
theorem jM:∀(ws:List Str) (x:Str),(dA x ws).length=ws.length+1
 |[],x=>rfl
 |s::r,x=>by rw[dA,List.length_cons,jM r,List.length_cons]
def sV:List Nat->List (List Nat)->List (List Nat)
 |l,[]=>[l]
 |l,s::r=>l::sV (pM l s) r
def hJ(t:PT):List Nat->List (List Nat)->Bool
 |_,[]=>true
 |l,s::r=>t.has (zS l s) l s&&hJ t (pM l s) r
theorem uP{t:PT}(ht:t.all bD=true):∀(ws:List (List Nat)) (l:List Nat),hJ t l ws=true->dA (L l) (ws.map L)=(sV l ws).map L
 |[],l,_=>rfl
 |s::r,l,h=>by
  rw[hJ,Bool.and_eq_true]at h
  have hs:=PT.has_all ht h.1
  unfold bD at hs
  rw[Bool.and_eq_true,beq_iff_eq]at hs
  rw[List.map_cons,dA,hs.2,uP ht r _ h.2];rfl
theorem sK{t:PT}(ht:t.all bD=true):∀(ws:List (List Nat)) (l:List Nat) (i:Nat),hJ t l ws=true->i<ws.length->cZ ((dA (L l) ((ws.map L).take i)).getLast?.getD "") ((ws.map L).getD i "")=true
 |[],l,i,_,hi=>absurd hi (Dm _)
 |s::r,l,i,h,hi=>by
  rw[hJ,Bool.and_eq_true]at h
  have hs:=PT.has_all ht h.1
  unfold bD at hs
  rw[Bool.and_eq_true,beq_iff_eq]at hs
  cases i with
  |zero=>exact hs.1
  |succ i =>
   have ih:=sK ht r (pM l s) i h.2 (Nat.lt_of_succ_lt_succ hi)
   rw[List.map_cons,List.take_succ_cons,dA,hs.2,List.getD_cons_succ]
   have:∀(x:Str) (ws:List Str),∃ a b,dA x ws=a::b:=fun x ws=>by cases ws <;> exact⟨_,_,rfl⟩
   obtain⟨a,b,e⟩:=this (L (pM l s)) ((r.map L).take i)
   rw[e]at ih ⊢
   rw[List.getLast?_cons_cons];exact ih
def uG(e b:List Nat)(new:Nat)(a:Nat×Str):Str:=((if b.contains a.1 then ch new else Str.empty)++Txt.join (ch new) (signs a.2))++(if !e.contains a.1 then ch new else Str.empty)
def rT(e b:List Nat)(new:Nat)(tx:Tx):Tx:=tx.foldl (fun t a=>rE t a.1 (uG e b new a)) []
def v7(st:List Nat)(new:Nat)(old:Tx)(c:Nat):Str:=if st.contains c then ch new else(i6 old c).getD ""
def iD(row st:List Nat)(new:Nat)(tx:Tx):Tx:=row.foldl (fun t c=>rE t c (v7 st new (rT (chL row st).1 (chL row st).2 new tx) c)) []
theorem yZ(e b:List Nat)(new:Nat)(a:Nat×Str):xP (L e) (L b) new a=uG e b new a:=by unfold xP uG;simp only[f9]
theorem uM(e b:List Nat)(new:Nat)(tx:Tx):q9 (L e) (L b) new tx=rT e b new tx:=by unfold q9 rT;simp only[yZ]
theorem zT(st:List Nat)(new:Nat)(old:Tx)(c:Nat):tN (L st) new old c=v7 st new old c:=by unfold tN v7;simp only[f9]
theorem wF(row st:List Nat)(s:Nat)(tx:Tx):stepT (L row) (L st) s tx=iD row st (dS s) tx:=by unfold stepT iD;simp only[gW,uM,zT]
def fJ(row st:List Nat)(s new:Nat)(tx:Tx):Bool :=
 row.all (fun c=>Nat.ble c 200)&&st.all (fun c=>Nat.ble c 200)&&Nat.ble st.length 100&&Nat.ble row.length 100&&Nat.ble s 2&&Nat.ble tx.length 100&&(tx.all fun a=>(i6 tx a.1==some a.2)&&Nat.ble a.2.length 1000&&JoinOk (ch new) (signs a.2)&&Nat.ble (Txt.join (ch new) (signs a.2)).length 10000) &&
 row.all fun c=>st.contains c||(i6 (rT (chL row st).1 (chL row st).2 new tx) c).isSome
theorem sW{l:List Nat}(h:(l.all fun c=>Nat.ble c 200)=true):PyData.strOk (L l)=true:=by
 show l.toArray.all _=true
 rw[List.all_toArray,List.all_eq_true]
 intro c hc
 have:=Ak (A9.mp h c hc)
 exact B8 ‹o›
theorem uB{row st:List Nat}{s:Nat}{tx:Tx}(h:fJ row st s (dS s) tx=true):stepOk (L row) (L st) s tx=true:=by
 unfold fJ at h
 simp only[Bool.and_eq_true (_&&_) _,Bool.and_eq_true (List.all row _) _]at h
 obtain⟨⟨⟨⟨⟨⟨⟨h1,h2⟩,h3⟩,h4⟩,h5⟩,h6⟩,h7⟩,h8⟩:=h
 unfold stepOk
 have e1:decide ((L st).length<=100)=true:=B8 (by show st.toArray.size<=100;rw[List.size_toArray];exact Ak h3)
 have e2:decide ((L row).length<=100)=true:=B8 (by show row.toArray.size<=100;rw[List.size_toArray];exact Ak h4)
 have e3:decide (s<3)=true:=B8 (by have:=Ak h5;omega)
 have e4:decide (tx.length<=100)=true:=B8 (Ak h6)
 rw[sW h1,sW h2,e1,e2,e3,e4]
 simp only[Bool.true_and]
 rw[Bool.and_eq_true]
 refine⟨A9.mpr fun a ha=>?_,?_⟩
 ·have:=A9.mp h7 a ha
  simp only[Bool.and_eq_true (_&&_) _,Bool.and_eq_true (_==_) _]at this
  obtain⟨⟨⟨g1,g2⟩,g3⟩,g4⟩:=this
  rw[g1,g3,decide_eq_true (Nat.le_of_ble_eq_true g2),decide_eq_true (Nat.le_of_ble_eq_true g4)];rfl
 ·simp only[gW,uM,f9]
  exact h8
theorem rD(rs:List (List Nat))(k:Nat):(rs.map L).getD k "" = L (rs.getD k []):=by
 rw[List.getD_eq_getElem?_getD,List.getD_eq_getElem?_getD,List.getElem?_map]
 cases rs[k]? <;> rfl
def gD{α:Type}:List Nat->(List Nat->α)->α
 |[],k=>k []
 |a::r,k=>gD r fun r'=>k (a::r')
def jK{α:Type}:Tx->(Tx->α)->α
 |[],k=>k []
 |(c,⟨⟨l⟩⟩)::r,k=>gD l fun l'=>jK r fun r'=>k ((c,⟨⟨l'⟩⟩)::r')
theorem gU{α:Type}:∀(l:List Nat) (k:List Nat->α),gD l k=k l
 |[],k=>rfl
 |a::r,k=>by rw[gD,gU r]
theorem hO{α:Type}:∀(l:Tx) (k:Tx->α),jK l k=k l
 |[],k=>rfl
 |(c,⟨⟨l⟩⟩)::r,k=>by rw[jK,gU,hO r]
def jC(rows ak:List (List Nat))(n:Nat):Tx:=(List.range n).foldl (fun tx i=>iD (rows.getD (ak.length-1-i) []) (ak.getD (ak.length-1-i) []) (dS (ak.length-1-i)) tx) []
theorem rW(rows ak:List (List Nat))(n:Nat):cT (rows.map L) (ak.map L) n=jC rows ak n:=by
 unfold cT jC oX
 simp only[List.length_map,rD,wF]
def cK(rows ak:List (List Nat))(m:Nat)(K:Tx->Bool):Nat->Tx->Bool
 |0,tx=>K tx
 |k+1,tx=>match k with
  |0=>fJ (rows.getD 0 []) (ak.getD 0 []) 0 97 tx&&jK (iD (rows.getD 0 []) (ak.getD 0 []) 97 tx) (cK rows ak m K 0)
  |1=>fJ (rows.getD 1 []) (ak.getD 1 []) 1 98 tx&&jK (iD (rows.getD 1 []) (ak.getD 1 []) 98 tx) (cK rows ak m K 1)
  |2=>fJ (rows.getD 2 []) (ak.getD 2 []) 2 99 tx&&jK (iD (rows.getD 2 []) (ak.getD 2 []) 99 tx) (cK rows ak m K 2)
  |_=>false
theorem xR:dS 0=97/\dS 1=98/\dS 2=99:=⟨⋯,⋯,⋯⟩
theorem pC{rows ak:List (List Nat)}{m:Nat}{K:Tx->Bool}{k:Nat}{tx:Tx}(h:cK rows ak m K (k+1) tx=true):fJ (rows.getD k []) (ak.getD k []) k (dS k) tx=true/\cK rows ak m K k (iD (rows.getD k []) (ak.getD k []) (dS k) tx)=true:=by
 unfold cK at h
 obtain⟨n0,n1,n2⟩:=xR
 split at h
 ·rw[Bool.and_eq_true,hO]at h;rw[n0];exact h
 ·rw[Bool.and_eq_true,hO]at h;rw[n1];exact h
 ·rw[Bool.and_eq_true,hO]at h;rw[n2];exact h
 ·cases h
theorem xD{rows ak:List (List Nat)}{K:Tx->Bool}(h:cK rows ak ak.length K ak.length []=true):(∀ i,i<ak.length->fJ (rows.getD (ak.length-1-i) []) (ak.getD (ak.length-1-i) []) (ak.length-1-i) (dS (ak.length-1-i)) (jC rows ak i)=true)/\K (jC rows ak ak.length)=true:=by
 have key:∀ i,i<=ak.length->cK rows ak ak.length K (ak.length-i) (jC rows ak i)=true:=by
  intro i
  induction i with
  |zero=>intro _;exact h
  |succ i ih =>
   intro hi
   have h1:=ih ‹o›
   rw[show ak.length-i=(ak.length-1-i)+1 by omega]at h1
   have h2:=(pC h1).2
   rw[show ak.length-(i+1)=ak.length-1-i by omega]
   rw[jC,List.range_succ,List.foldl_append]
   exact h2
 refine⟨fun i hi=>?_,?_⟩
 ·have h1:=key i ‹o›
  rw[show ak.length-i=(ak.length-1-i)+1 by omega]at h1
  exact(pC h1).1
 ·have h1:=key ak.length (A4 _)
  rw[Nat.sub_self,cK]at h1
  exact h1
theorem yA(l:List Nat)(n:Nat)(h:n<=l.length):jD (L l) none (some (n:Int))=L (l.take n):=by
 have:=StrLaws.sliceText_to (x:=L l) (j:=(n:Int)) ⟨by omega,by show(n:Int)<=(l.length:Int);omega⟩
 refine(show jD (L l) none (some (n:Int))=_ from this).trans ?_
 show L ((l.drop 0).take ((n:Int)-0).toNat)=_
 rw[List.drop_zero,show((n:Int)-0).toNat=n by omega]
def qZ(t:PT)(l:List Nat):Bool:=match qO t 4 l with
 |some (some ak)=>hJ t l ak&&cK (sV l ak) ak ak.length (fun tx=>dO tx (L l) ak.length) ak.length []
 |_=>false
def jN(t:PT)(l:List Nat):Bool:=match qO t 4 l with|some none=>true|_=>false
theorem oP{t:PT}(ht:t.all bD=true){l:List Nat}(h:jN t l=true):f7 4 (L l)=true/\aR 4 (L l)=none:=by
 unfold jN at h
 split at h
 ·rename_i e;exact iB ht 4 l _ ‹d› e
 ·cases h
theorem rG{t:PT}(ht:t.all bD=true){l:List Nat}(h:qZ t l=true):f7 4 (L l)=true/\∃ ak,aR 4 (L l)=some ak/\qG (L l) ak=true/\ak.length<=(bX (L l) ak ak.length).length/\kH (bX (L l) ak ak.length) ak=true /\
  dO (cT (bX (L l) ak ak.length) ak ak.length) (L l) ak.length=true:=by
 unfold qZ at h
 split at h
 rotate_left
 ·cases h
 rename_i ak e
 rw[Bool.and_eq_true]at h
 obtain⟨w1,w2⟩:=iB ht 4 l _ ‹d› e
 obtain⟨k1,k2⟩:=xD h.2
 have hr:bX (L l) (ak.map L) (ak.map L).length=(sV l ak).map L:=by
  rw[jL,List.take_length,uP ht ak l h.1]
 refine⟨w1,ak.map L,w2,?_,?_,?_,?_⟩
 ·unfold qG
  rw[List.all_eq_true]
  intro i hi
  have hi:=Bj.mp hi
  rw[List.length_map]at hi
  rw[jL]
  exact sK ht ak l i h.1 hi
 ·rw[jL,jM,List.take_length];omega
 ·rw[hr]
  unfold kH
  rw[List.all_eq_true]
  intro i hi
  have hi:=Bj.mp hi
  rw[List.length_map]at hi
  rw[List.length_map,rD,rD,rW]
  exact uB (k1 i hi)
 ·rw[hr,List.length_map,rW]
  exact k2
theorem v6{t:PT}(ht:t.all bD=true){w:List Nat}(hw:∀ c∈w,c=102\/c=105\/c=108)(hl:w.length<=6){k:Nat}(hk:k<=w.length)(hs:aZ (L w)=.int (k:Int))(h1:qZ t (w.take k)=true)(h2:k<w.length->jN t (w.take (k+1))=true):jO (L w)=true:=by
 have e1:eK (L w)=k:=by unfold eK;rw[hs];exact Int.toNat_natCast k
 have e2:iQ (L w) k=L (w.take k):=yA w k hk
 obtain⟨c1,ak,c2,c3,c4,c5,c6⟩:=rG ht h1
 have e3:k8 (L w)=ak:=by unfold k8;rw[e1,e2,c2];rfl
 have e4:m3 (L w)=bX (L (w.take k)) ak ak.length:=by unfold m3;rw[e1,e2,e3]
 have e5:txW (L w)=cT (bX (L (w.take k)) ak ak.length) ak ak.length:=by unfold txW;rw[e4,e3]
 unfold jO
 rw[e5,e4,e3,e1,e2,c1,c2,c3,c5,c6,hs,decide_eq_true c4]
 have f1:((L w).cps.toList.all fun c=>c==102||c==105||c==108)=true:=A9.mpr fun c hc=>by
  rcases hw c hc with rfl|rfl|rfl <;> rfl
 have f2:decide ((L w).length<=6)=true:=B8 (by show w.toArray.size<=6;rw[List.size_toArray];exact hl)
 have f3:isInt (.int (k:Int)) k=true:=Fp _
 have f4:decide (k<=6)=true:=B8 ‹o›
 have bo:(L w).length=w.length:=List.size_toArray
 rw[f1,f2,f3,f4]
 simp only[Bool.true_and,Bool.and_true,Option.isSome_some]
 rw[bo]
 rcases C4 k w.length with q|q
 ·obtain⟨d1,d2⟩:=oP ht (h2 q)
  have e6:iQ (L w) (k+1)=L (w.take (k+1)):=yA w (k+1) q
  rw[e6,d1,d2,decide_eq_true q];rfl
 ·rw[decide_eq_false ‹o›];rfl
def gJ(t:PT):Nat->List Nat->List Std->Bool
 |0,pre,_=>qZ t pre
 |n+1,pre,st=>(qZ t pre||(Nat.ble pre.length 3 && !(aH 0 st).isEmpty && !(aH 1 st).isEmpty && !(aH 2 st).isEmpty)) &&
   ([(0,102),(1,105),(2,108)]:List (Nat×Nat)).all fun a=>if(aH a.1 st).isEmpty then jN t (pre++[a.2])else gD (pre++[a.2]) fun p=>gJ t n p (aH a.1 st)
theorem pU{m:Nat}(h:m<3):gI (bW m)=m:=by
 rcases m with _|_|_|m
 ·rfl
 ·rfl
 ·rfl
 ·omega
theorem nW(m:Nat):bW m=102\/bW m=105\/bW m=108:=by
 unfold bW;split <;> simp
theorem jT{t:PT}(ht:t.all bD=true):∀(n:Nat) (pre:List Nat) (st:List Std),gJ t n pre st=true->pre.length+n=6->∀ ms:List Nat,(∀ m∈ms,m<3)->ms.length<=n->4<=pre.length+ms.length->(∀ c∈pre,c=102\/c=105\/c=108) ->
  (∀ ai:List Nat,runFor aU (pre++ai).zipIdx cO=runFor aU (ai.zipIdx pre.length) st)->jO (L (pre++ms.map bW))=true
 |n,pre,st,h,hn,[],hm,hl,h4,hp,hr=>by
  have hc:qZ t pre=true:=by
   cases n with
   |zero=>rw[gJ]at h;exact h
   |succ n =>
    rw[gJ,Bool.and_eq_true,Bool.or_eq_true]at h
    rcases h.1 with h|h
    ·exact h
    ·simp only[Bool.and_eq_true]at h
     have:=Ak h.1.1.1
     simp at h4
     omega
  have hs:aZ (L pre)=.int (pre.length:Int):=by
   have:=hr []
   rw[List.append_nil]at this
   unfold aZ
   rw[show(L pre).cps.toList=pre from rfl,this]
   show PV.int ((L pre).length:Int)=_
   rw[show(L pre).length=pre.length from List.size_toArray]
  rw[List.map_nil,List.append_nil]
  exact v6 ht hp ‹o› (A4 _) hs (by rw[List.take_length];exact hc) (fun q=>absurd q (At _))
 |0,pre,st,h,hn,m::ms,hm,hl,h4,hp,hr=>absurd hl ‹s›
 |n+1,pre,st,h,hn,m::ms,hm,hl,h4,hp,hr=>by
  rw[gJ,Bool.and_eq_true,Bool.or_eq_true]at h
  have hm3:m<3:=hm m (.head _)
  have hmem:(m,bW m)∈([(0,102),(1,105),(2,108)]:List (Nat×Nat)):=by
   have:m=0\/m=1\/m=2:=by omega
   rcases this with rfl|rfl|rfl <;> decide
  have hm2:=A9.mp h.2 (m,bW m) hmem
  have hstep:∀ ai:List Nat,runFor aU (pre++bW m::ai).zipIdx cO=(match aU st (bW m,pre.length)with
    | .go st'=>runFor aU (ai.zipIdx (pre.length+1)) st' | .brk st'=>.inl st' | .ret L q=>.inr (L,q)):=fun ai=>by
   rw[hr,List.zipIdx_cons,runFor]
   cases aU st (bW m,pre.length) <;> rfl
  rw[List.map_cons]
  rw[List.length_cons]at hl h4
  by_cases he:(aH m st).isEmpty=true
  ·have hm2:(if(aH m st).isEmpty then jN t (pre++[bW m])else gD (pre++[bW m]) fun p=>gJ t n p (aH m st))=true:=hm2
   rw[if_pos he]at hm2
   have hc:qZ t pre=true:=by
    rcases h.1 with h|h
    ·exact h
    ·simp only[Bool.and_eq_true,Bool.not_eq_true']at h
     have:m=0\/m=1\/m=2:=by omega
     rcases this with rfl|rfl|rfl
     ·rw[h.1.1.2]at he;cases he
     ·rw[h.1.2]at he;cases he
     ·rw[h.2]at he;cases he
   have hs:aZ (L (pre++bW m::ms.map bW))=.int (pre.length:Int):=by
    unfold aZ
    rw[show(L (pre++bW m::ms.map bW)).cps.toList=pre++bW m::ms.map bW from rfl,hstep]
    unfold aU
    rw[pU hm3,if_pos he]
   refine v6 ht (fun c hc=>?_) ?_ (k:=pre.length) ?_ hs ?_ (fun _=>?_)
   ·rcases Cl.mp hc with q|q
    ·exact hp c q
    ·rcases Ab.mp q with rfl|q
     ·exact nW m
     ·obtain⟨m',_,rfl⟩:=Bn.mp q;exact nW m'
   ·simp;omega
   ·simp
   ·rw[List.take_left];exact hc
   ·have:(pre++bW m::ms.map bW).take (pre.length+1)=pre++[bW m]:=by
     rw[show pre++bW m::ms.map bW=(pre++[bW m])++ms.map bW by simp,List.take_left' ‹s›]
    rw[this];exact hm2
  ·have hm2:(if(aH m st).isEmpty then jN t (pre++[bW m])else gD (pre++[bW m]) fun p=>gJ t n p (aH m st))=true:=hm2
   rw[if_neg he,gU]at hm2
   have ih:=jT ht n (pre++[bW m]) (aH m st) hm2 (by simp;omega) ms (fun m' q=>hm m' (.tail _ q)) ‹o› (by simp;omega) (fun c hc=>?_) (fun ai=>?_)
   ·rw[List.append_assoc]at ih;exact ih
   ·rcases Cl.mp hc with q|q
    ·exact hp c q
    ·rw[List.mem_singleton.mp q];exact nW m
   ·rw[List.append_assoc]
    show runFor aU (pre++bW m::ai).zipIdx cO=_
    rw[hstep]
    unfold aU
    rw[pU hm3,if_neg he,List.length_append];rfl
end
def ptDig:Nat->Nat->List Nat
 |0,_=>[]
 |f+1,n=>if n==0 then[]else ptDig f (n / 4)++[108-3*(n%4-1)]
def ptLst(l:List Nat):ZE:=l.foldr (fun c e=>Lean.mkApp3 (Lean.mkConst ``List.cons [.zero]) (Lean.mkConst ``Nat) (Lean.mkRawNatLit c) e) (Lean.mkApp (Lean.mkConst ``List.nil [.zero]) (Lean.mkConst ``Nat))
def ptGo(ks:Array Nat):Nat->Nat->Nat->ZE
 |0,_,_=>Lean.mkConst ``PT.nil
 |f+1,lo,hi=>if lo<hi then Lean.mkApp5 (Lean.mkConst ``PT.node) (Lean.mkRawNatLit ks[(lo+hi) / 2]!) (ptLst (ptDig 10 (ks[(lo+hi) / 2]! / 64))) (ptLst (ptDig 10 (ks[(lo+hi) / 2]! % 64))) (ptGo ks f lo ((lo+hi) / 2)) (ptGo ks f ((lo+hi) / 2+1) hi)
  else Lean.mkConst ``PT.nil
noncomputable def ptT:PT:=by
 run_tac do
  let ks:Array Nat:=("65 130 195 386 451 578 707 835 899 1410 1475 1601 1602 1665 1731 1857 1859 1923 1985 2370 2434 2499 2625 2883 2946 2947 3010 3395 3459 3523 3651 3715 3779 6529 6530 6595 6979 7042 7043 7105 7106 7554 7555 7617 7619 7747 7809 7811 7875 9793 9794 9923 10050 10051 10115 10177 10178 11586 11587 11651 11715 11842 11843 11970 11971 13891 13953 13955 14019 14145 14147 14211 14658 14659 14723 14787 15171 15234 15235 26433 26434 26435 26497 26498 26561 26562 27970 27971 28034 28035 28099 28226 28227 28289 28353 28354 28355 28365 30273 30274 30275 30337 30339 30401 30403 31042 31043 31106 31171 31555 31617 31618 31619 31625 31681 39746 39810 39811 39873 39874 40258 40322 40323 40385 40386 40387 40398 40514 40515 40577 40579 40643 46657 46658 46721 46723 46787 46913 46914 46915 46921 46979 47042 47426 47427 47490 47491 47554 47555 55619 55681 55682 55683 55694 55747 56131 56194 56195 56257 56258 56899 56961 56963 57027 58945 58946 58947 58957 59011 59075 59201 59203 59267 59329 59330 60738 60739 60803 60867 105857 105858 105859 105921 105922 105923 105934 106049 106050 112193 112194 112257 112259 112321 112322 112323 112449 112451 113026 113027 121217 121218 121219 121230 121281 121282 121283 121665 121667 124481 124482 124737 124739 124801 124802 124803 124865 124866 126403 159106 159298 159299 159425 159426 159427 159437 161345 161346 161347 162114 162115 162178 162241 162242 162243 162690 162691 186753 186754 187201 187202 187203 187266 187267 187329 187330 188099 190017 190018 190019 190029 190146 190147 190338 190339 223041 223042 223043 224578 224579 224641 224642 224643 224707 224962 224963 227779 228163 228225 228226 228227 228233 236418 236419 236993 236995 237121 237122 237123 237185 237187 237251 243395 243521 243522 243523 243529 243587".splitOn " ").toArray.map String.toNat!
  (<-Lean.Elab.Tactic.getMainGoal).assign (ptGo ks 12 0 ks.size)
def treeF(m c:Nat):Bool:=if(aH m cO).isEmpty then jN ptT [c]else gJ ptT 5 [c] (aH m cO)
def ptTop:Bool:=ptT.top bD 2
def ptOk(i:Nat):Bool:=match(ptT.subs 2)[i]? with
 |some u=>u.all bD
 |none=>true
def Hard:Prop:=gJ ptT 6 [] cO=true/\ptT.all bD=true
theorem hard_of(h0:treeF 0 102=true)(h1:treeF 1 105=true)(h2:treeF 2 108=true)(h3:ptTop=true)(g0:ptOk 0=true)(g1:ptOk 1=true)(g2:ptOk 2=true)(g3:ptOk 3=true):Hard:=by
 refine⟨?_,PT.all_of 2 _ h3 fun u q=>?_⟩
 case refine_2 =>
  obtain⟨i,hi,e⟩:=List.mem_iff_getElem.mp q
  have hl:(ptT.subs 2).length=4:=by kernel_rfl
  have k:ptOk i=true:=by
   rw[hl]at hi
   have:i=0\/i=1\/i=2\/i=3:=by omega
   rcases this with rfl|rfl|rfl|rfl <;> assumption
  have k:(match(ptT.subs 2)[i]? with|some u=>u.all bD|none=>true)=true:=k
  rw[List.getElem?_eq_getElem hi,e]at k
  exact k
 have f:∀ m c:Nat,treeF m c=true->(if(aH m cO).isEmpty then jN ptT ([]++[c])else gD ([]++[c]) fun p=>gJ ptT 5 p (aH m cO))=true:=fun m c h=>by
  rw[gU];exact h
 rw[gJ,Bool.and_eq_true]
 exact⟨by kernel_rfl,by simp only[List.all_cons,List.all_nil,Bool.and_true,Bool.and_eq_true];exact⟨f 0 102 h0,f 1 105 h1,f 2 108 h2⟩⟩
theorem vZ(hd:Hard){ms:List Nat}(h4:4<=ms.length)(h6:ms.length<=6)(hm:∀ m∈ms,m<3):jO (gK ms)=true :=
 jT hd.2 6 [] cO hd.1 rfl ms hm h6 (by simpa using h4) (fun c q=>by cases q) fun ai=>rfl
theorem z6(hd:Hard){aa:Program}{w:World}{T:Heap}(W:LwK aa w T)(f:eE W.S1 W.mM=true)(ms:List Nat)(h4:4<=ms.length)(h6:ms.length<=6)(hm:∀ m∈ms,m<3):jO (gK ms)=true/\∀ c:Int,0<=c->c<2^40->wK W (gK ms) c :=
 ⟨vZ hd h4 h6 hm,fun c _ _=>zG W f (fun c hc=>by
  obtain⟨m,_,rfl⟩:=Bn.mp (show c∈ms.map bW from hc)
  exact nW m) (by show(ms.map bW).toArray.size<=6;rw[List.size_toArray,List.length_map];exact h6) c⟩
section
variable{R:WRecords}{cl:Str->Option Addr}{h:Heap}
theorem sT:∀{xs:List WData},WShape.hasItems R xs .int=true->∃ ns:List Int,xs=ns.map WData.int
 |[],_=>⟨[],rfl⟩
 |x::xs,e=>by
  rw[WShape.hasItems,Bool.and_eq_true]at e
  obtain⟨ns,rfl⟩:=sT e.2
  cases x with
  |int i=>exact⟨i::ns,rfl⟩
  |_=>exact Bool.noConfusion (show false=true from e.1)
theorem l5:∀{ns:List Int} {vs:List Value} {as:List Addr},ReadsAllW R cl h vs (ns.map WData.int) as->vs.length=ns.length/\∀(i:Nat) k v,ns[i]? = some k->vs[i]? = some v->∃ t,v=.int k t
 |[],_,_,r=>by
  cases r
  exact⟨rfl,fun i k v e _=>by simp at e⟩
 |n::ns,_,_,r=>by
  cases r with
  |cons r1 r2 =>
   cases r1
   obtain⟨l,k⟩:=l5 r2
   refine⟨Az (· + 1) l,fun i k' v e1 e2=>?_⟩
   cases i with
   |zero=>cases e1;cases e2;exact⟨_,rfl⟩
   |succ i=>exact k i k' v e1 e2
theorem tV{Z:ZP}{args:List WData}{ba:List Value}{as:List Addr}(hs:WShape.hasAll R args [.list .int]=true)(hr:ReadsAllW R cl h ba args as)(hz:∀ a,Z a->∃ o,h.get? a=some o/\o.cls=.none) :
  ∃ ns:List Int,args=[.list (ns.map WData.int)]/\Paired (Rp Z h) [.lst (ns.map PV.int)] ba:=by
 obtain⟨d,r,rfl,h1,h2⟩:=hasAllW_cons hs
 obtain rfl:=hasAllW_nil h2
 cases d with
 |list xs =>
  obtain⟨ns,rfl⟩:=sT (xs:=xs) (R:=R) (by have q:(WShape.hasItems R xs .int||false)=true:=h1;rwa [Bool.or_false]at q)
  refine⟨ns,rfl,?_⟩
  cases hr with
  |cons r1 r2 =>
   cases r2
   cases r1 with
   |list e1 e2 e3 e4 =>
    obtain⟨l,k⟩:=l5 e4
    refine .cons (.lst (fun z=>?_) e1 e2 e3 ?_ fun i p v q1 q2=>?_) .nil
    ·obtain⟨o,e,c⟩:=hz _ z
     rw[e1]at e;cases e;rw[e2]at c;cases c
    ·rw[List.length_map,<-l];simp
    ·rw[List.getElem?_map]at q1
     obtain⟨n,hn,rfl⟩:=Bb.mp q1
     obtain⟨t,rfl⟩:=k i n v hn (by simpa using q2)
     exact .int _ _
 |_=>exact Bool.noConfusion (show false=true from h1)
end
section
theorem m_law(P:Params):cB (Tp P) lawB lawS ["script"] 592:=Dom.meth ⋯ (by run_tac bodyRow) ⋯ ⋯ ⋯ ‹d›
theorem b_law(P:Params):aV (Tp P) 592 1 [] ["script"] []:=bB [] rfl (fun Z h=>.nil) ⋯ (fun vs e S=>by
 obtain⟨a,r0,rfl,e0⟩:=lenS e;obtain rfl:=i9 e0;kernel_rfl)
theorem uH(hd:Hard)(rk:RdK)(w:World){D Z:ZP}{tk:Nat}{ns:List Int}(hns:ns.length<64)(hz:∀ a,Z a->(Tp w.params).get? a=none) :
  CBc pwL w callerA ⟨Tp w.params,D,dH (m8 w),tk⟩ Z (.ref 592) [.lst (ns.map .int)] [] (.bool true) (dH (m8 w)) :=
 CBc.mkF (n:=12) (out:=.ret (dH (m8 w)) (.bool true)) (kQ _) (m_law _) (b_law _) ⋯ ⟨rfl,by decide +kernel,by decide +kernel⟩ hz rfl rfl rfl fun A' Z' env R' S eo _ hfr hf =>
  law_0 (m8 w) S eo R' (hfr [] rfl) hf hns fun ms h4 h6 hm=>z6 hd (m8 w) (rk w) ms h4 h6 hm
end
theorem sR(P:Params):(topHeap P).get? 312=some {cls:=.none,data:=.fields #[]}/\(topHeap P).get? 319=some {cls:=.none,data:=.fields #[]}:=⟨⋯,⋯⟩
theorem sZ(w:World):(∃ o vs,(topHeap w.params).get? 316=some o/\o.cls=.type "code"/\o.data=.fields vs/\vs[11]? = some (.ref 312))/\∃ o vs,(topHeap w.params).get? 323=some o/\o.cls=.type "code"/\o.data=.fields vs/\vs[11]? = some (.ref 319):=by
 obtain⟨o,vs,e1,e2⟩:=(uY (w:=w)).ctL.cls
 obtain⟨o',vs',e1',e2'⟩:=(uY (w:=w)).ctS.cls
 exact⟨⟨o,vs,(gO e1).1,e2⟩,⟨o',vs',(gO e1').1,e2'⟩⟩
def Tb(a:Addr):Prop:=a=312\/a=319
theorem u6(hd:Hard)(rk:RdK)(w:World){s_1:Shared}(Y:∀ b o,(topHeap w.params).get? b=some o->s_1.heap.get? b=some o)(hg:s_1.gens=#[]){ns:List Int}(hns:ns.length<64){ba:List Value}(P:Paired (Rp Tb s_1.heap) [.lst (ns.map PV.int)] ba){Q:ZV}{E:ZV}
  (hQ:∀ s',OldK s_1.heap s'.heap->s'.os=s_1.os->AllBare s'.gens->Q (.bool true) s'):wpAny (model pwL w) callerA (PySem.call (.ref 592) ba) Q E s_1:=by
 obtain⟨t1,t2⟩:=sR w.params
 obtain⟨c1,c2⟩:=sZ w
 have none_at:∀ a,Tb a->(Tp w.params).get? a=none:=fun a z=>j7 z
 have G:GS ⟨Tp w.params,Tb,dH (m8 w),0⟩ Tb s_1:=by
  refine⟨⟨fun b o e=>Y b o (gO e).1,fun a z=>?_⟩,Ap _,fun a z=>z,fun a m e=>?_⟩
  ·rcases z with rfl|rfl
   ·exact⟨_,Y _ _ t1⟩
   ·exact⟨_,Y _ _ t2⟩
  ·have e:List.lookup a [((312:Addr),fW),((319:Addr),fW)]=some m:=e
   rw[List.lookup_cons]at e
   split at e
   ·rename_i q;cases e
    rw[beq_iff_eq.mp q]
    exact⟨.inl rfl,_,[],Y _ _ t1,⟨rfl,#[],rfl,trivial⟩,.nil⟩
   ·rw[List.lookup_cons]at e
    split at e
    ·rename_i q;cases e
     rw[beq_iff_eq.mp q]
     exact⟨.inr rfl,_,[],Y _ _ t2,⟨rfl,#[],rfl,trivial⟩,.nil⟩
    ·cases e
 have C:=uH hd rk w (D:=Tb) (Z:=Tb) (tk:=0) hns none_at
 refine wpM (CBc.d C s_1 E ba G P) (fun v s' q=>?_)
 obtain⟨r,G',k⟩:=q
 cases r with
 |bool =>
 have tab:∀ a,Tb a->∃ ps:Array Value,s'.heap.get? a=some {cls:=.none,data:=.fields ps}:=fun a z=>by
  have hl:(dH (m8 w)).lookup a=some fW:=qA (m8 w) z
  obtain⟨_,o,vs,e1,⟨_,ps,e2,_⟩,_⟩:=G'.ld a fW hl
  exact⟨ps,e2▸e1⟩
 have kk:=k
 obtain⟨h',tk',g',rfl,kh,gk,_⟩:=kk
 refine hQ _ ⟨fun b o e=>?_,fun b o e=>?_⟩ rfl fun y hy=>?_
 ·by_cases z:Tb b
  ·obtain⟨ps,e'⟩:=tab b z
   refine .inr (.inl ⟨?_,?_⟩)
   ·rcases z with rfl|rfl
    ·obtain⟨o',vs,x1,x2⟩:=c1
     exact⟨316,o',vs,Y _ _ x1,x2⟩
    ·obtain⟨o',vs,x1,x2⟩:=c2
     exact⟨323,o',vs,Y _ _ x1,x2⟩
   ·have:o={cls:=.none,data:=.fields #[]}:=by
     rcases z with rfl|rfl
     ·have:=Y _ _ t1;rw[e]at this;exact Bk this
     ·have:=Y _ _ t2;rw[e]at this;exact Bk this
    subst this
    exact⟨rfl,#[],ps,rfl,by rw[e'];simp⟩
  ·exact .inl (kh b o z e)
 ·by_cases z:Tb b
  ·obtain⟨ps,e'⟩:=tab b z;exact⟨_,e'⟩
  ·exact⟨o,kh b o z e⟩
 ·obtain⟨i,hi,rfl⟩:=Array.mem_iff_getElem.mp hy
  rcases gk.2 i _ (Ck hi)with q|q
  ·rw[hg]at q;simp at q
  ·exact q
theorem xF{R:WRecords}{xs:List WData}(h:WTm.holds R (.and (.not (.lt (.lit (.int 63)) (.len (.arg 0)))) (.lit (.bool true))) {args:=[.list xs]}=true):xs.length<64:=by
 rcases C4 xs.length 64 with q|q
 ·exact q
 ·have e:PySem.W.less? (WData.int 63) (WData.int (xs.length:Int))=some true:=by
   show some (decide ((63:Int)<(xs.length:Int)))=some true
   rw[decide_eq_true ‹o›]
  simp[WTm.holds,WTm.value,e]at h
theorem a60{h:Heap}{a:Addr}{m m':Str->Option Value}(x:h.Ns a m)(y:h.Ns a m')(n:Str):m n=m' n:=by
 obtain⟨o,es,ep,e1,e2,_,e3⟩:=x
 obtain⟨o',es',ep',e1',e2',_,e3'⟩:=y
 rw[e1]at e1';cases e1'
 rw[e2]at e2';cases e2'
 rw[<-e3,<-e3']
theorem uU(hd:Hard)(rk:RdK)(w:World){s_1:Shared}(Y:∀ b o,(topHeap w.params).get? b=some o->s_1.heap.get? b=some o)(hg:s_1.gens=#[]){mg:Str->Option Value}(hm:s_1.heap.Ns mainGlobals mg){a:Addr}(ha:mg "law" = some (.ref a)){args:List WData}{ba:List Value}{as:List Addr}{R:WRecords}{cl:Str->Option Addr}
  (h1:WShape.hasAll R args [.list .int]=true) (h2:WTm.holds R (.and (.not (.lt (.lit (.int 63)) (.len (.arg 0)))) (.lit (.bool true))) {args:=args}=true) (hr:ReadsAllW R cl s_1.heap ba args as) {Q:ZV} {E:ZV}
  (hQ:∀ s',OldK s_1.heap s'.heap->s'.os=s_1.os->AllBare s'.gens->Q (.bool true) s'):wpAny (model pwL w) callerA (PySem.call (.ref a) ba) Q E s_1:=by
 have e:a=592:=by
  have k:(Tp w.params).Ns mainGlobals _:=vH w.params
  have k':=k.keeps (h':=s_1.heap) fun b o e=>Y b o (gO e).1
  have q:=a60 hm k' "law"
  rw[ha]at q
  have q2:nsFind (iL (Tp w.params) mainGlobals) "law" = some (.ref 592):=⋯
  rw[q2]at q
  cases q;rfl
 subst e
 obtain⟨t1,t2⟩:=sR w.params
 obtain⟨ns,rfl,P⟩:=tV (Z:=Tb) h1 hr fun a z=>by
  rcases z with rfl|rfl
  ·exact⟨_,Y _ _ t1,rfl⟩
  ·exact⟨_,Y _ _ t2,rfl⟩
 have hl:=xF h2
 rw[List.length_map]at hl
 exact u6 hd rk w Y hg hl P hQ
section
def rC(m:Nat)(v:Value):Bool:=match v with
 | .int i _=>@Int.rec (fun _=>Bool) (fun a=>Nat.beq a m) (fun _=>false) i
 |_=>false
theorem sP(m:Nat)(v:Value):Value.isInt (Int.ofNat m) v=rC m v:=by
 cases v with
 |int i t=>cases i with
  |ofNat a =>
   show(Int.ofNat a==Int.ofNat m)=Nat.beq a m
   rw[Bool.eq_iff_iff,beq_iff_eq]
   exact⟨fun q=>by cases q;exact Nat.beq_refl _,fun q=>Az Int.ofNat (Nat.eq_of_beq_eq_true q)⟩
  |negSucc a=>rfl
 |_=>rfl
def txtF(v:Value):Option Str:=match v with| .str x _=>some x|_=>none
def u9(es:Array DictEntry)(k:Int):Option Str:=@Int.rec (fun _=>Option Str) (fun m=>@List.rec DictEntry (fun _=>Option Str) none (fun e _ ih=>@Bool.rec (fun _=>Option Str) ih (txtF e.val) (rC m e.key)) es.toList) (fun m=>g9 es (.negSucc m)) k
def setF(es:Array (Int×Value))(k:Int):Bool:=@Int.rec (fun _=>Bool) (fun m=>@List.rec (Int×Value) (fun _=>Bool) false (fun e _ ih=>@Bool.rec (fun _=>Bool) ih true (rC m e.2)) es.toList) (fun m=>lF es (.negSucc m)) k
theorem vF(es:Array DictEntry):g9 es=u9 es:=by
 funext k
 cases k with
 |negSucc=>rfl
 |ofNat m =>
  obtain⟨l⟩:=es
  unfold g9 findBy
  rw[List.find?_toArray]
  induction l with
  |nil=>rfl
  |cons e l ih =>
   rw[List.find?_cons,sP]
   show _ = @Bool.rec (fun _=>Option Str) (u9 ⟨l⟩ (Int.ofNat m)) (txtF e.val) (rC m e.key)
   cases rC m e.key with
   |true=>show(match some e.val with|some (.str x _)=>some x|_=>none)=txtF e.val;cases e.val <;> rfl
   |false=>exact ih
theorem y6(es:Array (Int×Value)):lF es=setF es:=by
 funext k
 cases k with
 |negSucc=>rfl
 |ofNat m =>
  obtain⟨l⟩:=es
  unfold lF
  induction l with
  |nil=>rfl
  |cons e l ih =>
   show(e.2.isInt (Int.ofNat m)||l.any fun e=>e.2.isInt (Int.ofNat m)) = @Bool.rec (fun _=>Bool) (setF ⟨l⟩ (Int.ofNat m)) true (rC m e.2)
   rw[sP]
   cases rC m e.2 with
   |true=>rfl
   |false=>exact ih
end
theorem whole1(h0:treeF 0 102=true)(h1:treeF 1 105=true)(h2:treeF 2 108=true)(h3:ptTop=true)(g0:ptOk 0=true)(g1:ptOk 1=true)(g2:ptOk 2=true)(g3:ptOk 3=true)(h4:∀ w:World,eE (setF (l7 (Tp w.params) 362)) (u9 (iL (Tp w.params) 373))=true)(tw:PySem.Challenge.rw_wy0058_01.row.prog.tablesWhole=true)(tl:LeftO PySem.Challenge.pw_wy0058_01 qv looseN (fun _=>true) obsT (fun w=>(topHeap w.params,topToks)) 40000)(said:PySem.Challenge.rw_wy0058_01.row.wellSaid=true):PySem.Challenge.rw_wy0058_01.row.Holds:=by
 refine holds_open (q:=qv) (loose:=looseN) (Xt:=fun _=>true) (XP:=fun _ _=>True) (Yf:=obsT) (Ya:=fun w=>(topHeap w.params,topToks)) (YP:=fun w h=>∀ b o,(topHeap w.params).get? b=some o->h.get? b=some o) (N:=40000) tl (fun w s e b o q=>?_) (fun w h h' y k b o q=>k b o (y b o q)) (fun _ _=>trivial) (fun _ _ _ _ _=>trivial) (by rfl) (by rfl) (by rfl) (fun s _=>recFacts_nil rfl) rfl (by assumption) ‹k› ⟨rfl,rfl,rfl,rfl,rfl,tw⟩ ⟨[.list []],by decide +kernel,by decide +kernel⟩ ?_
 ·have e:s.heap=topHeap w.params:=Az Prod.fst e
  rw[e];exact q
 ·have rk:RdK:=fun w=>by
   show eE (lF (l7 (Tp w.params) 362)) (g9 (iL (Tp w.params) 373))=true
   rw[y6,vF];exact h4 w
  intro w s_0 s_1 mg mb G Y a o pm cd doc dV kV ho hd hcd hD hmg hg args ba as hpre hlay hrd hwl hlo
  have p:=pre_splitW hpre
  exact uU (hard_of h0 h1 h2 h3 g0 g1 g2 g3) rk w Y hg G.T.g hmg p.1 p.2 hrd fun s' h1 h2 h3=>⟨.inl ⟨.bool true,.bool true,[],rfl,fun _=>rfl,.bool true,⋯,fun _=>⟨Gm,fun a h=>nomatch h⟩⟩,h1,h2,h3⟩
end
theorem tidied : True := by
  run_tac do
    let some e := (<- Lean.getEnv).importEnv? | throwError "no"
    finish e
  trivial
end Mine
theorem PySem.Challenge.cw_wy0058_01_holds : PySem.Challenge.rw_wy0058_01.Holds := by
 exact Mine.whole
