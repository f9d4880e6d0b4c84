import PyProof.Rows.All
import Wide.All
import OpenK.AllK
import Wide.FinOn
import Open.Tops
import Lean
import PySem.Challenge.RW_jk0053_01
set_option Elab.async false
set_option linter.unusedVariables false
set_option genSizeOf false
set_option genInjectivity false
set_option maxRecDepth 1000000
namespace Mine
section
section
noncomputable def iLe (a b:Int):Bool:=Int.ble' a b
noncomputable def iLt (a b:Int):Bool:=Int.blt' a b
noncomputable def iEq (a b:Int):Bool:=Int.beq' a b
noncomputable abbrev Nm:=Nat
structure IV where
  x:Nat
  c:Int
noncomputable def IV.k (i:Int):IV:=⟨0,i⟩
inductive Pc where
  | lit (n:Nm)
  | int (i:IV)
inductive SS where
  | lit (n:Nm)
  | dyn (l:List Pc)
inductive Bi where | len | isinstance | sorted | all
inductive Ty where | int | str | list | dict | set | bool | tuple | bytes | ValueError | AssertionError | KeyError | RuntimeError | TypeError | Exception | BaseException | object | LookupError | enumerate
inductive AV where
  | none
  | bool (q:Bool)
  | int (i:IV)
  | str (x:SS)
  | bytes (x:SS)
  | own (i:Nat)
  | top (a:Nat)
  | ty (n:Ty)
  | blt (n:Bi)
  | eq (i j:IV)
  | any (k:Nat)
inductive aj where
  | dict (es:List (Nm×AV))
  | bdict (es:List (Nm×AV))
  | list (xs:List AV)
  | plist (pre:IV) (xs:List AV)
  | tup (xs:List AV)
  | set (xs:List AV)
  | inst (c d:Nat)
  | frame (es:List (Nm×AV))
  | cell (x:Option AV)
  | fn (p:Nat) (cl:List (Nm×Nat))
  | exc (c:AV)
  | other
noncomputable def ob {α:Type} (o:Option α) (f:α->Bool):Bool:=Option.rec false f o
noncomputable def oe {α β:Type} (o:Option α) (z:β) (f:α->β):β:=Option.rec z f o
noncomputable def be {β:Type} (b:Bool) (x y:β):β:=Bool.rec y x b
noncomputable def op {α β:Type} (o:Option α) (f:α->Option β):Option β:=Option.rec none f o
noncomputable def aj.dict? (o:aj):Option (List (Nm×AV)):=o.rec (fun x=>.some x) (fun _=>.none) (fun _=>.none) (fun _ _=>.none) (fun _=>.none) (fun _=>.none) (fun _ _=>.none) (fun _=>.none) (fun _=>.none) (fun _ _=>.none) (fun _=>.none) .none
noncomputable def aj.bdict? (o:aj):Option (List (Nm×AV)):=o.rec (fun _=>.none) (fun x=>.some x) (fun _=>.none) (fun _ _=>.none) (fun _=>.none) (fun _=>.none) (fun _ _=>.none) (fun _=>.none) (fun _=>.none) (fun _ _=>.none) (fun _=>.none) .none
noncomputable def aj.list? (o:aj):Option (List AV):=o.rec (fun _=>.none) (fun _=>.none) (fun x=>.some x) (fun _ _=>.none) (fun _=>.none) (fun _=>.none) (fun _ _=>.none) (fun _=>.none) (fun _=>.none) (fun _ _=>.none) (fun _=>.none) .none
noncomputable def aj.plist? (o:aj):Option (IV×List AV):=o.rec (fun _=>.none) (fun _=>.none) (fun _=>.none) (fun x y=>.some (x,y)) (fun _=>.none) (fun _=>.none) (fun _ _=>.none) (fun _=>.none) (fun _=>.none) (fun _ _=>.none) (fun _=>.none) .none
noncomputable def aj.tup? (o:aj):Option (List AV):=o.rec (fun _=>.none) (fun _=>.none) (fun _=>.none) (fun _ _=>.none) (fun x=>.some x) (fun _=>.none) (fun _ _=>.none) (fun _=>.none) (fun _=>.none) (fun _ _=>.none) (fun _=>.none) .none
noncomputable def aj.set? (o:aj):Option (List AV):=o.rec (fun _=>.none) (fun _=>.none) (fun _=>.none) (fun _ _=>.none) (fun _=>.none) (fun x=>.some x) (fun _ _=>.none) (fun _=>.none) (fun _=>.none) (fun _ _=>.none) (fun _=>.none) .none
noncomputable def aj.inst? (o:aj):Option (Nat×Nat):=o.rec (fun _=>.none) (fun _=>.none) (fun _=>.none) (fun _ _=>.none) (fun _=>.none) (fun _=>.none) (fun x y=>.some (x,y)) (fun _=>.none) (fun _=>.none) (fun _ _=>.none) (fun _=>.none) .none
noncomputable def aj.cell? (o:aj):Option (Option AV):=o.rec (fun _=>.none) (fun _=>.none) (fun _=>.none) (fun _ _=>.none) (fun _=>.none) (fun _=>.none) (fun _ _=>.none) (fun _=>.none) (fun x=>.some x) (fun _ _=>.none) (fun _=>.none) .none
noncomputable def aj.fn? (o:aj):Option (Nat×List (Nm×Nat)):=o.rec (fun _=>.none) (fun _=>.none) (fun _=>.none) (fun _ _=>.none) (fun _=>.none) (fun _=>.none) (fun _ _=>.none) (fun _=>.none) (fun _=>.none) (fun x y=>.some (x,y)) (fun _=>.none) .none
noncomputable def AV.bool? (o:AV):Option (Bool):=o.rec .none (fun x=>.some x) (fun _=>.none) (fun _=>.none) (fun _=>.none) (fun _=>.none) (fun _=>.none) (fun _=>.none) (fun _=>.none) (fun _ _=>.none) (fun _=>.none)
noncomputable def AV.int? (o:AV):Option (IV):=o.rec .none (fun _=>.none) (fun x=>.some x) (fun _=>.none) (fun _=>.none) (fun _=>.none) (fun _=>.none) (fun _=>.none) (fun _=>.none) (fun _ _=>.none) (fun _=>.none)
noncomputable def AV.str? (o:AV):Option (SS):=o.rec .none (fun _=>.none) (fun _=>.none) (fun x=>.some x) (fun _=>.none) (fun _=>.none) (fun _=>.none) (fun _=>.none) (fun _=>.none) (fun _ _=>.none) (fun _=>.none)
noncomputable def AV.bytes? (o:AV):Option (SS):=o.rec .none (fun _=>.none) (fun _=>.none) (fun _=>.none) (fun x=>.some x) (fun _=>.none) (fun _=>.none) (fun _=>.none) (fun _=>.none) (fun _ _=>.none) (fun _=>.none)
noncomputable def AV.own? (o:AV):Option (Nat):=o.rec .none (fun _=>.none) (fun _=>.none) (fun _=>.none) (fun _=>.none) (fun x=>.some x) (fun _=>.none) (fun _=>.none) (fun _=>.none) (fun _ _=>.none) (fun _=>.none)
noncomputable def AV.top? (o:AV):Option (Nat):=o.rec .none (fun _=>.none) (fun _=>.none) (fun _=>.none) (fun _=>.none) (fun _=>.none) (fun x=>.some x) (fun _=>.none) (fun _=>.none) (fun _ _=>.none) (fun _=>.none)
noncomputable def AV.ty? (o:AV):Option (Ty):=o.rec .none (fun _=>.none) (fun _=>.none) (fun _=>.none) (fun _=>.none) (fun _=>.none) (fun _=>.none) (fun x=>.some x) (fun _=>.none) (fun _ _=>.none) (fun _=>.none)
noncomputable def AV.blt? (o:AV):Option (Bi):=o.rec .none (fun _=>.none) (fun _=>.none) (fun _=>.none) (fun _=>.none) (fun _=>.none) (fun _=>.none) (fun _=>.none) (fun x=>.some x) (fun _ _=>.none) (fun _=>.none)
noncomputable def AV.eq? (o:AV):Option (IV×IV):=o.rec .none (fun _=>.none) (fun _=>.none) (fun _=>.none) (fun _=>.none) (fun _=>.none) (fun _=>.none) (fun _=>.none) (fun _=>.none) (fun x y=>.some (x,y)) (fun _=>.none)
noncomputable def SS.lit? (x:SS):Option Nm:=x.rec (fun n=>some n) fun _=>none
noncomputable def AV.lit? (a:AV):Option Nm:=op a.str? SS.lit?
noncomputable abbrev g7:=AV.lit?
noncomputable def r9 (a:AV):Option Nm:=op a.bytes? SS.lit?
noncomputable def kv (n:Nm):AV:=.str (.lit n)
noncomputable def f6 {α:Type} (l:List α):Option α:=l.rec none fun a r _=>r.rec (some a) fun _ _ _=>none
noncomputable def qg {α:Type} (l:List α):Option (α×α):=l.rec none fun a r _=>op (f6 r) fun b=>some (a,b)
inductive Tr (α:Type) where
  | nil
  | node (x:Option α) (l r:Tr α)
noncomputable abbrev AT:=Tr aj
noncomputable def bits (i:Nat):List Bool:=Nat.rec (motive:=fun _=>Nat->List Bool) (fun _=>[]) (fun _ ih i=>be (Nat.beq i 0) [] (Nat.beq (i % 2) 1::ih (i / 2))) i i
noncomputable def Tr.v {α:Type} (t:Tr α):Option α:=t.rec none fun x _ _ _ _=>x
noncomputable def Tr.c {α:Type} (t:Tr α) (b:Bool):Tr α:=t.rec .nil fun _ l r _ _=>be b r l
noncomputable def Tr.getP {α:Type} (p:List Bool):Tr α->Option α:=p.rec (fun t=>t.v) fun b _ ih t=>t.rec none fun _ l r _ _=>be b (ih r) (ih l)
noncomputable def Tr.setP {α:Type} (o:α) (p:List Bool):Tr α->Tr α:=p.rec (fun t=>t.rec (.node (some o) .nil .nil) fun _ l r _ _=>.node (some o) l r) fun b _ ih t=>t.rec (be b (.node none .nil (ih .nil)) (.node none (ih .nil) .nil)) fun x l r _ _=>be b (.node x l (ih r)) (.node x (ih l) r)
noncomputable def pth (i:Nat):List Bool:=i.rec [] fun p _=>bits p.succ
noncomputable def Tr.get {α:Type} (t:Tr α) (i:Nat):Option α:=Tr.getP (pth i) t
noncomputable def Tr.set {α:Type} (o:α) (t:Tr α) (i:Nat):Tr α:=Tr.setP o (pth i) t
structure Fc where
  x:Nat
  y:Nat
  c:Int
structure Fs where
  lo:Tr Int
  hi:Tr Int
  d:List Fc
structure St where
  t:AT
  n:Nat
  locks:List Nat
  loc:List (Nm×AV)
  f:Fs
noncomputable def St.add (σ:St) (o:aj):St:=σ.rec fun t n lk loc f=>⟨Tr.set o t n,n + 1,lk,loc,f⟩
noncomputable def St.put (σ:St) (i:Nat) (o:aj):St:=σ.rec fun t n lk loc f=>⟨Tr.set o t i,n,lk,loc,f⟩
noncomputable def St.wl (σ:St) (l:List (Nm×AV)):St:=σ.rec fun t n lk _ f=>⟨t,n,lk,l,f⟩
noncomputable def St.wk (σ:St) (l:List Nat):St:=σ.rec fun t n _ loc f=>⟨t,n,l,loc,f⟩
noncomputable def St.wf (σ:St) (f:Fs):St:=σ.rec fun t n lk loc _=>⟨t,n,lk,loc,f⟩
noncomputable def St.dict? (σ:St) (i:Nat):Option (List (Nm×AV)):=op (σ.t.get i) aj.dict?
noncomputable def St.list? (σ:St) (i:Nat):Option (List AV):=op (σ.t.get i) aj.list?
noncomputable def St.inst? (σ:St) (i:Nat):Option (Nat×Nat):=op (σ.t.get i) aj.inst?
noncomputable abbrev T:=Bool
inductive Bop where | add | sub | mod | fdiv
inductive Cop where | eq | ne | lt | le | gt | ge | is_ | isNot | in_ | notIn
inductive Md where | other | append | pop | get | items | values | keys | update | split | isdigit | encode | replace | join | add
inductive Tn where
  | loc (n:Nm) | cel (n:Nm)
inductive Tg where
  | loc (n:Nm) | cel (n:Nm)
  | tup (l:List Tn)
inductive Ik where | plain | enum | items
noncomputable abbrev KV:=AV->St->T
noncomputable abbrev KE:=AV->St->T
noncomputable abbrev Rc:=AV->List AV->KV->KE->St->T
structure AE where
  cells:List (Nm×Nat)
  h:Bool
  c:Bool
inductive Fl where | next | cont | ret (x:AV)
noncomputable abbrev C:=Rc->AE->KV->KE->St->T
noncomputable abbrev KF:=Fl->St->T
noncomputable abbrev CS:=Rc->AE->KF->KE->St->T
noncomputable abbrev L:=Rc->AE->KE->AV->St->(St->T)->T
inductive Dt (β:Type) where
  | nil
  | one (k:Nat) (x:β)
  | fork (k:Nat) (l r:Dt β)
noncomputable def Dt.get {β:Type} (t:Dt β) (a:Nat):Option β:=t.rec none (fun k x=>be (Nat.beq k a) (some x) none) fun k _ _ il ir=>be (Nat.ble a k) il ir
structure Fn where
  params:List Nm
  dflt:List AV
  cells:List Nm
  free:List Nm
  body:List CS
inductive Fd where
  | fn (a:Nat)
  | prop (a:Nat)
  | cm (a:Nat)
  | val (x:AV)
  | dat
noncomputable def Fd.val? (d:Fd):Option AV:=d.rec (fun _=>none) (fun _=>none) (fun _=>none) (fun x=>some x) none
noncomputable def Fd.cm? (d:Fd):Option Nat:=d.rec (fun _=>none) (fun _=>none) (fun x=>some x) (fun _=>none) none
noncomputable def Fd.isDat (d:Fd):Bool:=d.rec (fun _=>false) (fun _=>false) (fun _=>false) (fun _=>false) true
structure Cls where
  mro:List AV
  attrs:Dt Fd
  exc:Bool
  init:Nat
  tru:Bool
structure Pg where
  globs:List (Nm×AV)
  clss:Dt Cls
  defs:Dt Nat
  objs:Dt aj
structure Pf where
  fns:Dt Fn
  lams:Dt Fn
noncomputable def look {β:Type} (l:List (Nat×β)) (a:Nat):Option β:=l.rec none fun p _ ih=>be (Nat.beq p.1 a) (some p.2) ih
noncomputable def put {β:Type} (l:List (Nat×β)) (a:Nat) (x:β):List (Nat×β):=l.rec [(a,x)] fun p l ih=>be (Nat.beq p.1 a) ((a,x)::l) (p::ih)
noncomputable def drop {β:Type} (l:List (Nat×β)) (a:Nat):List (Nat×β):=l.rec [] fun p l ih=>be (Nat.beq p.1 a) l (p::ih)
noncomputable def hd? {α:Type} (l:List α):Option α:=l.rec none fun a _ _=>some a
noncomputable def qh {α:Type} (l:List α):Nat->Option α:=l.rec (fun _=>none) fun a _ ih j=>j.rec (some a) fun j _=>ih j
noncomputable def zQ (f:Nat):Nat->List Nat->List Nat:=f.rec (fun _ acc=>acc) fun _ ih n acc=>be (Nat.beq n 0) acc (ih (n / 256) (n % 256::acc))
noncomputable def sb (n:Nm):Nat:=be (Nat.beq n 0) 0 (Nat.log2 n / 8 + 1)
noncomputable def wI (f:Nat):Nat->Nat:=f.rec (fun n=>be (Nat.beq n 0) 0 1) fun f ih n=>be (Nat.ble (256 ^ 2 ^ f) n) (2 ^ f + ih (n / 256 ^ 2 ^ f)) (ih n)
noncomputable def dK (n:Nm):Nat:=be (Nat.ble (256 ^ 2 ^ 13) n) (sb n) (wI 13 n)
noncomputable def dec (n:Nm):List Nat:=zQ (dK n) n []
noncomputable def zR (a b:Nm):Nm:=a * 256 ^ dK b + b
noncomputable def D1 (a:Nm) (r:List Pc):List Pc:=r.rec [.lit a] fun q r' _=>q.rec (fun b=>.lit (zR a b)::r') fun i=>.lit a::.int i::r'
noncomputable def mx (l:List Pc):List Pc:=l.rec [] fun p _ ih=>p.rec (fun a=>be (Nat.beq a 0) ih (D1 a ih)) fun i=>be (Nat.beq i.x 0&&(iLe 0 i.c&&iLe i.c 9)) (D1 (48 + i.c.toNat) ih) (.int i::ih)
noncomputable def SS.pcs (x:SS):List Pc:=x.rec (fun n=>[.lit n]) fun l=>l
noncomputable def mkS (l:List Pc):SS:=(fun m=>List.rec (motive:=fun _=>SS) (.lit 0) (fun p r _=>r.rec (p.rec SS.lit fun i=>.dyn [.int i]) fun _ _ _=>.dyn m) m) (mx l)
noncomputable def zS (x y:SS):SS:=mkS (x.pcs++y.pcs)
noncomputable def hO (x:Nat):Bool:=Nat.blt 0 x&&Nat.blt x 20
noncomputable def ll (p:Pc):Bool:=p.rec (fun _=>true) fun i=>!hO i.x&&(iLe (-100000) i.c&&iLe i.c 100000)
noncomputable def KD (p:Pc):Nat:=p.rec dK fun _=>12
noncomputable def HH (l:List Pc):Nat:=l.rec 0 fun p _ ih=>KD p + ih
noncomputable def jr (x:SS):Bool:=x.pcs.all ll&&Nat.ble (HH x.pcs) 1000000
noncomputable def zT (l:List Pc):Option Nm:=l.rec none fun p _ _=>p.rec some fun _=>none
noncomputable def qi (l:List Pc):Option Nm:=l.rec none fun p r ih=>r.rec (p.rec some fun _=>none) fun _ _ _=>ih
noncomputable def Mn (a b:Nm):Bool:=be (Nat.ble (dK a) (dK b)) (!Nat.beq a (b / 256 ^ (dK b - dK a))) (!Nat.beq b (a / 256 ^ (dK a - dK b)))
noncomputable def Mo (a b:Nm):Bool:=be (Nat.ble (dK a) (dK b)) (!Nat.beq a (b % 256 ^ dK a)) (!Nat.beq b (a % 256 ^ dK b))
noncomputable def HI (l r:List Pc):Bool:=(ob (zT l) fun a=>ob (zT r) fun b=>Mn a b) || ob (qi l) fun a=>ob (qi r) fun b=>Mo a b
noncomputable def sd (l:List Pc):Bool:=l.rec true fun p _ _=>p.rec (fun a=>(fun c=>(Nat.blt 0 c&&Nat.blt c 48) || Nat.blt 57 c) (a / 256 ^ (dK a - 1))) fun _=>false
noncomputable def KG (l:List Pc):List Pc->Option (List (IV×IV)):=l.rec (fun r=>r.rec (some []) fun _ _ _=>none) fun p l ih r=>r.rec none fun q r' _=>p.rec (fun a=>q.rec (fun b=>be (Nat.beq a b) (ih r') none) fun _=>none) fun i=>q.rec (fun _=>none) fun j=>be (sd l&&sd r') (op (ih r') fun x=>some ((i,j)::x)) none
noncomputable def leL (l:List Nat):List Nat->Bool:=l.rec (fun _=>true) fun a _ ih r=>r.rec false fun b r' _=>be (Nat.blt a b) true (be (Nat.blt b a) false (ih r'))
noncomputable def zU (n:Nm) (l:List Nm):List Nm:=l.rec [n] fun m l ih=>be (leL (dec n) (dec m)) (n::m::l) (m::ih)
noncomputable def oM (l:List Nm):List Nm:=l.foldr zU []
section
variable (P:Pg)
noncomputable def new (o:aj) (σ:St) (k:Nat->St->T):T:=k σ.n (σ.add o)
noncomputable def inL (l:List Nat) (i:Nat):Bool:=l.rec false fun a _ ih=>be (Nat.beq a i) true ih
noncomputable def upd (i:Nat) (o:aj) (σ:St) (k:St->T):T:=!inL σ.locks i&&k (σ.put i o)
noncomputable def evs (r:Rc) (ae:AE) (ke:KE) (l:List C):(List AV->St->T)->St->T:=l.rec (fun k σ=>k [] σ) fun x _ ih k σ=>x r ae (fun a σ=>ih (fun as σ=>k (a::as) σ) σ) ke σ
noncomputable def KH (r:Rc) (ae:AE) (ke:KE) (l:List (C×C)):(List (AV×AV)->St->T)->St->T:=l.rec (fun k σ=>k [] σ) fun x _ ih k σ=>x.1 r ae (fun a σ=>x.2 r ae (fun b σ=>ih (fun as σ=>k ((a,b)::as) σ) σ) ke σ) ke σ
noncomputable def store (n:Nm) (a:AV) (σ:St) (k:St->T):T:=k (σ.wl (put σ.loc n a))
noncomputable def uy (n:Nm) (a:AV) (ae:AE) (σ:St) (k:St->T):T:=ob (look ae.cells n) fun i=>ob (op (σ.t.get i) aj.cell?) fun _=>upd i (.cell (some a)) σ k
noncomputable def lP (σ:St) (a:AV):Option aj:=oe a.own? (op a.top? fun c=>P.objs.get c) fun i=>σ.t.get i
noncomputable def uz (σ:St) (a:AV):Option (List AV):=oe a.lit? (op (lP P σ a) fun o=>oe o.list? (oe o.tup? (op o.dict? fun es=>some (es.map fun e=>kv e.1)) some) some) fun n=>be ((dec n).all fun c=>Nat.blt 0 c&&Nat.blt c 128) (some ((dec n).map kv)) none
inductive It where
  | one (x:AV)
  | two (x y:AV)
noncomputable def oN (xs:List AV):Nat->List It:=xs.rec (fun _=>[]) fun x _ ih j=>.two (.int (.k j)) x::ih (j + 1)
noncomputable def D3 (σ:St) (ik:Ik) (tg:Tg) (a:AV):Option (List It):=
  (fun p=>Tg.rec (motive:=fun _=>Option (List It)) (fun _=>p) (fun _=>p) (fun l=>be (Nat.beq l.length 2) (op (lP P σ a) fun o=>ik.rec (op o.list? fun xs=>some (xs.map .one)) (op o.list? fun xs=>some (oN xs 0)) (op o.dict? fun es=>some (es.map fun e=>.two (kv e.1) e.2))) none) tg)
    (ik.rec (op (uz P σ a) fun l=>some (l.map .one)) none none)
noncomputable def KI (ae:AE) (t:Tn) (a:AV) (σ:St) (k:St->T):T:=t.rec (fun n=>store n a σ k) fun n=>uy n a ae σ k
noncomputable def wJ (ae:AE) (l:List Tn):List AV->St->(St->T)->T:=l.rec (fun _ σ k=>k σ) fun t _ ih as σ k=>as.rec false fun a as' _=>KI ae t a σ fun σ=>ih as' σ k
noncomputable def zV (ae:AE) (t:Tg) (a:AV) (σ:St) (k:St->T):T:=t.rec (fun n=>store n a σ k) (fun n=>uy n a ae σ k) fun l=>!ae.h&&ob (op (lP P σ a) aj.tup?) fun xs=>Nat.beq l.length xs.length&&wJ ae l xs σ k
noncomputable def D4 (a b:AV):Bool:=oe a.top? (ob a.ty? fun t=>ob b.ty? fun u=>Nat.beq t.ctorIdx u.ctorIdx) fun x=>ob b.top? fun y=>Nat.beq x y
noncomputable def zW (l:List AV) (c:AV):Bool:=l.any (D4 c)
noncomputable def Mq (o:aj):Option Nat:=oe o.list? (oe o.dict? none fun _=>some 3) fun _=>some 2
noncomputable def Ih (σ:St) (v:AV):Option Nat:=v.rec (some 5) (fun _=>some 4) (fun _=>some 0) (fun _=>some 1) (fun _=>none) (fun i=>op (σ.t.get i) Mq) (fun _=>none) (fun _=>none) (fun _=>none) (fun _ _=>none) fun _=>none
noncomputable def zX (σ:St) (v c:AV):Option Bool:=
  oe c.top? (op c.ty? fun t=>op (Ih σ v) fun k=>be (Nat.ble k 4&&Nat.ble t.ctorIdx 3) (some (Nat.beq k t.ctorIdx || (Nat.beq k 4&&Nat.beq t.ctorIdx 0))) none) fun a=>op (P.clss.get a) fun ca=>be ca.exc none (oe (Ih σ v)
    (op (op v.own? fun i=>σ.inst? i) fun d=>op (P.clss.get d.1) fun cd=>op (σ.dict? d.2) fun _=>be cd.exc none (some (zW cd.mro c))) fun _=>some false)
noncomputable def ent (f:List Fc) (n:Nat):Nat->Nat->Int->Bool:=n.rec (fun x y c=>be (Nat.beq x y) (iLe 0 c) false) fun _ ih x y c=>be (Nat.beq x y) (iLe 0 c) (f.rec false fun g _ r=>be (Nat.beq g.x x) (be (ih g.y y (c - g.c)) true r) r)
noncomputable def leF (σ:St) (i j:IV) (d:Int):Bool:=be (ob (σ.f.hi.get i.x) fun a=>ob (σ.f.lo.get j.x) fun b=>iLe (a + i.c) (b + j.c + d)) true (be (Nat.beq j.x 0) false (ent σ.f.d 3 i.x j.x (j.c - i.c + d)))
noncomputable def qj (σ:St) (i j:IV) (d:Int):St:=σ.wf (be (Nat.beq j.x 0) ⟨σ.f.lo,Tr.set (j.c - i.c + d) σ.f.hi i.x,σ.f.d⟩ (be (Nat.beq i.x 0) ⟨Tr.set (i.c - j.c - d) σ.f.lo j.x,σ.f.hi,σ.f.d⟩ ⟨σ.f.lo,σ.f.hi,⟨i.x,j.x,j.c - i.c + d⟩::σ.f.d⟩))
noncomputable def addN (σ:St) (i j:IV):St:=be (leF σ i j 0) σ (qj σ i j 0)
noncomputable def ltI (i j:IV) (σ:St) (k:Bool->St->T):T:=be (Nat.beq i.x j.x) (k (iLt i.c j.c) σ) (be (leF σ i j (-1)) (k true σ) (be (leF σ j i 0) (k false σ) (k true (qj σ i j (-1))&&k false (qj σ j i 0))))
noncomputable def eqI (i j:IV) (σ:St) (k:Bool->St->T):T:=be (Nat.beq i.x j.x) (k (iEq i.c j.c) σ) (be (leF σ i j (-1) || leF σ j i (-1)) (k false σ) (k true (addN (addN σ i j) j i)&&((leF σ i j 0 || k false (qj σ j i (-1)))&&(leF σ j i 0 || k false (qj σ i j (-1))))))
noncomputable def zY (i:IV) (k:Int->St->T) (n:Nat):Int->St->T:=n.rec (fun _ _=>false) fun _ ih v σ=>be (leF σ i (.k v) 0) (k v σ) (be (leF σ (.k v) i (-1)) (ih (v + 1) σ) (k v (qj σ i (.k v) 0)&&ih (v + 1) (qj σ (.k v) i (-1))))
noncomputable def D5 (i:IV) (σ:St) (k:Int->St->T):T:=be (Nat.beq i.x 0) (k i.c σ) (leF σ (.k 0) i 0&&zY i k 9 0 σ)
noncomputable def zZ (l:List (IV×IV)) (k:Bool->St->T):St->T:=l.rec (fun σ=>k true σ) fun p _ ih σ=>eqI p.1 p.2 σ fun b σ=>be b (ih σ) (k false σ)
noncomputable def eqS (x y:SS) (σ:St) (k:Bool->St->T):T:=oe (op x.lit? fun a=>op y.lit? fun b=>some (Nat.beq a b)) (oe (KG x.pcs y.pcs) (HI x.pcs y.pcs&&k false σ) fun l=>zZ l k σ) fun q=>k q σ
noncomputable abbrev EqF:=AV->AV->St->(Bool->St->T)->T
noncomputable def Ii (e:EqF) (k:Bool->St->T) (xs:List AV):List AV->St->T:=xs.rec (fun _ σ=>k true σ) fun x _ ih ys σ=>ys.rec false fun y ys' _=>e x y σ fun q σ=>be q (ih ys' σ) (k false σ)
noncomputable def Ij (e:EqF) (k:Bool->St->T) (fs es:List (Nm×AV)):St->T:=es.rec (fun σ=>k true σ) fun p _ ih σ=>oe (look fs p.1) (k false σ) fun b=>e p.2 b σ fun q σ=>be q (ih σ) (k false σ)
noncomputable def Il (e:EqF) (es fs:List (Nm×AV)) (σ:St) (k:Bool->St->T):T:=be (Nat.beq es.length fs.length) (Ij e k fs es σ) (k false σ)
noncomputable def eqO (e:EqF) (i j:Nat) (σ:St) (k:Bool->St->T):T:=ob (σ.t.get i) fun o=>ob (σ.t.get j) fun p=>oe o.list? (ob o.dict? fun es=>ob p.dict? fun fs=>Il e es fs σ k) fun xs=>ob p.list? fun ys=>be (Nat.beq xs.length ys.length) (Ii e k xs ys σ) (k false σ)
noncomputable def eqD (f:Nat):EqF:=f.rec (fun _ _ _ _=>false) fun _ ih a b σ k=>oe a.int? (oe a.str? (ob a.own? fun i=>ob b.own? fun j=>be (Nat.beq i j) (k true σ) (eqO ih i j σ k)) fun x=>ob b.str? fun y=>eqS x y σ k) fun i=>ob b.int? fun j=>eqI i j σ k
noncomputable def eqP (a b:AV) (z:T) (σ:St) (k:Bool->St->T):T:=oe a.int? (oe a.str? (oe a.bytes? z fun x=>ob b.bytes? fun y=>eqS x y σ k) fun x=>ob b.str? fun y=>eqS x y σ k) fun i=>ob b.int? fun j=>eqI i j σ k
noncomputable def eqV (a b:AV) (σ:St) (k:Bool->St->T):T:=eqP a b (ob a.own? fun i=>ob b.own? fun j=>!Nat.beq i j&&eqO (eqD 6) i j σ k) σ k
noncomputable def wK (xs ys:List AV) (j:Nat):Bool:=ob (op (qh xs j) g7) fun a=>ob (op (qh ys j) g7) fun b=>Nat.beq a b
noncomputable def oO (a:AV):Bool:=ob a.lit? fun _=>true
noncomputable def neV (a b:AV) (σ:St) (k:Bool->St->T):T:=eqP a b (ob a.own? fun i=>ob (σ.t.get i) fun o=>oe b.own? (ob b.str? fun _=>ob o.tup? fun _=>k true σ) fun j=>!Nat.beq i j&&ob (σ.t.get j) fun p=>oe o.list? (ob o.dict? fun es=>ob p.dict? fun fs=>Il (eqD 6) es fs σ fun q σ=>k (!q) σ)
  fun xs=>ob p.list? fun ys=>be (Nat.beq xs.length ys.length) (xs.all oO&&(ys.all oO&&k (!(List.range xs.length).all (wK xs ys)) σ)) (k true σ)) σ fun q σ=>k (!q) σ
noncomputable def Im {α:Type} (xs:List α):Option Bool:=be (Nat.ble xs.length 10000) (some (!xs.isEmpty)) none
noncomputable def tvO (σ:St) (o:aj):Option Bool:=oe o.list? (oe o.dict? (op o.inst? fun c=>op (P.clss.get c.1) fun cl=>op (σ.dict? c.2) fun _=>be cl.tru (some true) none) Im) Im
noncomputable def eB (v:AV) (σ:St) (k:Bool->St->T):T:=v.rec (k false σ) (fun b=>k b σ) (fun i=>eqI i (.k 0) σ fun b σ=>k (!b) σ) (fun _=>false) (fun _=>false)
  (fun i=>ob (op (σ.t.get i) (tvO P σ)) fun b=>k b σ)
  (fun _=>false) (fun _=>false) (fun _=>false) (fun i j=>eqI i j σ k) fun _=>false
noncomputable def lm (c:Nat) (m:Nm):Option Fd:=op (P.clss.get c) fun c=>c.attrs.get m
noncomputable def HJ (a:AV):Bool:=a.rec false (fun _=>false) (fun _=>false) (fun _=>false) (fun _=>false) (fun _=>false) (fun _=>false) (fun _=>false) (fun _=>false) (fun _ _=>false) fun _=>true
noncomputable def wL (k:KV):KV:=fun a σ=>!HJ a&&k a σ
noncomputable def D6 (r:Rc) (v:AV) (m:Nm) (k:KV) (ke:KE) (σ:St):T:=oe v.own? (ob v.top? fun c=>ob (op (lm P c m) Fd.val?) fun a=>k a σ) fun i=>ob (σ.inst? i) fun cd=>ob (σ.dict? cd.2) fun es=>ob (lm P cd.1 m) fun fd=>fd.rec (fun _=>false) (fun f=>r (.top f) [v] (wL k) (fun _ _=>false) σ) (fun _=>false) (fun a=>oe (look es m) (k a σ) fun _=>false) (ob (look es m) fun a=>wL k a σ)
noncomputable def KJ (v:AV) (m:Nm) (a:AV) (σ:St) (k:St->T):T:=ob v.own? fun i=>ob (σ.inst? i) fun cd=>ob (σ.dict? cd.2) fun es=>ob (lm P cd.1 m) fun fd=>fd.isDat&&(Nat.ble es.length 900&&upd cd.2 (.dict (put es m a)) σ k)
noncomputable def idx (n:Nat) (i:Int):Option Nat:=i.rec (fun j=>be (Nat.blt j n&&Nat.ble n 10000) (some j) none) fun _=>none
noncomputable def uA (xs:List AV) (i:AV) (k:KV) (σ:St):T:=ob i.int? fun i=>D5 i σ fun j σ=>ob (idx xs.length j) fun j=>ob (qh xs j) fun x=>k x σ
noncomputable def Io (o i:AV) (k:KV) (σ:St):T:=ob (lP P σ o) fun x=>oe x.dict? (oe x.bdict? (oe x.list? (ob x.tup? fun xs=>uA xs i k σ) fun xs=>uA xs i k σ) fun es=>ob (r9 i) fun q=>ob (look es q) fun x=>k x σ) fun es=>ob (g7 i) fun q=>ob (look es q) fun x=>k x σ
noncomputable def Ip (o i a:AV) (σ:St) (k:St->T):T:=ob o.own? fun b=>ob (σ.t.get b) fun x=>oe x.dict? (oe x.bdict? (ob x.list? fun xs=>ob i.int? fun j=>D5 j σ fun j σ=>ob (idx xs.length j) fun j=>upd b (.list (xs.set j a)) σ k) fun es=>ob (r9 i) fun q=>Nat.ble es.length 900&&upd b (.bdict (put es q a)) σ k) fun es=>ob (g7 i) fun q=>Nat.ble es.length 900&&upd b (.dict (put es q a)) σ k
structure Df where
  x:Nat
  md:Bool
  m:Int
  y:Nat
variable (D:List Df)
noncomputable def z6 (x:Nat) (md:Bool) (m:Int) (l:List Df):Option Nat:=l.rec none fun d _ ih=>be (Nat.beq d.x x&&(be d.md md (!md)&&iEq d.m m)) (some d.y) ih
noncomputable def Mr (b:IV):Bool:=Nat.beq b.x 0&&(iLe 1 b.c&&iLe b.c 1000)
noncomputable def byD (md:Bool) (f:Int->Int->Int) (a b:IV) (σ:St) (k:KV):T:=Mr b&&be (Nat.beq a.x 0) (k (.int (.k (f a.c b.c))) σ) (iEq a.c 0&&ob (z6 a.x md b.c D) fun y=>k (.int ⟨y,0⟩) σ)
noncomputable def wM (o:Bop) (a b:IV) (σ:St) (k:KV):T:=o.rec (be (Nat.beq b.x 0) (k (.int ⟨a.x,a.c + b.c⟩) σ) (be (Nat.beq a.x 0) (k (.int ⟨b.x,a.c + b.c⟩) σ) (D5 b σ fun v σ=>k (.int ⟨a.x,a.c + v⟩) σ))) (Nat.beq b.x 0&&k (.int ⟨a.x,a.c - b.c⟩) σ) (byD D true Int.fmod a b σ k) (byD D false Int.fdiv a b σ k)
noncomputable def hW (x:SS) (σ:St) (k:KV):T:=jr x&&k (.str x) σ
noncomputable def bin (o:Bop) (a b:AV) (k:KV) (σ:St):T:=oe a.int? (Nat.beq o.ctorIdx 0&&oe a.str? (ob a.bytes? fun x=>ob b.bytes? fun y=>jr (zS x y)&&k (.bytes (zS x y)) σ) fun x=>ob b.str? fun y=>hW (zS x y) σ k) fun i=>ob b.int? fun j=>wM D o i j σ k
noncomputable def tb (a:AV):Option ((Bool->St->T)->St->T):=a.rec none (fun q=>some fun k σ=>k q σ) (fun _=>none) (fun _=>none) (fun _=>none) (fun _=>none) (fun _=>none) (fun _=>none) (fun _=>none) (fun i j=>some fun k σ=>eqI i j σ k) fun _=>none
noncomputable def jO (a:AV):Option Bool:=a.rec (some true) (fun _=>some false) (fun _=>some false) (fun _=>some false) (fun _=>none) (fun _=>some false) (fun _=>some false) (fun _=>none) (fun _=>none) (fun _ _=>some false) fun _=>none
noncomputable def wN (a:AV):Bool:=a.rec true (fun _=>false) (fun _=>true) (fun _=>true) (fun _=>false) (fun _=>true) (fun _=>false) (fun _=>false) (fun _=>false) (fun _ _=>false) fun _=>false
noncomputable def isV (a b:AV) (σ:St) (k:Bool->St->T):T:=oe (tb b) (ob (jO b) fun z=>z&&ob (jO a) fun q=>k q σ) fun g=>oe (tb a) (wN a&&g (fun _ σ=>k false σ) σ) fun f=>f (fun p σ=>g (fun q σ=>k (be p q (!q)) σ) σ) σ
noncomputable def inG {γ:Type} (p:AV->Option γ) (e:γ->St->(Bool->St->T)->T) (k:Bool->St->T) (xs:List AV):St->T:=xs.rec (fun σ=>k false σ) fun x l ih σ=>ob (p x) fun y=>(l.all fun z=>ob (p z) fun _=>true)&&e y σ fun q σ=>be q (k true σ) (ih σ)
noncomputable def z7 (a:AV) (xs:List AV) (σ:St) (k:Bool->St->T):T:=oe a.int? (ob a.str? fun x=>inG AV.str? (fun y=>eqS y x) k xs σ) fun i=>inG AV.int? (fun j=>eqI j i) k xs σ
noncomputable def Iq (a b:AV) (σ:St) (k:Bool->St->T):T:=ob (lP P σ b) fun o=>oe o.dict? (oe o.list? (ob o.tup? fun xs=>z7 a xs σ k) fun xs=>z7 a xs σ k) fun es=>ob (g7 a) fun q=>k (look es q).isSome σ
noncomputable def lt2 (a b:AV) (σ:St) (k:Bool->St->T):T:=ob a.int? fun i=>ob b.int? fun j=>ltI i j σ k
noncomputable def cmp (o:Cop) (a b:AV) (σ:St) (k:Bool->St->T):T:=(fun n=>o.rec (motive:=fun _=>T) (eqV a b σ k) (neV a b σ k) (lt2 a b σ k) (lt2 b a σ n) (lt2 b a σ k) (lt2 a b σ n) (isV a b σ k) (isV a b σ n) (Iq P a b σ k) (Iq P a b σ n)) fun q σ=>k (!q) σ
noncomputable def KL (o:Cop) (a b:AV) (k:KV) (σ:St):T:=(fun c=>be (Nat.beq o.ctorIdx 0) (oe a.int? c fun i=>oe b.int? c fun j=>be (Nat.beq i.x j.x) (k (.bool (iEq i.c j.c)) σ) (k (.eq i j) σ)) c) (cmp P o a b σ fun q σ=>k (.bool q) σ)
noncomputable def jP {α β:Type} (f:α->Option β) (l:List α):Option (List β):=l.rec (some []) fun x _ ih=>op (f x) fun y=>op ih fun r=>some (y::r)
noncomputable def z8 (l:List AV):Option (List SS):=jP AV.str? l
noncomputable def oP (l:List AV):Option (List Nm):=jP g7 l
noncomputable def gM (sep:SS) (l:List SS):List Pc:=l.rec [] fun x r ih=>x.pcs++r.rec [] fun _ _ _=>sep.pcs++ih
noncomputable def z9 (σ:St) (a:AV):Bool:=ob a.own? fun j=>ob (op (σ.t.get j) aj.tup?) fun xs=>ob (qg xs) fun p=>oO p.1&&oO p.2
noncomputable def kK (n:Nm):Bool:=(dec n).all fun c=>Nat.blt c 128
noncomputable def Aa (x:SS):Bool:=x.pcs.all fun p=>p.rec kK fun _=>true
noncomputable def bnd (n:IV) (c:Int) (σ:St):Bool:=leF σ ⟨n.x,n.c + c⟩ (.k 1000000) 0
noncomputable def uB (i:Nat) (md:Md) (args:List AV) (k:KV) (σ:St):T:=Nat.beq md.ctorIdx 1&&ob (f6 args) fun a=>ob (σ.t.get i) fun o=>oe o.list? (ob o.plist? fun p=>bnd p.1 p.2.length σ&&upd i (.plist p.1 (p.2++[a])) σ fun σ=>k .none σ) fun xs=>Nat.ble xs.length 900&&upd i (.list (xs++[a])) σ fun σ=>k .none σ
noncomputable def Ir (i:Nat) (a:AV) (dflt:Option AV) (k:KV) (ke:KE) (σ:St):T:=ob (σ.dict? i) fun es=>ob (g7 a) fun q=>oe (look es q) (oe dflt (ke (.ty .KeyError) σ) fun b=>k b σ) fun x=>Nat.ble es.length 900&&upd i (.dict (drop es q)) σ fun σ=>k x σ
noncomputable def getD (i:Nat) (a b:AV) (k:KV) (σ:St):T:=ob (σ.dict? i) fun es=>ob (g7 a) fun q=>k (oe (look es q) b fun x=>x) σ
noncomputable def updD (i j:Nat) (k:KV) (σ:St):T:=ob (σ.dict? i) fun es=>ob (σ.dict? j) fun fs=>(!Nat.beq i j&&(Nat.ble es.length 900&&Nat.ble fs.length 900))&&upd i (.dict (fs.foldl (fun es f=>put es f.1 f.2) es)) σ fun σ=>k .none σ
noncomputable def uC (i:Nat) (md:Md) (args:List AV) (k:KV) (ke:KE) (σ:St):T:=be (Nat.beq md.ctorIdx 2) (oe (f6 args) (ob (qg args) fun p=>Ir i p.1 (some p.2) k ke σ) fun a=>Ir i a none k ke σ)
  (be (Nat.beq md.ctorIdx 3) (oe (f6 args) (ob (qg args) fun p=>getD i p.1 p.2 k σ) fun a=>getD i a .none k σ) (Nat.beq md.ctorIdx 7&&ob (op (f6 args) AV.own?) fun j=>updD i j k σ))
noncomputable def uD (i:Nat) (md:Md) (args:List AV) (k:KV) (σ:St):T:=Nat.beq md.ctorIdx 13&&ob (op (f6 args) AV.own?) fun j=>ob (op (σ.t.get i) aj.set?) fun xs=>(Nat.ble xs.length 4&&(z9 σ (.own j)&&xs.all (z9 σ)))&&upd i (.set (.own j::xs)) σ fun σ=>k .none σ
noncomputable def uE (x:SS) (md:Md) (args:List AV) (k:KV) (σ:St):T:=oe (qg args)
  (ob (f6 args) fun a=>be (Nat.beq md.ctorIdx 8) ((ob (g7 a) fun s=>ob x.lit? fun n=>Nat.beq s 46&&Nat.beq n 0x312e302e3331)&&new (.list [kv 49,kv 48,kv 13105]) σ fun i σ=>k (.own i) σ)
    (be (Nat.beq md.ctorIdx 10) ((ob (g7 a) fun n=>Nat.beq n 504464026936&&(Aa x&&jr x))&&k (.bytes x) σ)
      (Nat.beq md.ctorIdx 12&&ob (op (lP P σ a) aj.list?) fun xs=>ob (z8 xs) fun l=>jr x&&hW (mkS (gM x l)) σ k)))
  fun p=>Nat.beq md.ctorIdx 11&&ob (g7 p.1) fun a=>ob (g7 p.2) fun _=>ob x.lit? fun n=>ob (f6 (dec a)) fun c=>!(dec n).any (Nat.beq c)&&k (kv n) σ
noncomputable def Iu (n:Nat) (k:KV) (σ:St):T:=Nat.ble n 1000&&k (.int (.k n)) σ
noncomputable def wO (b:Bi) (args:List AV) (k:KV) (σ:St):T:=b.rec
  (ob (op (f6 args) AV.own?) fun i=>ob (σ.t.get i) fun o=>oe o.list? (oe o.dict? (oe o.plist? (ob o.set? fun xs=>ob (op (f6 xs) g7) fun _=>k (.int (.k 1)) σ) fun p=>bnd p.1 p.2.length σ&&k (.int ⟨p.1.x,p.1.c + p.2.length⟩) σ) fun xs=>Iu xs.length k σ) fun xs=>Iu xs.length k σ)
  (ob (qg args) fun p=>ob (zX P σ p.1 p.2) fun q=>k (.bool q) σ)
  (ob (f6 args) fun a=>ob (uz P σ a) fun xs=>ob (oP xs) fun l=>Nat.blt l.length 64&&new (.list ((oM l).map kv)) σ fun i σ=>k (.own i) σ) false
noncomputable def wP (t:Ty) (args:List AV) (k:KV) (σ:St):T:=be (Nat.beq t.ctorIdx 3) (ob (op (op (f6 args) AV.own?) fun i=>σ.dict? i) fun es=>Nat.ble es.length 900&&new (.dict es) σ fun i σ=>k (.own i) σ)
  (be (Nat.beq t.ctorIdx 4) (oe (hd? args) (new (.set []) σ fun i σ=>k (.own i) σ) fun _=>ob (op (op (f6 args) AV.own?) fun i=>σ.list? i) fun xs=>ob (op (f6 xs) g7) fun n=>new (.set [kv n]) σ fun i σ=>k (.own i) σ)
    (Nat.beq t.ctorIdx 1&&ob (op (f6 args) AV.int?) fun i=>hW (mkS [.int i]) σ k))
noncomputable def Ab (f:Fn) (args:List AV):Option (List (Nm×AV)):=be (Nat.ble args.length f.params.length&&Nat.ble f.params.length (args.length + f.dflt.length)) (some (f.params.zip (args++f.dflt.drop (f.dflt.length - (f.params.length - args.length))))) none
noncomputable def jQ (bs:List (Nm×AV)) (k:List (Nm×Nat)->St->T) (l:List Nm):List (Nm×Nat)->St->T:=l.rec (fun cl σ=>k cl σ) fun n _ ih cl σ=>new (.cell (look bs n)) σ fun i σ=>ih ((n,i)::cl) σ
noncomputable def stmts (r:Rc) (ae:AE) (ke:KE) (l:List CS):KF->St->T:=l.rec (fun k σ=>k .next σ) fun s _ ih k σ=>s r ae (fun f σ=>f.rec (ih k σ) (k .cont σ) fun a=>k (.ret a) σ) ke σ
noncomputable def wQ (r:Rc) (f:Fn) (cl:List (Nm×Nat)) (args:List AV) (k:KV) (ke:KE) (σ:St):T:=ob (Ab f args) fun bs=>(fun (w:St->St)=>jQ bs (fun cl τ=>stmts r ⟨cl,false,false⟩ (fun c τ=>ke c (w τ)) f.body (fun fl τ=>fl.rec (k .none (w τ)) false fun a=>k a (w τ)) τ) f.cells cl (σ.wl (f.cells.foldl (fun l c=>l.filter fun p=>!Nat.beq p.1 c) bs))) fun τ=>(τ.wl σ.loc).wk σ.locks
noncomputable def D7 (W:Pf) (r:Rc) (a:Nat) (args:List AV) (k:KV) (ke:KE) (σ:St):T:=oe (W.fns.get a) (ob (P.clss.get a) fun c=>!c.exc&&new (.dict []) σ fun d σ=>new (.inst a d) σ fun i σ=>r (.top c.init) (.own i::args) (fun a σ=>ob (jO a) fun z=>z&&k (.own i) σ) ke σ) fun fn=>wQ r fn [] args k ke σ
noncomputable def HK (W:Pf) (r:Rc) (f:AV) (args:List AV) (k:KV) (ke:KE) (σ:St):T:=oe f.top? (ob (op f.own? fun i=>op (σ.t.get i) aj.fn?) fun p=>ob (W.lams.get p.1) fun fn=>wQ r fn p.2 args k ke σ) fun a=>D7 P W r a args k ke σ
noncomputable def closure (ae:AE) (l:List Nm):Option (List (Nm×Nat)):=l.rec (some []) fun n _ ih=>op (look ae.cells n) fun i=>op ih fun r=>some ((n,i)::r)
noncomputable def HL (ae:AE) (tg:Tg) (x:It) (σ:St) (k:St->T):T:=x.rec (fun a=>zV P ae tg a σ k) fun a b=>tg.rec (fun _=>false) (fun _=>false) fun l=>wJ ae l [a,b] σ k
noncomputable def turns (ae:AE) (tg:Tg) (body:St->(Fl->St->T)->T) (k:Fl->St->T) (l:List It):St->T:=l.rec (fun σ=>k .next σ) fun x _ ih σ=>HL P ae tg x σ fun σ=>body σ fun f σ=>f.rec (ih σ) (ih σ) fun a=>k (.ret a) σ
noncomputable def Ac (r:Rc) (ae:AE) (ke:KE) (l:List C):St->(Bool->St->T)->T:=l.rec (fun σ k=>k true σ) fun c _ ih σ k=>c r ae (fun a σ=>eB P a σ fun q σ=>be q (ih σ k) (k false σ)) ke σ
noncomputable def kL (a:AV):List Nat:=oe a.own? [] fun i=>[i]
noncomputable def lQ:KE:=fun _ _=>false
noncomputable def comp (r:Rc) (ae:AE) (ke:KE) (tg:Tg) (ik:Ik) (it:C) (ifs:List C) (fr:List Nm) (acc:aj) (emit:AE->Nat->KE->St->(St->T)->T) (k:KV) (σ:St):T:=!ae.h&&ob (closure ae fr) fun cl=>it r ae (fun src σ=>ob (D3 P σ ik tg src) fun xs=>Nat.ble xs.length 900&&new acc σ fun out τ=>(fun ae'=>turns P ae' tg (fun σ k=>Ac P r ae' lQ ifs σ fun q σ=>be q (emit ae' out lQ σ (k .next)) (k .next σ)) (fun _ υ=>k (.own out) ((υ.wk σ.locks).wl σ.loc)) xs ((τ.wk (kL src++σ.locks)).wl [])) ⟨cl,false,true⟩) ke σ
noncomputable def Ad (a:AV):Option (List Pc):=oe a.str? (op a.int? fun i=>some [.int i]) fun x=>some x.pcs
noncomputable def jR (a:AV) (q:Bool):AV:=a.rec .none .bool .int .str .bytes .own .top .ty .blt (fun _ _=>.bool q) .any
noncomputable def wR (r:Rc) (ae:AE) (ke:KE) (stop:Bool) (k:KV) (l:List C):St->T:=l.rec (fun σ=>k .none σ) fun x l ih σ=>x r ae (fun a σ=>l.rec (k a σ) fun _ _ _=>eB P a σ fun q σ=>be (be q stop (!stop)) (k (jR a q) σ) (ih σ)) ke σ
noncomputable def Ae (key:AV->Option Nm) (l:List (AV×AV)):List (Nm×AV)->Option (List (Nm×AV)):=l.rec (fun es=>some es) fun p _ ih es=>op (key p.1) fun q=>ih (put es q p.2)
noncomputable def wS (σ:St) (f:AV):Bool:=oe f.top? (ob (op f.own? fun i=>op (σ.t.get i) aj.fn?) fun _=>true) fun a=>oe (P.defs.get a) (ob (P.clss.get a) fun c=>!c.exc) fun _=>true
noncomputable def wT (r:Rc) (f:AV) (as:List AV) (k:KV) (ke:KE) (σ:St):T:=oe f.ty? (oe f.blt? (wS P σ f&&r f as k ke σ) fun b=>wO P b as k σ) fun t=>wP t as k σ
noncomputable def Af (k:List AV->St->T) (l:List (Nm×AV)):List AV->St->T:=l.rec (fun acc σ=>k acc.reverse σ) fun e _ ih acc σ=>new (.tup [kv e.1,e.2]) σ fun i σ=>ih (.own i::acc) σ
noncomputable def bh:C:=fun _ _ k _ σ=>k .none σ
noncomputable def cf (q:Bool):C:=fun _ _ k _ σ=>k (.bool q) σ
noncomputable def ay (i:Int):C:=fun _ _ k _ σ=>k (.int (.k i)) σ
noncomputable def ai (n:Nm):C:=fun _ _ k _ σ=>k (kv n) σ
noncomputable def d9 (n:Nm):C:=fun _ _ k _ σ=>k (.bytes (.lit n)) σ
noncomputable def ac (n:Nm):C:=fun _ _ k _ σ=>ob (look σ.loc n) fun a=>k a σ
noncomputable def aG (n:Nm):C:=fun _ ae k _ σ=>ob (look ae.cells n) fun i=>ob (op (σ.t.get i) aj.cell?) fun x=>ob x fun a=>k a σ
noncomputable def aA (a:AV):C:=fun _ _ k _ σ=>k a σ
noncomputable def hX (l:List C):C:=fun r ae k ke σ=>wR P r ae ke false k l σ
noncomputable def eOr (l:List C):C:=fun r ae k ke σ=>wR P r ae ke true k l σ
noncomputable def f7 (x:C):C:=fun r ae k ke σ=>x r ae (fun a σ=>eB P a σ fun q σ=>k (.bool (!q)) σ) ke σ
noncomputable def iX (t b o:C):C:=fun r ae k ke σ=>t r ae (fun a σ=>eB P a σ fun q σ=>be q (b r ae k ke σ) (o r ae k ke σ)) ke σ
noncomputable def bA (o:Bop) (x y:C):C:=fun r ae k ke σ=>x r ae (fun a σ=>y r ae (fun b σ=>bin D o a b k σ) ke σ) ke σ
noncomputable def aF (o:Cop) (x y:C):C:=fun r ae k ke σ=>x r ae (fun a σ=>y r ae (fun b σ=>KL P o a b k σ) ke σ) ke σ
noncomputable def Ag (key:AV->Option Nm) (mk:List (Nm×AV)->aj) (l:List (C×C)):C:=fun r ae k ke σ=>KH r ae ke l (fun ps σ=>ob (Ae key ps []) fun es=>new (mk es) σ fun i σ=>k (.own i) σ) σ
noncomputable def aV (l:List (C×C)):C:=Ag g7 .dict l
noncomputable def qk (l:List (C×C)):C:=Ag r9 .bdict l
noncomputable def c9 (l:List C):C:=fun r ae k ke σ=>evs r ae ke l (fun xs σ=>new (.list xs) σ fun i σ=>k (.own i) σ) σ
noncomputable def js (l:List C):C:=fun r ae k ke σ=>evs r ae ke l (fun xs σ=>new (.tup xs) σ fun i σ=>k (.own i) σ) σ
noncomputable def okI (i:IV) (σ:St):Bool:=leF σ (.k 0) i 0&&ll (.int i)
noncomputable def KM (n:Nm) (xs:List AV) (k:KV) (σ:St):T:=ob (hd? xs) fun a=>ob a.str? fun x=>jr x&&oe (qg xs)
  (ob (qg xs.tail) fun p=>ob p.1.str? fun y=>ob p.2.int? fun i=>(Nat.beq n 1995888931218245985690203249244025848687563671085647514188834173263146002319704281819011512552707108735855434489185822088459659648204107355376231033835064900255566485970295147816061&&(jr y&&okI i σ))&&hW (mkS (.lit 581485144947527027669538::(x.pcs++.lit 12785412691923937890408015334777184575363438484798075::(y.pcs++[.lit 243168528965340591381944762623269021763769106824327523385003832487923875727030539395642,.int i,.lit 125])))) σ k)
  fun p=>ob p.2.int? fun i=>(Nat.beq n 761487669299114765124245260717148644078609533&&okI i σ)&&hW (mkS (.lit 34::(x.pcs++[.lit 2711856516674924341862538814010,.int i,.lit 125]))) σ k
noncomputable def D8 (n:Nm) (l:List C):C:=fun r ae k ke σ=>js l r ae (fun a σ=>ob a.own? fun i=>ob (op (σ.t.get i) aj.tup?) fun xs=>KM n xs k σ) ke σ
noncomputable def gn (elt:C) (tg:Tg) (ik:Ik) (it:C) (ifs:List C) (fr:List Nm):C:=fun r ae k ke σ=>comp P r ae ke tg ik it ifs fr (.list []) (fun ae' out ke σ k=>elt r ae' (fun a σ=>ob (σ.list? out) fun xs=>Nat.ble xs.length 900&&upd out (.list (xs++[a])) σ k) ke σ) k σ
noncomputable def ea (kx vx:C) (tg:Tg) (ik:Ik) (it:C) (ifs:List C) (fr:List Nm):C:=fun r ae k ke σ=>comp P r ae ke tg ik it ifs fr (.dict []) (fun ae' out ke σ k=>kx r ae' (fun a σ=>vx r ae' (fun b σ=>ob (σ.dict? out) fun es=>ob (g7 a) fun q=>Nat.ble es.length 900&&upd out (.dict (put es q b)) σ k) ke σ) ke σ) k σ
noncomputable def eV (n:Nm):Bool:=!(dec n).isEmpty&&(dec n).all fun c=>Nat.ble 48 c&&Nat.ble c 57
noncomputable def hc (ae:AE):Bool:=!ae.h&&!ae.c
noncomputable def ql (it:C):C:=fun r ae k ke σ=>hc ae&&it r ae (fun src σ=>ob (op src.own? fun i=>σ.list? i) fun xs=>ob (oP xs) fun l=>(Nat.ble l.length 900&&l.all kK)&&k (.bool (l.all eV)) σ) ke σ
noncomputable def aC (f:C) (args:List C):C:=fun r ae k ke σ=>!ae.h&&f r ae (fun f σ=>evs r ae ke args (fun as σ=>wT P r f as k ke σ) σ) ke σ
noncomputable def fm (m:Md):Nat:=m.rec 0 1 2 2 0 0 0 2 4 0 4 4 4 3
noncomputable def ak (o:C) (m:Nm) (md:Md) (args:List C):C:=fun r ae k ke σ=>!ae.h&&o r ae (fun v σ=>oe v.own?
  (oe v.top? (ob v.str? fun x=>Nat.beq (fm md) 4&&evs r ae ke args (fun as σ=>uE P x md as k σ) σ) fun c=>ob (op (lm P c m) Fd.cm?) fun f=>evs r ae ke args (fun as σ=>r (.top f) (.top c::as) k ke σ) σ)
  fun i=>ob (σ.t.get i) fun o=>oe o.inst?
    (oe o.dict? (oe o.set? (ob (oe o.list? (op o.plist? fun _=>some ()) fun _=>some ()) fun _=>Nat.beq (fm md) 1&&evs r ae ke args (fun as σ=>uB i md as k σ) σ) fun _=>Nat.beq (fm md) 3&&evs r ae ke args (fun as σ=>uD i md as k σ) σ) fun _=>Nat.beq (fm md) 2&&evs r ae ke args (fun as σ=>uC i md as k ke σ) σ)
    fun cd=>ob (σ.dict? cd.2) fun es=>ob (lm P cd.1 m) fun fd=>fd.rec (fun f=>oe (look es m) (evs r ae ke args (fun as σ=>r (.top f) (v::as) k ke σ) σ) fun _=>false) (fun _=>false) (fun _=>false) (fun _=>false)
      (ob (look es m) fun f=>wL (fun f σ=>evs r ae ke args (fun as σ=>wT P r f as k ke σ) σ) f σ)) ke σ
noncomputable def jt (c f:Nat) (args:List C):C:=fun r ae k ke σ=>hc ae&&ob (op (look σ.loc 0x73656c66) AV.own?) fun i=>ob (σ.inst? i) fun d=>Nat.beq d.1 c&&ob (σ.dict? d.2) fun _=>evs r ae ke args (fun as σ=>r (.top f) (.own i::as) k ke σ) σ
noncomputable def af (o:C) (m:Nm):C:=fun r ae k ke σ=>o r ae (fun v σ=>D6 P r v m k ke σ) ke σ
noncomputable def aH (o i:C):C:=fun r ae k ke σ=>o r ae (fun v σ=>i r ae (fun j σ=>Io P v j k σ) ke σ) ke σ
noncomputable def se (p:Nat) (free:List Nm):C:=fun _ ae k _ σ=>ob (closure ae free) fun cl=>new (.fn p cl) σ fun i σ=>k (.own i) σ
noncomputable def uF (r:Rc) (ae:AE) (ke:KE) (k:KV) (l:List C):SS->St->T:=l.rec (fun acc σ=>k (.str acc) σ) fun x _ ih acc σ=>x r ae (fun a σ=>ob (Ad a) fun ps=>(jr (.dyn ps)&&jr (mkS (acc.pcs++ps)))&&ih (mkS (acc.pcs++ps)) σ) ke σ
noncomputable def dG (l:List C):C:=fun r ae k ke σ=>uF r ae ke k l (.lit 0) σ
noncomputable def gq (o:C):C:=fun r ae k ke σ=>!ae.h&&o r ae (fun v σ=>ob (op v.own? fun i=>σ.dict? i) fun es=>Nat.ble es.length 900&&Af (fun xs σ=>new (.list xs) σ fun i σ=>k (.own i) σ) es [] σ) ke σ
noncomputable def Ah (o x:C):C:=fun r ae k ke σ=>o r ae (fun v σ=>x r ae (fun j σ=>ob v.own? fun i=>ob j.int? fun j=>ob (op (σ.t.get i) aj.plist?) fun p=>(Nat.beq p.1.x j.x&&(iEq p.1.c j.c&&(Nat.ble p.2.length 900&&leF σ p.1 (.k 100000) 0)))&&new (.list p.2) σ fun i σ=>k (.own i) σ) ke σ) ke σ
noncomputable def lTg (t:Tg):L:=fun _ ae _ a σ k=>zV P ae t a σ k
noncomputable def aE (n:Nm):L:=fun _ _ _ a σ k=>store n a σ k
noncomputable def ba (o:C) (m:Nm):L:=fun r ae ke a σ k=>o r ae (fun v σ=>KJ P v m a σ k) ke σ
noncomputable def cb (o i:C):L:=fun r ae ke a σ k=>o r ae (fun v σ=>i r ae (fun j σ=>Ip v j a σ k) ke σ) ke σ
noncomputable def bd (e:C):CS:=fun r ae k ke σ=>e r ae (fun _ σ=>k .next σ) ke σ
noncomputable def aL (e:C):CS:=fun r ae k ke σ=>e r ae (fun a σ=>k (.ret a) σ) ke σ
noncomputable def ag (t:L) (e:C):CS:=fun r ae k ke σ=>e r ae (fun a σ=>t r ae ke a σ fun σ=>k .next σ) ke σ
noncomputable def Iv (o i e:C):CS:=fun r ae k ke σ=>o r ae (fun v σ=>i r ae (fun j σ=>Io P v j (fun old σ=>e r ae (fun b σ=>ob old.int? fun x=>ob b.int? fun y=>wM D .add x y σ fun a σ=>Ip v j a σ fun σ=>k .next σ) ke σ) σ) ke σ) ke σ
noncomputable def sIf (t:C) (b o:List CS):CS:=fun r ae k ke σ=>t r ae (fun a σ=>eB P a σ fun q σ=>be q (stmts r ae ke b k σ) (stmts r ae ke o k σ)) ke σ
noncomputable def jS (tg:Tg) (ik:Ik) (it:C) (b:List CS):CS:=fun r ae k ke σ=>hc ae&&it r ae (fun src σ=>ob (D3 P σ ik tg src) fun xs=>Nat.ble xs.length 900&&turns P ae tg (fun τ k=>stmts r ae (fun c υ=>ke c (υ.wk σ.locks)) b k τ) (fun f τ=>k f (τ.wk σ.locks)) xs (σ.wk (kL src++σ.locks))) ke σ
noncomputable def aU (c:AV) (args:List C):CS:=fun r ae _ ke σ=>hc ae&&evs r ae ke args (fun _ σ=>ke c σ) σ
noncomputable def qm:Rc:=fun _ _ _ _ _=>false
noncomputable def jT (b:List CS) (h:AV) (hb o:List CS):CS:=fun r ae k ke σ=>hc ae&&stmts r ae (fun c τ=>D4 c h&&stmts qm ⟨ae.cells,true,ae.c⟩ lQ hb k (τ.wk σ.locks)) b (fun f σ=>f.rec (stmts r ae ke o k σ) (k .cont σ) fun a=>k (.ret a) σ) σ
noncomputable def Ai (p:Nat) (free:List Nm) (t:Tg):CS:=fun _ ae k _ σ=>ob (closure ae free) fun cl=>new (.fn p cl) σ fun i σ=>zV P ae t (.own i) σ fun σ=>k .next σ
noncomputable def Aj:CS:=fun _ _ k _ σ=>k .next σ
noncomputable def sf:CS:=fun _ _ k _ σ=>k .cont σ
noncomputable def oQ (w:String):CS:=fun _ _ _ _ _=>false
noncomputable def run (W:Pf) (n:Nat):Rc:=n.rec (fun _ _ _ _ _=>false) fun _ r=>HK P W r
end
end
section
theorem ff {P:Prop} (h:false=true):P:=Bool.noConfusion h
theorem nn {α:Type} {P:Prop} {x:α} (h:none=some x):P:=Option.noConfusion rfl (heq_of_eq h)
theorem sm {α:Type} {a b:α} (h:some a=some b):a=b:=Option.some.inj h
section
variable {α β γ:Type} {G:Prop}
theorem ad {o:Option α} {f:α->Bool}:ob o f=true->(∀ x,o=some x->f x=true->G)->G:=o.rec (fun h _=>ff h) fun x h g=>g x rfl h
theorem az {o:Option α} {z:Bool} {f:α->Bool}:oe o z f=true->(o=none->z=true->G)->(∀ x,o=some x->f x=true->G)->G:=o.rec (fun h g _=>g rfl h) fun x h _ g=>g x rfl h
theorem aQ {b x y:Bool}:be b x y=true->(b=true->x=true->G)->(b=false->y=true->G)->G:=b.rec (fun h _ g=>g rfl h) fun h g _=>g rfl h
theorem aa {a b:Bool}:(a&&b)=true->(a=true->b=true->G)->G:=a.rec (fun h _=>ff h) fun h g=>g rfl h
theorem ao {o:Option α} {f:α->Option β} {y:β}:op o f=some y->(∀ x,o=some x->f x=some y->G)->G:=o.rec (fun h _=>nn h) fun x h g=>g x rfl h
theorem cB {o:Option α} {z:Option β} {f:α->Option β} {y:β}:oe o z f=some y->(o=none->z=some y->G)->(∀ x,o=some x->f x=some y->G)->G:=o.rec (fun h g _=>g rfl h) fun x h _ g=>g x rfl h
theorem bg {b:Bool} {x y:Option β} {z:β}:be b x y=some z->(b=true->x=some z->G)->(b=false->y=some z->G)->G:=b.rec (fun h _ g=>g rfl h) fun h g _=>g rfl h
theorem dm {a b:Bool}:(a || b)=true->(a=true->G)->(b=true->G)->G:=a.rec (fun h _ g=>g h) fun _ g _=>g rfl
theorem nt {b:Bool}:(!b)=true->b=false:=b.rec (fun _=>rfl) fun h=>ff h
theorem tf (b:Bool) (g:b=true->G) (f:b=false->G):G:=b.rec (motive:=fun c=>(c=true->G)->(c=false->G)->G) (fun _ f=>f rfl) (fun g _=>g rfl) g f
end
theorem lR {β:Type} {b:Bool} (h:b=true) {x y:β}:be b x y=x:=h▸rfl
theorem f8 {β:Type} {b:Bool} (h:b=false) {x y:β}:be b x y=y:=h▸rfl
theorem ju {β:Type} {P:β->Prop} (b:Bool) {x y:β} (g:b=true->P x) (f:b=false->P y):P (be b x y):=b.rec (motive:=fun c=>(c=true->P x)->(c=false->P y)->P (be c x y)) (fun _ f=>f rfl) (fun g _=>g rfl) g f
theorem nb {a b:Nat} (h:Nat.beq a b=true):a=b:=Nat.eq_of_beq_eq_true h
theorem nbr (a:Nat):Nat.beq a a=true:=Nat.beq_refl a
theorem nbf {a b:Nat} (h:¬ a=b):Nat.beq a b=false:=tf _ (fun q=>absurd (nb q) h) id
theorem Ak (a b:Nat):Nat.beq a b=decide (a=b):=tf (Nat.beq a b) (fun h=>h.trans (decide_eq_true (nb h)).symm) fun h=>h.trans (decide_eq_false (Nat.ne_of_beq_eq_false h)).symm
theorem Al {α:Type} {a b:Nat} {x y:α}:be (Nat.beq a b) x y=if a=b then x else y:=tf (Nat.beq a b) (fun h=>(lR h).trans (if_pos (nb h)).symm) fun h=>(f8 h).trans (if_neg (Nat.ne_of_beq_eq_false h)).symm
theorem aj.dict_of {o:aj} {x:List (Nm×AV)}:o.dict?=some x->o=.dict x:=o.rec (motive:=fun o=>o.dict?=some x->o=.dict x) (fun x h=>congrArg _ (sm h)) (fun _=>nn) (fun _=>nn) (fun _ _=>nn) (fun _=>nn) (fun _=>nn) (fun _ _=>nn) (fun _=>nn) (fun _=>nn) (fun _ _=>nn) (fun _=>nn) nn
theorem aj.bdict_of {o:aj} {x:List (Nm×AV)}:o.bdict?=some x->o=.bdict x:=o.rec (motive:=fun o=>o.bdict?=some x->o=.bdict x) (fun _=>nn) (fun x h=>congrArg _ (sm h)) (fun _=>nn) (fun _ _=>nn) (fun _=>nn) (fun _=>nn) (fun _ _=>nn) (fun _=>nn) (fun _=>nn) (fun _ _=>nn) (fun _=>nn) nn
theorem aj.list_of {o:aj} {x:List AV}:o.list?=some x->o=.list x:=o.rec (motive:=fun o=>o.list?=some x->o=.list x) (fun _=>nn) (fun _=>nn) (fun x h=>congrArg _ (sm h)) (fun _ _=>nn) (fun _=>nn) (fun _=>nn) (fun _ _=>nn) (fun _=>nn) (fun _=>nn) (fun _ _=>nn) (fun _=>nn) nn
theorem aj.plist_of {o:aj} {x:IV×List AV}:o.plist?=some x->o=.plist x.1 x.2:=o.rec (motive:=fun o=>o.plist?=some x->o=.plist x.1 x.2) (fun _=>nn) (fun _=>nn) (fun _=>nn) (fun x y h=>sm h▸rfl) (fun _=>nn) (fun _=>nn) (fun _ _=>nn) (fun _=>nn) (fun _=>nn) (fun _ _=>nn) (fun _=>nn) nn
theorem aj.tup_of {o:aj} {x:List AV}:o.tup?=some x->o=.tup x:=o.rec (motive:=fun o=>o.tup?=some x->o=.tup x) (fun _=>nn) (fun _=>nn) (fun _=>nn) (fun _ _=>nn) (fun x h=>congrArg _ (sm h)) (fun _=>nn) (fun _ _=>nn) (fun _=>nn) (fun _=>nn) (fun _ _=>nn) (fun _=>nn) nn
theorem aj.set_of {o:aj} {x:List AV}:o.set?=some x->o=.set x:=o.rec (motive:=fun o=>o.set?=some x->o=.set x) (fun _=>nn) (fun _=>nn) (fun _=>nn) (fun _ _=>nn) (fun _=>nn) (fun x h=>congrArg _ (sm h)) (fun _ _=>nn) (fun _=>nn) (fun _=>nn) (fun _ _=>nn) (fun _=>nn) nn
theorem aj.inst_of {o:aj} {x:Nat×Nat}:o.inst?=some x->o=.inst x.1 x.2:=o.rec (motive:=fun o=>o.inst?=some x->o=.inst x.1 x.2) (fun _=>nn) (fun _=>nn) (fun _=>nn) (fun _ _=>nn) (fun _=>nn) (fun _=>nn) (fun x y h=>sm h▸rfl) (fun _=>nn) (fun _=>nn) (fun _ _=>nn) (fun _=>nn) nn
theorem aj.cell_of {o:aj} {x:Option AV}:o.cell?=some x->o=.cell x:=o.rec (motive:=fun o=>o.cell?=some x->o=.cell x) (fun _=>nn) (fun _=>nn) (fun _=>nn) (fun _ _=>nn) (fun _=>nn) (fun _=>nn) (fun _ _=>nn) (fun _=>nn) (fun x h=>congrArg _ (sm h)) (fun _ _=>nn) (fun _=>nn) nn
theorem aj.fn_of {o:aj} {x:Nat×List (Nm×Nat)}:o.fn?=some x->o=.fn x.1 x.2:=o.rec (motive:=fun o=>o.fn?=some x->o=.fn x.1 x.2) (fun _=>nn) (fun _=>nn) (fun _=>nn) (fun _ _=>nn) (fun _=>nn) (fun _=>nn) (fun _ _=>nn) (fun _=>nn) (fun _=>nn) (fun x y h=>sm h▸rfl) (fun _=>nn) nn
theorem AV.bool_of {o:AV} {x:Bool}:o.bool?=some x->o=.bool x:=o.rec (motive:=fun o=>o.bool?=some x->o=.bool x) nn (fun x h=>congrArg _ (sm h)) (fun _=>nn) (fun _=>nn) (fun _=>nn) (fun _=>nn) (fun _=>nn) (fun _=>nn) (fun _=>nn) (fun _ _=>nn) (fun _=>nn)
theorem AV.int_of {o:AV} {x:IV}:o.int?=some x->o=.int x:=o.rec (motive:=fun o=>o.int?=some x->o=.int x) nn (fun _=>nn) (fun x h=>congrArg _ (sm h)) (fun _=>nn) (fun _=>nn) (fun _=>nn) (fun _=>nn) (fun _=>nn) (fun _=>nn) (fun _ _=>nn) (fun _=>nn)
theorem AV.str_of {o:AV} {x:SS}:o.str?=some x->o=.str x:=o.rec (motive:=fun o=>o.str?=some x->o=.str x) nn (fun _=>nn) (fun _=>nn) (fun x h=>congrArg _ (sm h)) (fun _=>nn) (fun _=>nn) (fun _=>nn) (fun _=>nn) (fun _=>nn) (fun _ _=>nn) (fun _=>nn)
theorem AV.bytes_of {o:AV} {x:SS}:o.bytes?=some x->o=.bytes x:=o.rec (motive:=fun o=>o.bytes?=some x->o=.bytes x) nn (fun _=>nn) (fun _=>nn) (fun _=>nn) (fun x h=>congrArg _ (sm h)) (fun _=>nn) (fun _=>nn) (fun _=>nn) (fun _=>nn) (fun _ _=>nn) (fun _=>nn)
theorem AV.own_of {o:AV} {x:Nat}:o.own?=some x->o=.own x:=o.rec (motive:=fun o=>o.own?=some x->o=.own x) nn (fun _=>nn) (fun _=>nn) (fun _=>nn) (fun _=>nn) (fun x h=>congrArg _ (sm h)) (fun _=>nn) (fun _=>nn) (fun _=>nn) (fun _ _=>nn) (fun _=>nn)
theorem AV.top_of {o:AV} {x:Nat}:o.top?=some x->o=.top x:=o.rec (motive:=fun o=>o.top?=some x->o=.top x) nn (fun _=>nn) (fun _=>nn) (fun _=>nn) (fun _=>nn) (fun _=>nn) (fun x h=>congrArg _ (sm h)) (fun _=>nn) (fun _=>nn) (fun _ _=>nn) (fun _=>nn)
theorem AV.ty_of {o:AV} {x:Ty}:o.ty?=some x->o=.ty x:=o.rec (motive:=fun o=>o.ty?=some x->o=.ty x) nn (fun _=>nn) (fun _=>nn) (fun _=>nn) (fun _=>nn) (fun _=>nn) (fun _=>nn) (fun x h=>congrArg _ (sm h)) (fun _=>nn) (fun _ _=>nn) (fun _=>nn)
theorem AV.blt_of {o:AV} {x:Bi}:o.blt?=some x->o=.blt x:=o.rec (motive:=fun o=>o.blt?=some x->o=.blt x) nn (fun _=>nn) (fun _=>nn) (fun _=>nn) (fun _=>nn) (fun _=>nn) (fun _=>nn) (fun _=>nn) (fun x h=>congrArg _ (sm h)) (fun _ _=>nn) (fun _=>nn)
theorem AV.eq_of {o:AV} {x:IV×IV}:o.eq?=some x->o=.eq x.1 x.2:=o.rec (motive:=fun o=>o.eq?=some x->o=.eq x.1 x.2) nn (fun _=>nn) (fun _=>nn) (fun _=>nn) (fun _=>nn) (fun _=>nn) (fun _=>nn) (fun _=>nn) (fun _=>nn) (fun x y h=>sm h▸rfl) (fun _=>nn)
theorem Fd.val_of {d:Fd} {x:AV}:d.val?=some x->d=.val x:=d.rec (motive:=fun d=>d.val?=some x->d=.val x) (fun _=>nn) (fun _=>nn) (fun _=>nn) (fun x h=>congrArg _ (sm h)) nn
theorem Fd.cm_of {d:Fd} {x:Nat}:d.cm?=some x->d=.cm x:=d.rec (motive:=fun d=>d.cm?=some x->d=.cm x) (fun _=>nn) (fun _=>nn) (fun x h=>congrArg _ (sm h)) (fun _=>nn) nn
theorem SS.lit_of {x:SS} {n:Nm}:x.lit?=some n->x=.lit n:=x.rec (motive:=fun x=>x.lit?=some n->x=.lit n) (fun _ h=>congrArg _ (sm h)) fun _=>nn
theorem AV.lit_of {a:AV} {n:Nm} (h:a.lit?=some n):a=kv n:=ao h fun x e h=>by rw [AV.str_of e,SS.lit_of h]; rfl
theorem D9 {a:AV} {n:Nm} (h:r9 a=some n):a=.bytes (.lit n):=ao h fun x e h=>by rw [AV.bytes_of e,SS.lit_of h]
theorem cS {α:Type} {l:List α} {a:α}:f6 l=some a->l=[a]:=l.rec (motive:=fun l=>f6 l=some a->l=[a]) nn fun b r _=>r.rec (motive:=fun r=>f6 (b::r)=some a->b::r=[a]) (fun h=>congrArg (fun x=>[x]) (sm h)) fun _ _ _=>nn
theorem jw {α:Type} {l:List α} {p:α×α}:qg l=some p->l=[p.1,p.2]:=l.rec (motive:=fun l=>qg l=some p->l=[p.1,p.2]) nn fun b r _ h=>ao h fun c e h=>by rw [cS e,← sm h]
theorem dict_of {σ:St} {i:Nat} {es:List (Nm×AV)} (h:σ.dict? i=some es):σ.t.get i=some (.dict es):=ao h fun o e h=>e.trans (congrArg some (aj.dict_of h))
theorem list_of {σ:St} {i:Nat} {es:List AV} (h:σ.list? i=some es):σ.t.get i=some (.list es):=ao h fun o e h=>e.trans (congrArg some (aj.list_of h))
theorem inst_of {σ:St} {i:Nat} {p:Nat×Nat} (h:σ.inst? i=some p):σ.t.get i=some (.inst p.1 p.2):=ao h fun o e h=>e.trans (congrArg some (aj.inst_of h))
section
variable {α:Type}
theorem Tr.getP_nil (p:List Bool):Tr.getP p (.nil:Tr α)=none:=by cases p <;> rfl
theorem Tr.get_same (o:α) (p:List Bool):∀ t:Tr α,Tr.getP p (Tr.setP o p t)=some o:=by
  induction p with
  | nil=>exact fun t=>by cases t <;> rfl
  | cons b p ih=>exact fun t=>by cases t <;> cases b <;> exact ih _
theorem Tr.get_diff (o:α) (p:List Bool):∀ (q:List Bool) (t:Tr α),¬ q=p->Tr.getP q (Tr.setP o p t)=Tr.getP q t:=by
  induction p with
  | nil=>
    intro q t h
    cases q with
    | nil=>exact absurd rfl h
    | cons c q=>cases t <;> cases c <;> first | rfl | exact Tr.getP_nil q
  | cons b p ih=>
    intro q t h
    cases q with
    | nil=>cases t <;> cases b <;> rfl
    | cons c q=>cases t <;> cases b <;> cases c <;> first | rfl | exact Tr.getP_nil q | exact ih q _ fun e=>h (e▸rfl) | exact (ih q _ fun e=>h (e▸rfl)).trans (Tr.getP_nil q)
noncomputable def Am (l:List Bool):Nat:=l.rec 0 fun b _ ih=>2 * ih + be b 1 0
theorem Ms (i:Nat):be (Nat.beq (i % 2) 1) 1 0=i % 2:=(Nat.mod_two_eq_zero_or_one i).elim (fun h=>by rw [h]; rfl) fun h=>by rw [h]; rfl
theorem sg (i:Nat):Am (bits i)=i:=by
  suffices h:∀ f i,i≤f->Am (Nat.rec (motive:=fun _=>Nat->List Bool) (fun _=>[]) (fun _ ih i=>be (Nat.beq i 0) [] (Nat.beq (i % 2) 1::ih (i / 2))) f i)=i from h i i (Nat.le_refl i)
  intro f
  induction f with
  | zero=>exact fun i h=>(Nat.le_zero.mp h).symm
  | succ f ih=>
    intro i h
    refine tf (Nat.beq i 0) (fun e=>by rw [nb e]; rfl) fun e=>(congrArg Am (f8 e)).trans ?_
    have hi:=Nat.pos_of_ne_zero (Nat.ne_of_beq_eq_false e)
    exact ((congrArg (2 * · + be (Nat.beq (i % 2) 1) 1 0) (ih (i / 2) (Nat.le_of_lt_succ (Nat.lt_of_lt_of_le (Nat.div_lt_self hi (by decide)) h)))).trans (congrArg _ (Ms i))).trans (Nat.div_add_mod i 2)
theorem An (i:Nat):pth i=bits i:=by cases i <;> rfl
theorem Tr.get_set (o:α) (t:Tr α) (i j:Nat):Tr.get (Tr.set o t i) j=if j=i then some o else Tr.get t j:=
  (Decidable.em (j=i)).elim (fun h=>h▸(Tr.get_same o _ t).trans (if_pos rfl).symm) fun h=>(Tr.get_diff o _ _ t fun e=>h (by rw [← sg j,← An,e,An,sg])).trans (if_neg h).symm
theorem Tr.get_nil (i:Nat):Tr.get (.nil:Tr α) i=none:=Tr.getP_nil _
theorem Tr.set_all {P:Nat->α->Prop} {t:Tr α} {z:Nat} {v:α} (H:∀ x a,t.get x=some a->P x a) (hv:P z v) (x:Nat) (a:α) (h:(Tr.set v t z).get x=some a):P x a:=by
  rw [Tr.get_set] at h
  exact (Decidable.em (x=z)).elim (fun e=>by rw [if_pos e] at h; rw [e,← sm h]; exact hv) fun e=>H x a (by rw [if_neg e] at h; exact h)
end
section
variable {β:Type} {a b:Nat} {x:β} {l:List (Nat×β)} {p:Nat×β}
theorem bq:look (p::l) a=if p.1=a then some p.2 else look l a:=Al
theorem my:put (p::l) a x=if p.1=a then (a,x)::l else p::put l a x:=Al
theorem ym:drop (p::l) a=if p.1=a then l else p::drop l a:=Al
theorem sh (a:Nat) (l:List Nat) (i:Nat):inL (a::l) i=(decide (a=i) || inL l i):=by
  show be (Nat.beq a i) true (inL l i)=_
  rw [Ak]; cases decide (a=i) <;> rfl
theorem oq:look (put l a x) a=some x:=by
  induction l with
  | nil=>exact bq.trans (if_pos rfl)
  | cons p l ih=>
    rw [my]
    exact (Decidable.em (p.1=a)).elim (fun h=>by rw [if_pos h,bq,if_pos rfl]) fun h=>by rw [if_neg h,bq,if_neg h,ih]
theorem si (hb:¬ b=a):look (put l a x) b=look l b:=by
  have hb':¬ a=b:=fun e=>hb e.symm
  induction l with
  | nil=>exact bq.trans (if_neg hb')
  | cons p l ih=>
    rw [my]
    exact (Decidable.em (p.1=a)).elim (fun h=>by rw [if_pos h,bq,bq,if_neg hb',if_neg (h▸hb')]) fun h=>by rw [if_neg h,bq,bq,ih]
theorem Ao (a b:Nat) (x:β) (l:List (Nat×β)):look (put l a x) b=if b=a then some x else look l b:=
  (Decidable.em (b=a)).elim (fun h=>h▸oq.trans (if_pos rfl).symm) fun h=>(si h).trans (if_neg h).symm
end
theorem Ml (a b:Int):iLe a b=decide (a≤b):=Bool.eq_iff_iff.mpr ((iff_of_eq (Int.ble'_eq_true a b)).trans decide_eq_true_iff.symm)
theorem Ea (a b:Int):iLt a b=decide (a < b):=Bool.eq_iff_iff.mpr ((iff_of_eq (Int.blt'_eq_true a b)).trans decide_eq_true_iff.symm)
theorem dE {a b:Int}:iLe a b=true->a≤b:=(Int.ble'_eq_true a b).mp
theorem qo (a b:Int):iEq a b=decide (a=b):=by
  cases a <;> cases b
  · exact (Ak _ _).trans (decide_eq_decide.mpr ⟨congrArg _,Int.ofNat.inj⟩)
  · rfl
  · rfl
  · exact (Ak _ _).trans (decide_eq_decide.mpr ⟨congrArg _,Int.negSucc.inj⟩)
theorem hZ {a b:Int} (h:iEq a b=true):a=b:=of_decide_eq_true ((qo a b).symm.trans h)
noncomputable def IV.den (nu:Nat->Int) (i:IV):Int:=nu i.x + i.c
noncomputable def Fc.holds (nu:Nat->Int) (g:Fc):Prop:=nu g.x≤nu g.y + g.c
structure cC (nu:Nat->Int) (f:Fs):Prop where
  d:∀ g∈f.d,g.holds nu
  lo:∀ x a,f.lo.get x=some a->a≤nu x
  hi:∀ x a,f.hi.get x=some a->nu x≤a
variable {nu:Nat->Int}
theorem Eb {f:List Fc} {x:Nat} {P:Fc->Bool}:(List.rec false (fun g _ r=>be (Nat.beq g.x x) (be (P g) true r) r) f:Bool)=true->∃ g,g∈f∧g.x=x∧P g=true:=by
  induction f with
  | nil=>exact ff
  | cons g f ih=>exact fun h=>aQ h (fun e h=>aQ h (fun p _=>⟨g,.head _,nb e,p⟩) fun _ h=>(ih h).imp fun _ q=>⟨.tail _ q.1,q.2⟩) fun _ h=>(ih h).imp fun _ q=>⟨.tail _ q.1,q.2⟩
theorem yn {f:List Fc} (H:∀ g∈f,g.holds nu) (n:Nat):∀ (x y:Nat) (c:Int),ent f n x y c=true->nu x≤nu y + c:=by
  have z:∀ {x y:Nat} {c:Int},Nat.beq x y=true->iLe 0 c=true->nu x≤nu y + c:=fun a b=>nb a▸Int.le_add_of_nonneg_right (dE b)
  induction n with
  | zero=>exact fun _ _ _ h=>aQ h z fun _ h=>ff h
  | succ n ih=>
    exact fun x y c h=>aQ h z fun _ h=>(Eb h).elim fun g q=>by
      have h1:=ih _ _ _ q.2.2
      have h2:nu g.x≤nu g.y + g.c:=H g q.1
      rw [q.2.1] at h2
      omega
theorem bc {σ:St} (H:cC nu σ.f) {i j:IV} {d:Int} (h:leF σ i j d=true):i.den nu≤j.den nu + d:=
  aQ h (fun h _=>ad h fun a ha h=>ad h fun b hb h=>Int.le_trans (Int.add_le_add_right (H.hi _ _ ha) _) (Int.le_trans (dE h) (Int.add_le_add_right (Int.add_le_add_right (H.lo _ _ hb) _) _))) fun _ h=>aQ h (fun _ h=>ff h) fun _ h=>by
    have:nu i.x≤nu j.x + (j.c - i.c + d):=yn H.d _ _ _ _ h
    unfold IV.den; omega
theorem arr {a b c e d:Int} (h:a + e≤b + c + d):a≤b + (c - e + d)∧e - c - d - b≤- a:=by omega
inductive bp (nu:Nat->Int) (σ:St):St->Prop
  | mk (f:Fs) (h:cC nu f):bp nu σ (σ.wf f)
theorem bp.hold {σ τ:St} (a:bp nu σ τ):cC nu τ.f:=a.rec fun _ h=>h
theorem bp.refl {σ:St} (H:cC nu σ.f):bp nu σ σ:=.mk σ.f H
theorem bp.trans {σ τ υ:St} (a:bp nu σ τ):bp nu τ υ->bp nu σ υ:=a.rec fun _ _ b=>b.rec fun g h=>.mk g h
theorem bp.add (h0:nu 0=0) {σ:St} (H:cC nu σ.f) {i j:IV} {d:Int} (h:i.den nu≤j.den nu + d):bp nu σ (qj σ i j d):=by
  have q:=(arr h).1
  exact .mk _ (ju _ (fun e=>⟨H.d,H.lo,Tr.set_all H.hi (by rw [nb e,h0,Int.zero_add] at q; exact q)⟩) fun _=>ju _ (fun e=>⟨H.d,Tr.set_all H.lo (by rw [nb e,h0] at q; omega),H.hi⟩) fun _=>⟨fun g hg=>(List.mem_cons.mp hg).elim (fun e=>e▸q) (H.d g),H.lo,H.hi⟩)
theorem bp.addN (h0:nu 0=0) {σ:St} (H:cC nu σ.f) {i j:IV} (h:i.den nu≤j.den nu):bp nu σ (addN σ i j):=
  ju (P:=bp nu σ) _ (fun _=>.refl H) fun _=>.add h0 H (by rw [Int.add_zero]; exact h)
section
variable {i j:IV} {σ:St} {k:Bool->St->T} {G:Prop}
theorem mz {R:Int->Int->Prop} (e:Nat.beq i.x j.x=true) (f:∀ a b c:Int,R (a + b) (a + c)↔R b c):R (i.den nu) (j.den nu)↔R i.c j.c:=by
  show R (nu i.x + i.c) _↔_; rw [nb e]; exact f _ _ _
theorem Ec (h0:nu 0=0) (H:cC nu σ.f) (h:ltI i j σ k=true) (g:∀ τ,bp nu σ τ->k (decide (i.den nu < j.den nu)) τ=true->G):G:=
  aQ h (fun e h=>g σ (.refl H) (by rw [decide_eq_decide.mpr (mz (R:=(· < ·)) e fun a b c=>Int.add_lt_add_iff_left a),← Ea]; exact h)) fun _ h=>aQ h (fun e h=>g σ (.refl H) (by rw [decide_eq_true (Int.lt_of_le_sub_one (bc H e))]; exact h)) fun _ h=>aQ h (fun e h=>g σ (.refl H) (by rw [decide_eq_false (Int.not_lt.mpr (Int.add_zero (i.den nu)▸bc H e))]; exact h)) fun _ h=>aa h fun ht hf=>(Decidable.em (i.den nu < j.den nu)).elim (fun q=>g _ (.add h0 H (Int.le_sub_one_of_lt q)) (by rw [decide_eq_true q]; exact ht)) fun q=>g _ (.add h0 H (Int.add_zero (i.den nu)▸Int.not_lt.mp q)) (by rw [decide_eq_false q]; exact hf)
theorem gr (h0:nu 0=0) (H:cC nu σ.f) (h:eqI i j σ k=true) (g:∀ τ,bp nu σ τ->k (decide (i.den nu=j.den nu)) τ=true->G):G:=
  aQ h (fun e h=>g σ (.refl H) (by rw [decide_eq_decide.mpr (mz (R:=(·=·)) e fun a b c=>Int.add_right_inj a),← qo]; exact h)) fun _ h=>aQ h (fun e h=>g σ (.refl H) (by rw [decide_eq_false (dm e (fun e=>Int.ne_of_lt (Int.lt_of_le_sub_one (bc H e))) fun e=>Int.ne_of_gt (Int.lt_of_le_sub_one (bc H e)))]; exact h)) fun _ h=>aa h fun ht h=>aa h fun h1 h2=>(Decidable.em (i.den nu=j.den nu)).elim
    (fun q=>have a:=bp.addN h0 H (Int.le_of_eq q); g _ (a.trans (.addN h0 a.hold (Int.le_of_eq q.symm))) (by rw [decide_eq_true q]; exact ht)) fun q=>(Int.lt_or_gt_of_ne q).elim
    (fun l=>dm h2 (fun e=>absurd (Int.add_zero (i.den nu)▸bc H e) (Int.not_le.mpr l)) fun h=>g _ (.add h0 H (Int.le_sub_one_of_lt l)) (by rw [decide_eq_false q]; exact h))
    fun l=>dm h1 (fun e=>absurd (Int.add_zero (j.den nu)▸bc H e) (Int.not_le.mpr l)) fun h=>g _ (.add h0 H (Int.le_sub_one_of_lt l)) (by rw [decide_eq_false q]; exact h)
theorem IV.den_k (h0:nu 0=0) (v:Int):(IV.k v).den nu=v:=(congrArg (· + v) h0).trans (Int.zero_add v)
theorem jU {k:Int->St->T} (h0:nu 0=0) (H:cC nu σ.f) (h:D5 i σ k=true) (g:∀ τ,bp nu σ τ->k (i.den nu) τ=true->G):G:=by
  refine aQ h (fun e h=>g σ (.refl H) (by rw [show i.den nu=i.c from (congrArg (nu · + i.c) (nb e)).trans (IV.den_k h0 i.c)]; exact h)) fun _ h=>aa h fun e h=>?_
  have e:=bc H e
  rw [IV.den_k h0,Int.add_zero] at e
  suffices z:∀ (n:Nat) (v:Int) (σ:St),cC nu σ.f->v≤i.den nu->zY i k n v σ=true->(∀ τ,bp nu σ τ->k (i.den nu) τ=true->G)->G from z _ _ σ H e h g
  intro n
  induction n with
  | zero=>exact fun _ _ _ _ h=>ff h
  | succ n ih=>
    intro v σ H hv h g
    have lt:¬ i.den nu=v->v + 1≤i.den nu:=fun q=>Int.lt_iff_le_and_ne.mpr ⟨hv,fun e=>q e.symm⟩
    refine aQ h (fun e h=>g σ (.refl H) (?_:k _ _=true)) fun _ h=>aQ h (fun e h=>ih _ σ H ?_ h g) fun _ h=>aa h fun h1 h2=>(Decidable.em (i.den nu=v)).elim (fun q=>g _ (.add h0 H (?_:i.den nu≤(IV.k v).den nu + 0)) (q.symm▸h1)) fun q=>?_
    · have e:=bc H e; rw [IV.den_k h0,Int.add_zero] at e; rw [Int.le_antisymm e hv]; exact h
    · have e:=bc H e; rw [IV.den_k h0] at e; exact Int.lt_of_le_sub_one e
    · rw [IV.den_k h0,Int.add_zero]; exact Int.le_of_eq q
    · have a:=bp.add h0 (σ:=σ) H (i:=.k v) (j:=i) (d:=-1) (by rw [IV.den_k h0]; exact Int.le_sub_one_of_lt (lt q))
      exact ih _ _ a.hold (lt q) h2 fun τ b=>g τ (a.trans b)
theorem yo (h0:nu 0=0) (l:List (IV×IV)):∀ {σ:St},cC nu σ.f->zZ l k σ=true->(∀ τ,bp nu σ τ->k (decide (∀ p∈l,p.1.den nu=p.2.den nu)) τ=true->G)->G:=by
  induction l with
  | nil=>exact fun H h g=>g _ (.refl H) (by rw [decide_eq_true fun _ q=>nomatch q]; exact h)
  | cons p l ih=>
    intro σ H h g
    exact gr (σ:=σ) h0 H (k:=fun b σ=>be b (zZ l k σ) (k false σ)) h fun τ a h=>(Decidable.em (p.1.den nu=p.2.den nu)).elim
      (fun q=>ih a.hold (by rw [decide_eq_true q] at h; exact h) fun υ b h=>g υ (a.trans b) (by rw [decide_eq_decide.mpr (show (∀ p'∈p::l,p'.1.den nu=p'.2.den nu)↔∀ p'∈l,p'.1.den nu=p'.2.den nu from ⟨fun z r m=>z r (.tail _ m),fun z r m=>(List.mem_cons.mp m).elim (fun e=>e▸q) (z r)⟩)]; exact h))
      fun q=>g τ a (by rw [decide_eq_false q] at h; rw [decide_eq_false fun z=>q (z p (.head _))]; exact h)
end
end
section
theorem Ap {n:Nat} (h:256≤n):Nat.log2 n=Nat.log2 (n / 256) + 8:=by
  have hq:n / 256≠0:=Nat.ne_of_gt (Nat.div_pos h (by decide))
  obtain ⟨a,b⟩:=(Nat.log2_eq_iff hq).mp rfl
  refine (Nat.log2_eq_iff fun e=>by rw [e] at h; exact absurd h (by decide)).mpr ⟨?_,?_⟩
  · exact Nat.pow_add ..▸(Nat.le_div_iff_mul_le (by decide)).mp a
  · rw [Nat.add_right_comm _ 8 1,Nat.pow_add]; exact (Nat.div_lt_iff_lt_mul (by decide)).mp b
theorem mA {n:Nat} (h:n≠0):sb n=sb (n / 256) + 1:=by
  have e:∀ {n},n≠0->sb n=Nat.log2 n / 8 + 1:=fun h=>f8 (nbf h)
  rw [e h]
  rcases Nat.lt_or_ge n 256 with hs | hs
  · rw [Nat.div_eq_of_lt hs,Nat.div_eq_of_lt ((Nat.log2_lt h).mpr hs)]; rfl
  · rw [e (Nat.ne_of_gt (Nat.div_pos hs (by decide))),Ap hs,Nat.add_div_right _ (by decide)]
theorem Aq (k:Nat):∀ {n:Nat},256 ^ k≤n->sb n=k + sb (n / 256 ^ k):=by
  induction k with
  | zero=>exact fun {n} _=>by rw [Nat.pow_zero,Nat.div_one,Nat.zero_add]
  | succ k ih=>
    intro n h
    have hp:256 ^ k * 256≤n:=Nat.pow_succ ..▸h
    have h0:n≠0:=Nat.ne_of_gt (Nat.lt_of_lt_of_le (Nat.mul_pos (Nat.pow_pos (by decide)) (by decide)) hp)
    rw [mA h0,ih ((Nat.le_div_iff_mul_le (by decide)).mpr hp),Nat.div_div_eq_div_mul,Nat.pow_succ',Nat.add_right_comm]
theorem Ar (f:Nat):∀ {n:Nat},n < 256 ^ 2 ^ f->wI f n=sb n:=by
  induction f with
  | zero=>
    intro n h
    have h:n < 256:=h
    show be (Nat.beq n 0) 0 1=_
    refine tf (Nat.beq n 0) (fun e=>by rw [nb e]; rfl) fun e=>(f8 e).trans ?_
    rw [mA (Nat.ne_of_beq_eq_false e),Nat.div_eq_of_lt h]; rfl
  | succ f ih=>
    intro n h
    show be (Nat.ble (256 ^ 2 ^ f) n) (2 ^ f + wI f (n / 256 ^ 2 ^ f)) (wI f n)=_
    refine tf (Nat.ble (256 ^ 2 ^ f) n) (fun e=>(lR e).trans ?_) fun e=>(f8 e).trans (ih (Nat.lt_of_not_le fun q=>ff (e.symm.trans (Nat.ble_eq_true_of_le q))))
    rw [Aq _ (Nat.le_of_ble_eq_true e),ih]
    rw [Nat.div_lt_iff_lt_mul (Nat.pow_pos (by decide)),← Nat.pow_add,← Nat.two_mul,← Nat.pow_succ']
    exact h
theorem wU (n:Nat):dK n=sb n:=tf (Nat.ble (256 ^ 2 ^ 13) n) (fun e=>lR e) fun e=>(f8 e).trans (Ar 13 (Nat.lt_of_not_le fun q=>ff (e.symm.trans (Nat.ble_eq_true_of_le q))))
theorem mB {n:Nat} (h:n≠0):dK n=dK (n / 256) + 1:=by rw [wU,wU,mA h]
theorem As {f n:Nat} {acc:List Nat} (e:Nat.beq n 0=false):zQ (f + 1) n acc=zQ f (n / 256) (n % 256::acc):=f8 e
theorem Au (f:Nat):∀ (n:Nat) (acc:List Nat),zQ f n acc=zQ f n []++acc:=by
  induction f with
  | zero=>exact fun _ _=>rfl
  | succ f ih=>exact fun n acc=>tf (Nat.beq n 0) (fun e=>by rw [nb e]; rfl) fun e=>by rw [As e,As e,ih,ih _ [n % 256],List.append_assoc]; rfl
theorem iN {n:Nat} (h:n≠0):dec n=dec (n / 256)++[n % 256]:=by
  unfold dec; rw [mB h]; exact (f8 (nbf h)).trans (Au ..)
theorem l9 {P:Nat->Prop} (z:P 0) (s:∀ n,n≠0->P (n / 256)->P n) (n:Nat):P n:=
  Nat.strongRecOn n fun n ih=>(Decidable.em (n=0)).elim (fun e=>e▸z) fun h=>s n h (ih _ (Nat.div_lt_self (Nat.pos_of_ne_zero h) (by decide)))
theorem Av:dec 0=[]:=rfl
theorem eW:∀ n,(dec n).length=dK n:=l9 rfl fun n h ih=>by rw [iN h,mB h,List.length_append,ih]; rfl
theorem Ed (a b:Nat):dec (zR a b)=dec a++dec b:=l9 (P:=fun b=>dec (zR a b)=dec a++dec b) (by show dec (a * 1 + 0)=_; rw [Nat.mul_one,Av,List.append_nil]; rfl) (fun n h ih=>by
  have e:zR a n=256 * (a * 256 ^ dK (n / 256)) + n:=by unfold zR; rw [mB h,Nat.pow_succ',Nat.mul_left_comm]
  rw [iN h,← List.append_assoc,← ih,e,iN fun z=>h (Nat.eq_zero_of_add_eq_zero z).2,Nat.mul_add_div (by decide),Nat.mul_add_mod]; rfl) b
noncomputable def val (l:List Nat):Nat:=l.foldl (fun a c=>a * 256 + c) 0
theorem jx (a b:List Nat):val (a++b)=val a * 256 ^ b.length + val b:=by
  have h:∀ (c:List Nat) (x:Nat),c.foldl (fun a c=>a * 256 + c) x=x * 256 ^ c.length + val c:=by
    intro c
    induction c with
    | nil=>exact fun x=>(Nat.mul_one x).symm
    | cons y c ih=>exact fun x=>(ih _).trans (by
        show (x * 256 + y) * _ + _=_
        rw [show val (y::c)=_ from ih (0 * 256 + y),Nat.zero_mul,Nat.zero_add,Nat.add_mul,Nat.add_assoc,Nat.mul_assoc,List.length_cons,Nat.pow_succ'])
  exact (List.foldl_append ..).trans (h b _)
theorem iO:∀ n,val (dec n)=n:=l9 rfl fun n h ih=>by rw [iN h,jx,ih]; exact (congrArg (_ + ·) (Nat.zero_add _)).trans (Nat.div_add_mod' n 256)
theorem qp {a b:Nat} (h:dec a=dec b):a=b:=by rw [← iO a,← iO b,h]
theorem qq:∀ n,∀ c∈dec n,c < 256:=l9 (fun c h=>nomatch h) fun n h ih c hc=>by
  rw [iN h] at hc
  exact (List.mem_append.mp hc).elim (ih c) fun q=>List.mem_singleton.mp q▸Nat.mod_lt _ (by decide)
theorem Iw {l:List Nat} (h:∀ c∈l,c < 256):val l < 256 ^ l.length:=by
  induction l with
  | nil=>decide
  | cons c l ih=>
    rw [show val (c::l)=c * 256 ^ l.length + val l from (jx [c] l).trans (congrArg (· * _ + _) (Nat.zero_add c)),List.length_cons,Nat.pow_succ']
    exact Nat.lt_of_lt_of_le (Nat.add_lt_add_left (ih fun x hx=>h x (.tail _ hx)) _) ((Nat.succ_mul c _).symm▸Nat.mul_le_mul_right _ (h c (.head _)))
theorem kM {n:Nat} {x y:List Nat} (h:dec n=x++y):n / 256 ^ y.length=val x∧n % 256 ^ y.length=val y:=by
  have hy:val y < 256 ^ y.length:=Iw fun c hc=>qq n c (h▸List.mem_append_right _ hc)
  have e:n=256 ^ y.length * val x + val y:=by rw [Nat.mul_comm,← jx,← h,iO]
  rw [e,Nat.mul_add_div (Nat.pow_pos (by decide)),Nat.mul_add_mod,Nat.div_eq_of_lt hy,Nat.mod_eq_of_lt hy]
  exact ⟨rfl,rfl⟩
theorem sj {a b:Nat} {r s:List Nat} (h:Nat.ble (dK a) (dK b)=true) (hn:(!Nat.beq a (b / 256 ^ (dK b - dK a)))=true):dec a++r≠dec b++s:=fun e=>by
  obtain ⟨t,q⟩:=List.prefix_of_prefix_length_le ⟨r,e⟩ ⟨s,rfl⟩ (by rw [eW,eW]; exact Nat.le_of_ble_eq_true h)
  have hl:t.length=dK b - dK a:=by rw [← eW,← eW,← q,List.length_append,Nat.add_sub_cancel_left]
  exact Nat.ne_of_beq_eq_false (nt hn) (hl▸(kM q.symm).1.trans (iO a)).symm
theorem sk {a b:Nat} {r s:List Nat} (h:Nat.ble (dK a) (dK b)=true) (hn:(!Nat.beq a (b % 256 ^ dK a))=true):r++dec a≠s++dec b:=fun e=>by
  obtain ⟨t,q⟩:=List.suffix_of_suffix_length_le ⟨r,e⟩ ⟨s,rfl⟩ (by rw [eW,eW]; exact Nat.le_of_ble_eq_true h)
  exact Nat.ne_of_beq_eq_false (nt hn) (eW a▸(kM q.symm).2.trans (iO a)).symm
theorem sq {a b:Nat} (h:Nat.ble a b=false):Nat.ble b a=true:=Nat.ble_eq.mpr (Nat.le_of_not_le fun q=>Bool.false_ne_true (h.symm.trans (Nat.ble_eq.mpr q)))
noncomputable def ia (i:Int):List Nat:=(toString i).toList.map Char.toNat
noncomputable def uG (c:Nat):Bool:=decide (48≤c)&&decide (c≤57)
noncomputable def dgL (m:Nat):List Nat:=(Nat.toDigits 10 m).map Char.toNat
theorem gu (m:Nat):ia (Int.ofNat m)=dgL m:=by
  show (Nat.repr m).toList.map Char.toNat=_
  rw [Nat.toList_repr]; rfl
theorem mD (m:Nat):ia (Int.negSucc m)=45::dgL (m + 1):=by
  show ("-" ++ Nat.repr (m + 1)).toList.map Char.toNat=_
  rw [String.toList_append,Nat.toList_repr]; rfl
theorem sr {m c:Nat} (hc:c∈dgL m):uG c=true:=by
  obtain ⟨ch,h,rfl⟩:=List.mem_map.mp hc
  exact Nat.isDigit_of_mem_toDigits (by decide) (by decide) h
theorem wV {m n:Nat} (h:dgL m=dgL n):m=n:=by
  rw [← Nat.ofDigitChars_ten_toDigits (n:=m),(List.map_inj_right fun a b h=>Char.ext (UInt32.toNat_inj.mp h)).mp h,Nat.ofDigitChars_ten_toDigits]
theorem wW (i:Int):∀ c∈ia i,c < 128:=by
  have h:∀ {m c},c∈dgL m->c < 128:=fun hc=>aa (sr hc) fun _ q=>Nat.lt_of_le_of_lt (of_decide_eq_true q) (by decide)
  cases i with
  | ofNat m=>rw [gu]; exact fun c=>h
  | negSucc m=>rw [mD]; exact fun c hc=>(List.mem_cons.mp hc).elim (fun e=>e▸by decide) h
variable {nu:Nat->Int}
noncomputable def Pc.den (nu:Nat->Int) (p:Pc):List Nat:=p.rec dec fun i=>ia (i.den nu)
noncomputable def aN (nu:Nat->Int) (l:List Pc):List Nat:=l.rec [] fun p _ ih=>p.den nu++ih
noncomputable def SS.den (nu:Nat->Int) (x:SS):List Nat:=aN nu x.pcs
theorem bP (l r:List Pc):aN nu (l++r)=aN nu l++aN nu r:=by
  induction l with
  | nil=>rfl
  | cons p l ih=>exact (congrArg (p.den nu++·) ih).trans (List.append_assoc ..).symm
theorem Aw (a:Nat) (r:List Pc):aN nu (D1 a r)=dec a++aN nu r:=by
  cases r with
  | nil=>rfl
  | cons q r=>cases q with
    | lit b=>exact (congrArg (·++aN nu r) (Ed a b)).trans (List.append_assoc ..)
    | int i=>rfl
theorem yp {i:Int} (h:(iLe 0 i&&iLe i 9)=true):dec (48 + i.toNat)=ia i:=aa h fun a b=>by
  obtain ⟨n,rfl⟩:=Int.eq_ofNat_of_zero_le (dE a)
  have z:∀ n,n≤9->dec (48 + n)=dgL n:=by decide +kernel
  exact (z n (Int.ofNat_le.mp (dE b))).trans (gu n).symm
theorem uH (h0:nu 0=0) (l:List Pc):aN nu (mx l)=aN nu l:=by
  induction l with
  | nil=>rfl
  | cons p l ih=>
    have g:∀ a,aN nu (D1 a (mx l))=dec a++aN nu l:=fun a=>(Aw a _).trans (congrArg _ ih)
    cases p with
    | lit a=>exact ju (P:=fun x=>aN nu x=dec a++aN nu l) _ (fun e=>by rw [nb e]; exact ih) fun _=>g a
    | int i=>exact ju (P:=fun x=>aN nu x=ia (i.den nu)++aN nu l) _ (fun e=>aa e fun e h=>(g _).trans (by rw [yp h,show i.den nu=i.c from (congrArg (nu · + i.c) (nb e)).trans (IV.den_k h0 i.c)])) fun _=>congrArg (ia (i.den nu)++·) ih
theorem iP (h0:nu 0=0) (l:List Pc):(mkS l).den nu=aN nu l:=by
  rw [← uH h0 l]
  unfold mkS
  cases mx l with
  | nil=>rfl
  | cons p r=>cases r with
    | nil=>cases p <;> rfl
    | cons q r=>rfl
theorem mE (h0:nu 0=0) (x y:SS):(zS x y).den nu=x.den nu++y.den nu:=(iP h0 _).trans (bP ..)
theorem gv (n:Nat):(SS.lit n).den nu=dec n:=List.append_nil _
noncomputable def yq (l:List Nat):Prop:=∀ c r,l=c::r->uG c=false
theorem qr {r r':List Nat} (hr:yq r) (hr':yq r'):∀ {a b:List Nat},(∀ c∈a,uG c=true)->(∀ c∈b,uG c=true)->a++r=b++r'->a=b∧r=r':=by
  intro a
  induction a with
  | nil=>
    intro b _ hb h
    cases b with
    | nil=>exact ⟨rfl,h⟩
    | cons c b=>exact absurd ((hb c (.head _)).symm.trans (hr c _ h)) (by decide)
  | cons c a ih=>
    intro b ha hb h
    cases b with
    | nil=>exact absurd ((ha c (.head _)).symm.trans (hr' c _ h.symm)) (by decide)
    | cons d b=>
      obtain ⟨e,h⟩:=List.cons.inj h
      obtain ⟨x,y⟩:=ih (fun c q=>ha c (.tail _ q)) (fun c q=>hb c (.tail _ q)) h
      exact ⟨e▸x▸rfl,y⟩
theorem Ee {i j:Int} {r r':List Nat} (hr:yq r) (hr':yq r') (h:ia i++r=ia j++r'):i=j∧r=r':=by
  have m:∀ x,yq (45::x):=fun x c r e=>(List.cons.inj e).1▸rfl
  have ne:∀ n,dgL n≠[]:=fun n e=>Nat.toDigits_ne_nil (List.map_eq_nil_iff.mp e)
  have d:∀ {n},∀ c∈dgL n,uG c=true:=fun _=>sr
  cases i <;> cases j <;> simp only [gu,mD] at h
  · exact (qr hr hr' d d h).imp (fun e=>congrArg _ (wV e)) id
  · exact absurd (qr (b:=[]) hr (m _) d (fun _ q=>nomatch q) h).1 (ne _)
  · exact absurd (qr (b:=[]) hr' (m _) d (fun _ q=>nomatch q) h.symm).1 (ne _)
  · exact (qr hr hr' d d (List.cons.inj h).2).imp (fun e=>congrArg _ (Nat.succ.inj (wV e))) id
theorem mF {l:List Pc} (h:sd l=true):yq (aN nu l):=by
  cases l with
  | nil=>exact fun _ _ e=>nomatch e
  | cons p l=>cases p with
    | int i=>exact ff h
    | lit a=>
      intro c r e
      have hd:∃ t,dec a=c::t:=by
        cases q:dec a with
        | nil=>rw [← iO a,q] at h; exact ff h
        | cons d t=>exact ⟨t,by have e:dec a++aN nu l=c::r:=e; rw [q] at e; rw [(List.cons.inj e).1]⟩
      obtain ⟨t,q⟩:=hd
      have hv:a / 256 ^ (dK a - 1)=c:=by rw [← eW,q]; exact (kM (x:=[c]) q).1.trans (Nat.zero_add c)
      have h:((Nat.blt 0 c&&Nat.blt c 48) || Nat.blt 57 c)=true:=hv▸h
      exact dm h (fun h=>aa h fun _ h=>by rw [uG,decide_eq_false (Nat.not_le.mpr (Nat.blt_eq.mp h))]; rfl) fun h=>by rw [uG,decide_eq_false (p:=c≤57) (Nat.not_le.mpr (Nat.blt_eq.mp h)),Bool.and_false]
theorem uI (l:List Pc):∀ {r:List Pc} {ps:List (IV×IV)},KG l r=some ps->(aN nu l=aN nu r↔∀ p∈ps,p.1.den nu=p.2.den nu):=by
  induction l with
  | nil=>
    intro r ps h
    cases r with
    | nil=>rw [← sm h]; exact ⟨fun _ _ q=>(nomatch q),fun _=>rfl⟩
    | cons q r=>exact nn h
  | cons p l ih=>
    intro r ps h
    cases r with
    | nil=>exact nn h
    | cons q r=>cases p with
      | lit a=>cases q with
        | int j=>exact nn h
        | lit b=>
          refine bg (b:=Nat.beq a b) h (fun e h=>Iff.trans ?_ (ih h)) fun _=>nn
          show dec a++aN nu l=dec b++aN nu r↔_
          rw [nb e,List.append_cancel_left_eq]
      | int i=>cases q with
        | lit b=>exact nn h
        | int j=>
          refine bg (b:=sd l&&sd r) h (fun e h=>aa e fun hl hr=>ao h fun x hx h=>?_) fun _=>nn
          rw [← sm h]
          exact ⟨fun h p hp=>(fun q=>(List.mem_cons.mp hp).elim (fun e=>e▸q.1) ((ih hx).mp q.2 p)) (Ee (mF hl) (mF hr) h),fun h=>by
            show ia (i.den nu)++aN nu l=ia (j.den nu)++aN nu r
            rw [h (i,j) (.head _),(ih hx).mpr fun p hp=>h p (.tail _ hp)]⟩
theorem ln {n:Nat} (l:List Pc):qi l=some n->∃ r,aN nu l=r++dec n:=by
  induction l with
  | nil=>exact nn
  | cons p l ih=>cases l with
    | nil=>cases p with
      | lit m=>exact fun h=>⟨[],sm h▸List.append_nil _⟩
      | int i=>exact nn
    | cons q l=>exact fun h=>(ih h).elim fun r hr=>⟨p.den nu++r,(congrArg (p.den nu++·) hr).trans (List.append_assoc ..).symm⟩
theorem oR {n:Nat} {l:List Pc} (h:zT l=some n):∃ r,aN nu l=dec n++r:=by
  cases l with
  | nil=>exact nn h
  | cons p l=>cases p with
    | lit m=>exact ⟨aN nu l,sm h▸rfl⟩
    | int i=>exact nn h
theorem su {l r:List Pc} (h:HI l r=true):aN nu l≠aN nu r:=
  dm h (fun h=>ad h fun a ha h=>ad h fun b hb h=>(oR (nu:=nu) ha).elim fun x hx=>(oR (nu:=nu) hb).elim fun y hy=>hx▸hy▸aQ h (fun e h=>sj e h) fun e h=>(sj (sq e) h).symm)
    fun h=>ad h fun a ha h=>ad h fun b hb h=>(ln (nu:=nu) _ ha).elim fun x hx=>(ln (nu:=nu) _ hb).elim fun y hy=>hx▸hy▸aQ h (fun e h=>sk e h) fun e h=>(sk (sq e) h).symm
theorem ma (h0:nu 0=0) {x y:SS} {σ:St} {k:Bool->St->T} {G:Prop} (H:cC nu σ.f) (h:eqS x y σ k=true) (g:∀ τ,bp nu σ τ->k (decide (x.den nu=y.den nu)) τ=true->G):G:=
  az h (fun _ h=>az h (fun _ h=>aa h fun e h=>g σ (.refl H) ((decide_eq_false (p:=x.den nu=y.den nu) (su e)).symm▸h))
    fun l hl h=>yo h0 l H h fun τ a h=>g τ a ((decide_eq_decide.mpr (uI (nu:=nu) _ hl)).symm▸h:k (decide (aN nu x.pcs=aN nu y.pcs)) τ=true))
  fun q hq h=>ao hq fun a ha hq=>ao hq fun b hb hq=>g σ (.refl H) (by
    rw [SS.lit_of ha,SS.lit_of hb,gv,gv,decide_eq_decide.mpr ⟨qp,congrArg dec⟩,← Ak,sm hq]; exact h)
end
end
end Mine
namespace Mine
section
open PySem PySem.W PyProof.Rows
section
noncomputable def tx (n:Nm):Str:=⟨(dec n).toArray⟩
noncomputable def sx (l:List Nat):Str:=⟨l.toArray⟩
noncomputable def bx (l:List Nat):Array UInt8:=(l.map UInt8.ofNat).toArray
theorem qs {a b:List Nat} (h:sx a=sx b):a=b:=congrArg (fun x:Str=>x.cps.toList) h
theorem jy {a b:Nat} (h:tx a=tx b):a=b:=qp (qs h)
inductive au {α β:Type} (R:α->β->Prop):List α->List β->Prop
  | nil:au R [] []
  | cons {a b l r}:R a b->au R l r->au R (a::l) (b::r)
section
variable {α β:Type} {R S:α->β->Prop} {l:List α} {r:List β}
theorem au.mono (h:∀ a b,R a b->S a b) (x:au R l r):au S l r:=x.rec .nil fun a _=>.cons (h _ _ a)
theorem au.length (x:au R l r):l.length=r.length:=x.rec rfl fun _ _=>congrArg (· + 1)
theorem au.len {r:Array β} (x:au R l r.toList):r.size=l.length:=x.length.symm
theorem au.append {l':List α} {r':List β} (x:au R l r) (y:au R l' r'):au R (l++l') (r++r'):=x.rec y fun a _=>.cons a
theorem au.nth {G:Prop} {a:α} (x:au R l r):∀ {i},qh l i=some a->(∀ b,r[i]?=some b->R a b->G)->G:=by
  induction x with
  | nil=>exact nn
  | cons q _ ih=>
    intro i h g
    cases i with
    | zero=>exact g _ rfl (sm h▸q)
    | succ i=>exact ih h g
theorem au.set {a:α} {b:β} (x:au R l r) (h:R a b):∀ i,au R (l.set i a) (r.set i b):=by
  induction x with
  | nil=>exact fun _=>.nil
  | cons q x ih=>exact fun i=>i.rec (.cons h x) fun i _=>.cons q (ih i)
theorem au.mem {b:β} (x:au R l r) (hb:b∈r):∃ a,a∈l∧R a b:=by
  induction x with
  | nil=>exact nomatch hb
  | cons q _ ih=>exact (List.mem_cons.mp hb).elim (fun e=>⟨_,.head _,e▸q⟩) fun m=>(ih m).imp fun _=>.imp_left (.tail _)
theorem au.uncons {a:α} {P:List β->Prop} (x:au R (a::l) r) (g:∀ b t,R a b->au R l t->P (b::t)):P r:=by cases x with | cons q x=>exact g _ _ q x
theorem au.unnil {P:List β->Prop} (x:au R [] r) (g:P []):P r:=by cases x; exact g
theorem au.one {a:α} {P:List β->Prop} (x:au R [a] r) (g:∀ b,R a b->P [b]):P r:=x.uncons fun b _ q x=>x.unnil (P:=fun t=>P (b::t)) (g b q)
theorem au.two {a b:α} {P:List β->Prop} (x:au R [a,b] r) (g:∀ c d,R a c->R b d->P [c,d]):P r:=x.uncons fun c _ q x=>x.one (P:=fun t=>P (c::t)) fun d z=>g c d q z
end
noncomputable def Ty.nm (t:Ty):String:=t.rec "int" "str" "list" "dict" "set" "bool" "tuple" "bytes" "ValueError" "AssertionError" "KeyError" "RuntimeError" "TypeError" "Exception" "BaseException" "object" "LookupError" "enumerate"
noncomputable def Bi.nm (b:Bi):String:=b.rec "len" "isinstance" "sorted" "all"
inductive fq:AV->Value->Prop
  | mk (n:Nm) (t:Tok):fq (kv n) (.str (tx n) t)
inductive jz:aj->Obj->Prop
  | list {xs o l n} (c:o.cls=.type "list") (d:o.dict=none) (e:o.data=.seq l n) (al:au fq xs l.toList):jz (.list xs) o
  | tup {xs o l n} (c:o.cls=.type "tuple") (e:o.data=.seq l n) (al:au fq xs l.toList):jz (.tup xs) o
inductive mG:AV->Value->Prop
  | top (a):mG (.top a) (.ref a)
  | ty (n:Ty):mG (.ty n) (.type n.nm)
  | blt (b:Bi):mG (.blt b) (.builtin b.nm)
  | str (n t):mG (kv n) (.str (tx n) t)
noncomputable def uJ (e:DictEntry):Bool:=match e.key with
  | .str _ _=>true
  | _=>false
noncomputable def Ax (o:Obj):Option (Array DictEntry×Nat):=match o.data with
  | .dict es n=>some (es,n)
  | _=>none
noncomputable def Ix (o:Obj):Option ClassData:=match o.data with
  | .cls cd=>some cd
  | _=>none
noncomputable def sv (v:Value):Option Addr:=match v with
  | .ref a=>some a
  | _=>none
theorem yr {e:DictEntry} (h:uJ e=true):∃ x t,e.key=.str x t:=by
  unfold uJ at h
  split at h
  · exact ⟨_,_,by assumption⟩
  · cases h
theorem sw {o:Obj} {p:Array DictEntry×Nat} (h:Ax o=some p):o=⟨o.cls,o.dict,.dict p.1 p.2,o.slots⟩:=by
  obtain ⟨c,d,dt,sl⟩:=o
  cases dt <;> first | exact nn h | exact sm h▸rfl
theorem wX {o:Obj} {cd:ClassData} (h:Ix o=some cd):o=⟨o.cls,o.dict,.cls cd,o.slots⟩:=by
  obtain ⟨c,d,dt,sl⟩:=o
  cases dt <;> first | exact nn h | exact sm h▸rfl
theorem gw {v:Value} {a:Addr} (h:sv v=some a):v=.ref a:=by cases v <;> first | exact nn h | exact sm h▸rfl
noncomputable def jA (K:Frag) (a:Addr):Bool:=ob (op (K.lookup a) Ax) fun p=>p.1.toList.all uJ
theorem Ef {K:Frag} {a:Addr} {o:Obj} {p:Array DictEntry×Nat} (ho:K.lookup a=some o) (hp:Ax o=some p) {x:Str} {r:Option Value} (hr:nsIn K a x=some r):nsFind p.1 x=r:=by
  unfold nsIn at hr
  rw [ho,sw hp] at hr
  dsimp only at hr
  unfold nsFind findBy
  rw [← Array.find?_toList]
  cases hf:p.1.toList.find? (·.key.isStr x) with
  | some en=>rw [hf] at hr; exact sm hr
  | none=>
    rw [hf] at hr
    exact tf (p.1.toList.any (·.refKey)) (fun e=>by dsimp only at hr; rw [if_pos e] at hr; exact nn hr) fun e=>by dsimp only at hr; rw [e] at hr; exact sm hr
theorem lp {K:Frag} {h:Heap} (X:K.In h) {a:Addr} (e:jA K a=true):∃ m,h.Ns a m∧∀ x r,nsIn K a x=some r->m x=r:=
  ad e fun p hp e=>ao hp fun o ho hp=>⟨nsFind p.1,⟨o,p.1,p.2,X _ _ ho,congrArg Obj.data (sw hp),fun en hen=>yr (List.all_eq_true.mp e en (Array.mem_toList_iff.mpr hen)),fun _=>rfl⟩,fun x r=>Ef ho hp⟩
noncomputable def mH:List Value:=[.type "Exception", .type "BaseException", .type "object"]
noncomputable def uK (K:Frag) (a:Addr):Bool:=jA K a&&nsIn K a "__init__" == some none
noncomputable def Ay (K:Frag) (l:List Value):Bool:=l.rec false fun v tl ih=>(v::tl==mH) || ob (sv v) fun A=>ob (op (K.lookup A) Ix) fun cd=>uK K cd.ns&&ih
noncomputable def Az (K:Frag) (C:Addr):Bool:=ob (K.lookup C) fun o=>ob (Ix o) fun cd=>(fun g=>(o.cls==.type "type" && (cd.mro==.ref C::cd.mro.tail&&o.slots==#[g 0,g 1,g 2,g 3,some (.builtin "Exception.__new__"),g 5]))&&(!cd.hasDel&&(cd.mro.tail.contains (.type "BaseException")&&(Ay K cd.mro.tail&&uK K cd.ns)))) fun i:Nat=>o.slots.getD i none
noncomputable def AA (o:Obj):Bool:=match o.data with | .plain=>true | _=>false
theorem yt {o:Obj} (h:AA o=true):o.data=.plain:=by
  obtain ⟨c,d,dt,sl⟩:=o
  cases dt <;> first | rfl | exact ff h
noncomputable def wY (K:Frag):Bool:=ob (op (op (nsIn K mainGlobals "__builtins__") id) sv) fun bm=>bm != builtinsNs&&(bm != mainGlobals&&ob (K.lookup bm) fun o=>o.cls==.type "module" && (o.dict==some builtinsNs&&AA o))
structure KN (K:Frag) (f:Addr):Prop where
  ty:typeIn K (.ref f)=some (.type "function")
  ob:∃ o fd,K.lookup f=some o∧o.data=.func fd
structure wZ (K:Frag) (c:Nat) (x:Str):Prop where
  no:findIn K (.ref c) x=some none
  cp:copiedNames.contains x=false
  sa:findIn K (.ref c) "__setattr__" = some (some (.builtin "object.__setattr__"))
  po:plainOver K c=true
  tk:takerIn K c x=some none
  dc:(clsIn K c).any (·.hasDict)=true
inductive AB (K:Frag) (c:Nat) (x:Str) (a:AV):Prop
  | mk (v:Value) (cp:copiedNames.contains x=false) (fi:findIn K (.ref c) x=some (some v)) (sp:specialIn K v "__get__" = some none) (hd:handedIn v=true) (td:fq a v) (fc:findCls K (.ref c) (.type "type") x=some (.val v))
inductive AC (K:Frag) (c:Nat) (x:Str) (f:Addr):Prop
  | mk (p:Addr) (rest:List Value) (fi:findIn K (.ref c) x=some (some (.ref p))) (sp:specialIn K (.ref p) "__get__" = some (some (.builtin "property.__get__"))) (tk:takesIn K (.ref p)=some true) (rc:recIn K p "property" = some (.ref f::rest))
inductive KO (K:Frag) (c:Nat) (x:Str) (f:Addr):Prop
  | mk (p:Addr) (rest:List Value) (ga:specialIn K (.ref c) "__getattribute__" = some (some (.builtin "type.__getattribute__"))) (fc:findCls K (.ref c) (.type "type") x=some (.get (.builtin "classmethod.__get__") (.ref p) .none (.ref c))) (rc:recIn K p "classmethod" = some (.ref f::rest)) (ob:∃ o fd,K.lookup f=some o∧o.data=.func fd)
noncomputable def uL (K:Frag) (c:Nat) (x:Str) (fd:Fd):Prop:=fd.rec (fun f=>findIn K (.ref c) x=some (some (.ref f))∧KN K f) (AC K c x) (KO K c x) (AB K c x) (wZ K c x)
noncomputable def kn (k:Nat):String:=(qh ["int", "str", "list", "dict", "bool", "NoneType"] k).getD ""
structure w0 (K:Frag) (c:Nat) (cl:Cls):Prop where
  cd:∃ cd,clsIn K c=some cd∧cd.hasDict=true
  ga:findIn K (.ref c) "__getattribute__" = some (some (.builtin "object.__getattribute__"))
  gm:findIn K (.ref c) "__getattr__" = some none
  rd:readsIn K c (.type "type")=true
  mks:makesIn K c=true
  ini:findIn K (.ref c) "__init__" = some (some (.ref cl.init))
  inT:typeIn K (.ref cl.init)=some (.type "function")
  pg:plainGet K c "__class__" = true
  hd:hasDictIn K c=true
  fc:findIn K (.ref c) "__class__" = some (some (.builtin "object.__class__"))
  mro:mroIn K c (.type "object")=some true
  kit:∀ k,Nat.ble k 5=true->kitOne K (.type (kn k)) (.ref c)=some false
  attr:∀ m fd,cl.attrs.get m=some fd->uL K c (tx m) fd
structure KP (K:Frag) (P:Pg):Prop where
  bmain:wY K=true
  gns:jA K mainGlobals=true∧jA K builtinsNs=true
  glob:∀ n a,look P.globs n=some a->(∃ v,nsIn K mainGlobals (tx n)=some (some v)∧mG a v)∨(nsIn K mainGlobals (tx n)=some none∧∃ v,nsIn K builtinsNs (tx n)=some (some v)∧mG a v)
  excs:∀ c cl,P.clss.get c=some cl->cl.exc=true->Az K c=true
  tru:∀ c cl,P.clss.get c=some cl->cl.tru=true->findIn K (.ref c) "__bool__" = some none∧findIn K (.ref c) "__len__" = some none
  objs:∀ a o,P.objs.get a=some o->∃ ob,K.lookup a=some ob∧jz o ob
  defs:∀ a x,P.defs.get a=some x->∃ ob fd,K.lookup a=some ob∧ob.data=.func fd
  cls:∀ c cl,P.clss.get c=some cl->cl.exc=false->w0 K c cl
  noat:∀ c cl m fd,P.clss.get c=some cl->cl.attrs.get m=some fd->cl.exc=false
  isiG:specialIn K (.builtin "object.__class__") "__get__" = some (some (.builtin "getset_descriptor.__get__"))∧takesIn K (.builtin "object.__class__")=some true
  isiD:∀ d cd c ca,P.clss.get d=some cd->P.clss.get c=some ca->cd.exc=false->ca.exc=false->kitOne K (.ref d) (.ref c)=some (zW cd.mro (.top c))
  isiU:∀ k i,Nat.ble k 4=true->Nat.ble i 3=true->kitOne K (.type (kn k)) (.type (kn i))=some (Nat.beq k i || (Nat.beq k 4&&Nat.beq i 0))
noncomputable def Df.ok (nu:Nat->Int) (d:Df):Prop:=nu d.y=be d.md (Int.fmod (nu d.x) d.m) (Int.fdiv (nu d.x) d.m)
structure Cx where
  prog:Program
  w:World
  nu:Nat->Int
  h0:nu 0=0
  hB:∀ x,hO x=false->-100000≤nu x∧nu x≤100000
  D:List Df
  hD:∀ d∈D,d.ok nu
  om:Nat->Value
  K:Frag
  P:Pg
  pok:KP K P
  mods:(K.lookup sysModules).isSome=true
  fn:Nat->FuncData->Prop
  os:OsState
  tb:List (Addr×(Nat->Nat->Str))
  cq:Scope->Value->Str->Prop
  tf:List Addr
  tbf:∀ q∈tb,q.1∉tf
structure Pl where
  n:Nat
  at_:Nat->Addr
  cs:List (Addr×Option Obj)
structure Pl.le (V V':Pl):Prop where
  n:V.n≤V'.n
  at_:∀ i,i < V.n->V'.at_ i=V.at_ i
  cs:∀ p∈V.cs,p∈V'.cs
theorem Pl.le_refl (V:Pl):V.le V:=⟨Nat.le_refl _,fun _ _=>rfl,fun _ h=>h⟩
theorem Pl.le_trans {a b c:Pl} (x:a.le b) (y:b.le c):a.le c:=⟨Nat.le_trans x.1 y.1,fun i h=>(y.2 i (Nat.lt_of_lt_of_le h x.1)).trans (x.2 i h),fun p h=>y.3 p (x.3 p h)⟩
inductive ec (V:Pl):Value->Str->Prop
  | mk {c oc vs qn t} (m:(c,some oc)∈V.cs) (d:oc.data=.fields vs) (n:vs[1]?=some (.str qn t)):ec V (.ref c) qn
theorem ec.cs {V V':Pl} (h:∀ p∈V.cs,p∈V'.cs) {cv:Value} {qn:Str} (x:ec V cv qn):ec V' cv qn:=x.rec fun m d n=>.mk (h _ m) d n
section
variable (X:Cx)
noncomputable def den (V:Pl) (a:AV) (v:Value):Prop:=a.rec (v=.none) (fun q=>v=.bool q) (fun i=>∃ t,v=.int (i.den X.nu) t) (fun x=>∃ t,v=.str (sx (x.den X.nu)) t) (fun x=>∃ t,v=.bytes (bx (x.den X.nu)) t) (fun i=>i < V.n∧v=.ref (V.at_ i))
  (fun a=>v=.ref a) (fun n=>v=.type n.nm) (fun b=>v=.builtin b.nm) (fun i j=>v=.bool (decide (i.den X.nu=j.den X.nu))) fun k=>v=X.om k
noncomputable def ub (n:Nm):List UInt8:=(dec n).map UInt8.ofNat
noncomputable def kvR {K:Type} (kx:Nm->K) (V:Pl) (e:Nm×AV) (p:K×Value):Prop:=p.1=kx e.1∧den X V e.2 p.2
inductive dw {K:Type} [DecidableEq K] (knd:PySem.KeyKind X.prog X.w K) (kx:Nm->K) (V:Pl) (es:List (Nm×AV)) (o:Obj):Prop
  | mk (kvs) (io:o.IsDictOf knd kvs) (al:au (kvR X kx V) es kvs)
inductive qt (V:Pl) (xs:List AV) (o:Obj):Prop
  | mk (l n) (hd:o.data=.seq l n) (al:au (den X V) xs l.toList)
inductive PlR (V:Pl) (p:IV) (xs:List AV) (o:Obj):Prop
  | mk (l n pre post) (hd:o.data=.seq l n) (e:l.toList=pre++post) (hp:(pre.length:Int)=p.den X.nu) (al:au (den X V) xs post)
inductive HM (V:Pl) (xs:List AV) (es:Array (Int×Value)) (t:SetTable):Prop
  | lit (n) (e:xs=[kv n]) (z:es.size=1) (f:t.fits es.size=true)
  | few (own:∀ a∈xs,∃ i,a=AV.own i) (le:es.size≤xs.length) (mask:t.mask=7) (dum:t.dummies=#[]) (pl:t.place.size=es.size) (mem:∀ e∈es.toList,∃ i,AV.own i∈xs∧i < V.n∧e.2=.ref (V.at_ i))
  | many (h:5≤xs.length)
inductive Eg (V:Pl) (xs:List AV):Obj->Prop
  | mk (es ep t) (h:HM V xs es t):Eg V xs ⟨.type "set", none,.set es ep t,#[]⟩
inductive i5 (V:Pl) (x:Option AV) (o:Obj):Prop
  | mk (y) (hd:o.data=.cell y) (hv:∀ a,x=some a->∃ v,y=some v∧den X V a v)
inductive FnR (V:Pl) (p:Nat) (cl:List (Nm×Nat)) (o:Obj):Prop
  | mk (fd) (hd:o.data=.func fd) (f:X.fn p fd) (c:ec V fd.code fd.qualname) (cs:∀ n i,look cl n=some i->i < V.n∧fd.closure.lookup (tx n)=some (V.at_ i))
noncomputable def objR (V:Pl) (a:aj) (o:Obj):Prop:=a.rec (fun es=>dw X (strKind X.prog X.w) tx V es o) (fun es=>dw X (bytesKind X.prog X.w) ub V es o) (fun xs=>(o.cls=.type "list" ∧ o.dict=none)∧qt X V xs o) (fun p xs=>(o.cls=.type "list" ∧ o.dict=none)∧PlR X V p xs o)
  (fun xs=>o.cls=.type "tuple" ∧ qt X V xs o) (fun xs=>Eg V xs o) (fun c d=>d < V.n∧o={ cls:=.ref c,dict:=some (V.at_ d),data:=.plain }) (fun _=>False) (fun x=>i5 X V x o) (fun p cl=>FnR X V p cl o) (fun _=>True) True
end
section
variable {X:Cx} {V V':Pl} (h:V.le V')
include h
theorem gx {i:Nat} {P:Addr->Prop}:i < V.n∧P (V.at_ i)->i < V'.n∧P (V'.at_ i):=fun q=>⟨Nat.lt_of_lt_of_le q.1 h.1,(h.2 i q.1).symm▸q.2⟩
theorem aI {a:AV} {v:Value}:den X V a v->den X V' a v:=a.rec (motive:=fun a=>den X V a v->den X V' a v) id (fun _=>id) (fun _=>id) (fun _=>id) (fun _=>id) (fun _=>gx h (P:=fun a=>v=.ref a)) (fun _=>id) (fun _=>id) (fun _=>id) (fun _ _=>id) fun _=>id
theorem cZ {xs:List AV} {vs:List Value} (x:au (den X V) xs vs):au (den X V') xs vs:=x.mono fun _ _=>aI h
theorem dw.mono {K:Type} [DecidableEq K] {knd:PySem.KeyKind X.prog X.w K} {kx:Nm->K} {es:List (Nm×AV)} {o:Obj} (x:dw X knd kx V es o):dw X knd kx V' es o:=x.rec fun kvs io al=>.mk kvs io (al.mono fun _ _=>.imp_right (aI h))
theorem qt.mono {xs:List AV} {o:Obj} (x:qt X V xs o):qt X V' xs o:=x.rec fun l n e al=>.mk l n e (cZ h al)
theorem oS {a:aj} {o:Obj}:objR X V a o->objR X V' a o:=a.rec (motive:=fun a=>objR X V a o->objR X V' a o) (fun es=>dw.mono h) (fun es=>dw.mono h) (fun _=>.imp_right (qt.mono h)) (fun _ _=>.imp_right fun x=>x.rec fun l n p q e f g al=>.mk l n p q e f g (cZ h al))
  (fun _=>.imp_right (qt.mono h)) (fun _ x=>x.rec fun es ep t x=>.mk es ep t (x.rec .lit (fun a b c d e m=>.few a b c d e fun e he=>(m e he).imp fun i q=>⟨q.1,gx h (P:=fun a=>e.2=.ref a) q.2⟩) .many)) (fun c d=>gx h (P:=fun a=>o={ cls:=.ref c,dict:=some a,data:=.plain })) (fun _=>id)
  (fun _ x=>x.rec fun y e q=>.mk y e fun a ha=>(q a ha).imp fun v z=>⟨z.1,aI h z.2⟩) (fun _ _ x=>x.rec fun fd e f c q=>.mk fd e f (c.cs h.3) fun n i hi=>gx h (P:=fun a=>fd.closure.lookup (tx n)=some a) (q n i hi)) (fun _=>id) id
end
theorem bH {X:Cx} {V:Pl} {i:IV} {v:Value} {P:Value->Prop} (d:den X V (.int i) v) (g:∀ t,P (.int (i.den X.nu) t)):P v:=d.elim fun t e=>e▸g t
theorem bQ {X:Cx} {V:Pl} {x:SS} {v:Value} {P:Value->Prop} (d:den X V (.str x) v) (g:∀ t,P (.str (sx (x.den X.nu)) t)):P v:=d.elim fun t e=>e▸g t
theorem fh {X:Cx} {V:Pl} {x:SS} {v:Value} {P:Value->Prop} (d:den X V (.bytes x) v) (g:∀ t,P (.bytes (bx (x.den X.nu)) t)):P v:=d.elim fun t e=>e▸g t
theorem cO {X:Cx} {V:Pl} (n:Nm) (t:Tok):den X V (kv n) (.str (tx n) t):=⟨t,congrArg (fun l=>Value.str (sx l) t) (gv n).symm⟩
theorem fJ {X:Cx} {V:Pl} {n:Nm} {v:Value} {P:Value->Prop} (d:den X V (kv n) v) (g:∀ t,P (.str (tx n) t)):P v:=bQ d fun t=>(gv (nu:=X.nu) n).symm▸g t
theorem fq.den {X:Cx} {V:Pl} {a:AV} {v:Value} (h:fq a v):den X V a v:=h.rec cO
theorem mG.den {X:Cx} {V:Pl} {a:AV} {v:Value} (h:mG a v):den X V a v:=h.rec (fun _=>rfl) (fun _=>rfl) (fun _=>rfl) cO
theorem jz.objR {X:Cx} {V:Pl} {a:aj} {o:Obj} (h:jz a o):objR X V a o:=h.rec (fun c d e al=>⟨⟨c,d⟩,.mk _ _ e (al.mono fun _ _=>fq.den)⟩) fun c e al=>⟨c,.mk _ _ e (al.mono fun _ _=>fq.den)⟩
structure Fm where
  h₀:Heap
  L:Addr
  kp:List (Addr×Obj)
  sus:List (Addr×(Str->Option Value))
  lk:List (Nat×Addr)
structure eO (F:Fm) (V:Pl) (t:AT) (e:Addr):Prop where
  h0:F.h₀.get? e=none
  L:e≠F.L
  kp:∀ p∈F.kp,p.1≠e
  sus:∀ p∈F.sus,p.1≠e
  ob:∀ i o,t.get i=some o->V.at_ i≠e
structure cM (F:Fm) (V:Pl) (t:AT) (e:Addr):Prop where
  a0:eO F V t e
  cs:∀ p∈V.cs,p.1≠e
inductive Mt (F:Fm) (V:Pl) (t:AT) (h:Heap) (p:Addr×Option Obj):Prop
  | mk (ob) (aw:eO F V t p.1) (get:h.get? p.1=some ob) (eq:∀ oc,p.2=some oc->ob=oc)
inductive jV (V:Pl) (h:Heap) (P:Addr) (C:Pos->Value->Prop):Prop
  | mk (ps) (m:(P,none)∈V.cs) (get:h.get? P=some (tabObj ps)) (tr:TriplesOk ps.toList) (c:∀ pos cv,codeAmong pos ps.toList=some cv->C pos cv)
structure Cd (X:Cx) (F:Fm) (V:Pl) (t:AT) (h:Heap):Prop where
  cs:∀ p∈V.cs,Mt F V t h p
  tb:∀ q∈X.tb,jV V h q.1 fun pos cv=>ec V cv (q.2 pos.line pos.col)
  un:∀ p∈V.cs,∀ q∈X.tb,p.1=q.1->p.2=none
  tf:∀ P∈X.tf,jV V h P fun _ _=>True
  uf:∀ p∈V.cs,p.1∈X.tf->p.2=none
theorem ec.rec' {X:Cx} {F:Fm} {V:Pl} {t:AT} {h:Heap} (D:Cd X F V t h) {cv:Value} {qn:Str} (x:ec V cv qn):h.CodeRec cv qn:=
  x.rec fun m d n=>(D.cs _ m).rec fun ob _ g q=>⟨_,ob,_,_,rfl,g,(congrArg Obj.data (q _ rfl)).trans d,n⟩
theorem Cd.keep {X:Cx} {F F':Fm} {V V':Pl} {t t':AT} {h h':Heap} (D:Cd X F V t h) (hv:V'.cs=V.cs) (ha:∀ p∈V.cs,eO F V t p.1->∀ o,h.get? p.1=some o->eO F' V' t' p.1∧h'.get? p.1=some o):Cd X F' V' t' h':=by
  have tab:∀ {P C C'},jV V h P C->(∀ pos cv,C pos cv->C' pos cv)->jV V' h' P C':=fun x c=>x.rec fun ps m g tr k=>.mk ps (hv▸m) ((D.cs _ m).rec fun ob aw g' _=>(ha _ m aw _ g).2) tr fun pos cv e=>c pos cv (k pos cv e)
  exact ⟨fun p hp=>(D.cs p (hv▸hp)).rec fun ob aw g q=>.mk ob (ha p (hv▸hp) aw _ g).1 (ha p (hv▸hp) aw _ g).2 q,fun q hq=>tab (D.tb q hq) fun _ _=>ec.cs fun p m=>hv▸m,hv▸D.un,fun P hP=>tab (D.tf P hP) fun _ _=>id,hv▸D.uf⟩
inductive HN (X:Cx) (F:Fm) (V:Pl) (h:Heap) (i:Nat) (o:aj):Prop
  | mk (ob) (lt:i < V.n) (get:h.get? (V.at_ i)=some ob) (L:V.at_ i≠F.L) (h0:F.h₀.get? (V.at_ i)=none) (r:objR X V o ob)
inductive FrR (X:Cx) (F:Fm) (V:Pl) (loc:List (Nm×AV)) (h:Heap):Prop
  | mk (m) (K:Fr F.h₀ F.L h m) (l:∀ n a,look loc n=some a->∃ v,m (tx n)=some v∧den X V a v)
structure KQ (F:Fm) (V:Pl) (t:AT) (h:Heap) (p:Addr×(Str->Option Value)):Prop where
  ns:h.Ns p.1 p.2
  h0:F.h₀.get? p.1=none
  L:p.1≠F.L
  ob:∀ i o,t.get i=some o->V.at_ i≠p.1
structure Mem (X:Cx) (F:Fm) (V:Pl) (t:AT) (loc:List (Nm×AV)) (locks:List Nat) (h:Heap):Prop where
  fr:FrR X F V loc h
  obj:∀ i o,t.get i=some o->HN X F V h i o
  inj:∀ i j o p,t.get i=some o->t.get j=some p->V.at_ i=V.at_ j->i=j
  kept:News F.h₀ F.L h F.kp
  apart:∀ p∈F.kp,∀ i o,t.get i=some o->p.1=V.at_ i->(i,p.1)∈F.lk
  sus:∀ p∈F.sus,KQ F V t h p
  kps:∀ p∈F.kp,∀ q∈F.sus,p.1≠q.1
  lk:∀ q∈F.lk,inL locks q.1=true
  wf:∀ q∈F.lk,∃ p∈F.kp,p.1=q.2
  cd:Cd X F V t h
structure Rel (X:Cx) (F:Fm) (V:Pl) (σ:St) (s:Shared):Prop where
  mem:Mem X F V σ.t σ.loc σ.locks s.heap
  n:V.n=σ.n
  facts:cC X.nu σ.f
  os:s.os=X.os
  gens:AllBare s.gens
section
variable {X:Cx} {F:Fm} {V V':Pl} {t:AT} {loc:List (Nm×AV)} {locks:List Nat} {h h':Heap}
theorem jW {a:Addr} {m m':Str->Option Value} (x:h.Ns a m) (y:h.Ns a m'):m=m':=
  x.elim fun o x=>x.elim fun es x=>x.elim fun ep x=>y.elim fun o' y=>y.elim fun es' y=>y.elim fun ep' y=>by
    have e:=x.2.1.symm.trans ((congrArg Obj.data (sm (x.1.symm.trans y.1))).trans y.2.1)
    cases e
    exact funext fun z=>(x.2.2.2 z).symm.trans (y.2.2.2 z)
theorem Ns.get {a:Addr} {m:Str->Option Value} (x:h.Ns a m):h.get? a≠none:=x.elim fun o x=>x.elim fun _ x=>x.elim fun _ x e=>nn (e.symm.trans x.1)
theorem Eh {a:Addr} {m:Str->Option Value} (K:Fr F.h₀ F.L h m) (e:h.get? a=none):F.h₀.get? a=none:=by
  cases q:F.h₀.get? a with
  | none=>rfl
  | some o=>exact nn (e.symm.trans (K.keep a o q))
theorem Mem.away (M:Mem X F V t loc locks h) {a:Addr} (e:h.get? a=none):cM F V t a:=
  M.fr.rec fun m K _=>⟨⟨Eh K e,fun q=>Ns.get K.ns (q▸e),fun p hp q=>nn (e.symm.trans (q▸(M.kept p hp).1)),fun p hp q=>Ns.get (M.sus p hp).ns (q▸e),fun i o hi q=>(M.obj i o hi).rec fun ob _ g _ _ _=>nn (e.symm.trans (q▸g))⟩,fun p hp q=>(M.cd.cs p hp).rec fun ob _ g _=>nn (e.symm.trans (q▸g))⟩
theorem et {a:Addr} {m:Str->Option Value} (A:∀ o,h.get? a=some o->h'.get? a=some o) (x:h.Ns a m):h'.Ns a m:=x.imp fun _ x=>x.imp fun _ x=>x.imp fun _ x=>⟨A _ x.1,x.2⟩
theorem Mem.put (M:Mem X F V t loc locks h) {j:Nat} {o:aj} {ob:Obj} (le:V.le V') (hcs:V'.cs=V.cs) (lt:j < V'.n) (A:∀ b x,b≠V'.at_ j->b≠F.L->h.get? b=some x->h'.get? b=some x) (NL:∀ m,h.Ns F.L m->h'.Ns F.L m) (h0:F.h₀.get? (V'.at_ j)=none) (L:V'.at_ j≠F.L)
    (kp:∀ p∈F.kp,p.1≠V'.at_ j) (sus:∀ p∈F.sus,p.1≠V'.at_ j) (cs:∀ p∈V.cs,p.1≠V'.at_ j) (ot:∀ k x,t.get k=some x->k≠j->V.at_ k≠V'.at_ j) (get:h'.get? (V'.at_ j)=some ob) (r:objR X V' o ob):Mem X F V' (Tr.set o t j) loc locks h':=by
  have old:∀ {k x},t.get k=some x->V'.at_ k=V.at_ k:=fun {k x} e=>le.2 k ((M.obj k x e).rec fun _ lt _ _ _ _=>lt)
  have by_:∀ {k x} {P:Prop},(Tr.set o t j).get k=some x->(k=j->x=o->P)->(k≠j->t.get k=some x->P)->P:=fun {k x P} e f g=>(Decidable.em (k=j)).elim (fun q=>f q (sm ((if_pos q).symm.trans ((Tr.get_set o t j k).symm.trans e))).symm) fun q=>g q ((if_neg q).symm.trans ((Tr.get_set o t j k).symm.trans e))
  have neq:∀ {a k x},(Tr.set o t j).get k=some x->a≠V'.at_ j->(∀ k x,t.get k=some x->V.at_ k≠a)->V'.at_ k≠a:=fun e q g=>by_ e (fun z _=>z▸q.symm) fun _ e=>old e▸g _ _ e
  exact { fr:=M.fr.rec fun m K l=>.mk m ⟨NL m K.ns,fun b x e=>A b x (fun q=>nn ((q▸h0).symm.trans e)) (fun q=>absurd (Heap.lt_size e) (Nat.not_lt.mpr (q▸K.above))) (K.keep b x e),K.above⟩ fun n a e=>(l n a e).imp fun v q=>⟨q.1,aI le q.2⟩,obj:=fun k x e=>by_ e (fun z zx=>by subst z; rw [zx]; exact .mk ob lt get L h0 r) fun z e=>(M.obj k x e).rec fun ob lt g L h0 r=>.mk ob (Nat.lt_of_lt_of_le lt le.1) (old e▸A _ _ (ot k x e z) L g) (old e▸L) (old e▸h0) (oS le r),inj:=fun k l x y e f q=>by_ e (fun z _=>by_ f (fun z' _=>z.trans z'.symm) fun z' f=>absurd (old f▸z▸q.symm) (ot l y f z')) fun z e=>by_ f (fun z' _=>absurd (old e▸z'▸q) (ot k x e z)) fun _ f=>M.inj k l x y e f (old e▸old f▸q),kept:=fun p hp=>have q:=M.kept p hp; ⟨A _ _ (kp p hp) q.2.1 q.1,q.2⟩,apart:=fun p hp k x e q=>by_ e (fun z _=>absurd (z▸q) (kp p hp)) fun _ e=>M.apart p hp k x e (old e▸q),sus:=fun p hp=>have q:=M.sus p hp; ⟨et (fun _=>A _ _ (sus p hp) q.L) q.ns,q.h0,q.L,fun k x e=>neq e (sus p hp) q.ob⟩,kps:=M.kps,lk:=M.lk,wf:=M.wf,cd:=M.cd.keep hcs fun p hp aw o e=>⟨⟨aw.h0,aw.L,aw.kp,aw.sus,fun k x f=>neq f (cs p hp) aw.ob⟩,A _ _ (cs p hp) aw.L e⟩ }
theorem Mem.ext (M:Mem X F V t loc locks h) (A:∀ b x,h.get? b=some x->h'.get? b=some x):Mem X F V t loc locks h':=by
  exact { M with fr:=M.fr.rec fun m K l=>.mk m ⟨et (A _) K.ns,fun b x e=>A b x (K.keep b x e),K.above⟩ l,obj:=fun k x e=>(M.obj k x e).rec fun ob lt g L h0 r=>.mk ob lt (A _ _ g) L h0 r,kept:=fun p hp=>⟨A _ _ (M.kept p hp).1,(M.kept p hp).2⟩,sus:=fun p hp=>have q:=M.sus p hp; ⟨et (A _) q.ns,q.h0,q.L,q.ob⟩,cd:=M.cd.keep rfl fun p hp aw o e=>⟨aw,A _ _ e⟩ }
end
section
variable {X:Cx} {F:Fm} {V:Pl} {σ σ':St} {s:Shared} {G:Prop}
theorem Rel.obj (R:Rel X F V σ s) {i:Nat} {o:aj} (e:σ.t.get i=some o):HN X F V s.heap i o:=R.mem.obj i o e
theorem Rel.fr (R:Rel X F V σ s):FrR X F V σ.loc s.heap:=R.mem.fr
theorem Rel.keep (R:Rel X F V σ s) {b:Addr} {o:Obj} (e:F.h₀.get? b=some o):s.heap.get? b=some o:=R.fr.rec fun _ K _=>K.keep b o e
theorem Rel.toks (R:Rel X F V σ s) (t:Tok):Rel X F V σ { s with toks:=t }:=⟨R.mem,R.n,R.facts,R.os,R.gens⟩
theorem Rel.asks (R:Rel X F V σ s) (a:bp X.nu σ σ'):Rel X F V σ' s:=a.rec fun f h=>⟨R.mem,R.n,h,R.os,R.gens⟩
theorem Rel.ext (R:Rel X F V σ s) {h':Heap} (hk:∀ b o,s.heap.get? b=some o->h'.get? b=some o) (t:Tok):Rel X F V σ { s with heap:=h',toks:=t }:=⟨R.mem.ext hk,R.n,R.facts,R.os,R.gens⟩
noncomputable def Pl.add (V:Pl) (a:Addr):Pl:=⟨V.n + 1,fun i=>if i=V.n then a else V.at_ i,V.cs⟩
theorem Pl.le_add (V:Pl) (a:Addr):V.le (V.add a):=⟨Nat.le_succ _,fun i h=>if_neg (Nat.ne_of_lt h),fun _ h=>h⟩
theorem Pl.add_at (V:Pl) (a:Addr):(V.add a).at_ V.n=a:=if_pos rfl
theorem Rel.away (R:Rel X F V σ s) {a:Addr} (e:s.heap.get? a=none):cM F V σ.t a:=R.mem.away e
theorem Rel.new (R:Rel X F V σ s) {h':Heap} (hk:∀ b o,s.heap.get? b=some o->h'.get? b=some o) {a:Addr} {o:aj} {ob:Obj} (ha:s.heap.get? a=none) (hn:h'.get? a=some ob) (ho:objR X (V.add a) o ob) (t:Tok):Rel X F (V.add a) (σ.add o) { s with heap:=h',toks:=t }:=by
  have w:=R.away ha
  have e:(V.add a).at_ σ.n=a:=R.n▸V.add_at a
  refine ⟨R.mem.put (V.le_add a) rfl (R.n▸Nat.lt_succ_self _) (fun b x _ _=>hk b x) (fun _=>et (hk _)) ?_ ?_ ?_ ?_ ?_ ?_ ?_ ho,congrArg (· + 1) R.n,R.facts,R.os,R.gens⟩ <;> rw [e]
  · exact w.a0.h0
  · exact w.a0.L
  · exact w.a0.kp
  · exact w.a0.sus
  · exact w.cs
  · exact fun k x e _=>w.a0.ob k x e
  · exact hn
theorem Rel.change (R:Rel X F V σ s) {h':Heap} {i:Nat} {o o':aj} {ob':Obj} (hi:σ.t.get i=some o) (hl:inL σ.locks i=false) (hs:∀ b x,b≠V.at_ i->b≠F.L->s.heap.get? b=some x->h'.get? b=some x) (NL:V.at_ i≠F.L->∀ m,s.heap.Ns F.L m->h'.Ns F.L m) (hn:h'.get? (V.at_ i)=some ob') (ho:objR X V o' ob') (t:Tok):Rel X F V (σ.put i o') { s with heap:=h',toks:=t }:=
  (R.obj hi).rec fun ob lt g L h0 _=>⟨R.mem.put (Pl.le_refl V) rfl lt hs (NL L) h0 L (fun p hp q=>Bool.false_ne_true (hl.symm.trans (R.mem.lk _ (R.mem.apart p hp i o hi q)))) (fun p hp q=>(R.mem.sus p hp).ob i o hi q.symm) (fun p hp q=>(R.mem.cd.cs p hp).rec fun _ aw _ _=>aw.ob i o hi q.symm)
    (fun k x e z q=>z (R.mem.inj k i x o e hi q)) hn ho,R.n,R.facts,R.os,R.gens⟩
theorem Rel.upd (R:Rel X F V σ s) {h':Heap} {i:Nat} {o o':aj} {ob':Obj} (hi:σ.t.get i=some o) (hl:inL σ.locks i=false) (hs:Heap.SameBut (V.at_ i) s.heap h') (hn:h'.get? (V.at_ i)=some ob') (ho:objR X V o' ob') (t:Tok):Rel X F V (σ.put i o') { s with heap:=h',toks:=t }:=
  R.change hi hl (fun b _ q _ e=>(hs.2 b q).trans e) (fun q m=>et fun o e=>(hs.2 _ q.symm).trans e) hn ho t
theorem Rel.store (R:Rel X F V σ s) {h':Heap} {n:Nm} {a:AV} {v:Value} {m:Str->Option Value} (hm:s.heap.Ns F.L m) (hv:den X V a v) (hn:h'.Ns F.L fun y=>if y=tx n then some v else m y) (hs:Heap.SameBut F.L s.heap h') (t:Tok):Rel X F V (σ.wl (put σ.loc n a)) { s with heap:=h',toks:=t }:=by
  have M:=R.mem
  have go:∀ {b x},b≠F.L->s.heap.get? b=some x->h'.get? b=some x:=fun {b x} q e=>(hs.2 b q).trans e
  refine ⟨{ M with fr:=M.fr.rec fun m' K l=>.mk _ (K.set (jW hm K.ns▸hn) hs) fun x b hb=>?_,obj:=fun k x e=>(M.obj k x e).rec fun ob lt g L h0 r=>.mk ob lt (go L g) L h0 r,kept:=fun p hp=>⟨go (M.kept p hp).2.1 (M.kept p hp).1,(M.kept p hp).2⟩,sus:=fun p hp=>have q:=M.sus p hp; ⟨q.ns.sameBut hs q.L,q.h0,q.L,q.ob⟩,cd:=M.cd.keep rfl fun p hp aw o e=>⟨aw,go aw.L e⟩ },R.n,R.facts,R.os,R.gens⟩
  have hb:look (put σ.loc n a) x=some b:=hb
  rw [Ao] at hb
  exact (Decidable.em (x=n)).elim (fun e=>⟨v,if_pos (congrArg tx e),sm ((if_pos e).symm.trans hb)▸hv⟩) fun e=>(l x b ((if_neg e).symm.trans hb)).imp fun u q=>⟨(if_neg fun z=>e (jy z)).trans q.1,q.2⟩
theorem Rel.notMods (R:Rel X F V σ s) (ht:X.K.In F.h₀) {i:Nat} {o:aj} (hi:σ.t.get i=some o):(V.at_ i==sysModules)=false:=
  (R.obj hi).rec fun _ _ _ _ h0 _=>(Option.isSome_iff_exists.mp X.mods).elim fun om hm=>beq_eq_false_iff_ne.mpr fun e=>nn (h0.symm.trans ((congrArg _ e).trans (ht _ _ hm)))
end
end
section
noncomputable def Iy (a:AV):Option Value:=oe a.top? (op a.ty? fun n=>some (.type n.nm)) fun a=>some (.ref a)
inductive Iz (F:Fm) (V:Pl) (t:AT) (h:Heap) (e:Addr) (vs:Array Value):Option Value->Prop
  | none (z:vs[1]?=some .none):Iz F V t h e vs none
  | tb {T oT ts fl} (z:vs[1]?=some (.ref T)) (aw:cM F V t T) (ne:T≠e) (g:h.get? T=some oT) (d:oT.data=.fields ts) (fr:ts[3]?=some fl):Iz F V t h e vs (some fl)
inductive sA (F:Fm):Option Value->Prop
  | new:sA F none
  | off:sA F (some .none)
  | on:sA F (some (rawInt F.L))
inductive gb (X:Cx) (F:Fm) (V:Pl) (σ:St) (s:Shared) (e:Addr) (cls a0:Value) (st:Option Value):Prop
  | mk {oe vs} (R:Rel X F V σ s) (aw:cM F V σ.t e) (g:s.heap.get? e=some oe) (cl:oe.cls=cls) (d:oe.data=.fields vs) (z:vs[0]?=some a0) (tb:Iz F V σ.t s.heap e vs st)
inductive Exn (X:Cx) (F:Fm) (V:Pl) (σ:St) (s:Shared):Value->AV->Prop
  | mk {e cls a0 st c} (x:gb X F V σ s e cls a0 st) (hc:Iy c=some cls) (hs:sA F st):Exn X F V σ s (.ref e) c
inductive uM (A:Around) (F:Fm):Prop
  | mk (envs) (e:A.frames=some envs) (ok:∀ e∈envs,e.scope.kind≠.module∧∃ Lf,e.frame=some Lf∧(Lf=F.L∨Lf∈F.sus.map (·.1)))
structure Fit (X:Cx) (f:Nat) (r:Rc) (sc:Scope) (A:Around) (env:Env) (ae:AE) (F:Fm) (V:Pl):Prop where
  loc:env.locals=F.L
  glob:env.globals=mainGlobals
  blt:env.builtins=builtinsNs
  scope:env.scope=sc
  kind:sc.kind=.function
  cells:∀ n i,look ae.cells n=some i->i < V.n∧env.cells.lookup (tx n)=some (V.at_ i)
  hand:ae.h=false->A.handled=none
  own:ae.c=false->env.frame=some F.L∧∃ outer,A.frames=some (env::outer)
  calls:A.handled=none∨∀ f as k ke σ,r f as k ke σ=false
  depth:A.depth + 5 * f < 1000
  units:A.units + 25 * f < 9000
  frames:uM A F
  top:X.K.In F.h₀
  lim:F.h₀.NoLimit
  cq:X.cq sc env.code env.qual
structure lS (X:Cx) (f:Nat) (A:Around) (F:Fm):Prop where
  hand:A.handled=none
  depth:A.depth + 5 * f < 1000
  units:A.units + 25 * f < 9020
  frames:uM A F
  top:X.K.In F.h₀
  lim:F.h₀.NoLimit
section
variable (X:Cx) (F:Fm) (V:Pl)
noncomputable def KOk (k:KV) (Q:Value->Shared->Prop):Prop:=∀ a v V' σ' s',V.le V'->Rel X F V' σ' s'->den X V' a v->k a σ'=true->Q v s'
noncomputable def dq (ke:KE) (E:Value->Shared->Prop):Prop:=∀ c ev V' σ' s',V.le V'->Exn X F V' σ' s' ev c->ke c σ'=true->E ev s'
noncomputable def sC (k:AV->Bool->St->T) (tv:St->AV->Option Bool) (Q:Bool->Shared->Prop):Prop:=∀ a b V' σ' s',V.le V'->Rel X F V' σ' s'->tv σ' a=some b->k a b σ'=true->Q b s'
end
noncomputable def Ret (Q:Value->Shared->Prop) (E:Value->Shared->Prop) (r:Result) (s':Shared):Prop:=match r with | .ok (.ret v)=>Q v s' | .ok _=>False | .error e=>E e s'
noncomputable def dz (X:Cx) (f:Nat) (r:Rc):Prop:=∀ {A F V σ s fv fx as xs k ke Q E},lS X f A F->Rel X F V σ s->den X V fv fx->au (den X V) as xs->r fv as k ke σ=true->dq X F V ke E->KOk X F V k Q->codeAny (model X.prog X.w) A (.call fx ⟨xs,[]⟩) (Ret Q E) s
noncomputable def aK (X:Cx) (sc:Scope) (e:Expr) (x:C):Prop:=∀ {f r A env ae F V σ s k ke Q E},dz X f r->Fit X f r sc A env ae F V->Rel X F V σ s->x r ae k ke σ=true->dq X F V ke E->KOk X F V k Q->wpAny (model X.prog X.w) A (eval e env) Q E s
variable {X:Cx} {sc:Scope}
section
variable {f:Nat} {r:Rc} {A:Around} {env:Env} {ae:AE} {F:Fm} {V V':Pl}
theorem Fit.mono (x:Fit X f r sc A env ae F V) (h:V.le V'):Fit X f r sc A env ae F V':={ x with cells:=fun n i e=>gx h (P:=fun a=>env.cells.lookup (tx n)=some a) (x.cells n i e) }
theorem KOk.mono {k Q} (x:KOk X F V k Q) (h:V.le V'):KOk X F V' k Q:=fun a v W σ' s' l=>x a v W σ' s' (Pl.le_trans h l)
theorem dq.mono {ke E} (x:dq X F V ke E) (h:V.le V'):dq X F V' ke E:=fun c ev W σ' s' l=>x c ev W σ' s' (Pl.le_trans h l)
theorem sC.mono {k tv Q} (x:sC X F V k tv Q) (h:V.le V'):sC X F V' k tv Q:=fun a b W σ' s' l=>x a b W σ' s' (Pl.le_trans h l)
theorem KOk.here {k Q a v σ s} (x:KOk X F V k Q) (R:Rel X F V σ s) (d:den X V a v) (h:k a σ=true):Q v s:=x a v V σ s (Pl.le_refl V) R d h
theorem Fit.env_kind (x:Fit X f r sc A env ae F V):env.scope.kind=.function:=x.scope▸x.kind
theorem Fit.name (x:Fit X f r sc A env ae F V) {n k} (h:sc.names.lookup n=some k):env.kindOf n=some k:=(x.scope▸h:env.scope.names.lookup n=some k)
end
theorem Ei (i:Int) (kd pos):aK X sc (.Constant (.int i) kd pos) (ay i):=fun hr hf R h he hk=>wpAny_Constant_int (hk.here (a:=.int (.k i)) (R.toks _) ⟨_,congrArg (Value.int · _) (IV.den_k X.h0 i).symm⟩ h)
theorem Ej (n:Nm) (x:Str) (kd pos) (hx:tx n=x):aK X sc (.Constant (.str x) kd pos) (ai n):=fun hr hf R h he hk=>wpAny_Constant_str (hk.here (R.toks _) (hx▸cO n _) h)
theorem AD (kd pos):aK X sc (.Constant .none kd pos) bh:=fun hr hf R h he hk=>wpAny_Constant_none (hk.here (a:=.none) R rfl h)
theorem AF (q:Bool) (kd pos):aK X sc (.Constant (.bool q) kd pos) (cf q):=fun hr hf R h he hk=>wpAny_Constant_bool (hk.here (a:=.bool q) R rfl h)
theorem Ek (n:Nm) (x:Str) (pos) (hx:tx n=x) (hk':sc.names.lookup x=some .local) (hd:(x==("__debug__" : Str))=false):aK X sc (.Name x pos) (ac n):=fun hr hf R h he hk=>ad h fun a hn h=>R.fr.rec fun m K hl=>(hl n a hn).elim fun v q=>wpAny_Name (wpAny_loadName_local hf.env_kind (hf.name hk') (hf.loc▸K.ns) (hx▸q.1) (hk.here R q.2 h)) hd
theorem Rel.cell {F:Fm} {V:Pl} {σ:St} {s:Shared} {G:Prop} (R:Rel X F V σ s) {i:Nat} {a:AV} (e:op (σ.t.get i) aj.cell?=some (some a)) (g:∀ v,s.heap.IsCell (V.at_ i) (some v)->den X V a v->G):G:=
  ao e fun o ho e=>(R.obj (ho.trans (congrArg some (aj.cell_of e)))).rec fun ob _ hob _ _ r=>i5.rec (fun y d hv=>(hv a rfl).elim fun v q=>g v ⟨ob,hob,q.1▸d⟩ q.2) r
theorem w3 (n:Nm) (x:Str) (pos) (hx:tx n=x) (hk':sc.names.lookup x=some .cell∨sc.names.lookup x=some .free) (hd:(x==("__debug__" : Str))=false) (hc:(x==("__classdict__" : Str))=false):aK X sc (.Name x pos) (aG n):=fun hr hf R h he hk=>ad h fun i hi h=>ad h fun y hy h=>ad h fun a ha h=>R.cell (hy.trans (congrArg some ha)) fun v c d=>have q:=hx▸(hf.cells n i hi).2; hk'.elim
    (fun e=>wpAny_Name (wpAny_loadName_cell hf.env_kind (hf.name e) q c (hk.here R d h)) hd) fun e=>wpAny_Name (wpAny_loadName_free hf.env_kind (hf.name e) q c (hk.here R d h) hc) hd
section
variable {F:Fm} {V:Pl} {σ:St} {s:Shared} {G:Prop}
theorem aW {i:Nat} {v:Value} {P:Value->Prop} (d:den X V (.own i) v) (g:i < V.n->P (.ref (V.at_ i))):P v:=have q:i < V.n∧v=.ref (V.at_ i):=d; q.2▸g q.1
theorem Rel.dict (R:Rel X F V σ s) {i:Nat} {es:List (Nm×AV)} (h:σ.t.get i=some (.dict es)) (g:∀ kvs,s.heap.DictOf (strKind X.prog X.w) (V.at_ i) kvs->au (kvR X tx V) es kvs->G):G:=
  (R.obj h).rec fun ob _ hob _ _ r=>dw.rec (fun kvs io al=>g kvs (Heap.dictOf_iff.mpr ⟨ob,hob,io⟩) al) r
theorem Rel.bdict (R:Rel X F V σ s) {i:Nat} {es:List (Nm×AV)} (h:σ.t.get i=some (.bdict es)) (g:∀ kvs,s.heap.DictOf (bytesKind X.prog X.w) (V.at_ i) kvs->au (kvR X ub V) es kvs->G):G:=
  (R.obj h).rec fun ob _ hob _ _ r=>dw.rec (fun kvs io al=>g kvs (Heap.dictOf_iff.mpr ⟨ob,hob,io⟩) al) r
theorem Rel.list (R:Rel X F V σ s) {i:Nat} {xs:List AV} (h:σ.t.get i=some (.list xs)) (g:∀ l:Array Value,s.heap.IsList (V.at_ i) l->au (den X V) xs l.toList->G):G:=
  (R.obj h).rec fun ob _ hob _ _ r=>r.2.rec fun l n hd al=>g l ⟨ob,hob,r.1.1,n,hd⟩ al
theorem Rel.tup (R:Rel X F V σ s) {i:Nat} {xs:List AV} (h:σ.t.get i=some (.tup xs)) (g:∀ l:Array Value,s.heap.IsTuple (V.at_ i) l->au (den X V) xs l.toList->G):G:=
  (R.obj h).rec fun ob _ hob _ _ r=>r.2.rec fun l n hd al=>g l ⟨ob,hob,r.1,n,hd⟩ al
theorem Rel.instD (R:Rel X F V σ s) {i d c:Nat} {es:List (Nm×AV)} (hi:σ.t.get i=some (.inst c d)) (hd:σ.t.get d=some (.dict es)) (g:∀ od kvs,InstAt s.heap (V.at_ i) { cls:=.ref c,dict:=some (V.at_ d),data:=.plain } c (some od)->s.heap.get? (V.at_ d)=some od->od.IsDictOf (strKind X.prog X.w) kvs->au (kvR X tx V) es kvs->G):G:=
  (R.obj hi).rec fun ob _ hob _ _ r=>(R.obj hd).rec fun od _ hod _ _ r'=>dw.rec (fun kvs io al=>g od kvs ⟨(r.2▸hob:_),rfl,rfl,hod⟩ hod io al) r'
theorem Rel.updD (R:Rel X F V σ s) {i:Nat} {o:aj} {es:List (Nm×AV)} {kvs:List (Str×Value)} {h':Heap} {t:Tok} (hi:σ.t.get i=some o) (hl:inL σ.locks i=false) (hs:Heap.SameBut (V.at_ i) s.heap h') (D:h'.DictOf (strKind X.prog X.w) (V.at_ i) kvs) (al:au (kvR X tx V) es kvs):Rel X F V (σ.put i (.dict es)) { s with heap:=h',toks:=t }:=
  (Heap.dictOf_iff.mp D).elim fun _ q=>R.upd (o':=.dict es) hi hl hs q.1 (dw.mk kvs q.2 al) _
theorem Rel.updB (R:Rel X F V σ s) {i:Nat} {o:aj} {es:List (Nm×AV)} {kvs:List (List UInt8×Value)} {h':Heap} {t:Tok} (hi:σ.t.get i=some o) (hl:inL σ.locks i=false) (hs:Heap.SameBut (V.at_ i) s.heap h') (D:h'.DictOf (bytesKind X.prog X.w) (V.at_ i) kvs) (al:au (kvR X ub V) es kvs):Rel X F V (σ.put i (.bdict es)) { s with heap:=h',toks:=t }:=
  (Heap.dictOf_iff.mp D).elim fun _ q=>R.upd (o':=.bdict es) hi hl hs q.1 (dw.mk kvs q.2 al) _
end
theorem IA {a b:Nm} (h:ub a=ub b):a=b:=by
  suffices z:∀ l r:List Nat,(∀ c∈l,c < 256)->(∀ c∈r,c < 256)->l.map UInt8.ofNat=r.map UInt8.ofNat->l=r from qp (z _ _ (qq a) (qq b) h)
  intro l
  induction l with
  | nil=>exact fun r _ _ h=>(List.map_eq_nil_iff.mp h.symm).symm
  | cons x l ih=>
    intro r hl hr h
    cases r with
    | nil=>exact nomatch h
    | cons y r=>
      obtain ⟨h1,h2⟩:=List.cons.inj h
      have h1:=congrArg UInt8.toNat h1
      rw [UInt8.toNat_ofNat',UInt8.toNat_ofNat',Nat.mod_eq_of_lt (hl x (.head _)),Nat.mod_eq_of_lt (hr y (.head _))] at h1
      rw [h1,ih r (fun c q=>hl c (.tail _ q)) (fun c q=>hr c (.tail _ q)) h2]
section
variable {K:Type} [DecidableEq K] {kx:Nm->K} {V:Pl} {es:List (Nm×AV)} {kvs:List (K×Value)} {G:Prop} {q:Nm} {a:AV} {v:Value}
theorem mI {p:K×Value} {k:K}:valueAt (p::kvs) k=if p.1=k then some p.2 else valueAt kvs k:=by
  unfold valueAt; rw [List.find?_cons]
  exact (Decidable.em (p.1=k)).elim (fun z=>by rw [if_pos z,decide_eq_true z]; rfl) fun z=>by rw [if_neg z,decide_eq_false z]
theorem fj (inj:∀ a b,kx a=kx b->a=b) (h:au (kvR X kx V) es kvs):look es q=none->valueAt kvs (kx q)=none:=by
  induction h with
  | nil=>exact fun _=>rfl
  | @cons e p es kvs x _ ih=>
    rw [bq,mI,x.1]
    exact (Decidable.em (e.1=q)).elim (fun z=>by rw [if_pos z]; exact fun h=>nn h.symm) fun z=>by rw [if_neg z,if_neg fun y=>z (inj _ _ y)]; exact ih
theorem ee (inj:∀ a b,kx a=kx b->a=b) (h:au (kvR X kx V) es kvs):look es q=some a->∃ v,valueAt kvs (kx q)=some v∧den X V a v:=by
  induction h with
  | nil=>exact nn
  | @cons e p es kvs x _ ih=>
    rw [bq,mI,x.1]
    exact (Decidable.em (e.1=q)).elim (fun z=>by rw [if_pos z,if_pos (congrArg kx z)]; exact fun h=>⟨_,rfl,sm h▸x.2⟩) fun z=>by rw [if_neg z,if_neg fun y=>z (inj _ _ y)]; exact ih
theorem lq {p:K×Value} {k:K} (hn:((p::kvs).map (·.1)).Nodup):stored (p::kvs) k v=if p.1=k then (p.1,v)::kvs else p::stored kvs k v:=by
  unfold stored
  rw [List.any_cons]
  refine (Decidable.em (p.1=k)).elim (fun z=>?_) fun z=>?_
  · rw [if_pos z,decide_eq_true z,Bool.true_or,if_pos rfl,List.map_cons,if_pos z]
    exact congrArg _ ((List.map_congr_left fun kv h=>if_neg fun y=>(List.nodup_cons.mp hn).1 (List.mem_map.mpr ⟨kv,h,y.trans z.symm⟩)).trans (List.map_id _))
  · rw [if_neg z,decide_eq_false z,Bool.false_or,List.map_cons,if_neg z]
    exact (tf (kvs.any fun kv=>decide (kv.1=k)) (fun e=>by rw [if_pos e,if_pos e]) fun e=>by rw [e]; rfl)
theorem iQ (inj:∀ a b,kx a=kx b->a=b) (d:den X V a v) (h:au (kvR X kx V) es kvs) (hn:(kvs.map (·.1)).Nodup):au (kvR X kx V) (put es q a) (stored kvs (kx q) v):=by
  induction h with
  | nil=>exact .cons ⟨rfl,d⟩ .nil
  | @cons e p es kvs x xs ih=>
    rw [my,lq hn,x.1]
    exact (Decidable.em (e.1=q)).elim (fun z=>by rw [if_pos z,if_pos (congrArg kx z)]; exact .cons ⟨congrArg kx z,d⟩ xs) fun z=>by rw [if_neg z,if_neg fun y=>z (inj _ _ y)]; exact .cons x (ih (List.nodup_cons.mp hn).2)
theorem AG (inj:∀ a b,kx a=kx b->a=b) (h:au (kvR X kx V) es kvs) (hn:(kvs.map (·.1)).Nodup):au (kvR X kx V) (drop es q) (without kvs (kx q)):=by
  induction h with
  | nil=>exact .nil
  | @cons e p es kvs x xs ih=>
    rw [ym,without,List.filter_cons,x.1]
    exact (Decidable.em (e.1=q)).elim (fun z=>by rw [if_pos z,if_neg (by rw [z]; exact fun y=>of_decide_eq_true y rfl)]; show au _ es (without kvs (kx q)); rw [without_of_not_mem kvs (kx q) (z▸x.1▸(List.nodup_cons.mp hn).1)]; exact xs)
      fun z=>by rw [if_neg z,if_pos (decide_eq_true (p:=kx e.1≠kx q) fun y=>z (inj _ _ y))]; exact .cons x (ih (List.nodup_cons.mp hn).2)
end
theorem ft {K:Type} [DecidableEq K] {knd:PySem.KeyKind X.prog X.w K} {h:Heap} {a:Addr} {kvs:List (K×Value)} (D:h.DictOf knd a kvs):(kvs.map (·.1)).Nodup:=D.elim fun _ x=>x.elim fun _ x=>x.elim fun _ x=>x.2.2.2.2.2
theorem bW (a b:Nm):tx a=tx b->a=b:=jy
theorem qu (a b:Nm):ub a=ub b->a=b:=IA
theorem aY (prog:Program) (w:World) (x:Str) (t:Tok):(strKind prog w).is x (.str x t)=true:=strKind_is prog w x t
section
variable {F:Fm} {V:Pl} {σ τ:St} {s:Shared} {G:Prop}
noncomputable def lT (X:Cx) (σ:St) (a:AV):Option Bool:=a.rec (some false) some (fun i=>some (!decide (i.den X.nu=0))) (fun _=>none) (fun _=>none) (fun i=>op (σ.t.get i) (tvO X.P σ)) (fun _=>none) (fun _=>none) (fun _=>none) (fun i j=>some (decide (i.den X.nu=j.den X.nu))) fun _=>none
theorem oU (h:bp X.nu σ τ) (a:AV):lT X τ a=lT X σ a:=h.rec fun _ _=>rfl
theorem oV {a:AV} {k:Bool->St->T} (H:cC X.nu σ.f) (h:eB X.P a σ k=true) (g:∀ b τ,lT X σ a=some b->bp X.nu σ τ->k b τ=true->G):G:=by
  cases a with
  | none=>exact g _ _ rfl (.refl H) h
  | bool b=>exact g _ _ rfl (.refl H) h
  | eq i j=>exact gr X.h0 H h fun τ a h=>g _ τ rfl a h
  | int i=>exact gr (k:=fun b σ=>k (!b) σ) X.h0 H h fun τ a h=>g _ τ rfl a (IV.den_k X.h0 0▸h:k (!decide (i.den X.nu=0)) τ=true)
  | own i=>exact ad h fun b e h=>g b σ e (.refl H) h
  | _=>exact ff h
theorem sD {α:Type} {xs:List α} {b:Bool} (h:Im xs=some b) (g:xs.length≤10000->(!xs.isEmpty)=b->G):G:=bg h (fun e h=>g (Nat.le_of_ble_eq_true e) (sm h)) fun _=>nn
theorem oW {α β:Type} {l:List α} {r:List β} (h:l.length=r.length):l.isEmpty=r.isEmpty:=by cases l <;> cases r <;> first | rfl | cases h
theorem yu {A:Around} {a:AV} {v:Value} {b:Bool} {Q:Bool->Shared->Prop} {E:Value->Shared->Prop} (ht:X.K.In F.h₀) (R:Rel X F V σ s) (d:den X V a v) (e:lT X σ a=some b) (q:∀ t,Q b { s with toks:=t }):wpAny (model X.prog X.w) A (truthy v) Q E s:=by
  have small:∀ {n m:Nat},n≤10000->m=n->(m:Int) < 2 ^ 63:=fun h e=>Int.lt_of_le_of_lt (Int.ofNat_le.mpr (e▸h)) (by decide)
  cases a with
  | none=>exact d▸truthy_none (sm e▸q s.toks)
  | bool b'=>exact d▸wpAny_truthy_bool (sm e▸q s.toks)
  | eq i j=>exact d▸wpAny_truthy_bool (sm e▸q s.toks)
  | int i=>exact bH (P:=fun v=>wpAny _ A (truthy v) Q E s) d fun t=>PyProof.Rows.truthy_int (by rw [bne,show (i.den X.nu==0)=decide (i.den X.nu=0) from Bool.beq_eq_decide_eq _ _,sm e]; exact q s.toks)
  | own i=>
    exact aW (P:=fun v=>wpAny _ A (truthy v) Q E s) d fun _=>ao e fun o ho e=>cB e (fun _ e=>cB e (fun _ e=>ao e fun c hc e=>ao e fun cl hcl e=>ao e fun es hes e=>bg e (fun tr e=>R.instD (aj.inst_of hc▸ho) (dict_of hes) fun od kvs I _ _ _=>R.fr.rec fun m K _=>truthy_K0 K ht I (X.pok.tru _ _ hcl tr).1 (X.pok.tru _ _ hcl tr).2 (sm e▸q s.toks)) fun _=>nn)
      fun es hes e=>have ho:=aj.dict_of hes▸ho; sD e fun l e=>R.dict ho fun kvs D al=>wpAny_truthy_dict (R.notMods ht ho) D (small l al.length.symm) (by rw [← oW al.length,e]; exact q _))
      fun xs hxs e=>sD e fun l e=>R.list (aj.list_of hxs▸ho) fun vs L al=>wpAny_truthy_list L (small l al.len) (by rw [← Array.isEmpty_toList,← oW al.length,e]; exact q _)
  | _=>exact nn e
theorem eX {A:Around} {a:AV} {v:Value} {k:Bool->St->T} {Q:Bool->Shared->Prop} {E:Value->Shared->Prop} (ht:X.K.In F.h₀) (R:Rel X F V σ s) (d:den X V a v) (h:eB X.P a σ k=true) (g:∀ b τ t,lT X τ a=some b->Rel X F V τ { s with toks:=t }->k b τ=true->Q b { s with toks:=t }) :
    wpAny (model X.prog X.w) A (truthy v) Q E s:=
  oV R.facts h fun b τ e as hk=>yu ht R d e fun t=>g b τ t ((oU as a).trans e) ((R.asks as).toks t) hk
end
end
section
variable {X:Cx} {sc:Scope}
theorem qv {b x y:Bool} {P Q:Prop}:be b x y=true->(x=true->P)->(y=true->Q)->(if b=true then P else Q):=b.rec (fun h _ g=>g h) fun h g _=>g h
theorem fK {V:Pl} {i:IV} {c:Int} {t:Tok} (e:i.den X.nu=c):den X V (.int i) (.int c t):=⟨t,congrArg (Value.int · t) e.symm⟩
theorem w4 {V:Pl} (x:SS) (t:Tok):den X V (.str x) (.str (sx (x.den X.nu)) t):=⟨t,rfl⟩
theorem yv {V:Pl} (x:SS) (t:Tok):den X V (.bytes x) (.bytes (bx (x.den X.nu)) t):=⟨t,rfl⟩
noncomputable def eC (X:Cx) (sc:Scope) (e:Expr) (x:C):Prop:=∀ {f r A env ae F V σ s} {k:AV->Bool->St->T} {ke Q E},dz X f r->Fit X f r sc A env ae F V->Rel X F V σ s->x r ae (fun a σ=>eB X.P a σ (k a)) ke σ=true->dq X F V ke E->sC X F V k (lT X) Q->wpAny (model X.prog X.w) A (isTrue e env (eval e env)) Q E s
theorem sC.truthy {F:Fm} {V V':Pl} {σ:St} {s:Shared} {A:Around} {a:AV} {v:Value} {k:AV->Bool->St->T} {Q:Bool->Shared->Prop} {E:Value->Shared->Prop} (ht:X.K.In F.h₀) (hk:sC X F V k (lT X) Q) (hl:V.le V') (R:Rel X F V' σ s) (d:den X V' a v) (h:eB X.P a σ (k a)=true):wpAny (model X.prog X.w) A (truthy v) Q E s:=
  eX ht R d h fun b τ t e R h=>hk a b V' τ _ hl R e h
theorem AH {e:Expr} {x:C} (hx:aK X sc e x) (hp:∀ env whole,isTrue e env whole=(do let v ← whole; standAt e.pos; holding [v] (truthy v))):eC X sc e x:=
  fun hr hf R h he hk=>isTrue_plain (hx hr hf R h he fun a v V1 σ1 s1 l R1 d h1=>hk.truthy hf.top l R1 d h1) (hp _ _)
theorem AI {e:Expr} {x:C} {pos} (hx:eC X sc e x):eC X sc (.UnaryOp .Not e pos) (f7 X.P x):=
  fun {f r A env ae F V σ s k ke Q E} hr hf R h he hk=>isTrue_not (hx (k:=fun _ q σ=>k (.bool !q) (!q) σ) hr hf R h he fun a b V1 σ1 s1 l R1 t h1=>hk (.bool !b) _ V1 σ1 s1 l R1 rfl h1)
theorem El {e:Expr} {x:C} {pos} (hx:aK X sc e x):aK X sc (.UnaryOp .Not e pos) (f7 X.P x):=
  fun hr hf R h he hk=>UnaryOp_ (hx hr hf R h he fun a v V1 σ1 s1 l R1 d h1=>not_of (eX hf.top R1 d h1 fun b τ t _ R h=>hk (.bool (!b)) _ V1 τ _ l R rfl h))
theorem Em {t b o:Expr} {xt xb xo:C} {pos} (ht:eC X sc t xt) (hb:aK X sc b xb) (ho:aK X sc o xo):aK X sc (.IfExp t b o pos) (iX X.P xt xb xo):=
  fun {f r A env ae F V σ s k ke Q E} hr hf R h he hk=>IfExp_ (ht (k:=fun _ q σ=>be q (xb r ae k ke σ) (xo r ae k ke σ)) hr hf R h he fun _ q V1 σ1 s1 l R1 _ h1=>qv h1 (fun h=>hb hr (hf.mono l) R1 h (he.mono l) (hk.mono l)) fun h=>ho hr (hf.mono l) R1 h (he.mono l) (hk.mono l))
theorem AJ {t b o:Expr} {xt xb xo:C} {pos} (ht:eC X sc t xt) (hb:eC X sc b xb) (ho:eC X sc o xo):eC X sc (.IfExp t b o pos) (iX X.P xt xb xo):=
  fun {f r A env ae F V σ s k ke Q E} hr hf R h he hk=>isTrue_IfExp (ht (k:=fun _ q σ=>be q (xb r ae (fun a σ=>eB X.P a σ (k a)) ke σ) (xo r ae (fun a σ=>eB X.P a σ (k a)) ke σ)) hr hf R h he fun _ q V1 σ1 s1 l R1 _ h1=>qv h1 (fun h=>hb hr (hf.mono l) R1 h (he.mono l) (hk.mono l)) fun h=>ho hr (hf.mono l) R1 h (he.mono l) (hk.mono l))
theorem oX {V:Pl} {σ:St} {a:AV} {v:Value} {q:Bool} (d:den X V a v) (t:lT X σ a=some q):den X V (jR a q) v:=by
  cases a with
  | eq i j=>exact sm t▸d
  | _=>exact d
theorem uN {σ:St} {a:AV} {q:Bool} (t:lT X σ a=some q):lT X σ (jR a q)=some q:=by
  cases a with
  | eq i j=>rfl
  | _=>exact t
section
variable {e e₂:Expr} {es:List Expr} {x x₂:C} {xs:List C} {pos:Pos}
theorem AK (hx:aK X sc e x):aK X sc (.BoolOp .And [e] pos) (hX X.P [x]):=fun hr hf R h he hk=>BoolOp_one (hx hr hf R h he hk)
theorem En (hx:aK X sc e x):aK X sc (.BoolOp .Or [e] pos) (eOr X.P [x]):=fun hr hf R h he hk=>BoolOp_one (hx hr hf R h he hk)
theorem Eo (hx:aK X sc e x) (hs:aK X sc (.BoolOp .And (e₂::es) pos) (hX X.P (x₂::xs))):aK X sc (.BoolOp .And (e::e₂::es) pos) (hX X.P (x::x₂::xs)):=
  fun hr hf R h he hk=>BoolOp_and (hx hr hf R h he fun a v V1 σ1 s1 l R1 d h1=>eX hf.top R1 d h1 fun b τ t tv R2 h=>by
    cases b with
    | true=>exact hs hr (hf.mono l) R2 h (he.mono l) (hk.mono l)
    | false=>exact hk _ _ V1 τ _ l R2 (oX d tv) h)
theorem IB (hx:aK X sc e x) (hs:aK X sc (.BoolOp .Or (e₂::es) pos) (eOr X.P (x₂::xs))):aK X sc (.BoolOp .Or (e::e₂::es) pos) (eOr X.P (x::x₂::xs)):=
  fun hr hf R h he hk=>BoolOp_or (hx hr hf R h he fun a v V1 σ1 s1 l R1 d h1=>eX hf.top R1 d h1 fun b τ t tv R2 h=>by
    cases b with
    | false=>exact hs hr (hf.mono l) R2 h (he.mono l) (hk.mono l)
    | true=>exact hk _ _ V1 τ _ l R2 (oX d tv) h)
theorem sC.again {F:Fm} {V V':Pl} {σ:St} {s:Shared} {a:AV} {b:Bool} {k:AV->Bool->St->T} {Q:Bool->Shared->Prop} (hk:sC X F V k (lT X) Q) (l:V.le V') (R:Rel X F V' σ s) (t:lT X σ a=some b) (h:eB X.P (jR a b) σ (k (jR a b))=true):Q b s:=
  oV R.facts h fun b' τ e as h=>sm ((uN t).symm.trans e)▸hk _ b' V' τ s l (R.asks as) ((oU as _).trans e) h
theorem yw (hx:eC X sc e x):eC X sc (.BoolOp .And [e] pos) (hX X.P [x]):=
  fun hr hf R h he hk=>isTrue_and (hx hr hf R h he fun a b V1 σ1 s1 l R1 t h1=>by cases b with | true=>exact isTrue_and_nil (hk a true V1 σ1 s1 l R1 t h1) | false=>exact hk a false V1 σ1 s1 l R1 t h1)
theorem AL (hx:eC X sc e x):eC X sc (.BoolOp .Or [e] pos) (eOr X.P [x]):=
  fun hr hf R h he hk=>isTrue_or (hx hr hf R h he fun a b V1 σ1 s1 l R1 t h1=>by cases b with | false=>exact isTrue_or_nil (hk a false V1 σ1 s1 l R1 t h1) | true=>exact hk a true V1 σ1 s1 l R1 t h1)
theorem AM (hx:eC X sc e x) (hs:eC X sc (.BoolOp .And (e₂::es) pos) (hX X.P (x₂::xs))):eC X sc (.BoolOp .And (e::e₂::es) pos) (hX X.P (x::x₂::xs)):=
  fun {f r A env ae F V σ s k ke Q E} hr hf R h he hk=>isTrue_and (hx (k:=fun a q σ=>be (be q false true) (eB X.P (jR a q) σ (k (jR a q))) (wR X.P r ae ke false (fun a σ=>eB X.P a σ (k a)) (x₂::xs) σ)) hr hf R h he fun a b V1 σ1 s1 l R1 t h1=>by
    cases b with
    | true=>exact hs hr (hf.mono l) R1 h1 (he.mono l) (hk.mono l)
    | false=>exact hk.again l R1 t h1)
theorem Ep (hx:eC X sc e x) (hs:eC X sc (.BoolOp .Or (e₂::es) pos) (eOr X.P (x₂::xs))):eC X sc (.BoolOp .Or (e::e₂::es) pos) (eOr X.P (x::x₂::xs)):=
  fun {f r A env ae F V σ s k ke Q E} hr hf R h he hk=>isTrue_or (hx (k:=fun a q σ=>be (be q true false) (eB X.P (jR a q) σ (k (jR a q))) (wR X.P r ae ke true (fun a σ=>eB X.P a σ (k a)) (x₂::xs) σ)) hr hf R h he fun a b V1 σ1 s1 l R1 t h1=>by
    cases b with
    | false=>exact hs hr (hf.mono l) R1 h1 (he.mono l) (hk.mono l)
    | true=>exact hk.again l R1 t h1)
end
theorem AN {i:Int} (h1:-200000≤i) (h2:i≤200000):(ia i).length≤12:=by
  have d:∀ {m:Nat},m≤200000->(dgL m).length≤11:=fun h=>by rw [dgL,List.length_map]; exact digits10_le (by decide) (Nat.lt_of_le_of_lt h (by decide +kernel))
  cases i with
  | ofNat m=>rw [gu]; exact Nat.le_succ_of_le (d (Int.ofNat_le.mp h2))
  | negSucc m=>rw [mD]; exact Nat.succ_le_succ (d (by omega))
theorem AO {l:List Pc}:l.all ll=true->(aN X.nu l).length≤HH l:=by
  induction l with
  | nil=>exact fun _=>Nat.le_refl _
  | cons p l ih=>
    intro h
    refine aa (List.all_cons▸h:(ll p&&l.all ll)=true) fun h1 h2=>(List.length_append ..).symm▸Nat.add_le_add ?_ (ih h2)
    cases p with
    | lit n=>exact Nat.le_of_eq (eW n)
    | int i=>exact aa h1 fun hb h=>aa h fun a b=>have q:=X.hB i.x (nt hb); AN (Int.add_le_add q.1 (dE a)) (Int.add_le_add q.2 (dE b))
theorem dA {x:SS} (h:jr x=true):(x.den X.nu).length≤1000000:=aa h fun a b=>Nat.le_trans (AO a) (Nat.le_of_ble_eq_true b)
theorem bI (a b:List Nat):sx a++sx b=sx (a++b):=by show Str.mk (a.toArray++b.toArray)=_; rw [List.append_toArray]; rfl
theorem sF {x y:Nat} {md:Bool} {m:Int}:∀ {l:List Df},(∀ d∈l,d.ok X.nu)->z6 x md m l=some y->X.nu y=be md (Int.fmod (X.nu x) m) (Int.fdiv (X.nu x) m):=by
  intro l
  induction l with
  | nil=>exact fun _=>nn
  | cons d l ih=>
    exact fun H h=>bg (y:=z6 x md m l) h (fun e h=>aa e fun e1 e=>aa e fun e2 e3=>by
      have q:=H d (.head _)
      have e2:d.md=md:=by cases z:d.md <;> rw [z] at e2 <;> cases md <;> first | rfl | exact ff e2
      rw [Df.ok,nb e1,hZ e3,e2,sm h] at q
      exact q) fun _ h=>ih (fun d hd=>H d (.tail _ hd)) h
theorem dL {i:IV} (h:Nat.beq i.x 0=true):i.den X.nu=i.c:=(congrArg (X.nu · + i.c) (nb h)).trans (IV.den_k X.h0 i.c)
section
variable {A:Around} {F:Fm} {V:Pl} {σ:St} {s:Shared} {k:KV} {Q:Value->Shared->Prop} {E:Value->Shared->Prop} {a b:IV} {t u:Tok}
theorem w5 {G:Prop} {md:Bool} {f:Int->Int->Int} (hf:∀ x y,f x y=be md (Int.fmod x y) (Int.fdiv x y)) (h:byD X.D md f a b σ k=true) (g:∀ r:IV,r.den X.nu=f (a.den X.nu) (b.den X.nu)->b.den X.nu≠0∧(b.den X.nu).natAbs < 1073741824->k (.int r) σ=true->G):G:=
  aa h fun dv h=>aa dv fun z q=>aa q fun l1 l2=>have eb:=dL (X:=X) z
  have hb:b.den X.nu≠0∧(b.den X.nu).natAbs < 1073741824:=eb▸⟨fun e=>absurd (e▸dE l1) (by decide),by have:=dE l1; have:=dE l2; omega⟩
  aQ h (fun e h=>g _ ((IV.den_k X.h0 _).trans (by rw [eb,dL e])) hb h) fun _ h=>aa h fun c0 h=>ad h fun y hy h=>g ⟨y,0⟩ ((Int.add_zero _).trans ((sF X.hD hy).trans (by rw [hf,eb,IV.den,hZ c0,Int.add_zero]))) hb h
noncomputable def Bop.op (o:Bop):Operator:=o.rec .Add .Sub .Mod .FloorDiv
theorem sG {o:Bop} (R:Rel X F V σ s) (h:wM X.D o a b σ k=true) (hk:KOk X F V k Q):wpAny (model X.prog X.w) A (binaryOp o.op (.int (a.den X.nu) t) (.int (b.den X.nu) u)) Q E s:=by
  have fin:∀ {τ r c t' tk},r.den X.nu=c->bp X.nu σ τ->k (.int r) τ=true->Q (.int c t') { s with toks:=tk }:=fun e as h=>hk.here ((R.asks as).toks _) (fK e) h
  have rf:=bp.refl R.facts
  cases o with
  | add=>
    exact PyProof.Rows.add_int (aQ h (fun e h=>fin (r:=⟨a.x,a.c + b.c⟩) (by rw [dL e]; exact (Int.add_assoc ..).symm) rf h) fun _ h=>aQ h (fun e h=>fin (r:=⟨b.x,a.c + b.c⟩) (by rw [dL e]; exact Int.add_left_comm ..) rf h)
      fun _ h=>jU (k:=fun v σ=>k (.int ⟨a.x,a.c + v⟩) σ) X.h0 R.facts h fun τ as h=>fin (Int.add_assoc ..).symm as h)
  | sub=>exact aa h fun e h=>PyProof.Rows.sub_int (fin (r:=⟨a.x,a.c - b.c⟩) (by rw [dL e]; exact (Int.add_sub_assoc ..).symm) rf h)
  | mod=>exact w5 (md:=true) (fun _ _=>rfl) h fun r e z h=>PyProof.Rows.mod_int z.1 (fin e rf h)
  | fdiv=>exact w5 (md:=false) (fun _ _=>rfl) h fun r e z h=>PyProof.Rows.floordiv_int z.1 (fin e rf h) (.inl (PyProof.noPylong_small z.2))
theorem yx {o:Bop} {a b:AV} {u v:Value} (R:Rel X F V σ s) (ha:den X V a u) (hb:den X V b v) (h:bin X.D o a b k σ=true) (hk:KOk X F V k Q):wpAny (model X.prog X.w) A (binaryOp o.op u v) Q E s:=by
  refine az h (fun _ h=>aa h fun ho h=>?_) fun i hi h=>ad h fun j hj h=>bH (P:=fun u=>wpAny _ A (binaryOp o.op u v) Q E s) (AV.int_of hi▸ha) fun t=>bH (P:=fun v=>wpAny _ A (binaryOp o.op _ v) Q E s) (AV.int_of hj▸hb) fun t'=>sG R h hk
  have eo:o.op=.Add:=by cases o <;> first | rfl | exact ff ho
  rw [eo]
  exact az h (fun _ h=>ad h fun x hx h=>ad h fun y hy h=>aa h fun hfit h=>fh (P:=fun u=>wpAny _ A (binaryOp .Add u v) Q E s) (AV.bytes_of hx▸ha) fun t=>fh (P:=fun v=>wpAny _ A (binaryOp .Add _ v) Q E s) (AV.bytes_of hy▸hb) fun t'=>by
      have hl:=dA (X:=X) hfit
      have e:bx (x.den X.nu)++bx (y.den X.nu)=bx ((zS x y).den X.nu):=by rw [mE X.h0]; unfold bx; rw [List.append_toArray,List.map_append]
      refine PySem.W.KBy.add_bytes ?_ fun t' k'=>e▸hk.here (R.toks k') (yv _ _) h
      rw [← Array.size_append,e]
      exact Nat.le_trans (Nat.le_of_eq (List.length_map ..)) (Nat.le_trans hl (by decide)))
    fun x hx h=>ad h fun y hy h=>aa h fun hfit h=>bQ (P:=fun u=>wpAny _ A (binaryOp .Add u v) Q E s) (AV.str_of hx▸ha) fun t=>bQ (P:=fun v=>wpAny _ A (binaryOp .Add _ v) Q E s) (AV.str_of hy▸hb) fun t'=>by
      have hl:=dA (X:=X) hfit
      rw [mE X.h0] at hl
      exact PyProof.Rows.add_str (fun t' tk=>by rw [bI,← mE X.h0]; exact hk.here (R.toks tk) (w4 _ _) h) (Nat.le_trans (Nat.le_of_eq (List.length_append ..).symm) (Nat.le_trans hl (by decide)))
end
theorem Er {o:Bop} {l r:Expr} {x y:C} {p:Operator} {pos} (ho:o.op=p) (hx:aK X sc l x) (hy:aK X sc r y):aK X sc (.BinOp l p r pos) (bA X.D o x y):=
  fun hr hf R h he hk=>ho▸wpAny_BinOp (hx hr hf R h he fun a u V1 σ1 s1 l1 R1 d1 h1=>hy hr (hf.mono l1) R1 h1 (he.mono l1) fun b v V2 σ2 s2 l2 R2 d2 h2=>yx R2 (aI l2 d1) d2 h2 (hk.mono (Pl.le_trans l1 l2)))
noncomputable def Mu (X:Cx) (F:Fm) (V:Pl) (n:Nat) (k:List AV->St->T) (Q:List Value->Shared->Prop):Prop:=∀ as vs V' σ' s',V.le V'->Rel X F V' σ' s'->au (den X V') as vs->as.length=n->k as σ'=true->Q vs s'
noncomputable def eP (X:Cx) (sc:Scope) (es:List Expr) (xs:List C):Prop:=∀ {f r A env ae F V σ s} {pos:Pos} {k ke Q E},dz X f r->Fit X f r sc A env ae F V->Rel X F V σ s->evs r ae ke xs k σ=true->dq X F V ke E->Mu X F V xs.length k Q->wpAny (model X.prog X.w) A (spliced (backTo pos (starEach es env))) Q E s
theorem sH:eP X sc [] []:=fun {f r A env ae F V σ s pos k ke Q E} hr hf R h he hk=>wpAny_items_nil (hk [] [] V σ s (Pl.le_refl V) R .nil rfl h)
theorem oY {e:Expr} {es:List Expr} {x:C} {xs:List C} (hx:aK X sc e x) (hs:eP X sc es xs) (hst:∀ env,starEach (e::es) env=(false,eval e env)::starEach es env):eP X sc (e::es) (x::xs):=
  fun hr hf R h he hk=>wpAny_items_cons (hx hr hf R h he fun a v V1 σ1 s1 l1 R1 d1 h1=>hs hr (hf.mono l1) R1 h1 (he.mono l1) fun as vs V2 σ2 s2 l2 R2 d2 n2 h2=>hk (a::as) (v::vs) V2 σ2 s2 (Pl.le_trans l1 l2) R2 (.cons (aI l2 d1) d2) (congrArg (· + 1) n2) h2) (hst _)
theorem cP {V:Pl} {n:Nat} (h:V.n=n) (a:Addr):den X (V.add a) (.own n) (.ref a):=h▸⟨Nat.lt_succ_self _,(V.add_at a).symm▸rfl⟩
theorem dM (h:Heap):h.get? h.objs.size=none:=by
  cases q:h.get? h.objs.size with
  | none=>rfl
  | some o=>exact absurd (Heap.lt_size q) (Nat.lt_irrefl _)
theorem Rel.push {F:Fm} {V:Pl} {σ:St} {s:Shared} (R:Rel X F V σ s) {o:aj} {ob:Obj} (hf:ob.isFreed=false) (ho:objR X (V.add s.heap.objs.size) o ob) (t:Tok):Rel X F (V.add s.heap.objs.size) (σ.add o) { s with heap:=s.heap.push ob,toks:=t }:=
  R.new (fun b x e=>Heap.get?_push_of_some _ e) (dM _) (Heap.get?_push_size _ hf) ho t
theorem KOk.made {F:Fm} {V V1:Pl} {σ:St} {s:Shared} {k:KV} {Q:Value->Shared->Prop} {o:aj} {ob:Obj} {t:Tok} (hk:KOk X F V k Q) (l:V.le V1) (R:Rel X F V1 σ s) (h:new o σ (fun i σ=>k (.own i) σ)=true) (hf:ob.isFreed=false) (ho:objR X (V1.add s.heap.objs.size) o ob):Q (.ref s.heap.objs.size) { s with heap:=s.heap.push ob,toks:=t }:=
  hk (.own σ.n) _ _ _ _ (Pl.le_trans l (Pl.le_add _ _)) (R.push hf ho t) (cP R.n _) h
theorem AP {es:List Expr} {xs:List C} {pos} (hs:eP X sc es xs) (hn:xs.length≤1000):aK X sc (.List es pos) (c9 xs):=
  fun hr hf R h he hk=>wpAny_List (hs hr hf R h he fun as vs V1 σ1 s1 l1 R1 d1 n1 h1=>⟨Nat.le_trans (Nat.le_of_eq (d1.length.symm.trans n1)) (Nat.le_trans hn (by decide)),hk.made (o:=.list as) l1 R1 h1 rfl ⟨⟨rfl,rfl⟩,.mk vs.toArray _ rfl (cZ (Pl.le_add _ _) d1)⟩⟩)
theorem w6 {es:List Expr} {xs:List C} {kd pos} (hs:eP X sc es xs) (hn:xs.length≤1000):aK X sc (.Tuple es kd pos) (js xs):=
  fun hr hf R h he hk=>wpAny_Tuple (hs hr hf R h he fun as vs V1 σ1 s1 l1 R1 d1 n1 h1=>⟨Nat.le_trans (Nat.le_of_eq (d1.length.symm.trans n1)) (Nat.le_trans hn (by decide)),hk.made (o:=.tup as) l1 R1 h1 rfl ⟨rfl,.mk vs.toArray _ rfl (cZ (Pl.le_add _ _) d1)⟩⟩)
end
section
variable {X:Cx} {sc:Scope}
section
variable {F:Fm} {V:Pl} {σ:St} {s:Shared} {a:AV} {v:Value} {P:Value->Prop} {G:Prop}
noncomputable def i6 (F:Fm) (V:Pl) (σ:St) (a:AV) (adr:Addr):Prop:=(∃ i o,a=.own i∧σ.t.get i=some o∧adr=V.at_ i)∨∃ o,F.h₀.get? adr=some o
theorem mh {o:aj} (ht:X.K.In F.h₀) (R:Rel X F V σ s) (d:den X V a v) (h:lP X.P σ a=some o) (g1:∀ i,a=.own i->σ.t.get i=some o->P (.ref (V.at_ i))) (g2:∀ c ob,F.h₀.get? c=some ob->jz o ob->P (.ref c)):P v:=
  cB h (fun _ h=>ao h fun c hc h=>(X.pok.objs c o h).elim fun ob q=>have e:v=.ref c:=(AV.top_of hc▸d:den X V (.top c) v); e▸g2 c ob (ht _ _ q.1) q.2) fun i hi h=>aW (AV.own_of hi▸d) fun _=>g1 i (AV.own_of hi) h
theorem ib {es:List (Nm×AV)} (ht:X.K.In F.h₀) (R:Rel X F V σ s) (d:den X V a v) (h:lP X.P σ a=some (.dict es)) (g:∀ i kvs,a=.own i->σ.t.get i=some (.dict es)->s.heap.DictOf (strKind X.prog X.w) (V.at_ i) kvs->au (kvR X tx V) es kvs->P (.ref (V.at_ i))):P v:=
  mh ht R d h (fun i e hi=>R.dict hi fun kvs=>g i kvs e hi) fun c ob _ t=>nomatch t
theorem yy {es:List (Nm×AV)} (ht:X.K.In F.h₀) (R:Rel X F V σ s) (d:den X V a v) (h:lP X.P σ a=some (.bdict es)) (g:∀ i kvs,s.heap.DictOf (bytesKind X.prog X.w) (V.at_ i) kvs->au (kvR X ub V) es kvs->P (.ref (V.at_ i))):P v:=
  mh ht R d h (fun i e hi=>R.bdict hi (g i)) fun c ob _ t=>nomatch t
theorem fy {xs:List AV} (ht:X.K.In F.h₀) (R:Rel X F V σ s) (d:den X V a v) (h:lP X.P σ a=some (.list xs)) (g:∀ adr l,s.heap.IsList adr l->au (den X V) xs l.toList->i6 F V σ a adr->P (.ref adr)):P v:=
  mh ht R d h (fun i e hi=>R.list hi fun l L al=>g _ l L al (.inl ⟨i,_,e,hi,rfl⟩)) fun c ob ho t=>by cases t with | list k _ z al=>exact g c _ ⟨ob,R.keep ho,k,_,z⟩ (al.mono fun _ _=>fq.den) (.inr ⟨ob,ho⟩)
theorem jX {xs:List AV} (ht:X.K.In F.h₀) (R:Rel X F V σ s) (d:den X V a v) (h:lP X.P σ a=some (.tup xs)) (g:∀ adr l,s.heap.IsTuple adr l->au (den X V) xs l.toList->i6 F V σ a adr->P (.ref adr)):P v:=
  mh ht R d h (fun i e hi=>R.tup hi fun l L al=>g _ l L al (.inl ⟨i,_,e,hi,rfl⟩)) fun c ob ho t=>by cases t with | tup k z al=>exact g c _ ⟨ob,R.keep ho,k,_,z⟩ (al.mono fun _ _=>fq.den) (.inr ⟨ob,ho⟩)
theorem cD {q:Nm} (d:den X V a v) (h:g7 a=some q) (g:∀ t,P (.str (tx q) t)):P v:=fJ (AV.lit_of h▸d) g
theorem mJ {q:Nm} (d:den X V a v) (h:r9 a=some q) (g:∀ t,P (.bytes (ub q).toArray t)):P v:=fh (D9 h▸d) fun t=>(gv (nu:=X.nu) q).symm▸g t
theorem w7 {n j:Nat} {i:Int} (h:idx n i=some j) (g:i=(j:Int)->j < n->n≤10000->G):G:=by
  cases i with
  | ofNat m=>exact bg (y:=none) h (fun e h=>aa e fun a b=>g (congrArg Int.ofNat (sm h)) (sm h▸Nat.blt_eq.mp a) (Nat.le_of_ble_eq_true b)) fun _=>nn
  | negSucc m=>exact nn h
end
theorem iR {j n:Nat} (h:j < n) (l:n≤10000):-2 ^ 63≤(j:Int)∧(j:Int) < 2 ^ 63:=⟨Int.le_trans (by decide) (Int.natCast_nonneg j),Int.lt_of_lt_of_le (Int.ofNat_lt.mpr h) (Int.le_trans (Int.ofNat_le.mpr l) (by decide))⟩
theorem uO {j n:Nat} (h:j < n):seqIndex? (j:Int) n=some j:=by
  have h0:¬ ((j:Int) < 0):=Int.not_lt.mpr (Int.natCast_nonneg j)
  show (if (decide (0≤(if (j:Int) < 0 then (j:Int) + n else (j:Int)))&&decide ((if (j:Int) < 0 then (j:Int) + n else (j:Int)) < n))=true then some (if (j:Int) < 0 then (j:Int) + n else (j:Int)).toNat else none)=some j
  rw [if_neg h0,decide_eq_true (Int.natCast_nonneg j),decide_eq_true (Int.ofNat_lt.mpr h)]; rfl
section
variable {F:Fm} {V:Pl} {σ:St} {s:Shared} {A:Around} {k:KV} {ke:KE} {Q:Value->Shared->Prop} {E:Value->Shared->Prop} {o i:AV} {ov iv:Value}
inductive eY (X:Cx) (A:Around) (s:Shared) (Q:Value->Shared->Prop) (E:Value->Shared->Prop) (ov iv:Value):Prop
  | mk (T id) (hT:s.TypeIs ov T) (hl:typeLookup (.type T) "__getitem__" = pure (some (.builtin id))) (h:wpAny (model X.prog X.w) A (getItem ov iv) Q E s)
theorem mK {xs:List AV} {l:Array Value} {P:Value->Prop} (R:Rel X F V σ s) (d:den X V i iv) (al:au (den X V) xs l.toList) (h:uA xs i k σ=true) (hk:KOk X F V k Q) (g:∀ (j:Nat) t v,j < l.size->l.size≤10000->l[j]?=some v->Q v s->P (.int (j:Int) t)):P iv:=
  ad h fun y hy h=>bH (AV.int_of hy▸d) fun t=>jU (k:=fun j σ=>ob (idx xs.length j) fun j=>ob (qh xs j) fun x=>k x σ) X.h0 R.facts h fun τ as h=>ad h fun j hj h=>ad h fun x hx h=>w7 hj fun e l1 l2=>e▸al.nth hx fun v hv dv=>g j t v (al.len▸l1) (al.len▸l2) (Array.getElem?_toList▸hv) (hk.here (R.asks as) dv h)
theorem i7 (ht:X.K.In F.h₀) (R:Rel X F V σ s) (ho:den X V o ov) (hi:den X V i iv) (h:Io X.P o i k σ=true) (hk:KOk X F V k Q):eY X A s Q E ov iv:=
  ad h fun x hx h=>az h (fun _ h=>az h (fun _ h=>az h
      (fun _ h=>ad h fun xs hxs h=>jX (P:=fun ov=>eY X A s Q E ov iv) ht R ho (aj.tup_of hxs▸hx) fun adr l L al _=>mK (P:=eY X A s Q E (.ref adr)) R hi al h hk fun j t v l1 l2 hv q=>.mk "tuple" _ L.typeIs slot_tuple_getitem.lookup (PyProof.Rows.getItem_tuple L (iR l1 l2).1 (iR l1 l2).2 (uO l1) hv q))
      fun xs hxs h=>fy (P:=fun ov=>eY X A s Q E ov iv) ht R ho (aj.list_of hxs▸hx) fun adr l L al _=>mK (P:=eY X A s Q E (.ref adr)) R hi al h hk fun j t v l1 l2 hv q=>.mk "list" _ L.typeIs slot_list_getitem.lookup (wpAny_getItem_list L (Int.natCast_nonneg j) (iR l1 l2).2 hv q))
    fun es hes h=>ad h fun q hq h=>ad h fun x hx' h=>yy (P:=fun ov=>eY X A s Q E ov iv) ht R ho (aj.bdict_of hes▸hx) fun _ kvs D al=>mJ (P:=eY X A s Q E _) hi hq fun t=>(ee qu al hx').elim fun v hv=>.mk "dict" _ D.typeIs slot_dict_getitem.lookup (wpAny_getItem_of (bytesKind_is _ _ _ _) D.mapOf hv.1 (hk.here (R.toks _) hv.2 h)))
  fun es hes h=>ad h fun q hq h=>ad h fun x hx' h=>ib (P:=fun ov=>eY X A s Q E ov iv) ht R ho (aj.dict_of hes▸hx) fun _ kvs _ _ D al=>cD (P:=eY X A s Q E _) hi hq fun t=>(ee bW al hx').elim fun v hv=>.mk "dict" _ D.typeIs slot_dict_getitem.lookup (wpAny_getItem_of (aY _ _ _ _) D.mapOf hv.1 (hk.here (R.toks _) hv.2 h))
end
theorem Es {o i:Expr} {x y:C} {pos} (hx:aK X sc o x) (hy:aK X sc i y) (hs:∀ u v,subscripted i false u v=operate [u,v] (getItem u v)):aK X sc (.Subscript o i pos) (aH X.P x y):=
  fun hr hf R h he hk=>Subscript_ (hx hr hf R h he fun a u V1 σ1 s1 l1 R1 d1 h1=>hy hr (hf.mono l1) R1 h1 (he.mono l1) fun b v V2 σ2 s2 l2 R2 d2 h2=>(i7 hf.top R2 (aI l2 d1) d2 h2 (hk.mono (Pl.le_trans l1 l2))).rec fun T id hT hl hg=>tail_any hT hl hg (hs u v))
theorem sI (prog:Program) (w:World) (x:Str) (v:Value):v.isStr x=(strKind prog w).is x v:=by cases v <;> rfl
theorem kO {od:Obj} {kvs:List (Str×Value)} {x:Str} (io:od.IsDictOf (strKind X.prog X.w) kvs):lookIn x od=some (valueAt kvs x):=by
  obtain ⟨es,ep,_,hd,_,hp,nd⟩:=io
  clear nd
  unfold lookIn
  rw [hd,← hp.find x,show (fun e:DictEntry=>(strKind X.prog X.w).is x e.key)=fun e=>e.key.isStr x from funext fun e=>(sI ..).symm]
  have nr:es.toList.any (·.refKey)=false:=by
    generalize es.toList=l at hp
    induction hp with
    | nil=>rfl
    | cons q _ _ ih=>exact (Value.isStrOf_shape q).elim fun t e=>by rw [List.any_cons,ih,DictEntry.refKey,e]; rfl
  dsimp only
  rw [nr]
  cases es.toList.find? fun e=>e.key.isStr x <;> rfl
theorem mL {V:Pl} {a:AV} {v:Value} (d:den X V a v) (ha:HJ a=false):handedIn v=true:=by
  cases a with
  | blt b=>exact d▸by cases b <;> decide +kernel
  | any k=>exact ff ha.symm
  | int i=>exact bH (P:=fun v=>handedIn v=true) d fun _=>rfl
  | str i=>exact bQ (P:=fun v=>handedIn v=true) d fun _=>rfl
  | bytes i=>exact fh (P:=fun v=>handedIn v=true) d fun _=>rfl
  | own i=>exact aW (P:=fun v=>handedIn v=true) d fun _=>rfl
  | _=>exact d▸rfl
theorem gc {c:Nat} {m:Nm} {fd:Fd} {G:Prop} (h:lm X.P c m=some fd) (g:∀ cl,X.P.clss.get c=some cl->w0 X.K c cl->uL X.K c (tx m) fd->G):G:=
  ao h fun cl h1 h2=>have q:=X.pok.cls c cl h1 (X.pok.noat _ _ _ _ h1 h2); g cl h1 q (q.attr m fd h2)
theorem Fit.room1 {f:Nat} {r:Rc} {A:Around} {env:Env} {ae:AE} {F:Fm} {V:Pl} (x:Fit X f r sc A env ae F V):(∀ f as k ke σ,r f as k ke σ=false)∨lS X f A.in1 F:=
  x.calls.symm.imp id fun h=>⟨h,x.depth,by have:=x.units; show A.units + 1 + 25 * f < 9020; omega,x.frames.rec fun envs e ok=>.mk envs e ok,x.top,x.lim⟩
theorem sJ {X:Cx} {A:Around} {c:Code} {Q:Value->Shared->Prop} {E:Value->Shared->Prop} {R:Result->Shared->Prop} {s:Shared} (h:codeAny (model X.prog X.w) A c (Ret Q E) s) (g:∀ v s',Q v s'->R (.ok (.ret v)) s') (g':∀ e s',E e s'->R (.error e) s'):codeAny (model X.prog X.w) A c R s:=
  codeAny_mono h fun r s' z=>match r,z with
    | .ok (.ret v),z=>g v s' z
    | .error e,z=>g' e s' z
theorem mM {f:Nat} {r:Rc} {F:Fm} {V:Pl} {σ:St} {s:Shared} {v:AV} {ov:Value} {m:Nm} {A:Around} {k:KV} {ke:KE} {Q:Value->Shared->Prop} {E:Value->Shared->Prop} {expr:Bool} (hr:dz X f r) (ht:X.K.In F.h₀)
    (hroom:(∀ f as k ke σ,r f as k ke σ=false)∨lS X f A.in1 F) (R:Rel X F V σ s) (d:den X V v ov) (h:D6 X.P r v m k ke σ=true) (hk:KOk X F V k Q):wpAny (model X.prog X.w) A (getAttr ov (tx m) expr) Q E s:=by
  have T:X.K.In s.heap:=ht.keeps fun b o e=>R.keep e
  refine az h (fun _ h=>ad h fun c hc h=>ad h fun a ha h=>ao ha fun fd hfd ha=>?_) fun i hi h=>ad h fun cd hcd h=>ad h fun es hes h=>ad h fun fd hfd h=>?_
  · rw [Fd.val_of ha] at hfd
    rw [show ov=.ref c from (AV.top_of hc▸d:den X V (.top c) ov)]
    exact gc hfd fun cl _ cl q=>AB.rec (fun v _ _ _ hd td fc=>cls_value T cl.rd fc hd (hk.here (R.toks _) td.den h)) q
  · rw [AV.own_of hi] at d h
    refine aW (P:=fun ov=>wpAny _ A (getAttr ov (tx m) expr) Q E s) d fun li=>gc hfd fun cl _ cl q=>R.instD (inst_of hcd) (dict_of hes) fun od kvs I _ io al=>cl.cd.elim fun cdat z=>?_
    have own:∀ {x},valueAt kvs (tx m)=x->PySem.W.ownOf cdat (some od) (tx m)=some x:=fun e=>e▸(if_pos z.2).trans (kO io)
    cases fd with
    | fn f=>exact ff h
    | cm f=>exact ff h
    | dat=>
      exact ad h fun a ha h=>aa h fun na h=>(ee bW al ha).elim fun v hv=>get_value T I cl.ga (by unfold findObj; rw [z.1,Option.bind_some,(q:wZ ..).no,Option.bind_some,Option.bind_some,Option.bind_some]; dsimp only; rw [own hv.1]; rfl) (mL hv.2 (nt na)) (hk.here (R.toks _) hv.2 h)
    | val a=>
      exact az h (fun e h=>AB.rec (fun v cp fi sp hd td _=>get_value T I cl.ga (by unfold findObj; rw [z.1,Option.bind_some,fi,Option.bind_some]; dsimp only; rw [sp,Option.bind_some,Option.bind_some]; dsimp only; rw [own (fj bW al e),Option.bind_some]; dsimp only; rw [cp,Bool.false_and,if_neg Bool.false_ne_true,hd]; rfl) hd (hk.here (R.toks _) td.den h)) q)
        fun _ _ h=>ff h
    | prop g=>
      exact AC.rec (fun p rest fi sp tk rc=>get_bind T I cl.ga (g:=.builtin "property.__get__") (a:=.ref p) (by unfold findObj; rw [z.1,Option.bind_some,fi,Option.bind_some]; dsimp only; rw [sp,Option.bind_some]; dsimp only; rw [tk]; rfl) cl.gm (wpAny_call (prop_get (s:={ s with toks:=s.toks + 1 }) T rc (hroom.elim (fun hb=>ff ((hb ..).symm.trans h)) fun room=>sJ (E:=fun _ _=>False) (hr (ke:=lQ) room (R.toks (s.toks + 1)) (show den X V (.top g) (.ref g) from rfl) (.cons (show den X V (.own i) _ from ⟨li,rfl⟩) .nil) h (fun _ _ _ _ _ _ _ h=>ff h) fun a v V1 σ1 s1 l1 R1 d1 h1=>(aa h1 fun na h1=>by show wpAny _ _ (handedOut v) _ _ _; rw [handedOut_of (mL d1 (nt na))]; exact wpAny_pure (hk a v V1 σ1 s1 l1 R1 d1 h1))) (fun _ _ z=>z) fun _ _ z=>z.elim)))) q
theorem AQ {o:Expr} {x:C} {a:Str} {m:Nm} {pos} (hx:aK X sc o x) (hm:tx m=a) (hs:∀ env,eval (.Attribute o a pos) env=(do
      let o' ← eval o env
      standAt pos.atName
      let r ← holding [o'] (getAttr o' a true)
      letTemporaryGo o o' r
      pure r)):aK X sc (.Attribute o a pos) (af X.P x m):=
  fun hr hf R h he hk=>Attribute_any_ (hx hr hf R h he fun b u V1 σ1 s1 l1 R1 d1 h1=>hm▸mM hr hf.top hf.room1 R1 d1 h1 (hk.mono l1)) (hs _)
end
section
variable {X:Cx} {sc:Scope}
section
variable {F:Fm} {V V₂:Pl} {t t₂:AT} {loc loc₂:List (Nm×AV)} {locks locks₂:List Nat} {h h' h₂:Heap} {m:Str->Option Value} {L':Addr} {G:Prop}
noncomputable def gN (V:Pl) (t:AT):List Addr:=((List.range V.n).filter fun i=>(t.get i).isSome).map V.at_
theorem Et (M:Mem X F V t loc locks h) {i:Nat} {o:aj} (e:t.get i=some o):V.at_ i∈gN V t:=
  List.mem_map.mpr ⟨i,List.mem_filter.mpr ⟨List.mem_range.mpr ((M.obj i o e).rec fun _ l _ _ _ _=>l),e▸rfl⟩,rfl⟩
theorem IC {a:Addr} (q:a∈gN V t) (g:∀ i o,t.get i=some o->a=V.at_ i->G):G:=
  (List.mem_map.mp q).elim fun i q=>(Option.isSome_iff_exists.mp (List.mem_filter.mp q.1).2).elim fun o e=>g i o e q.2.symm
noncomputable def gy (F:Fm) (V:Pl) (t:AT):List Addr:=F.L::(F.sus.map (·.1)++(gN V t++V.cs.map (·.1)))
theorem KR:F.L∈gy F V t:=.head _
theorem Eu {p} (q:p∈F.sus):p.1∈gy F V t:=.tail _ (List.mem_append_left _ (List.mem_map_of_mem q))
theorem AR {a:Addr} (q:a∈gN V t):a∈gy F V t:=.tail _ (List.mem_append_right _ (List.mem_append_left _ q))
theorem ID {p:Addr×Option Obj} (q:p∈V.cs):p.1∈gy F V t:=.tail _ (List.mem_append_right _ (List.mem_append_right _ (List.mem_map_of_mem q)))
theorem AS {a:Addr} (q:a∈gy F V t) (g1:a=F.L->G) (g2:∀ p∈F.sus,p.1=a->G) (g3:a∈gN V t->G) (g4:∀ p∈V.cs,p.1=a->G):G:=
  (List.mem_cons.mp q).elim g1 fun q=>(List.mem_append.mp q).elim (fun q=>(List.mem_map.mp q).elim fun p q=>g2 p q.1 q.2) fun q=>(List.mem_append.mp q).elim g3 fun q=>(List.mem_map.mp q).elim fun p q=>g4 p q.1 q.2
noncomputable def mO (F:Fm) (V:Pl) (t:AT) (h:Heap):Heap:=hideAll h (gy F V t)
noncomputable def Fm.call (F:Fm) (V:Pl) (t:AT) (h:Heap) (m:Str->Option Value) (L:Addr):Fm:=
  { h₀:=mO F V t h,L,kp:=F.kp.filter fun p=>decide (p.1∈gN V t),sus:=(F.L,m)::F.sus,lk:=F.lk.filter fun q=>decide (q.2∈gN V t) }
theorem Mem.notHid (M:Mem X F V t loc locks h) {b:Addr} {o:Obj} (e:F.h₀.get? b=some o):b∉gy F V t:=fun q=>AS q (fun z=>M.fr.rec fun m K _=>absurd (Heap.lt_size e) (Nat.not_lt.mpr (z▸K.above)))
  (fun p hp z=>nn ((z▸(M.sus p hp).h0).symm.trans e)) (fun q=>IC q fun i o' f z=>(M.obj i o' f).rec fun _ _ _ _ h0 _=>nn ((z▸h0).symm.trans e)) fun p hp z=>(M.cd.cs p hp).rec fun _ aw _ _=>nn ((z▸aw.h0).symm.trans e)
theorem Mem.baseKeeps (M:Mem X F V t loc locks h) {b:Addr} {o:Obj} (e:F.h₀.get? b=some o):(mO F V t h).get? b=some o:=hideAll_get _ (M.fr.rec fun m K _=>K.keep b o e) (M.notHid e)
theorem Mem.there (M:Mem X F V t loc locks h) {p:Addr×Obj} (hp:p∈F.kp) (hn:p.1∉gN V t):(mO F V t h).get? p.1=some p.2:=
  have q:=M.kept p hp; hideAll_get _ q.1 fun z=>AS z q.2.1 (fun r hr e=>M.kps p hp r hr e.symm) hn fun r hr e=>(M.cd.cs r hr).rec fun _ aw _ _=>aw.kp p hp e.symm
theorem Mem.enter (M:Mem X F V t loc locks h) {m':Str->Option Value} (hm:h.Ns F.L m) (hL:h.objs.size≤L') (hns:h'.Ns L' m') (hk:∀ b o,h.get? b=some o->h'.get? b=some o) (hl:∀ n a,look loc₂ n=some a->∃ v,m' (tx n)=some v∧den X V a v):Mem X (F.call V t h m L') V t loc₂ locks h':=by
  have ne:∀ {b o},h.get? b=some o->b≠L':=fun e q=>absurd (Heap.lt_size e) (Nat.not_lt.mpr (q▸hL))
  have ns:∀ {a m},h.Ns a m->h'.Ns a m∧a≠L':=fun x=>x.elim fun o x=>x.elim fun es x=>x.elim fun ep x=>⟨⟨o,es,ep,hk _ _ x.1,x.2⟩,ne x.1⟩
  have fl:∀ {p},p∈(F.call V t h m L').kp->p∈F.kp∧p.1∈gN V t:=fun q=>(List.mem_filter.mp q).imp id of_decide_eq_true
  exact { fr:=.mk m' ⟨hns,fun b o e=>hk _ _ (of_hideAll _ e),(hideAll_size ..).symm▸hL⟩ hl,obj:=fun i o e=>(M.obj i o e).rec fun ob lt g L h0 r=>.mk ob lt (hk _ _ g) (ne g) (hideAll_none _ (AR (Et M e))) r,inj:=M.inj,kept:=fun p hp=>have q:=M.kept p (fl hp).1; ⟨hk _ _ q.1,ne q.1,hideAll_none _ (AR (fl hp).2)⟩,apart:=fun p hp i o e q=>List.mem_filter.mpr ⟨M.apart p (fl hp).1 i o e q,decide_eq_true (fl hp).2⟩,sus:=fun p hp=>(List.mem_cons.mp hp).elim (fun e=>e▸⟨(ns hm).1,hideAll_none _ KR,(ns hm).2,fun i o e=>(M.obj i o e).rec fun _ _ _ L _ _=>L⟩) fun hp=>have q:=M.sus p hp; ⟨(ns q.ns).1,hideAll_none _ (Eu hp),(ns q.ns).2,q.ob⟩,kps:=fun p hp q hq=>(List.mem_cons.mp hq).elim (fun e=>e▸(M.kept p (fl hp).1).2.1) (M.kps p (fl hp).1 q),lk:=fun q hq=>M.lk q (List.mem_filter.mp hq).1,wf:=fun q hq=>have z:=List.mem_filter.mp hq; (M.wf q z.1).elim fun p e=>⟨p,List.mem_filter.mpr ⟨e.1,e.2.symm▸z.2⟩,e.2⟩,cd:=M.cd.keep rfl fun p hp aw o e=>⟨⟨hideAll_none _ (ID hp),ne e,fun q hq=>aw.kp q (fl hq).1,fun q hq=>(List.mem_cons.mp hq).elim (fun e=>e▸aw.L.symm) (aw.sus q),aw.ob⟩,hk _ _ e⟩ }
theorem Mem.base_none (M:Mem X F V t loc locks h) {b:Addr} (e:(mO F V t h).get? b=none):F.h₀.get? b=none:=by
  cases q:F.h₀.get? b with
  | none=>rfl
  | some o=>exact nn (e.symm.trans (M.baseKeeps q))
theorem Mem.away0 (M:Mem X F V t loc locks h) {a:Addr} (x:eO (F.call V t h m L') V₂ t₂ a):eO F V₂ t₂ a:=
  ⟨M.base_none x.h0,(x.sus _ (.head _)).symm,fun p hp q=>(Decidable.em (p.1∈gN V t)).elim (fun z=>x.kp p (List.mem_filter.mpr ⟨hp,decide_eq_true z⟩) q) fun z=>nn ((q▸x.h0).symm.trans (M.there hp z)),fun p hp=>x.sus p (.tail _ hp),x.ob⟩
theorem Mem.back (M:Mem X F V t loc locks h) (hm:h.Ns F.L m) (hl:V.le V₂) (N:Mem X (F.call V t h m L') V₂ t₂ loc₂ locks₂ h₂):Mem X F V₂ t₂ loc locks h₂:=by
  have keep:∀ {b o},(mO F V t h).get? b=some o->h₂.get? b=some o:=fun e=>N.fr.rec fun _ K _=>K.keep _ _ e
  exact { fr:=M.fr.rec fun m0 K l=>.mk m0 ⟨jW hm K.ns▸(N.sus _ (.head _)).ns,fun b o e=>keep (M.baseKeeps e),K.above⟩ fun n a e=>(l n a e).imp fun v q=>⟨q.1,aI hl q.2⟩,obj:=fun i o e=>(N.obj i o e).rec fun ob lt g L h0 r=>.mk ob lt g ((N.sus _ (.head _)).ob i o e) (M.base_none h0) r,inj:=N.inj,kept:=fun p hp=>have q:=M.kept p hp; ⟨(Decidable.em (p.1∈gN V t)).elim (fun z=>(N.kept p (List.mem_filter.mpr ⟨hp,decide_eq_true z⟩)).1) fun z=>keep (M.there hp z),q.2⟩,apart:=fun p hp i o e q=>(Decidable.em (p.1∈gN V t)).elim (fun z=>(List.mem_filter.mp (N.apart p (List.mem_filter.mpr ⟨hp,decide_eq_true z⟩) i o e q)).1) fun z=>(N.obj i o e).rec fun _ _ _ _ h0 _=>nn ((q▸h0).symm.trans (M.there hp z)),sus:=fun p hp=>have q:=M.sus p hp; have z:=N.sus p (.tail _ hp); ⟨z.ns,q.h0,q.L,z.ob⟩,kps:=M.kps,lk:=M.lk,wf:=M.wf,cd:=N.cd.keep rfl fun p hp aw o e=>⟨M.away0 aw,e⟩ }
theorem Mem.shift (M:Mem X F V t loc locks h) (NS:∀ a m,(a=F.L∨∃ p∈F.sus,p.1=a)->h.Ns a m->h'.Ns a m) (hS:∀ b o,h.get? b=some o->b≠F.L->(∀ p∈F.sus,p.1≠b)->¬ cM F V t b->h'.get? b=some o):Mem X F V t loc locks h':=
  { M with fr:=M.fr.rec fun m K l=>.mk m ⟨NS _ _ (.inl rfl) K.ns,fun b o e=>hS b o (K.keep b o e) (fun z=>absurd (Heap.lt_size e) (Nat.not_lt.mpr (z▸K.above))) (fun p hp z=>nn ((z▸(M.sus p hp).h0).symm.trans e)) fun w=>nn (w.a0.h0.symm.trans e),K.above⟩ l,obj:=fun i o e=>(M.obj i o e).rec fun ob lt g L h0 r=>.mk ob lt (hS _ _ g L (fun p hp z=>(M.sus p hp).ob i o e z.symm) fun w=>w.a0.ob i o e rfl) L h0 r,kept:=fun p hp=>have q:=M.kept p hp; ⟨hS _ _ q.1 q.2.1 (fun r hr z=>M.kps p hp r hr z.symm) fun w=>w.a0.kp p hp rfl,q.2⟩,sus:=fun p hp=>have q:=M.sus p hp; ⟨NS _ _ (.inr ⟨p,hp,rfl⟩) q.ns,q.h0,q.L,q.ob⟩,cd:=M.cd.keep rfl fun p hp aw o e=>⟨aw,hS _ _ e aw.L aw.sus fun w=>w.cs p hp rfl⟩ }
theorem Mem.upto (M:Mem X F V t loc locks h) (hU:h.UpToSlots h') (hS:∀ b o,h.get? b=some o->b≠F.L->(∀ p∈F.sus,p.1≠b)->¬ cM F V t b->h'.get? b=some o):Mem X F V t loc locks h':=M.shift (fun _ _ _=>hU.ns) hS
end
section
variable {F:Fm} {V V₂:Pl} {σ σ₂:St} {s s₂:Shared} {m:Str->Option Value} {L':Addr} {e:Addr} {cls a0:Value} {st:Option Value} {A:Around} {env:Env} {Q:Unit->Shared->Prop} {E:Value->Shared->Prop} {G:Prop}
theorem Rel.enter (R:Rel X F V σ s) {h':Heap} {m':Str->Option Value} {loc':List (Nm×AV)} (hm:s.heap.Ns F.L m) (hL:s.heap.objs.size≤L') (hns:h'.Ns L' m') (hk:∀ b o,s.heap.get? b=some o->h'.get? b=some o) (hl:∀ n a,look loc' n=some a->∃ v,m' (tx n)=some v∧den X V a v) (t:Tok):Rel X (F.call V σ.t s.heap m L') V (σ.wl loc') { s with heap:=h',toks:=t }:=
  ⟨R.mem.enter hm hL hns hk hl,R.n,R.facts,R.os,R.gens⟩
theorem Rel.back (R:Rel X F V σ s) (hm:s.heap.Ns F.L m) (hl:V.le V₂) (R₂:Rel X (F.call V σ.t s.heap m L') V₂ σ₂ s₂):Rel X F V₂ ((σ₂.wl σ.loc).wk σ.locks) s₂:=⟨R.mem.back hm hl R₂.mem,R₂.n,R₂.facts,R₂.os,R₂.gens⟩
theorem oZ (R:Rel X F V σ s) {a:Addr} {t₂:AT} (x:cM (F.call V σ.t s.heap m L') V₂ t₂ a):cM F V₂ t₂ a:=⟨R.mem.away0 x.a0,x.cs⟩
structure Ev (A:Around) (env:Env) (F:Fm):Prop where
  f:env.frame=some F.L
  g:∃ envs,A.frames=some (env::envs)∧∀ e∈env::envs,e.scope.kind≠.module∧∃ Lf,e.frame=some Lf∧(Lf=F.L∨Lf∈F.sus.map (·.1))
theorem Rel.frameNs (R:Rel X F V σ s) {Lf:Addr} (q:Lf=F.L∨Lf∈F.sus.map (·.1)):∃ mf,s.heap.Ns Lf mf:=q.elim (fun e=>R.fr.rec fun m K _=>⟨m,e▸K.ns⟩) fun q=>(List.mem_map.mp q).elim fun p z=>⟨p.2,z.2▸(R.mem.sus p z.1).ns⟩
theorem lu {h:Heap} {a:Addr} {mf:Str->Option Value} {o:Obj} {vs:Array Value} (x:h.Ns a mf) (g:h.get? a=some o) (d:o.data=.fields vs):G:=x.elim fun o' x=>x.elim fun es x=>x.elim fun ep x=>by
  have z:=(congrArg Obj.data (sm (g.symm.trans x.1))).symm.trans d
  rw [x.2.1] at z; cases z
inductive Grd (X:Cx) (F:Fm) (V:Pl) (σ:St) (s:Shared) (e:Addr) (cls a0:Value) (st:Option Value) (A:Around) (env:Env):Prop
  | mk (B envs) (hA:A.frames=some (env::envs)) (ff:s.heap.FunFrames B (env::envs)) (sy:B.StaysIn s.heap) (en:B.get? e=none) (tr:∀ fl,st=some fl->s.heap.TracedAtW B e cls a0 fl) (nx:∀ h' fl',B.StaysIn h'->s.heap.UpToSlots h'->h'.TracedAtW B e cls a0 fl'->gb X F V σ { s with heap:=h' } e cls a0 (some fl'))
theorem gb.ground (x:gb X F V σ s e cls a0 st) (hf:Ev A env F):Grd X F V σ s e cls a0 st A env:=by
  obtain ⟨R,hav,he,rfl,hd,h0,tb⟩:=x
  rename_i oe vs
  obtain ⟨envs,hA,hfr⟩:=hf.g
  have main:∀ more:List Addr,(∀ a∈more,cM F V σ.t a)->(∀ fl,st=some fl->∃ T oT ts,vs[1]?=some (.ref T)∧T∈more∧T≠e∧s.heap.get? T=some oT∧oT.data=.fields ts∧ts[3]?=some fl)->Grd X F V σ s e oe.cls a0 st A env:=by
    intro more hmore htr
    have hh:∀ {b},b∈e::(more++F.L::F.sus.map (·.1))->(b=F.L∨b∈F.sus.map (·.1))∨cM F V σ.t b:=fun ha=>(List.mem_cons.mp ha).elim (fun z=>.inr (z▸hav)) fun ha=>(List.mem_append.mp ha).elim (fun q=>.inr (hmore _ q)) fun ha=>.inl (List.mem_cons.mp ha)
    have hn:∀ {Lf},(Lf=F.L∨Lf∈F.sus.map (·.1))->(hideAll s.heap (e::(more++F.L::F.sus.map (·.1)))).get? Lf=none:=fun q=>hideAll_none _ (.tail _ (List.mem_append_right _ (List.mem_cons.mpr q)))
    have funs:∀ l:List Env,(∀ e∈l,e.scope.kind≠.module∧∃ Lf,e.frame=some Lf∧(Lf=F.L∨Lf∈F.sus.map (·.1)))->s.heap.FunFrames (hideAll s.heap (e::(more++F.L::F.sus.map (·.1)))) l:=by
      intro l
      induction l with
      | nil=>exact fun _=>trivial
      | cons en l ih=>exact fun h=>have z:=h en (.head _); ⟨z.1,z.2.elim fun Lf z=>(R.frameNs z.2).elim fun mf N=>N.elim fun o n=>n.elim fun _ n=>n.elim fun _ n=>⟨Lf,o,z.1,hn z.2,n.1,fun vs q=>lu (G:=False) N n.1 q⟩,ih fun e he=>h e (.tail _ he)⟩
    refine .mk _ envs hA (funs _ hfr) (fun b o q=>of_hideAll _ q) (hideAll_none _ (.head _)) (fun fl hfl=>(htr fl hfl).elim fun T q=>q.elim fun oT q=>q.elim fun ts q=>⟨oe,vs,T,oT,ts,he,⟨rfl,h0⟩,hd,q.1,hideAll_none _ (.tail _ (List.mem_append_left _ q.2.1)),q.2.2⟩) fun h' fl' l1 l4 tr=>?_
    obtain ⟨oe',vs',T,oT,ts,t1,t2,t4,t5,t6,t7,t8,t9,t10⟩:=tr
    have R3:Rel X F V σ { s with heap:=h' }:=⟨R.mem.upto l4 fun b o z n1 n2 n3=>l1 b o (hideAll_get _ z fun q=>(hh q).elim (fun q=>q.elim n1 fun q=>(List.mem_map.mp q).elim fun p z=>n2 p z.1 z.2) n3),R.n,R.facts,R.os,R.gens⟩
    refine .mk R3 hav t1 t2.1 t4 t2.2 (.tb t5 ?_ t7 t8 t9 t10)
    cases q:s.heap.get? T with
    | none=>exact R.away q
    | some o=>
      exact (Decidable.em (T∈e::(more++F.L::F.sus.map (·.1)))).elim (fun z=>(hh z).elim (fun z=>(R.frameNs z).elim fun mf N=>lu (l4.ns N) t8 t9) id) fun z=>nn (t6.symm.trans (hideAll_get _ q z))
  cases tb with
  | none z=>exact main [] (fun _ q=>nomatch q) fun _ q=>nn q
  | tb z aw ne g d fr=>exact main [_] (fun a q=>List.mem_singleton.mp q▸aw) fun fl' q=>⟨_,_,_,z,.head _,ne,g,d,sm q▸fr⟩
theorem gb.note (x:gb X F V σ s e cls a0 st) (hs:sA F st) (hf:Ev A env F) (hq:∀ h',gb X F V σ { s with heap:=h' } e cls a0 (some (rawInt F.L))->Q () { s with heap:=h' }):wpAny (model X.prog X.w) A (noteFrame (.ref e) env) Q E s:=by
  obtain ⟨B,envs,hA,g1,g2,g3,g4,g5⟩:=x.ground hf
  cases hs with
  | new=>
    obtain ⟨R,hav,he,rfl,hd,h0,tb⟩:=x
    cases tb with
    | none h1=>
      unfold noteFrame
      simp only [hf.1]
      refine wpAny_bind (wpAny_field he hd h1 ?_)
      rw [if_neg (by decide)]
      exact wpAny_entryW hA g1 hf.1 he g2 g3 hd (Array.getElem?_eq_some_iff.mp h1).1 h0 fun h' n=>hq h' (g5 h' _ n.1 n.2.2.2 n.2.2.1)
  | off=>exact wpAny_noteFrame_onW hA g1 hf.1 (g4 _ rfl) g2 g3 fun h' n=>hq h' (g5 h' _ n.1 n.2.2.2 n.2.2.1)
  | on=>exact wpAny_noteFrame_againW hf.1 (g4 _ rfl) (hq s.heap x)
theorem gb.flight {fl:Value} {f:Option Addr} (x:gb X F V σ s e cls a0 (some fl)) (hq:∀ h',gb X F V σ { s with heap:=h' } e cls a0 (some (f.elim .none fun f=>rawInt f))->Q () { s with heap:=h' }):wpAny (model X.prog X.w) A (setFlight (.ref e) f) Q E s:=by
  obtain ⟨R,hav,he,rfl,hd,h0,tb⟩:=x
  cases tb with
  | tb z aw ne g d fr=>
    rename_i T oT ts
    have lt:=(Array.getElem?_eq_some_iff.mp fr).1
    have other:∀ b,b≠T->(s.heap.update T (Obj.mapFields (·.setIfInBounds 3 (f.elim Value.none fun f=>rawInt f)))).get? b=s.heap.get? b:=fun b hb=>Heap.get?_update_other _ _ hb.symm
    unfold setFlight
    refine wpAny_bind (wpAny_field he hd z ?_)
    rw [if_pos (show (Value.ref T != Value.none)=true from rfl)]
    refine wpAny_setField g d lt (hq _ (.mk ⟨R.mem.upto (fun b o hb hnf=>⟨o.slots,(other b fun q=>hnf ts (sm (hb.symm.trans (q▸g))▸d)).trans hb⟩) fun b o hb _ _ n=>(other b fun q=>n (q▸aw)).trans hb,R.n,R.facts,R.os,R.gens⟩ hav ((other e ne.symm).trans he) rfl hd h0
      (.tb z aw ne (Heap.get?_update_self _ g (Obj.isFreed_of_fields (Obj.data_mapFields d _))) (Obj.data_mapFields d _) (by rw [Array.getElem?_setIfInBounds,if_pos rfl,if_pos lt]))))
theorem gb.back {fl:Value} (x:gb X F V σ s e cls a0 (some fl)) (hf:env.frame=some F.L) (hq:∀ h',gb X F V σ { s with heap:=h' } e cls a0 (some (rawInt F.L))->E (.ref e) { s with heap:=h' }):cameBackBy (model X.prog X.w) A env E (.ref e) s:=by
  obtain ⟨R,hav,he,rfl,hd,h0,tb⟩:=id x
  cases tb with
  | tb z aw ne g d fr=>
    unfold cameBackBy
    refine wpAny_bind (wpAny_field he hd z ?_)
    rw [if_neg (by rintro q; cases q)]
    rw [hf]
    exact x.flight hq
theorem Exn.leave {ev:Value} {c:AV} (R:Rel X F V σ s) (hm:s.heap.Ns F.L m) (hf:Ev A env (F.call V σ.t s.heap m L')) (hl:V.le V₂) (x:Exn X (F.call V σ.t s.heap m L') V₂ σ₂ s₂ ev c) (hq:∀ s',Exn X F V₂ ((σ₂.wl σ.loc).wk σ.locks) s' ev c->Q () s'):wpAny (model X.prog X.w) A («leaving» env ev) Q E s₂:=by
  cases x with
  | mk x hc hs=>
    exact wpAny_bind (x.note hs hf fun h₁ x₁=>x₁.flight fun h₂ x₂=>hq _ (x₂.rec fun R₂ hav he cl hd h0 tb=>.mk (.mk (R.back hm hl R₂) (oZ R hav) he cl hd h0 (match tb with | .tb z aw ne g d fr=>.tb z (oZ R aw) ne g d fr)) hc .off))
theorem Rel.exn (R:Rel X F V σ s) {h':Heap} {T:String} {t:Tok} (hm:Heap.NewExc s.heap h' e T) {n:Ty} (hn:n.nm=T):Exn X F V σ { s with heap:=h',toks:=t } (.ref e) (.ty n):=
  hm.there.elim fun ob q=>q.elim fun u q=>.mk (.mk (R.ext hm.keeps _) (R.away hm.new) q.1 (q.2.1.trans (congrArg _ hn.symm)) q.2.2 rfl (.none rfl)) rfl .new
end
end
section
variable {X:Cx} {sc:Scope}
inductive FlR (X:Cx) (V:Pl):Fl->Flow->Prop
  | next:FlR X V .next .next
  | cont:FlR X V .cont .cont
  | ret {a v} (d:den X V a v):FlR X V (.ret a) (.ret v)
noncomputable def mQ (X:Cx) (F:Fm) (V:Pl) (k:KF) (Q:Flow->Shared->Prop):Prop:=∀ fl f V' σ' s',V.le V'->Rel X F V' σ' s'->FlR X V' fl f->k fl σ'=true->Q f s'
theorem mQ.mono {F V V' k Q} (x:mQ X F V k Q) (h:V.le V'):mQ X F V' k Q:=fun a b W σ' s' l=>x a b W σ' s' (Pl.le_trans h l)
theorem mQ.next {F V V' σ' s'} {k Q} (x:mQ X F V k Q) (l:V.le V') (R:Rel X F V' σ' s') (h:k .next σ'=true):Q .next s':=x .next .next V' σ' s' l R .next h
noncomputable def fH (X:Cx) (sc:Scope) (st:Stmt) (c:CS):Prop:=∀ {f r A env ae F V σ s k ke Q E},dz X f r->Fit X f r sc A env ae F V->Rel X F V σ s->c r ae k ke σ=true->dq X F V ke E->mQ X F V k Q->wpAny (model X.prog X.w) A (exec st env) Q E s
noncomputable def SndSs (X:Cx) (sc:Scope) (ss:List Stmt) (cs:List CS):Prop:=∀ {f r A env ae F V σ s k ke Q E},dz X f r->Fit X f r sc A env ae F V->Rel X F V σ s->stmts r ae ke cs k σ=true->dq X F V ke E->mQ X F V k Q->wpAny (model X.prog X.w) A (execs ss env) Q E s
theorem yz:SndSs X sc [] []:=fun {f r A env ae F V σ s k ke Q E} hr hf R h he hk=>wpAny_execs_nil (hk.next (Pl.le_refl V) R h)
theorem mR {st:Stmt} {ss:List Stmt} {c:CS} {cs:List CS} (h1:fH X sc st c) (h2:SndSs X sc ss cs):SndSs X sc (st::ss) (c::cs):=
  fun hr hf R h he hk=>wpAny_execs_cons (h1 hr hf R h he fun fl f' V1 σ1 s1 l R1 d q=>by
    cases d with
    | next=>exact h2 hr (hf.mono l) R1 q (he.mono l) (hk.mono l)
    | cont=>exact hk .cont .cont V1 σ1 s1 l R1 .cont q
    | ret d=>exact hk _ _ V1 σ1 s1 l R1 (.ret d) q)
theorem AU {e:Expr} {x:C} {pos} (hx:aK X sc e x):fH X sc (.Return (some e) pos) (aL x):=fun hr hf R h he hk=>wpAny_Return_some (hx hr hf R h he fun a v V1 σ1 s1 l R1 d q=>hk (.ret a) (.ret v) V1 σ1 s1 l R1 (.ret d) q)
theorem Ew {t:Expr} {b o:List Stmt} {x:C} {xb xo:List CS} {pos} (ht:eC X sc t x) (hb:SndSs X sc b xb) (ho:SndSs X sc o xo):fH X sc (.If t b o pos) (sIf X.P x xb xo):=
  fun {f r A env ae F V σ s k ke Q E} hr hf R h he hk=>wpAny_If (ht (k:=fun _ q σ=>be q (stmts r ae ke xb k σ) (stmts r ae ke xo k σ)) hr hf R h he fun a q V1 σ1 s1 l R1 _ h1=>qv h1 (fun h=>hb hr (hf.mono l) R1 h (he.mono l) (hk.mono l)) fun h=>ho hr (hf.mono l) R1 h (he.mono l) (hk.mono l))
theorem yA {pos}:fH X sc (.Pass pos) Aj:=fun {f r A env ae F V σ s k ke Q E} hr hf R h he hk=>wpAny_Pass (hk.next (Pl.le_refl V) R h)
theorem yC {e:Expr} {c:C} {pos} (hx:aK X sc e c) (hi:∀ env,env.scope=sc->interactive env=false) (hs:∀ env,env.scope=sc->swapsWith e none pos.line env=pure false):fH X sc (.Expr e pos) (bd c):=
  fun hr hf R h he hk=>wpAny_Expr_any (hx hr hf R h he fun a v V1 σ1 s1 l R1 d q=>hk.next l R1 q) (hi _ hf.scope) (hs _ hf.scope)
theorem gd {f:Nat} {r:Rc} {A:Around} {env:Env} {ae:AE} {F:Fm} {V:Pl} {σ:St} {s:Shared} {n:Nm} {x:Str} {a:AV} {v:Value} {Q:Unit->Shared->Prop} {E:Value->Shared->Prop} (hf:Fit X f r sc A env ae F V) (hx:tx n=x) (hl:sc.names.lookup x=some .local) (R:Rel X F V σ s) (d:den X V a v)
    (hq:∀ s',Rel X F V (σ.wl (put σ.loc n a)) s'->Q () s'):wpAny (model X.prog X.w) A (storeName env x v) Q E s:=by
  rw [storeName_local (hf.name hl) (by rw [hf.env_kind]; rfl),hf.loc,← hx]
  exact R.fr.rec fun m K _=>wpAny_nsSet K.ns fun h' hn hs=>hq _ (R.store K.ns d hn hs _)
theorem AW {x:Str} {n:Nm} {e:Expr} {c:C} {p pos} (hx:tx n=x) (hl:sc.names.lookup x=some .local) (hc:aK X sc e c) (hs:∀ env,env.scope=sc->swapsWith e (some (.Name x p)) pos.line env=pure false):fH X sc (.Assign [.Name x p] e pos) (ag (aE n) c):=
  fun hr hf R h he hk=>wpAny_Assign_Name (hc hr hf R h he fun a v V1 σ1 s1 l R1 d q=>gd (hf.mono l) hx hl R1 d fun s' R'=>hk.next l R' q) (hs _ hf.scope)
section
variable {f:Nat} {r:Rc} {A:Around} {F:Fm} {V:Pl} {σ:St} {s:Shared} {k:KV} {ke:KE} {Q:Value->Shared->Prop} {E:Value->Shared->Prop}
theorem mS {fv:AV} {fx:Value} {as:List AV} {xs:List Value} (hr:dz X f r) (hroom:(∀ f as k ke σ,r f as k ke σ=false)∨lS X f A F) (R:Rel X F V σ s) (hf:den X V fv fx) (hd:au (den X V) as xs) (h:r fv as k ke σ=true) (he:dq X F V ke E) (hk:KOk X F V k Q):wpAny (model X.prog X.w) A (call fx xs) Q E s:=
  hroom.elim (fun hb=>ff ((hb ..).symm.trans h)) fun room=>wpAny_call (hr room R hf hd h he hk)
theorem gA {M:Model} {f:Value} {args:List (Bool×Sem Value)} {Q:Args->Shared->Prop} (hp:args.any (·.1)=false) (h:wpAny M A (spliced args) (fun vs s'=>Q ⟨vs,[]⟩ s') E s):wpAny M A (evalArgs f true args []) Q E s:=by
  cases args with
  | nil=>
    unfold evalArgs
    show wpAny M A (spliced [] >>= _) Q E s
    exact wpAny_bind (wpAny_mono h (fun vs s' h'=>wpAny_bind (wpAny_pure (wpAny_holding (wpAny_bind (wpAny_pure (wpAny_bind (wpAny_pure (wpAny_pure h')))))))) fun _ _ x=>x)
  | cons p rest=>
    obtain ⟨b,x⟩:=p
    cases b with
    | true=>exact ff hp.symm
    | false=>exact Calls.evalArgs_plain h
noncomputable def jY (M:Model) (A:Around) (E:Value->Shared->Prop) (f:Value) (s:Shared):Prop:=∃ kp,∀ Q':Keeper->Shared->Prop,Q' kp s->wpAny M A (keeperOf f) Q' E s
theorem eZ {M:Model} {pos:Pos} {f:Value} {first:List Value} {args:List (Bool×Sem Value)} (hp:args.any (·.1)=false)
    (h:wpAny M A (spliced args) (fun vs s₁=>jY M A E f s₁∧wpAny M A (call f (first++vs) []) Q E s₁) E s):wpAny M A (callWith pos f first args []) Q E s:=by
  unfold callWith
  refine wpAny_bind (wpAny_holding (gA hp (wpAny_mono h (fun vs s₁ h₁=>wpAny_bind (wpAny_standAt ?_)) fun _ _ x=>x)))
  obtain ⟨⟨kp,hkp⟩,hc⟩:=h₁
  have tail:∀ {t:Sem Value},wpAny M A t Q E s₁->wpAny M A (t >>= fun r=>holding [r] point >>= fun _=>pure r) Q E s₁:=
    fun ht=>wpAny_bind (wpAny_mono ht (fun r s₂ hr=>wpAny_bind (wpAny_holding (wpAny_point (wpAny_pure hr)))) fun _ _ x=>x)
  simp only [hp,List.any_nil,Bool.or_false]
  refine wpAny_bind (m:=keeperOf f) (hkp _ ?_)
  cases kp <;> dsimp only
  · split
    · exact tail hc
    · exact tail (by unfold callMarked; exact Calls.wpAny_keep hc)
  · split
    · exact tail hc
    · exact tail (by unfold callMarked; exact Calls.wpAny_keep hc)
  · exact tail hc
  · exact tail (wpAny_operating hc)
theorem kP {M:Model} {a:Addr} {o:Obj} {fd:FuncData} (ho:s.heap.get? a=some o) (hd:o.data=.func fd):jY M A E (.ref a) s:=⟨.frame,fun Q' hq=>wpAny_bind (wpAny_load ho (by rw [hd]; exact wpAny_pure hq))⟩
theorem Rel.fnO {G:Prop} (R:Rel X F V σ s) {i:Nat} {p:Nat×List (Nm×Nat)} (hi:op (σ.t.get i) aj.fn?=some p) (g:∀ ob fd,s.heap.get? (V.at_ i)=some ob->ob.data=.func fd->X.fn p.1 fd->ec V fd.code fd.qualname->(∀ n i,look p.2 n=some i->i < V.n∧fd.closure.lookup (tx n)=some (V.at_ i))->G):G:=
  ao hi fun o ho e=>(R.obj (o:=.fn p.1 p.2) (ho.trans (congrArg some (aj.fn_of e)))).rec fun ob _ h _ _ r=>FnR.rec (fun fd hd f c cs=>g ob fd h hd f c cs) r
theorem qw {f:AV} {fx:Value} (ht:X.K.In F.h₀) (R:Rel X F V σ s) (d:den X V f fx) (h:wS X.P σ f=true):jY (model X.prog X.w) A E fx s:=by
  have T:X.K.In s.heap:=ht.keeps fun b o e=>R.keep e
  refine az h (fun _ h=>ad h fun p hp _=>ao hp fun i hi hp=>aW (P:=fun fx=>jY _ A E fx s) (AV.own_of hi▸d) fun _=>R.fnO hp fun ob fd g hd _ _ _=>kP g hd) ?_
  · intro a ha h
    rw [show fx=.ref a from (AV.top_of ha▸d:den X V (.top a) fx)]
    refine az h (fun _ h=>ad h fun cl hcl h=>?_) fun x hx _=>(X.pok.defs _ _ hx).elim fun ob q=>q.elim fun fd q=>kP (T _ _ q.1) q.2
    obtain ⟨⟨oc,od,cd,sl,hC,_⟩,_,_,_,_,call,_⟩:=makes_of (M:=model X.prog X.w) T (X.pok.cls _ _ hcl (nt h)).mks
    refine ⟨.machine,fun Q' hq=>?_⟩
    unfold keeperOf
    refine wpAny_bind (wpAny_load hC ?_)
    dsimp only
    refine wpAny_bind (call.here ?_)
    rw [if_pos (by decide)]
    exact wpAny_pure hq
theorem cE (pos:Pos) (es:List Expr) (env:Env) (h:(starEach es env).any (·.1)=false):(backTo pos (starEach es env)).any (·.1)=false:=by unfold backTo; rw [List.any_map]; exact h
theorem AX (A:Around) (C:Addr) (rest:List Value) (kw:List (Str×Value)):A.under (.builtin "type.__call__" ⟨.ref C::rest,kw⟩)={ A with depth:=A.depth + 1,units:=A.units + 1 }:=by
  have hw:(Code.builtin "type.__call__" ⟨.ref C::rest,kw⟩).weight=1:=by rfl
  have he:(Code.builtin "type.__call__" ⟨.ref C::rest,kw⟩).envs=[]:=by rfl
  have hg:(Code.builtin "type.__call__" ⟨.ref C::rest,kw⟩).guards=[]:=by rfl
  have hu:(Code.builtin "type.__call__" ⟨.ref C::rest,kw⟩).cUnits=1:=by rfl
  obtain ⟨hd,d,fr,gs,u⟩:=A
  simp only [Around.under,hw,he,hg,hu,pushEnvs,pushGuards]
  try (cases fr <;> rfl)
theorem uP {c:Nat} {cl:Cls} {as:List AV} {xs:List Value} (hr:dz X f r) (hcl:X.P.clss.get c=some cl) (hex:cl.exc=false) (room:lS X (f + 1) A F) (R:Rel X F V σ s) (hd:au (den X V) as xs)
    (h:new (.dict []) σ (fun d σ=>new (.inst c d) σ fun i σ=>r (.top cl.init) (.own i::as) (fun a σ=>ob (jO a) fun z=>z&&k (.own i) σ) ke σ)=true) (hke:dq X F V ke E) (hk:KOk X F V k Q):codeAny (model X.prog X.w) A (.call (.ref c) ⟨xs,[]⟩) (Ret Q E) s:=by
  have T:X.K.In s.heap:=room.top.keeps fun b o e=>R.keep e
  have C:=X.pok.cls c cl hcl hex
  obtain ⟨hh,g,dr,t,os⟩:=s
  have R1:Rel X F (V.add hh.objs.size) (σ.add (.dict [])) ⟨hh.push emptyDict,g,dr,t,os⟩:=R.push (o:=.dict []) (ob:=emptyDict) rfl (dw.mk [] ⟨#[],0,⟨rfl,rfl,rfl⟩,rfl,fun _ h=>(nomatch h),.nil,List.nodup_nil⟩ .nil) t
  have e1:(V.add hh.objs.size).n=σ.n + 1:=R1.n
  have lt:σ.n < (V.add hh.objs.size).n:=e1▸Nat.lt_succ_self _
  have R2:=R1.push (o:=.inst c σ.n) (ob:=instObj c hh.objs.size) rfl ⟨Nat.lt_succ_of_lt lt,by rw [(Pl.le_add (V.add hh.objs.size) _).2 σ.n lt,← R.n,V.add_at]⟩ t
  have le:=Pl.le_trans (Pl.le_add V hh.objs.size) (Pl.le_add _ (hh.push emptyDict).objs.size)
  have di:den X ((V.add hh.objs.size).add (hh.push emptyDict).objs.size) (.own (σ.n + 1)) (.ref (hh.objs.size + 1)):=Heap.size_push hh emptyDict▸cP R1.n (hh.push emptyDict).objs.size
  refine make_core (makes_of T C.mks) (looks_findIn T C.ini) (fun self=>bind_fn T self C.inT) (.inl rfl) ?_
  rw [AX]
  have room':lS X f { A with depth:=A.depth + 1,units:=A.units + 1 } F:=⟨room.hand,by have:=room.depth; show A.depth + 1 + 5 * f < 1000; omega,by have:=room.units; show A.units + 1 + 25 * f < 9020; omega,room.frames.rec fun e q z=>.mk e q z,room.top,room.lim⟩
  exact sJ (Q:=fun v s'=>v=.none∧Q (.ref (hh.objs.size + 1)) s') (hr room' R2 (show den X _ (.top cl.init) (.ref cl.init) from rfl) (.cons di (cZ le hd)) h (hke.mono le) fun a v V3 σ3 s3 l3 R3 d3 q3=>ad q3 fun z hz q=>aa q fun z1 q=>by
    cases a with
    | none=>exact ⟨d3,hk _ _ V3 σ3 s3 (Pl.le_trans le l3) R3 (aI l3 di) q⟩
    | _=>first | exact nn hz | exact ff ((sm hz).trans z1)) (fun _ _ z=>z) fun _ _ z=>z
end
section
variable {prog:Program} {w:World}
theorem uQ {x:Str} {t:Tok} {v:Value} {l:List DictEntry} {kvs:List (Str×Value)} (h:Pairs (strKind prog w) l kvs):(kvs.map (·.1)).Nodup->(∀ e∈l,∃ k,(strKind prog w).is k e.key=true∧e.hash=(strKind prog w).hash k)->
    Pairs (strKind prog w) (putL x (PyData.keyHash w.params x) (.str x t) v l) (stored kvs x v)∧(∀ e∈putL x (PyData.keyHash w.params x) (.str x t) v l,∃ k,(strKind prog w).is k e.key=true∧e.hash=(strKind prog w).hash k)∧(putL x (PyData.keyHash w.params x) (.str x t) v l).length≤l.length + 1:=by
  induction h with
  | nil=>exact fun _ _=>⟨.cons (aY _ _ _ _) rfl .nil,fun e he=>List.mem_singleton.mp he▸⟨x,aY _ _ _ _,rfl⟩,Nat.le_refl _⟩
  | @cons e kv es kvs q1 q2 q3 ih=>
    intro hn hk
    rw [lq hn,putL,sI prog w]
    refine (Decidable.em (kv.1=x)).elim (fun z=>?_) fun z=>?_
    · rw [if_pos z,if_pos (z▸q1)]
      exact ⟨.cons q1 rfl q3,fun d hd=>(List.mem_cons.mp hd).elim (fun z=>z▸hk e (.head _)) fun m=>hk d (.tail _ m),Nat.le_succ _⟩
    · rw [if_neg z,if_neg fun y=>z ((strKind prog w).inj _ _ _ q1 y)]
      have i:=ih (List.nodup_cons.mp hn).2 fun d m=>hk d (.tail _ m)
      exact ⟨.cons q1 q2 i.1,fun d hd=>(List.mem_cons.mp hd).elim (fun e=>e▸hk _ (.head _)) (i.2.1 d),Nat.succ_le_succ i.2.2⟩
theorem gB {K:Type} [DecidableEq K] {kvs:List (K×Value)} {x:K} {v:Value} (hn:(kvs.map (·.1)).Nodup):((stored kvs x v).map (·.1)).Nodup:=by
  unfold stored
  split
  · rw [List.map_map,show kvs.map ((·.1)∘fun kv=>if kv.1=x then (kv.1,v) else kv)=kvs.map (·.1) from List.map_congr_left fun kv _=>by show (if kv.1=x then (kv.1,v) else kv).1=_; split <;> rfl]; exact hn
  · rename_i q
    rw [List.map_append]
    exact List.nodup_append.mpr ⟨hn,List.pairwise_singleton _ _,fun a ha b hb e=>q (List.any_eq_true.mpr ((List.mem_map.mp ha).imp fun kv z=>⟨z.1,decide_eq_true (z.2.trans (e.trans (List.mem_singleton.mp hb)))⟩))⟩
theorem yE {od:Obj} {kvs:List (Str×Value)} {x:Str} {v:Value} (io:od.IsDictOf (strKind prog w) kvs):∃ (es:Tok->List DictEntry) (n:Nat),(∀ t,Obj.putName x (PyData.keyHash w.params x) (.str x t) v od=PySem.W.dictOf (es t) n∧(PySem.W.dictOf (es t) n).IsDictOf (strKind prog w) (stored kvs x v)∧(es t).length≤kvs.length + 1):=by
  obtain ⟨es,ep,⟨c,d,sl⟩,hd,hk,hp,nd⟩:=io
  refine ⟨fun t=>putL x (PyData.keyHash w.params x) (.str x t) v es.toList,putN x es.toList ep,fun t=>?_⟩
  have q:=uQ (x:=x) (t:=t) (v:=v) hp nd fun e he=>hk e (Array.mem_toList_iff.mp he)
  refine ⟨?_,⟨_,_,⟨rfl,rfl,rfl⟩,rfl,fun e he=>q.2.1 e (Array.mem_toList_iff.mpr he),q.1,gB nd⟩,hp.length▸q.2.2⟩
  rw [show od=PySem.W.dictOf es.toList ep by cases od; cases c; cases d; cases sl; cases hd; rfl]
  exact putName_dict ..
end
section
variable {F:Fm} {V:Pl} {σ:St} {s:Shared} {A:Around} {Q:Unit->Shared->Prop} {E:Value->Shared->Prop}
noncomputable def uR (h h₀:Heap) (L d:Addr):List (Addr×Obj):=(List.range h.objs.size).filterMap fun a=>op (h.get? a) fun o=>if a=L∨a=d∨(h₀.get? a).isSome=true then none else some (a,o)
theorem AY {h h₀:Heap} {L d a:Addr} {o:Obj} (ho:h.get? a=some o) (h1:a≠L) (h2:a≠d) (h3:h₀.get? a=none):(a,o)∈uR h h₀ L d:=
  List.mem_filterMap.mpr ⟨a,List.mem_range.mpr (Heap.lt_size ho),by rw [ho]; exact if_neg fun q=>q.elim h1 fun q=>q.elim h2 fun q=>by rw [h3] at q; exact ff q⟩
theorem w8 {h h₀:Heap} {L d:Addr} {p:Addr×Obj} (hp:p∈uR h h₀ L d):h.get? p.1=some p.2∧p.1≠L∧p.1≠d∧h₀.get? p.1=none:=
  (List.mem_filterMap.mp hp).elim fun a q=>ao q.2 fun o ho e=>(Decidable.em (a=L∨a=d∨(h₀.get? a).isSome=true)).elim (fun z=>nn ((if_pos z).symm.trans e)) fun z=>sm ((if_neg z).symm.trans e)▸⟨ho,fun y=>z (.inl y),fun y=>z (.inr (.inl y)),Option.not_isSome_iff_eq_none.mp fun y=>z (.inr (.inr y))⟩
theorem uS {v:AV} {m:Nm} {a:AV} {x y:Value} {k:St->T} (ht:X.K.In F.h₀) (R:Rel X F V σ s) (dv:den X V v x) (da:den X V a y) (h:KJ X.P v m a σ k=true) (hq:∀ σ' s',Rel X F V σ' s'->k σ'=true->Q () s'):wpAny (model X.prog X.w) A (setAttr x (tx m) y) Q E s:=by
  have T:X.K.In s.heap:=ht.keeps fun b o e=>R.keep e
  refine ad h fun i hi h=>aW (P:=fun x=>wpAny _ A (setAttr x (tx m) y) Q E s) (AV.own_of hi▸dv) fun _=>ad h fun cd hcd h=>ad h fun es hes h=>ad h fun fd hfd h=>aa h fun hdat h=>aa h fun hlen h=>aa h fun hlk h=>gc hfd fun cl _ C q=>?_
  have D:wZ X.K cd.1 (tx m):=by cases fd with | dat=>exact q | _=>exact ff hdat
  have hd:=dict_of hes
  refine R.instD (inst_of hcd) hd fun od kvs I g io al=>(yE (x:=tx m) (v:=y) io).elim fun es' p=>p.elim fun n p=>?_
  obtain ⟨e1,e2,e3⟩:=p (s.toks + 1)
  obtain ⟨_,_,_,hdL,hd0,_⟩:=R.obj hd
  refine set_plain T I D.sa (R.fr.rec fun mm KK _=>osa_dict (pre:=[]) (post:=uR s.heap F.h₀ F.L (V.at_ cd.2)) KK (fun p hp=>(List.mem_cons.mp hp).elim (fun e=>e▸⟨g,hdL,hd0⟩) fun hp=>have q:=w8 hp; ⟨q.1,q.2.1,q.2.2.2⟩) T I rfl D.po D.tk D.dc (by rw [kO io]; rfl) (fun p hp=>nomatch hp)
    (fun p hp=>(w8 hp).2.2.1) e1 rfl (Nat.le_trans e3 (Nat.le_trans (Nat.succ_le_succ (al.length▸Nat.le_of_ble_eq_true hlen)) (by decide))) fun h' F' N'=>hq _ _ ?_ h)
  have nd:=(io.elim fun _ x=>x.elim fun _ x=>x.2.2.2.2:(kvs.map (·.1)).Nodup)
  exact R.change (o':=.dict (put es m a)) hd (nt hlk) (fun b o hb bL e=>by
      cases y:F.h₀.get? b with
      | none=>exact (N' _ (.tail _ (AY e bL hb y))).1
      | some o'=>exact (F'.keep _ _ y).trans ((R.keep y).symm.trans e)) (fun _ m N=>jW KK.ns N▸F'.ns) (N' _ (.head _)).1 (dw.mk _ e2 (iQ bW da al nd)) _
end
end
section
theorem lx (f:Array Value->Array Value) (o:Obj):(o.mapSeq f).dict=o.dict:=by obtain ⟨c,d,dt,sl⟩:=o; cases dt <;> rfl
section
variable {prog:Program} {w:World} {A:Around} {E:Value->Shared->Prop} {s:Shared}
theorem ou {l:Addr} {o:Obj} {items:Array Value} {ne:Nat} {k:Int} {t:Tok} {v:Value} {Q:Unit->Shared->Prop} (ho:s.heap.get? l=some o) (hc:o.cls=.type "list") (hd:o.data=.seq items ne) (h0:0≤k) (hfit:k < 2 ^ 63) (hn:k.toNat < items.size)
    (hQ:∀ h' o' n',h'.get? l=some o'->o'.cls=.type "list" -> o'.dict=o.dict->o'.data=.seq (items.setIfInBounds k.toNat v) n'->Heap.SameBut l s.heap h'->Q () { s with heap:=h' }):wpAny (model prog w) A (setItem (.ref l) (.int k t) v) Q E s:=by
  have hl:s.heap.IsList l items:=⟨o,ho,hc,ne,hd⟩
  unfold setItem
  try with_reducible refine wpAny_holding ?_
  first | refine wpAny_bind (wpAny_pure ?_) | skip
  refine wpAny_bind (wpAny_sequenceKey hl.typeIs (by decide) ?_)
  refine wpAny_bind (wpAny_callSpecial?_slot (name:=Str.ofString "__setitem__") hl.typeIs slot_list_setitem (wpAny_call_entry slot_list_setitem hl.typeIs entry_list_setitem ?_ (args_list_setitem _ _ _)))
  show wpAny _ _ (Builtin.List.listSubscript? (.int k t) >>= _) _ _ s
  refine wpAny_bind (wpAny_listSubscript_int (fitsIndex_of h0 hfit) ?_)
  clear hfit
  obtain ⟨j,rfl⟩:=Int.eq_ofNat_of_zero_le h0
  show wpAny _ _ ((seqItemAt l j >>= fun r=>pure (r.map (j,·))) >>= _) _ _ s
  refine wpAny_bind (wpAny_bind (wpAny_seqItemAt ho hd (wpAny_pure ?_)))
  rw [Array.getElem?_eq_getElem (show j < items.size from hn)]
  show wpAny _ _ (setSeqItemAt l j v >>= _) _ _ s
  obtain ⟨n',hd'⟩:=Obj.data_mapSeq hd (·.setIfInBounds j v)
  exact wpAny_bind (wpAny_setSeqItemAt ho hd (wpAny_bind (wpAny_pure (wpAny_pure ⟨.none,rfl,wpAny_pure (hQ _ _ n' (Heap.get?_update_self _ ho (Obj.isFreed_of_seq hd')) ((Obj.cls_mapSeq ..).trans hc) (lx _ _) hd' (Heap.SameBut.update ..))⟩))))
theorem gC {l:Addr} {o:Obj} {items:Array Value} {n:Nat} {x:Value} {Q:Value->Shared->Prop} (ho:s.heap.get? l=some o) (hc:o.cls=.type "list") (hd:o.data=.seq items n)
    (hQ:∀ h' o' n',h'.get? l=some o'->o'.cls=.type "list" -> o'.dict=o.dict->o'.data=.seq (items.push x) n'->Heap.SameBut l s.heap h'->Q .none { s with heap:=h' }) (hsz:items.size≤sizeLine) :
    wpAny (model prog w) A (call (.builtin "list.append") [.ref l,x]) Q E s:=by
  obtain ⟨n',hd'⟩:=Obj.data_mapSeq hd (·.push x)
  refine wpAny_call_entry slot_list_append ⟨o,ho,hc⟩ entry_list_append ?_ (args_list_append _ _)
  show wpAny _ _ (updateSeq l (·.push x) >>= fun _=>ret .none) _ _ s
  exact wpAny_bind (wpAny_updateSeq ho hd (wpAny_pure ⟨.none,rfl,hQ _ _ n' (Heap.get?_update_self _ ho (Obj.isFreed_of_seq hd')) ((Obj.cls_mapSeq ..).trans hc) (lx _ _) hd' (Heap.SameBut.update ..)⟩))
end
variable {X:Cx} {sc:Scope}
section
variable {F:Fm} {V:Pl} {σ:St} {s:Shared} {A:Around} {Q:Unit->Shared->Prop} {E:Value->Shared->Prop} {G:Prop}
theorem Rel.listO (R:Rel X F V σ s) {i:Nat} {xs:List AV} (h:σ.t.get i=some (.list xs)) (g:∀ ob (l:Array Value) n,s.heap.get? (V.at_ i)=some ob->ob.cls=.type "list" -> ob.dict=none->ob.data=.seq l n->au (den X V) xs l.toList->G):G:=
  (R.obj h).rec fun ob _ hob _ _ r=>r.2.rec fun l n hd al=>g ob l n hob r.1.1 r.1.2 hd al
theorem fA {n m:Nat} (h:Nat.ble n 900=true) (e:n=m):m≤sizeLine:=e▸Nat.le_trans (Nat.le_of_ble_eq_true h) (by decide)
theorem mT {o i a:AV} {ov iv v:Value} {k:St->T} (ht:X.K.In F.h₀) (R:Rel X F V σ s) (d1:den X V o ov) (d2:den X V i iv) (d3:den X V a v) (h:Ip o i a σ k=true) (hq:∀ σ' s',Rel X F V σ' s'->k σ'=true->Q () s'):wpAny (model X.prog X.w) A (setItem ov iv v) Q E s:=
  ad h fun b hb h=>aW (P:=fun ov=>wpAny _ A (setItem ov iv v) Q E s) (AV.own_of hb▸d1) fun _=>ad h fun x hx h=>az h
    (fun _ h=>az h
      (fun _ h=>ad h fun xs hxs h=>ad h fun y hy h=>bH (P:=fun iv=>wpAny _ A (setItem (.ref (V.at_ b)) iv v) Q E s) (AV.int_of hy▸d2) fun t=>jU (k:=fun j σ=>ob (idx xs.length j) fun j=>upd b (.list (xs.set j a)) σ k) X.h0 R.facts h fun τ as h=>ad h fun j hj h=>aa h fun hlk h=>w7 hj fun e l1 l2=>have R':=R.asks as; by
          have hx':τ.t.get b=some (.list xs):=as.rec fun _ _=>aj.list_of hxs▸hx
          rw [e]
          exact R'.listO hx' fun ob l n hob hc hn hdt al=>ou hob hc hdt (Int.natCast_nonneg j) (iR l1 l2).2 (al.len▸l1) fun h' o' n' ho' c' dn' d' hsb=>hq _ _ (R'.upd (o':=.list (xs.set j a)) hx' (nt hlk) hsb ho' ⟨⟨c',dn'.trans hn⟩,.mk _ n' d' (by rw [Array.toList_setIfInBounds]; exact al.set d3 j)⟩ s.toks) h)
      fun es hes h=>have hx:=aj.bdict_of hes▸hx; ad h fun q hq' h=>aa h fun hl h=>aa h fun hlk h=>R.bdict hx fun kvs D al=>mJ (P:=fun iv=>wpAny _ A (setItem (.ref (V.at_ b)) iv v) Q E s) d2 hq' fun t=>wpAny_setItem_pairs (bytesKind_is _ _ _ _) D (fun h' D' hs=>hq _ _ (R.updB hx (nt hlk) hs D' (iQ qu d3 al (ft D))) h) (fA hl al.length))
    fun es hes h=>have hx:=aj.dict_of hes▸hx; ad h fun q hq' h=>aa h fun hl h=>aa h fun hlk h=>R.dict hx fun kvs D al=>cD (P:=fun iv=>wpAny _ A (setItem (.ref (V.at_ b)) iv v) Q E s) d2 hq' fun t=>wpAny_setItem_pairs (aY _ _ _ _) D (fun h' D' hs=>hq _ _ (R.updD hx (nt hlk) hs D' (iQ bW d3 al (ft D))) h) (fA hl al.length)
end
noncomputable def LOk (X:Cx) (F:Fm) (V:Pl) (k:St->T) (Q:Unit->Shared->Prop):Prop:=∀ V' σ' s',V.le V'->Rel X F V' σ' s'->k σ'=true->Q () s'
theorem LOk.mono {F V V' k Q} (x:LOk X F V k Q) (l:V.le V'):LOk X F V' k Q:=fun W σ s l'=>x W σ s (Pl.le_trans l l')
noncomputable def AZ (X:Cx) (sc:Scope) (tg:Expr) (c:L):Prop:=∀ {f r A env ae F V σ s a v k ke Q E},dz X f r->Fit X f r sc A env ae F V->Rel X F V σ s->den X V a v->c r ae ke a σ k=true->dq X F V ke E->LOk X F V k Q->wpAny (model X.prog X.w) A (assign tg env v) Q E s
theorem yF {o:Expr} {x:C} {at_:Str} {m:Nm} {pos} (hm:tx m=at_) (hx:aK X sc o x):AZ X sc (.Attribute o at_ pos) (ba X.P x m):=
  fun hr hf R hd h he hk=>by
    rw [PySem.arm_assign_Attribute,← hm]
    exact wpAny_bind (wpAny_holding (hx hr hf R h he fun o ov V1 σ1 s1 l R1 d1 q1=>wpAny_bind (wpAny_standAt (wpAny_bind (wpAny_holding (uS hf.top R1 d1 (aI l hd) q1 fun σ' s' R' q=>wpAny_release (hk V1 σ' s' l R' q)))))))
theorem A0 {o i:Expr} {x y:C} {pos:Pos} (hx:aK X sc o x) (hy:aK X sc i y):AZ X sc (.Subscript o i pos) (cb x y):=
  fun hr hf R hd h he hk=>by
    rw [PySem.arm_assign_Subscript]
    exact wpAny_bind (wpAny_holding (hx hr hf R h he fun ov u V1 σ1 s1 l1 R1 d1 q1=>wpAny_bind (wpAny_holding (hy hr (hf.mono l1) R1 q1 (he.mono l1) fun iv w V2 σ2 s2 l2 R2 d2 q2=>have l:=Pl.le_trans l1 l2
      wpAny_bind (wpAny_standAt (wpAny_bind (wpAny_holding (mT hf.top R2 (aI l2 d1) d2 (aI l hd) q2 fun σ' s' R' q=>wpAny_release (hk V2 σ' s' l R' q)))))))))
theorem iS {tg e:Expr} {t:L} {c:C} {pos} (ht:AZ X sc tg t) (hc:aK X sc e c) (hst:∀ env,(assignEach [tg] env).map (·.2)=[assign tg env]) (hs:∀ env,env.scope=sc->swapsWithSole [tg] e pos.line env=pure false) (hw:∀ env,swappedStores [tg] e env=pure none):fH X sc (.Assign [tg] e pos) (ag t c):=
  fun hr hf R h he hk=>wpAny_Assign_stores (hc hr hf R h he fun a v V1 σ1 s1 l R1 d q=>by
    rw [hst]
    exact ht hr (hf.mono l) R1 d q (he.mono l) fun V2 σ2 s2 l2 R2 q2=>hk.next (Pl.le_trans l l2) R2 q2) (hs _ hf.scope) (hw _)
section
variable {x:Str} {n:Nm} {p:Pos} {f:Nat} {r:Rc} {A:Around} {env:Env} {ae:AE} {F:Fm} {V:Pl} {σ:St} {s:Shared} {a:AV} {v:Value} {k:St->T} {Q:Unit->Shared->Prop} {E:Value->Shared->Prop}
theorem qx (hx:tx n=x) (hl:sc.names.lookup x=some .local) (hf:Fit X f r sc A env ae F V) (R:Rel X F V σ s) (d:den X V a v) (h:store n a σ k=true) (hk:LOk X F V k Q):wpAny (model X.prog X.w) A (assign (.Name x p) env v) Q E s:=
  wpAny_assign_Name (gd hf hx hl R d fun s' R'=>hk V _ s' (Pl.le_refl V) R' h)
theorem w9 (hx:tx n=x) (hl:sc.names.lookup x=some .cell) (hf:Fit X f r sc A env ae F V) (R:Rel X F V σ s) (d:den X V a v) (h:uy n a ae σ k=true) (hk:LOk X F V k Q):wpAny (model X.prog X.w) A (assign (.Name x p) env v) Q E s:=
  ad h fun i hi h=>ad h fun y hy h=>aa h fun hlk h=>ao hy fun o ho hy=>have ho':σ.t.get i=some (.cell y):=ho.trans (congrArg some (aj.cell_of hy))
  (R.obj ho').rec fun ob _ hob _ _ r=>i5.rec (fun y' hd1 _=>wpAny_assign_Name (wpAny_storeName_cell hf.env_kind (hf.name hl) (hx▸(hf.cells n i hi).2) ⟨ob,hob,hd1⟩ fun h' q hs=>q.elim fun ob' q=>hk V _ _ (Pl.le_refl V) (R.upd (o':=.cell (some a)) ho' (nt hlk) hs q.1 (i5.mk _ q.2 fun a' e=>⟨v,rfl,sm e▸d⟩) s.toks) h)) r
end
noncomputable def qy (X:Cx) (sc:Scope) (e:Expr) (t:Tn):Prop:=∀ {f r A env ae F V σ s a v k Q E},Fit X f r sc A env ae F V->Rel X F V σ s->den X V a v->KI ae t a σ k=true->LOk X F V k Q->wpAny (model X.prog X.w) A (assign e env v) Q E s
noncomputable abbrev Ez (X:Cx) (sc:Scope) (e:Expr) (t:Tg):Prop:=AZ X sc e (lTg X.P t)
section
variable {x:Str} {n:Nm} {p:Pos} (hx:tx n=x)
include hx
theorem KS (hl:sc.names.lookup x=some .local):AZ X sc (.Name x p) (aE n):=fun hr hf R hd h he hk=>qx hx hl hf R hd h hk
theorem A1 (hl:sc.names.lookup x=some .local):qy X sc (.Name x p) (.loc n):=fun hf R hd h hk=>qx hx hl hf R hd h hk
theorem A2 (hl:sc.names.lookup x=some .cell):qy X sc (.Name x p) (.cel n):=fun hf R hd h hk=>w9 hx hl hf R hd h hk
theorem A3 (hl:sc.names.lookup x=some .local):Ez X sc (.Name x p) (.loc n):=fun hr hf R hd h he hk=>qx hx hl hf R hd h hk
theorem sK (hl:sc.names.lookup x=some .cell):Ez X sc (.Name x p) (.cel n):=fun hr hf R hd h he hk=>w9 hx hl hf R hd h hk
end
theorem ly {elts:List Expr} {ts:List Tn} (hg:au (qy X sc) elts ts) {f:Nat} {r:Rc} {A:Around} {env:Env} {ae:AE} {F:Fm} {k:St->T} {Q:Unit->Shared->Prop} {E:Value->Shared->Prop}:∀ {V:Pl} {σ:St} {s:Shared} {as:List AV} {vs:List Value},Fit X f r sc A env ae F V->Rel X F V σ s->au (den X V) as vs->wJ ae ts as σ k=true->elts.length=as.length->LOk X F V k Q->wpAny (model X.prog X.w) A (assignInOrder (elts.map fun e=>assign e env) vs) Q E s:=by
  induction hg with
  | nil=>
    intro V σ s as vs hf R hd h hl hk
    cases hd with
    | nil=>exact assignInOrder_nil (hk V σ s (Pl.le_refl V) R h)
    | cons _ _=>cases hl
  | @cons e t elts ts hx hs ih=>
    intro V σ s as vs hf R hd h hl hk
    cases hd with
    | nil=>exact ff h
    | @cons a v as vs da ds=>exact assignInOrder_cons (hx (k:=fun σ=>wJ ae ts as σ k) hf R da h fun V1 σ1 s1 l R1 q=>ih (hf.mono l) R1 (cZ l ds) q (Nat.succ.inj hl) (hk.mono l))
theorem sL {elts:List Expr} {ts:List Tn} {kk:Nat} {pos:Pos} (hg:au (qy X sc) elts ts) (hst:∀ env,assignEach elts env=elts.map fun e=>(false,assign e env)):Ez X sc (.Tuple elts kk pos) (.tup ts):=
  fun {f r A env ae F V σ s a v k ke Q E} hr hf R hd h he hk=>aa (a:=!ae.h) h fun hh h=>ad h fun xs hxs h=>aa h fun hl h=>ao hxs fun o ho hxs=>jX (P:=fun v=>wpAny _ A (assign _ env v) Q E s) hf.top R hd (aj.tup_of hxs▸ho) fun adr l L al _=>by
    have hlen:elts.length=l.size:=hg.length.trans ((nb hl).trans al.len.symm)
    refine wpAny_assign_Tuple (hf.hand (nt hh)) L (by rw [hst,List.length_map]; exact hlen) (by rw [hst,List.findIdx?_eq_none_iff]; exact fun x hx=>(List.mem_map.mp hx).elim fun y q=>q.2▸rfl) fun h' he'=>?_
    rw [hst,List.map_map]
    exact ly hg hf (R.ext (fun b o e=>he' b o (Nat.ne_of_lt (Heap.lt_size e)) e) s.toks) al h (hg.length.trans (nb hl)) hk
end
section
variable {X:Cx} {sc:Scope}
noncomputable def EqA (X:Cx) (A:Around) (s:Shared) (y x:Value) (b:Bool):Prop:=∀ (E:Value->Shared->Prop) (Q:Bool->Shared->Prop),Q b s->wpAny (model X.prog X.w) A (eqBool y x) Q E s
noncomputable def RcA (X:Cx) (A:Around) (s:Shared) (o:CmpOp) (y x:Value) (b:Bool):Prop:=∀ (E:Value->Shared->Prop) (Q:Value->Shared->Prop),Q (.bool b) s->wpAny (model X.prog X.w) A (richCompare o y x) Q E s
theorem EqA.of {A:Around} {s:Shared} {y x:Value} {b:Bool} (h:SeqAt.EqAt A s y x b):EqA X A s y x b:=fun E Q=>h _ _ E Q
theorem EqA.of_refs {A:Around} {s:Shared} {l b:Addr} {k:Bool} (hne:l≠b) (h:RcA X A s .Eq (.ref l) (.ref b) k):EqA X A s (.ref l) (.ref b) k:=fun E Q hq=>wpAny_holding (wpAny_ite_split (fun hab=>absurd (Value.ref.inj (eq_of_beq hab)) hne) fun _=>wpAny_bind (h E _ (wpAny_truthy_bool hq)))
noncomputable def Hit (X:Cx) (A:Around) (s:Shared) (y x:Value) (b:Bool) (P:Prop):Prop:=(EqA X A s y x true∧P)∨(EqA X A s y x false∧b=false)
noncomputable def A4 (X:Cx) (A:Around) (s:Shared) (b:Bool) (l:List Value):List Value->Prop:=l.rec (fun r=>r=[]∧b=true) fun y _ ih r=>∃ x t,r=x::t∧Hit X A s y x b (ih t)
section
open PySem.SeqAt PySem.MeetsSeq PySem.MeetsSeq2 PySem.MeetsSeq3 PySem.SeqRoads2
open PySem.AutoSeq1 (wpAny_loadPart')
noncomputable def listO (d:Option Addr) (v:Array Value) (n:Nat) (sl:Array (Option Value)):Obj:={ cls:=.type "list", dict:=d,data:=.seq v n,slots:=sl }
theorem IE {l b:Addr} {items items2:Array Value} {n n2:Nat} {dd dd2:Option Addr} {sl sl2:Array (Option Value)} (hsz:items.size=items2.size) {q:Bool} {A:Around} {R:Result->Shared->Prop} {s:Shared} (h:R (.ok (.ret (.bool q))) s)
    (hl:s.heap.get? l=some (listO dd items n sl)) (hb:s.heap.get? b=some (listO dd2 items2 n2 sl2)) (k:Nat):∀ i:Nat,i + k=items.size->A4 X A.in1 s q (items.toList.drop i) (items2.toList.drop i)->
    wpAny (model X.prog X.w) A.in1 (Builtin.«list.__eq__.loop» ⟨[.ref l,.ref b,rawInt i,rawInt 2],[]⟩) (fun fin s'=>match fin with | .done f=>R (.ok f) s' | .again c'=>c'.quiet=true∧codeAny (model X.prog X.w) A c' R s') (fun e s'=>R (.error e) s') s:=by
  obtain ⟨hp,g,d,tk,os⟩:=s
  induction k with
  | zero=>
    intro i hi H
    have hi:i=items.size:=hi
    have e1:items[((i:Nat):Int).toNat]?=none:=Array.getElem?_eq_none (Nat.le_of_eq hi.symm)
    have e2:items2[((i:Nat):Int).toNat]?=none:=Array.getElem?_eq_none (Nat.le_of_eq (hi.trans hsz).symm)
    rw [List.drop_eq_nil_of_le (Nat.le_of_eq hi.symm)] at H
    clear hi
    wp_walk using wpAny_loadPart' hl,wpAny_loadPart' hb
    rw [e1,e2]
    wp_walk using wpAny_loadPart' hl,wpAny_loadPart' hb
    show R (.ok (.ret (.bool (items.size==items2.size)))) _
    rw [hsz,beq_self_eq_true,← H.2]
    exact h
  | succ k ih=>
    intro i hi H
    have l1:i < items.size:=Nat.lt_of_lt_of_eq (Nat.lt_add_of_pos_right (Nat.succ_pos k)) hi
    have l2:=hsz▸l1
    have e1:items[((i:Nat):Int).toNat]?=some items[i]:=Array.getElem?_eq_getElem l1
    have e2:items2[((i:Nat):Int).toNat]?=some items2[i]:=Array.getElem?_eq_getElem l2
    have d1:items.toList.drop i=items[i]::items.toList.drop (i + 1):=List.drop_eq_getElem_cons l1
    have d2:items2.toList.drop i=items2[i]::items2.toList.drop (i + 1):=List.drop_eq_getElem_cons l2
    rw [d1,d2] at H
    obtain ⟨x,t,e,H⟩:=H
    obtain ⟨rfl,rfl⟩:=List.cons.inj e
    clear d1 d2 e
    wp_walk using wpAny_loadPart' hl,wpAny_loadPart' hb
    rw [e1,e2]
    refine H.elim (fun H=>wpAny_bind (H.1 _ _ ?_)) fun H=>wpAny_bind (H.1 _ _ ?_)
    · wp_walk
      exact ⟨plainId_quiet plain_eq_loop _,codeAny_builtin entry_eq_loop (by
        rw [Around.under_plainId plain_eq_loop _]
        exact ih (i + 1) ((Nat.add_right_comm i 1 k).trans hi) H.2)⟩
    · wp_walk using wpAny_loadPart' hl,wpAny_loadPart' hb
      rw [e1,e2]
      wp_walk
      exact H.2▸h
theorem RcA.lists {A:Around} {s:Shared} {l b:Addr} {items items2:Array Value} {q:Bool} (hl:s.heap.IsList l items) (hb:s.heap.IsList b items2) (hsz:items.size=items2.size) (hu:A.units < cLine) (H:A4 X A.in1 s q items.toList items2.toList):RcA X A s .Eq (.ref l) (.ref b) q:=fun E Q h=>by
  obtain ⟨⟨cls,dd,data,sl⟩,ho,rfl,n,rfl⟩:=hl
  obtain ⟨⟨cls2,dd2,data2,sl2⟩,ho2,rfl,n2,rfl⟩:=hb
  refine wpAny_richCompare_same_room (op:=.Eq) (T := "list") ⟨_,ho,rfl⟩ ⟨_,ho2,rfl⟩ F.slot_list_eq (wpAny_call (codeAny_call_builtin F.slot_list_eq.plain F.entry_list_eq (F.slot_list_eq.check _ _ _ _ _ _ _ _ ⟨_,ho,rfl⟩ (F.args_list_eq_2 _ _) ?_))) hu
  have f3:=AutoSeq1.sub_list_list
  have hne:¬ (items.size != items2.size)=true:=by rw [hsz,bne_self_eq_false]; exact Bool.false_ne_true
  refine wpAny_mono (Q:=fun fin s'=>match fin with | .done f=>wants (fun v s'=>v≠.notImplemented∧Q v s') E (.ok f) s' | .again c'=>c'.quiet=true∧codeAny (model X.prog X.w) A c' (wants (fun v s'=>v≠.notImplemented∧Q v s') E) s') ?_ (fun fin s' h'=>h') fun _ _ h'=>h'
  obtain ⟨hp,g,d,tk,os⟩:=s
  wp_walk using wpAny_loadPart' ho,wpAny_loadPart' ho2
  exact ⟨plainId_quiet plain_eq_loop _,codeAny_builtin entry_eq_loop (by
    rw [Around.under_plainId plain_eq_loop _]
    exact IE hsz (R:=wants (fun v s'=>v≠.notImplemented∧Q v s') E) ⟨(fun x=>nomatch x),h⟩ ho ho2 items.size 0 (Nat.zero_add _) H)⟩
end
noncomputable def sM (X:Cx) (A:Around) (s:Shared) (kb:List (Str×Value)) (b:Bool) (l:List (Str×Value)):Prop:=l.rec (b=true) fun p _ ih=>(valueAt kb p.1=none∧b=false)∨∃ y,valueAt kb p.1=some y∧Hit X A s p.2 y b ih
inductive IF (X:Cx) (A:Around) (s:Shared) (kb ka:List (Str×Value)) (r:Bool) (z:Nat):List Nat->Prop
  | mk (i:Nat) (hi:i≤z) (H:sM X A s kb r (ka.drop i)):IF X A s kb ka r z (List.range' i (z - i))
section
variable {A:Around} {E:Value->Shared->Prop} {s:Shared} {a b:Addr} {ka kb:List (Str×Value)} {r:Bool} (ha:(a==sysModules)=false) (hb:(b==sysModules)=false) (da:s.heap.DictOf (strKind X.prog X.w) a ka) (db:s.heap.DictOf (strKind X.prog X.w) b kb)
include ha hb da db
theorem samePairs {nm:String} {Q:Bool->Shared->Prop} (hits:ka.length=kb.length->sM X A s kb r ka) (h:Q (ka.length==kb.length&&r) s):wpAny (model X.prog X.w) A (Builtin.Dict.samePairs nm a b) Q E s:=by
  obtain ⟨oa,es,ep,hoa,_,hda,hka,hpa,_⟩:=da
  obtain ⟨ob,es',ep',hob,_,hdb,hkb,hpb,_⟩:=db
  have hla:ka.length=es.size:=hpa.length.symm
  have hlb:kb.length=es'.size:=hpb.length.symm
  rw [hla,hlb] at h
  unfold Builtin.Dict.samePairs Builtin.Dict.showsAll
  rw [if_neg (by rw [ha]; exact Bool.false_ne_true),if_neg (by rw [hb]; exact Bool.false_ne_true)]
  refine wpAny_bind (wpAny_pure (wpAny_bind (wpAny_pure (wpAny_bind (wpAny_dictEntries hoa hda ?_)))))
  dsimp only
  refine wpAny_bind (wpAny_dictEntries hob hdb ?_)
  by_cases hsz:es.size=es'.size
  · have hq:Q r s:=by rw [hsz,beq_self_eq_true,Bool.true_and] at h; exact h
    rw [if_neg (by rw [hsz,bne_self_eq_false]; exact Bool.false_ne_true)]
    refine wpAny_bind (wpAny_dictEpoch hoa hda (wpAny_bind ?_))
    rw [Std.Legacy.Range.forIn_eq_forIn_range']
    simp only [Std.Legacy.Range.size,Nat.sub_zero,Nat.add_sub_cancel,Nat.div_one]
    refine wpAny_forIn_list _ (fun rest q s'=>s'=s∧q=(none,())∧IF X A s kb ka r es.size rest) _ ?_ ?_ _ _ ⟨rfl,rfl,.mk 0 (Nat.zero_le _) (hits (hla.trans (hsz.trans hlb.symm)))⟩
    · intro x rest q s' ⟨e1,e2,D⟩
      subst e1 e2
      generalize hr:x::rest=xs at D
      cases D with
      | mk i hi hd=>
        rcases Nat.eq_or_lt_of_le hi with z | hlt
        · rw [z,Nat.sub_self] at hr; cases hr
        have e:es.size - i=es.size - (i + 1) + 1:=(Nat.succ_pred_eq_of_pos (Nat.sub_pos_of_lt hlt)).symm
        rw [e,List.range'_succ] at hr
        obtain ⟨h1,h2⟩:=List.cons.inj hr
        subst h1
        have next:sM X A s' kb r (ka.drop (x + 1))->IF X A s' kb ka r es.size rest:=fun H=>h2▸.mk (x + 1) hlt H
        have hlt':x < ka.length:=hla▸hlt
        rw [List.drop_eq_getElem_cons hlt'] at hd
        refine wpAny_bind (wpAny_dictEntries hoa hda ?_)
        rw [Array.getElem?_eq_getElem hlt]
        obtain ⟨hkey,hval⟩:=hpa.get? (i:=x) (e:=es[x]) (k:=ka[x].1) (v:=ka[x].2) (Array.getElem?_toList.trans (Array.getElem?_eq_getElem hlt)) (List.getElem?_eq_getElem hlt')
        obtain ⟨k',hk',hh'⟩:=hka es[x] (Array.getElem_mem hlt)
        rw [(strKind X.prog X.w).inj _ _ _ hk' hkey] at hh'
        show wpAny _ _ (holding [es[x].key,es[x].val] _ >>= _) _ _ _
        rw [hh']
        refine wpAny_bind (wpAny_holding (wpAny_bind (wpAny_dictFind_of hkey hob hdb hkb ?_)))
        have hf:findBy (strKind X.prog X.w).is es' ka[x].1=valueAt kb ka[x].1:=by rw [← hpb.find,findBy,← Array.find?_toList]
        cases hj:es'.findIdx? fun e=>(strKind X.prog X.w).is ka[x].1 e.key with
        | none=>
          rw [findBy_of_findIdx?,hj] at hf
          have z:r=false:=hd.elim (·.2) fun d=>d.elim fun y d=>nn (hf.trans d.1)
          refine wpAny_pure ?_
          show wpAny _ _ (if (!false)=true then _ else _) _ _ _
          rw [if_pos (by decide)]
          exact wpAny_pure (wpAny_pure (z▸hq))
        | some j=>
          obtain ⟨hjlt,_,_⟩:=Array.findIdx?_eq_some_iff_getElem.mp hj
          have ej:=Array.getElem?_eq_getElem hjlt
          rw [findBy_of_findIdx?,hj] at hf
          refine wpAny_bind (wpAny_dictEntries hob hdb ?_)
          rw [ej]
          refine hd.elim (fun d=>nn (d.1.symm.trans (hf.symm.trans (congrArg (Option.map _) ej)))) fun d=>d.elim fun y d=>?_
          have ey:y=es'[j].val:=sm (d.1.symm.trans (hf.symm.trans (congrArg (Option.map _) ej)))
          rw [ey,← hval] at d
          refine d.2.elim (fun d=>wpAny_holding (d.1 _ _ ?_)) fun d=>wpAny_holding (d.1 _ _ ?_)
          rotate_left
          · show wpAny _ _ (if (!false)=true then _ else _) _ _ _
            rw [if_pos (by decide)]
            exact wpAny_pure (wpAny_pure (d.2▸hq))
          show wpAny _ _ (if (!true)=true then _ else _) _ _ _
          rw [if_neg (by decide)]
          refine wpAny_bind (wpAny_dictEpoch hoa hda ?_)
          rw [if_neg (by rw [bne_self_eq_false]; exact Bool.false_ne_true)]
          exact wpAny_pure ⟨rfl,rfl,next d.2⟩
    · intro q s' ⟨e1,e2,D⟩
      subst e1 e2
      generalize hr:[]=xs at D
      cases D with
      | mk i hi hd=>
        have hin:i=es.size:=Nat.le_antisymm hi (Nat.le_of_sub_eq_zero (by have:=congrArg List.length hr; rw [List.length_range'] at this; exact this.symm))
        rw [hin,← hla,List.drop_length] at hd
        exact wpAny_pure (show Q true s' from (show r=true from hd)▸hq)
  · have hbf:(es.size==es'.size)=false:=beq_eq_false_iff_ne.mpr hsz
    rw [if_pos (by rw [bne,hbf]; rfl)]
    rw [hbf,Bool.false_and] at h
    exact wpAny_bind (wpAny_rule (wpAny_pure h))
end
end
section
variable {X:Cx} {sc:Scope}
section
variable {A:Around} {s:Shared} {a b:Addr} {ka kb:List (Str×Value)} {r:Bool} (ha:(a==sysModules)=false) (hb:(b==sysModules)=false) (da:s.heap.DictOf (strKind X.prog X.w) a ka) (db:s.heap.DictOf (strKind X.prog X.w) b kb) (hu:A.units < cLine) (hits:ka.length=kb.length->sM X A.in1 s kb r ka)
include ha hb da db hu hits
theorem RcA.dicts:RcA X A s .Eq (.ref a) (.ref b) (ka.length==kb.length&&r):=fun E Q h=>by
  refine wpAny_richCompare_same_room (op:=.Eq) da.typeIs db.typeIs PySem.F.slot_dict_eq (wpAny_call_entry PySem.F.slot_dict_eq da.typeIs PySem.F.entry_dict_eq ?_ (PySem.F.args_dict_eq_2 _ _)) hu
  show wpAny _ _ (Builtin.Dict.dictSlotArgs "__eq__" ⟨[.ref a,.ref b],[]⟩ >>= _) _ _ s
  refine wpAny_bind ?_
  unfold Builtin.Dict.dictSlotArgs
  refine wpAny_bind (wpAny_notOrdered_dict da.typeIs ?_)
  show wpAny _ _ (pure (Value.ref a,Value.ref b)) _ _ s
  refine wpAny_pure (wpAny_bind (wpAny_isInstance (T := "dict") db.typeIs PySem.F.sub_dict_dict ?_))
  rw [if_neg (by decide)]
  exact wpAny_bind (wpAny_pure (wpAny_bind (wpAny_pure (wpAny_bind (samePairs ha hb da db hits (wpAny_pure ⟨_,rfl,(fun x=>nomatch x),(beq_true _).symm▸h⟩))))))
theorem RnA.dicts:RcA X A s .NotEq (.ref a) (.ref b) (!(ka.length==kb.length&&r)):=fun E Q h=>by
  refine wpAny_richCompare_same_room (op:=.NotEq) da.typeIs db.typeIs PySem.F.slot_dict_ne (wpAny_call_entry PySem.F.slot_dict_ne da.typeIs PySem.F.entry_dict_ne ?_ (PySem.F.args_dict_ne_2 _ _)) hu
  show wpAny _ _ (Builtin.Dict.dictSlotArgs "__ne__" ⟨[.ref a,.ref b],[]⟩ >>= _) _ _ s
  refine wpAny_bind ?_
  unfold Builtin.Dict.dictSlotArgs
  refine wpAny_bind (wpAny_notOrdered_dict da.typeIs ?_)
  show wpAny _ _ (pure (Value.ref a,Value.ref b)) _ _ s
  refine wpAny_pure (wpAny_bind (wpAny_isInstance (T := "dict") db.typeIs PySem.F.sub_dict_dict ?_))
  rw [if_neg (by decide)]
  exact wpAny_bind (wpAny_pure (wpAny_bind (wpAny_pure (wpAny_bind (samePairs ha hb da db hits (wpAny_pure ⟨_,rfl,(fun x=>nomatch x),(beq_false _).symm▸h⟩))))))
end
theorem xc (a b:Int):(a==b)=decide (a=b):=Bool.beq_eq_decide_eq _ _
theorem A5 (l r:List Nat):(sx l==sx r)=decide (l=r):=(Bool.beq_eq_decide_eq (sx l) (sx r)).trans (decide_eq_decide.mpr ⟨qs,congrArg sx⟩)
theorem IG (m n:Nm):(tx m==tx n)=Nat.beq m n:=(Bool.beq_eq_decide_eq (tx m) (tx n)).trans ((decide_eq_decide.mpr ⟨jy,congrArg tx⟩).trans (Ak m n).symm)
theorem HO (x:SS):∀ c∈x.den X.nu,c < 256:=by
  unfold SS.den
  generalize x.pcs=l
  induction l with
  | nil=>exact fun c h=>nomatch h
  | cons p l ih=>exact fun c h=>(List.mem_append.mp h).elim (fun h=>by cases p with | lit n=>exact qq n c h | int i=>exact Nat.lt_trans (wW _ c h) (by decide)) (ih c)
theorem A6:∀ l r:List Nat,(∀ c∈l,c < 256)->(∀ c∈r,c < 256)->l.map UInt8.ofNat=r.map UInt8.ofNat->l=r:=by
  intro l
  induction l with
  | nil=>exact fun r _ _ h=>(List.map_eq_nil_iff.mp h.symm).symm
  | cons x l ih=>
    intro r hl hr h
    cases r with
    | nil=>exact nomatch h
    | cons y r=>
      obtain ⟨h1,h2⟩:=List.cons.inj h
      have h1:=congrArg UInt8.toNat h1
      rw [UInt8.toNat_ofNat',UInt8.toNat_ofNat',Nat.mod_eq_of_lt (hl x (.head _)),Nat.mod_eq_of_lt (hr y (.head _))] at h1
      rw [h1,ih r (fun c q=>hl c (.tail _ q)) (fun c q=>hr c (.tail _ q)) h2]
theorem IH (x y:SS):((bx (x.den X.nu)).toList==(bx (y.den X.nu)).toList)=decide (x.den X.nu=y.den X.nu):=
  (Bool.beq_eq_decide_eq _ _).trans (decide_eq_decide.mpr ⟨A6 _ _ (HO x) (HO y),fun e=>congrArg (List.map _) e⟩)
section
variable {A:Around} {F:Fm} {V:Pl} {σ:St} {s:Shared} {a b:AV} {u v:Value} {k:Bool->St->T} {G:Prop} {f:Nat} {e:EqF}
noncomputable def bn (X:Cx) (A:Around) (s:Shared) (o:CmpOp) (u v:Value) (q:Bool):Prop:=∀ (E:Value->Shared->Prop) (Q:Value->Shared->Prop),(∀ t,Q (.bool q) { s with toks:=t })->wpAny (model X.prog X.w) A (compareOp o u v) Q E s
noncomputable def ow (X:Cx) (A:Around) (s:Shared) (u v:Value) (q:Bool):Prop:=bn X A s .Eq u v q∧bn X A s .NotEq u v (!q)
theorem xd {i j:IV} (da:den X V (.int i) u) (db:den X V (.int j) v):ow X A s u v (decide (i.den X.nu=j.den X.nu)):=
  bH (P:=fun u=>ow X A s u v _) da fun t=>bH (P:=fun v=>ow X A s _ v _) db fun t'=>xc ..▸⟨fun E Q hq=>PyProof.Rows.eq_int (hq s.toks),fun E Q hq=>PyProof.Rows.ne_int (hq s.toks)⟩
theorem EA {i j:SS} (da:den X V (.str i) u) (db:den X V (.str j) v):ow X A s u v (decide (i.den X.nu=j.den X.nu)):=
  bQ (P:=fun u=>ow X A s u v _) da fun t=>bQ (P:=fun v=>ow X A s _ v _) db fun t'=>A5 ..▸⟨fun E Q hq=>PyProof.Rows.eq_str (hq s.toks),fun E Q hq=>PyProof.Rows.ne_str (hq s.toks)⟩
theorem yG {i j:SS} (da:den X V (.bytes i) u) (db:den X V (.bytes j) v):ow X A s u v (decide (i.den X.nu=j.den X.nu)):=
  fh (P:=fun u=>ow X A s u v _) da fun t=>fh (P:=fun v=>ow X A s _ v _) db fun t'=>IH i j▸⟨fun E Q hq=>PySem.W.eq_bytes (hq s.toks),fun E Q hq=>PySem.W.ne_bytes (hq s.toks)⟩
theorem eq_int {i j:IV} (da:den X V (.int i) u) (db:den X V (.int j) v):SeqAt.EqAt A s u v (decide (i.den X.nu=j.den X.nu)):=
  bH (P:=fun u=>SeqAt.EqAt A s u v _) da fun t=>bH (P:=fun v=>SeqAt.EqAt A s _ v _) db fun t'=>xc ..▸SeqAt.EqAt.int_int _ _ _ _
theorem eq_str {i j:SS} (da:den X V (.str i) u) (db:den X V (.str j) v):SeqAt.EqAt A s u v (decide (i.den X.nu=j.den X.nu)):=
  bQ (P:=fun u=>SeqAt.EqAt A s u v _) da fun t=>bQ (P:=fun v=>SeqAt.EqAt A s _ v _) db fun t'=>A5 ..▸SeqAt.EqAt.str_str _ _ _ _
noncomputable def EqS (X:Cx) (e:EqF) (f:Nat):Prop:=∀ {A F V σ s a b u v k} {G:Prop},X.K.In F.h₀->A.units + f≤cLine->Rel X F V σ s->den X V a u->den X V b v->e a b σ k=true->(∀ q τ,bp X.nu σ τ->k q τ=true->EqA X A s u v q->G)->G
theorem A7 (E:EqS X e f) (ht:X.K.In F.h₀) (hu:A.units + f≤cLine) (xs:List AV):∀ {us ys vs σ},Rel X F V σ s->au (den X V) xs us->au (den X V) ys vs->xs.length=ys.length->Ii e k xs ys σ=true->(∀ q τ,bp X.nu σ τ->k q τ=true->A4 X A s q us vs->G)->G:=by
  induction xs with
  | nil=>
    intro us ys vs σ R d1 d2 hl h g
    cases d1; cases d2
    · exact g true σ (.refl R.facts) h ⟨rfl,rfl⟩
    · cases hl
  | cons x xs ih=>
    intro us ys vs σ R d1 d2 hl h g
    cases d1 with | cons dx d1=>cases d2 with
      | nil=>exact ff h
      | cons dy d2=>
        refine E (k:=fun q σ=>be q (Ii e k xs _ σ) (k false σ)) ht hu R dx dy h fun q τ as h eq=>?_
        cases q with
          | true=>exact ih (R.asks as) d1 d2 (Nat.succ.inj hl) h fun q τ' as' hk hits=>g q τ' (as.trans as') hk ⟨_,_,rfl,.inl ⟨eq,hits⟩⟩
          | false=>exact g false τ as h ⟨_,_,rfl,.inr ⟨eq,rfl⟩⟩
theorem A8 (E:EqS X e f) (ht:X.K.In F.h₀) (hu:A.units + f≤cLine) {fs:List (Nm×AV)} {kb:List (Str×Value)} (d2:au (kvR X tx V) fs kb) (es:List (Nm×AV)):∀ {ka σ},Rel X F V σ s->au (kvR X tx V) es ka->Ij e k fs es σ=true->(∀ q τ,bp X.nu σ τ->k q τ=true->sM X A s kb q ka->G)->G:=by
  induction es with
  | nil=>
    intro ka σ R d1 h g
    cases d1; exact g true σ (.refl R.facts) h rfl
  | cons p es ih=>
    intro ka σ R d1 h g
    cases d1 with | cons dp d1=>
      refine az h (fun e h=>g false σ (.refl R.facts) h (.inl ⟨dp.1▸fj bW d2 e,rfl⟩)) fun x hx h=>(ee bW d2 hx).elim fun w hw=>E (k:=fun q σ=>be q (Ij e k fs es σ) (k false σ)) ht hu R dp.2 hw.2 h fun q τ as h eq=>?_
      cases q with
      | true=>exact ih (R.asks as) d1 h fun q τ' as' hk hits=>g q τ' (as.trans as') hk (.inr ⟨w,dp.1▸hw.1,.inl ⟨eq,hits⟩⟩)
      | false=>exact g false τ as h (.inr ⟨w,dp.1▸hw.1,.inr ⟨eq,rfl⟩⟩)
theorem sN (E:EqS X e f) (ht:X.K.In F.h₀) (hu:A.units + 1 + f≤cLine) (R:Rel X F V σ s) {i j:Nat} {es fs:List (Nm×AV)} (hi:σ.t.get i=some (.dict es)) (hj:σ.t.get j=some (.dict fs)) (h:Il e es fs σ k=true)
    (g:∀ q τ,bp X.nu σ τ->k q τ=true->RcA X A s .Eq (.ref (V.at_ i)) (.ref (V.at_ j)) q->RcA X A s .NotEq (.ref (V.at_ i)) (.ref (V.at_ j)) (!q)->G):G:=
  have hu':A.units < cLine:=Nat.lt_of_lt_of_le (Nat.lt_succ_self _) (Nat.le_trans (Nat.le_add_right _ _) hu)
  R.dict hi fun ka da al=>R.dict hj fun kb db bl=>aQ h (fun e h=>have hl:ka.length=kb.length:=al.length.symm.trans ((nb e).trans bl.length)
    A8 (A:=A.in1) E ht hu bl es R al h fun q τ as hk H=>g q τ as hk (by have z:=RcA.dicts (A:=A) (R.notMods ht hi) (R.notMods ht hj) da db hu' fun _=>H; rw [hl,beq_self_eq_true,Bool.true_and] at z; exact z) (by have z:=RnA.dicts (A:=A) (R.notMods ht hi) (R.notMods ht hj) da db hu' fun _=>H; rw [hl,beq_self_eq_true,Bool.true_and] at z; exact z))
  fun e h=>have hl:(ka.length==kb.length)=false:=beq_eq_false_iff_ne.mpr fun z=>Nat.ne_of_beq_eq_false e (al.length.trans (z.trans bl.length.symm))
    g false σ (.refl R.facts) h (by have z:=RcA.dicts (A:=A) (r:=true) (R.notMods ht hi) (R.notMods ht hj) da db hu' fun z=>absurd z (beq_eq_false_iff_ne.mp hl); rw [hl,Bool.false_and] at z; exact z) (by have z:=RnA.dicts (A:=A) (r:=true) (R.notMods ht hi) (R.notMods ht hj) da db hu' fun z=>absurd z (beq_eq_false_iff_ne.mp hl); rw [hl,Bool.false_and] at z; exact z)
theorem xe (E:EqS X e f) (ht:X.K.In F.h₀) (hu:A.units + 1 + f≤cLine) (R:Rel X F V σ s) {i j:Nat} (h:eqO e i j σ k=true) (g:∀ q τ,bp X.nu σ τ->k q τ=true->RcA X A s .Eq (.ref (V.at_ i)) (.ref (V.at_ j)) q->(V.at_ i=V.at_ j->i=j)->G):G:=
  have hu':A.units < cLine:=Nat.lt_of_lt_of_le (Nat.lt_succ_self _) (Nat.le_trans (Nat.le_add_right _ _) hu)
  ad h fun o ho h=>ad h fun p hp h=>az h (fun _ h=>ad h fun es hes h=>ad h fun fs hfs h=>sN E ht hu R (aj.dict_of hes▸ho) (aj.dict_of hfs▸hp) h fun q τ as hk c _=>g q τ as hk c (R.mem.inj i j o p ho hp))
    fun xs hxs h=>ad h fun ys hys h=>R.list (aj.list_of hxs▸ho) fun l1 L1 a1=>R.list (aj.list_of hys▸hp) fun l2 L2 a2=>aQ h
      (fun e h=>A7 (A:=A.in1) E ht hu xs R a1 a2 (nb e) h fun q τ as hk H=>g q τ as hk (RcA.lists L1 L2 (a1.len.trans ((nb e).trans a2.len.symm)) hu' H) (R.mem.inj i j o p ho hp))
      fun e h=>g false σ (.refl R.facts) h (fun E Q=>SeqAt.RcAt.lists_lengths L1 L2 (bne_iff_ne.mpr fun z=>Nat.ne_of_beq_eq_false e (a1.len.symm.trans (z.trans a2.len))) hu' _ _ E Q) (R.mem.inj i j o p ho hp)
theorem pc (f:Nat):EqS X (eqD f) f:=by
  induction f with
  | zero=>exact fun _ _ _ _ _ h _=>ff h
  | succ f ih=>
    exact fun {A F V σ s a b u v k G} ht hu R da db h g=>az h (fun _ h=>az h (fun _ h=>ad h fun i hi h=>ad h fun j hj h=>aW (P:=fun u=>(∀ q τ,bp X.nu σ τ->k q τ=true->EqA X A s u v q->G)->G) (AV.own_of hi▸da) (fun _=>aW (P:=fun v=>(∀ q τ,bp X.nu σ τ->k q τ=true->EqA X A s (.ref (V.at_ i)) v q->G)->G) (AV.own_of hj▸db) fun _ g=>aQ h (fun e h=>g true σ (.refl R.facts) h (nb e▸EqA.of (SeqAt.EqAt.same _))) fun e h=>xe (A:=A) ih ht (by rw [Nat.add_right_comm]; exact hu) R h fun q τ as hk c ne=>g q τ as hk (EqA.of_refs (fun z=>Nat.ne_of_beq_eq_false e (ne z)) c)) g)
        fun x hx h=>ad h fun y hy h=>ma X.h0 R.facts h fun τ as h=>g _ τ as h (EqA.of (eq_str (AV.str_of hx▸da) (AV.str_of hy▸db))))
      fun i hi h=>ad h fun j hj h=>gr X.h0 R.facts h fun τ as h=>g _ τ as h (EqA.of (eq_int (AV.int_of hi▸da) (AV.int_of hj▸db)))
end
end
section
variable {X:Cx} {sc:Scope}
section
variable {A:Around} {F:Fm} {V:Pl} {σ:St} {s:Shared} {a b:AV} {u v:Value} {k:Bool->St->T} {G:Prop}
theorem xg {z:T} (R:Rel X F V σ s) (da:den X V a u) (db:den X V b v) (h:eqP a b z σ k=true) (gz:z=true->G) (g:∀ q τ,bp X.nu σ τ->k q τ=true->ow X A s u v q->G):G:=
  az h (fun _ h=>az h (fun _ h=>az h (fun _=>gz) fun x hx h=>ad h fun y hy h=>ma X.h0 R.facts h fun τ as h=>g _ τ as h (yG (AV.bytes_of hx▸da) (AV.bytes_of hy▸db)))
    fun x hx h=>ad h fun y hy h=>ma X.h0 R.facts h fun τ as h=>g _ τ as h (EA (AV.str_of hx▸da) (AV.str_of hy▸db))) fun i hi h=>ad h fun j hj h=>gr X.h0 R.facts h fun τ as h=>g _ τ as h (xd (AV.int_of hi▸da) (AV.int_of hj▸db))
theorem ic (hu:A.units + 60≤cLine):A.units + 1 + 6≤cLine∧A.units < cLine:=by omega
theorem Mm {o:CmpOp} {i:Nat} {q:Bool} {P:Value->Prop} (d:den X V (.own i) u) (g:P (.ref (V.at_ i))->G) (h:P u):G:=aW (P:=fun u=>P u->G) d (fun _=>g) h
theorem EB (ht:X.K.In F.h₀) (hu:A.units + 60≤cLine) (R:Rel X F V σ s) (da:den X V a u) (db:den X V b v) (h:eqV a b σ k=true) (g:∀ q τ,bp X.nu σ τ->k q τ=true->bn X A s .Eq u v q->G):G:=
  xg (A:=A) R da db h (fun h=>ad h fun i hi h=>ad h fun j hj h=>aa h fun hij h=>xe (A:=A) (pc 6) ht (ic hu).1 R h fun q τ as hk c _=>g q τ as hk
    (aW (P:=fun u=>bn X A s .Eq u v q) (AV.own_of hi▸da) fun _=>aW (P:=fun v=>bn X A s .Eq _ v q) (AV.own_of hj▸db) fun _ E Q hq=>c E Q (hq s.toks))) fun q τ as hk c=>g q τ as hk c.1
theorem xh {xs:List AV} (h:xs.all oO=true):∀ {j},j < xs.length->∃ m,qh xs j=some (kv m):=by
  induction xs with
  | nil=>exact fun h=>absurd h (Nat.not_lt_zero _)
  | cons x xs ih=>
    intro j hj
    refine aa (a:=oO x) h fun h1 h2=>?_
    cases j with
    | zero=>exact ad h1 fun m hm _=>⟨m,congrArg some (AV.lit_of hm)⟩
    | succ j=>exact ih h2 (Nat.lt_of_succ_lt_succ hj)
theorem EC (ht:X.K.In F.h₀) (hu:A.units + 60≤cLine) (R:Rel X F V σ s) (da:den X V a u) (db:den X V b v) (h:neV a b σ k=true) (g:∀ q τ,bp X.nu σ τ->k q τ=true->bn X A s .NotEq u v q->G):G:=
  xg (A:=A) (k:=fun q σ=>k (!q) σ) R da db h (fun h=>ad h fun i hi h=>ad h fun o ho h=>by
    have own:∀ {w q},bn X A s .NotEq (.ref (V.at_ i)) w q->bn X A s .NotEq u w q:=fun {w q} c=>aW (P:=fun u=>bn X A s .NotEq u w q) (AV.own_of hi▸da) fun _=>c
    have rf:=bp.refl R.facts
    refine az h (fun _ h=>ad h fun x hx h=>ad h fun xs hxs h=>R.tup (aj.tup_of hxs▸ho) fun l L al=>g true σ rf h (own (bQ (P:=fun v=>bn X A s .NotEq _ v true) (AV.str_of hx▸db) fun t E Q hq=>SeqAt.RcNeAt.tuple_str _ _ L (ic hu).2 _ _ E Q (hq s.toks)))) fun j hj h=>aa h fun hij h=>ad h fun p hp h=>?_
    have own2:∀ {q},bn X A s .NotEq (.ref (V.at_ i)) (.ref (V.at_ j)) q->bn X A s .NotEq u v q:=fun {q} c=>own (aW (P:=fun v=>bn X A s .NotEq _ v q) (AV.own_of hj▸db) fun _=>c)
    refine az h (fun _ h=>ad h fun es hes h=>ad h fun fs hfs h=>sN (A:=A) (k:=fun q σ=>k (!q) σ) (pc 6) ht (ic hu).1 R (aj.dict_of hes▸ho) (aj.dict_of hfs▸hp) h fun q τ as hk _ c=>g (!q) τ as hk (own2 fun E Q hq=>c E Q (hq s.toks)))
      fun xs hxs h=>ad h fun ys hys h=>R.list (aj.list_of hxs▸ho) fun l1 L1 a1=>R.list (aj.list_of hys▸hp) fun l2 L2 a2=>aQ h (fun e h=>aa h fun z1 h=>aa h fun z2 h=>?_)
        fun e h=>g true σ rf h (own2 fun E Q hq=>SeqAt.RcNeAt.lists_lengths L1 L2 (bne_iff_ne.mpr fun z=>Nat.ne_of_beq_eq_false e (a1.len.symm.trans (z.trans a2.len))) (ic hu).2 _ _ E Q (hq s.toks))
    refine g _ σ rf h (own2 fun E Q hq=>?_)
    have c:=SeqAt.RcNeAt.lists (A:=A) (e:=wK xs ys) L1 L2 (a1.len.trans ((nb e).trans a2.len.symm)) (ic hu).2 fun j h1 h2=>?_
    · rw [a1.len] at c; exact c _ _ E Q (hq s.toks)
    · obtain ⟨m,y1⟩:=xh z1 (a1.len▸h1)
      obtain ⟨n,y2⟩:=xh z2 (a2.len▸h2)
      have el:wK xs ys j=Nat.beq m n:=by unfold wK; rw [y1,y2]; rfl
      rw [el,← IG]
      exact a1.nth y1 fun w1 q1 e1=>a2.nth y2 fun w2 q2 e2=>sm ((Array.getElem?_eq_getElem h1).symm.trans (Array.getElem?_toList.symm.trans q1))▸sm ((Array.getElem?_eq_getElem h2).symm.trans (Array.getElem?_toList.symm.trans q2))▸fJ (P:=fun w=>SeqAt.EqAt A.in1 s w w2 _) e1 fun t=>fJ (P:=fun w=>SeqAt.EqAt A.in1 s _ w _) e2 fun t'=>SeqAt.EqAt.str_str _ _ _ _) fun q τ as hk c=>g (!q) τ as hk c.2
theorem ox {q:Bool} (h:jO a=some q) (d:den X V a u):(u==.none)=q∧plainIs u .none=true:=by
  cases a with
  | int i=>exact bH (P:=fun u=>(u==.none)=q∧plainIs u .none=true) d fun _=>sm h▸⟨rfl,rfl⟩
  | str i=>exact bQ (P:=fun u=>(u==.none)=q∧plainIs u .none=true) d fun _=>sm h▸⟨rfl,rfl⟩
  | own i=>exact aW (P:=fun u=>(u==.none)=q∧plainIs u .none=true) d fun _=>sm h▸⟨rfl,rfl⟩
  | none=>rw [show u=Value.none from d]; exact sm h▸⟨rfl,rfl⟩
  | bool p=>exact (show u=Value.bool p from d)▸sm h▸⟨rfl,rfl⟩
  | top p=>exact (show u=Value.ref p from d)▸sm h▸⟨rfl,rfl⟩
  | eq i j=>exact (show u=Value.bool _ from d)▸sm h▸⟨rfl,rfl⟩
  | _=>exact nn h
theorem oy {q:Bool} (h:wN a=true) (d:den X V a u):(u==.bool q)=false∧plainIs u (.bool q)=true:=by
  cases a with
  | int i=>exact bH (P:=fun u=>(u==.bool q)=false∧plainIs u (.bool q)=true) d fun _=>⟨rfl,rfl⟩
  | str i=>exact bQ (P:=fun u=>(u==.bool q)=false∧plainIs u (.bool q)=true) d fun _=>⟨rfl,rfl⟩
  | own i=>exact aW (P:=fun u=>(u==.bool q)=false∧plainIs u (.bool q)=true) d fun _=>⟨rfl,rfl⟩
  | none=>rw [show u=Value.none from d]; exact ⟨rfl,rfl⟩
  | _=>exact ff h
theorem uT {f:(Bool->St->T)->St->T} (H:cC X.nu σ.f) (e:tb a=some f) (d:den X V a u) (h:f k σ=true) (g:∀ q τ,bp X.nu σ τ->k q τ=true->u=.bool q->G):G:=by
  cases a with
  | bool q=>exact g q σ (.refl H) (by rw [← sm e] at h; exact h) d
  | eq i j=>exact gr (k:=k) X.h0 H (by rw [← sm e] at h; exact h) fun τ as h=>g _ τ as h d
  | _=>exact nn e
theorem xi (R:Rel X F V σ s) (da:den X V a u) (db:den X V b v) (h:isV a b σ k=true) (g:∀ q τ,bp X.nu σ τ->k q τ=true->(u==v)=q∧plainIs u v=true->G):G:=
  az h (fun _ h=>ad h fun z hz h=>aa h fun hz' h=>ad h fun q hq h=>by
      have ev:v=.none:=by cases b with | none=>exact db | _=>first | exact nn hz | exact ff ((sm hz).trans hz')
      exact g q σ (.refl R.facts) h (ev▸ox hq da))
    fun fb hb h=>az h (fun _ h=>aa h fun nb h=>uT R.facts hb db h fun q τ as h e=>g false τ as h (e▸oy nb da)) fun fa ha h=>uT (k:=fun p σ=>fb (fun q σ=>k (be p q (!q)) σ) σ) R.facts ha da h fun p τ as h e=>uT (k:=fun q σ=>k (be p q (!q)) σ) as.hold hb db h fun q τ' as' h e'=>g _ τ' (as.trans as') h (e▸e'▸⟨by cases p <;> cases q <;> rfl,rfl⟩)
noncomputable def ED (i:Int):Value->Bool
  | .int j _=>decide (j=i)
  | _=>false
noncomputable def EE (x:List Nat):Value->Bool
  | .str y _=>decide (y=sx x)
  | _=>false
theorem xj {γ:Type} {p:AV->Option γ} {e:γ->St->(Bool->St->T)->T} {hit:Value->Bool} (He:∀ {x y w σ} {k:Bool->St->T} {G:Prop},cC X.nu σ.f->p x=some y->den X V x w->e y σ k=true->(∀ τ,bp X.nu σ τ->k (hit w) τ=true->G)->G) (xs:List AV):∀ {vs:List Value} {σ:St},cC X.nu σ.f->au (den X V) xs vs->inG p e k xs σ=true->(∀ τ,(xs.all fun z=>ob (p z) fun _=>true)=true->bp X.nu σ τ->k (vs.any hit) τ=true->G)->G:=by
  induction xs with
  | nil=>exact fun H d h g=>d.unnil (P:=fun vs=>(∀ τ,_->bp X.nu _ τ->k (vs.any hit) τ=true->G)->G) (fun g=>g _ rfl (.refl H) h) g
  | cons x xs ih=>
    intro vs σ H d h g
    refine d.uncons (P:=fun vs=>(∀ τ,_->bp X.nu σ τ->k (vs.any hit) τ=true->G)->G) (fun w ws dx ds g=>ad h fun y hy h=>aa h fun hall h=>He (k:=fun q σ=>be q (k true σ) (inG p e k xs σ)) H hy dx h fun τ as h=>?_) g
    have all:((x::xs).all fun z=>ob (p z) fun _=>true)=true:=by rw [List.all_cons,hall,hy]; rfl
    exact aQ h (fun e h=>g τ all as (by rw [List.any_cons,e]; exact h)) fun e h=>ih as.hold ds h fun υ _ as' h=>g υ all (as.trans as') (by rw [List.any_cons,e]; exact h)
theorem EF {γ:Type} {p:AV->Option γ} {xs:List AV} {x:AV} (h:(xs.all fun z=>ob (p z) fun _=>true)=true) (m:x∈xs):∃ y,p x=some y:=ad (List.all_eq_true.mp h x m) fun y e _=>⟨y,e⟩
theorem pd {xs:List AV} {vs:Array Value} (H:cC X.nu σ.f) (da:den X V a u) (hv:au (den X V) xs vs.toList) (h:z7 a xs σ k=true) (g:∀ (e:Value->Bool) τ,bp X.nu σ τ->k (vs.any e) τ=true->(∀ A y,y∈vs->SeqAt.EqAt A s y u (e y))->G):G:=
  have fin:∀ {γ:Type} {p:AV->Option γ} {hit:Value->Bool},(∀ {A x y w},p x=some y->den X V x w->SeqAt.EqAt A s w u (hit w))->∀ τ,(xs.all fun z=>ob (p z) fun _=>true)=true->bp X.nu σ τ->k (vs.toList.any hit) τ=true->G:=
    fun {γ p hit} E τ hall as h=>g hit τ as (Array.any_toList▸h) fun A y hy=>(hv.mem (Array.mem_toList_iff.mpr hy)).elim fun x q=>(EF hall q.1).elim fun z e=>E e q.2
  az h (fun _ h=>ad h fun x hx h=>xj (hit:=EE (x.den X.nu)) (fun {x' y w σ k G} H e d h g=>ma X.h0 H h fun τ as h=>g τ as (bQ (P:=fun w=>k (EE _ w) τ=true) (AV.str_of e▸d) fun t=>by
        show k (decide (sx (y.den X.nu)=sx (x.den X.nu))) τ=true
        rw [decide_eq_decide.mpr ⟨qs,congrArg sx⟩]; exact h)) xs H hv h
      (fin fun {A x' y w} e d=>by
        have q:=eq_str (A:=A) (s:=s) (AV.str_of e▸d) (AV.str_of hx▸da)
        have z:EE (x.den X.nu) w=decide (y.den X.nu=x.den X.nu):=bQ (P:=fun w=>EE _ w=_) (AV.str_of e▸d) fun t=>decide_eq_decide.mpr ⟨qs,congrArg sx⟩
        exact z▸q))
    fun i hi h=>xj (hit:=ED (i.den X.nu)) (fun {x' y w σ k G} H e d h g=>gr X.h0 H h fun τ as h=>g τ as (bH (P:=fun w=>k (ED _ w) τ=true) (AV.int_of e▸d) fun t=>h)) xs H hv h
      (fin fun {A x' y w} e d=>by
        have q:=eq_int (A:=A) (s:=s) (AV.int_of e▸d) (AV.int_of hi▸da)
        have z:ED (i.den X.nu) w=decide (y.den X.nu=i.den X.nu):=bH (P:=fun w=>ED _ w=_) (AV.int_of e▸d) fun t=>rfl
        exact z▸q)
theorem sO (ht:X.K.In F.h₀) (R:Rel X F V σ s) (da:den X V a u) (db:den X V b v) (h:Iq X.P a b σ k=true) (g:∀ q τ,bp X.nu σ τ->k q τ=true->bn X A s .In u v q->bn X A s .NotIn u v (!q)->G):G:=
  have g':∀ {q τ},bp X.nu σ τ->k q τ=true->bn X A s .In u v q∧bn X A s .NotIn u v (!q)->G:=fun as h c=>g _ _ as h c.1 c.2
  ad h fun o ho h=>az h (fun _ h=>az h
      (fun _ h=>ad h fun xs hxs h=>jX (P:=fun v=>(∀ {q τ},bp X.nu σ τ->k q τ=true->bn X A s .In u v q∧bn X A s .NotIn u v (!q)->G)->G) ht R db (aj.tup_of hxs▸ho) (fun adr l L al _ g=>pd (s:=s) R.facts da al h fun e τ as hk he=>g as hk ⟨fun E Q hq=>SeqAt.in_tupleAt e L (he A.in1) (hq s.toks),fun E Q hq=>SeqAt.notIn_tupleAt e L (he A.in1) (hq s.toks)⟩) g')
      fun xs hxs h=>fy (P:=fun v=>(∀ {q τ},bp X.nu σ τ->k q τ=true->bn X A s .In u v q∧bn X A s .NotIn u v (!q)->G)->G) ht R db (aj.list_of hxs▸ho) (fun adr l L al _ g=>pd (s:=s) R.facts da al h fun e τ as hk he=>g as hk ⟨fun E Q hq=>SeqAt.in_listAt e L (he A.in1) (hq s.toks),fun E Q hq=>SeqAt.notIn_listAt e L (he A.in1) (hq s.toks)⟩) g')
    fun es hes h=>ad h fun n hn h=>ib (P:=fun v=>(∀ {q τ},bp X.nu σ τ->k q τ=true->bn X A s .In u v q∧bn X A s .NotIn u v (!q)->G)->G) ht R db (aj.dict_of hes▸ho) (fun i kvs _ hi D al g=>g (.refl R.facts) h (cD (P:=fun u=>bn X A s .In u _ _∧bn X A s .NotIn u _ _) da hn fun t=>by
        have e:(valueAt kvs (tx n)).isSome=(look es n).isSome:=by
          cases hl:look es n with
          | none=>rw [fj bW al hl]; rfl
          | some x=>exact (ee bW al hl).elim fun v q=>by rw [q.1]; rfl
        exact ⟨fun E Q hq=>wpAny_in_of (aY _ _ _ _) (R.notMods ht hi) D.mapOf (by rw [e]; exact hq _),fun E Q hq=>wpAny_notIn_of (aY _ _ _ _) (R.notMods ht hi) D.mapOf (by rw [e]; exact hq _)⟩)) g'
noncomputable def Cop.op (o:Cop):CmpOp:=o.rec .Eq .NotEq .Lt .LtE .Gt .GtE .Is .IsNot .In .NotIn
theorem mi (R:Rel X F V σ s) (da:den X V a u) (db:den X V b v) (h:lt2 a b σ k=true) (g:∀ q τ,bp X.nu σ τ->k q τ=true->bn X A s .Lt u v q∧bn X A s .Gt v u q∧bn X A s .GtE u v (!q)∧bn X A s .LtE v u (!q)->G):G:=
  ad h fun i hi h=>ad h fun j hj h=>Ec X.h0 R.facts h fun τ as h=>g _ τ as h (by
    have e:decide (j.den X.nu≤i.den X.nu)=!decide (i.den X.nu < j.den X.nu):=by rw [← decide_not]; exact decide_eq_decide.mpr Int.not_lt.symm
    refine bH (P:=fun u=>bn X A s .Lt u v _∧bn X A s .Gt v u _∧bn X A s .GtE u v _∧bn X A s .LtE v u _) (AV.int_of hi▸da) fun t=>bH (P:=fun v=>bn X A s .Lt _ v _∧bn X A s .Gt v _ _∧bn X A s .GtE _ v _∧bn X A s .LtE v _ _) (AV.int_of hj▸db) fun t'=>e▸⟨fun E Q hq=>PyProof.Rows.lt_int (hq s.toks),fun E Q hq=>PyProof.Rows.gt_int (hq s.toks),fun E Q hq=>PyProof.Rows.ge_int (hq s.toks),fun E Q hq=>PyProof.Rows.le_int (hq s.toks)⟩)
theorem EG {o:Cop} (ht:X.K.In F.h₀) (hu:A.units + 60≤cLine) (R:Rel X F V σ s) (da:den X V a u) (db:den X V b v) (h:cmp X.P o a b σ k=true) (g:∀ q τ,bp X.nu σ τ->k q τ=true->bn X A s o.op u v q->G):G:=by
  cases o with
  | eq=>exact EB ht hu R da db h g
  | ne=>exact EC ht hu R da db h g
  | lt=>exact mi (A:=A) R da db h fun q τ as h c=>g q τ as h c.1
  | gt=>exact mi (A:=A) R db da h fun q τ as h c=>g q τ as h c.2.1
  | ge=>exact mi (A:=A) (k:=fun q σ=>k (!q) σ) R da db h fun q τ as h c=>g _ τ as h c.2.2.1
  | le=>exact mi (A:=A) (k:=fun q σ=>k (!q) σ) R db da h fun q τ as h c=>g _ τ as h c.2.2.2
  | is_=>exact xi R da db h fun q τ as h c=>g q τ as h fun E Q hq=>wpAny_is_plain c.2 (c.1▸hq s.toks)
  | isNot=>exact xi (k:=fun q σ=>k (!q) σ) R da db h fun q τ as h c=>g _ τ as h fun E Q hq=>wpAny_isNot_plain c.2 (c.1▸hq s.toks)
  | in_=>exact sO (A:=A) ht R da db h fun q τ as h c _=>g q τ as h c
  | notIn=>exact sO (A:=A) (k:=fun q σ=>k (!q) σ) ht R da db h fun q τ as h _ c=>g _ τ as h c
theorem sP {o:Cop} {k:KV} (ht:X.K.In F.h₀) (hu:A.units + 60≤cLine) (R:Rel X F V σ s) (da:den X V a u) (db:den X V b v) (h:KL X.P o a b k σ=true) (g:∀ c q τ,bp X.nu σ τ->k c τ=true->den X V c (.bool q)->bn X A s o.op u v q->G):G:=by
  have late:cmp X.P o a b σ (fun q σ=>k (.bool q) σ)=true->G:=fun h=>EG (A:=A) ht hu R da db h fun q τ as h c=>g (.bool q) q τ as h rfl c
  refine aQ h (fun eo h=>az h (fun _=>late) fun i hi h=>az h (fun _=>late) fun j hj h=>?_) fun _=>late
  have ho:o.op=.Eq:=by cases o <;> first | rfl | exact ff eo
  have c:=(xd (A:=A) (s:=s) (AV.int_of hi▸da) (AV.int_of hj▸db)).1
  rw [← ho] at c
  exact aQ h (fun e h=>g _ _ σ (.refl R.facts) h (congrArg Value.bool ((decide_eq_decide.mpr (mz (R:=(·=·)) e fun a b c=>Int.add_right_inj a)).trans (qo ..).symm)) c) fun _ h=>g _ _ σ (.refl R.facts) h rfl c
end
theorem Fit.eqRoom {f:Nat} {r:Rc} {A:Around} {env:Env} {ae:AE} {F:Fm} {V:Pl} (x:Fit X f r sc A env ae F V):A.units + 60≤cLine:=by
  have:=x.units; show A.units + 60≤9900; omega
section
variable {o:Cop} {l r:Expr} {x y:C} {p:CmpOp} {pos:Pos} (ho:o.op=p) (hm:behindInMarks p r=false) (hx:aK X sc l x) (hy:aK X sc r y)
include ho hm hx hy
theorem EH:aK X sc (.Compare l [p] [r] pos) (aF X.P o x y):=
  fun {f rc A env ae F V σ s k ke Q E} hr hf R h he hk=>ho▸wpAny_Compare1 (hx hr hf R h he fun a u V1 σ1 s1 l1 R1 d1 h1=>hy hr (hf.mono l1) R1 h1 (he.mono l1) fun b v V2 σ2 s2 l2 R2 d2 h2=>sP (A:=A) hf.top hf.eqRoom R2 (aI l2 d1) d2 h2 fun c q τ as h dc ct=>ct E Q fun t=>hk c _ V2 τ _ (Pl.le_trans l1 l2) ((R2.asks as).toks t) dc h) (ho▸hm)
theorem A9:eC X sc (.Compare l [p] [r] pos) (aF X.P o x y):=
  fun {f rc A env ae F V σ s k ke Q E} hr hf R h he hk=>ho▸wpAny_isTrue_Compare1 (hx hr hf R h he fun a u V1 σ1 s1 l1 R1 d1 h1=>hy hr (hf.mono l1) R1 h1 (he.mono l1) fun b v V2 σ2 s2 l2 R2 d2 h2=>sP (A:=A) hf.top hf.eqRoom R2 (aI l2 d1) d2 h2 fun c q τ as h dc ct=>ct E _ fun t=>hk.truthy hf.top (Pl.le_trans l1 l2) ((R2.asks as).toks t) dc h) (ho▸hm)
end
end
section
variable {X:Cx} {sc:Scope}
section
variable {env:Env} {n:Nm} {a:AV} {x:Str} {pos:Pos} {f:Nat} {r:Rc} {ae:AE} {A:Around} {F:Fm} {V:Pl} {σ:St} {s:Shared} {Q:Value->Shared->Prop} {E:Value->Shared->Prop}
theorem yH (ht:X.K.In F.h₀) (R:Rel X F V σ s) (hg:env.globals=mainGlobals) (hb:env.builtins=builtinsNs) (h:look X.P.globs n=some a) (hq:∀ v,mG a v->Q v s):wpAny (model X.prog X.w) A (loadGlobal env (tx n)) Q E s:=
  have T:X.K.In s.heap:=ht.keeps fun b o e=>R.keep e
  (lp T X.pok.gns.1).elim fun mg q1=>(lp T X.pok.gns.2).elim fun mb q2=>(X.pok.glob n a h).elim (fun z=>z.elim fun v z=>Calls.loadGlobal_global (hg▸q1.1) (q1.2 _ _ z.1) (hq v z.2))
    fun z=>z.2.elim fun v z'=>Calls.loadGlobal_builtin (hg▸q1.1) (q1.2 _ _ z.1) (hb▸q2.1) (q2.2 _ _ z'.1) (hq v z'.2)
theorem dH (hx:tx n=x) (hk':sc.names.lookup x=some .globalImplicit) (hd:(x==("__debug__" : Str))=false) (ha:look X.P.globs n=some a) (hf:Fit X f r sc A env ae F V) (R:Rel X F V σ s) (hq:∀ v,mG a v->Q v s):wpAny (model X.prog X.w) A (eval (.Name x pos) env) Q E s:=
  Calls.Name_function_global hf.env_kind (hf.name hk') (hx▸yH hf.top R hf.glob hf.blt ha hq) hd
end
theorem EI {n:Nm} {a:AV} {x:Str} {pos} (hx:tx n=x) (hk':sc.names.lookup x=some .globalImplicit) (hd:(x==("__debug__" : Str))=false) (ha:look X.P.globs n=some a):aK X sc (.Name x pos) (aA a):=
  fun hr hf R h he hk=>dH hx hk' hd ha hf R fun v d=>hk.here R d.den h
theorem ph {K:Frag} {h:Heap} (X:K.In h) {a:Addr} (e:uK K a=true):∃ m,h.Ns a m∧m "__init__" = none:=aa e fun e1 e2=>(lp X e1).imp fun m q=>⟨q.1,q.2 _ _ (beq_iff_eq.mp e2)⟩
theorem EJ {K:Frag} {h:Heap} (X:K.In h) (l:List Value):Ay K l=true->OwnTail h mH l:=by
  induction l with
  | nil=>exact ff
  | cons v tl ih=>exact fun e=>dm e (fun e=>beq_iff_eq.mp e▸.base) fun e=>ad e fun A hA e=>ad e fun cd hcd e=>aa e fun e1 e2=>ao hcd fun o ho hcd=>(ph X e1).elim fun m q=>gw hA▸.own ((X _ _ ho).trans (congrArg some (wX hcd))) q.1 q.2 (ih e2)
inductive KT (h:Heap) (C:Addr):Prop
  | mk (nm qn N bs bm hdct sn sub ab col dd k0 k1 k2 k3 k5 mN) (get:h.get? C=some (excClassObj nm qn C N bs bm hdct sn sub ab col dd k0 k1 k2 k3 k5 "Exception.__new__")) (base:bm.contains (.type "BaseException")=true) (tl:OwnTail h mH bm) (ns:h.Ns N mN) (ni:mN "__init__" = none)
theorem EK {c c':Value} {d:Option Addr} {dt dt':Data} {sl sl':Array (Option Value)} (e1:c=c') (e2:dt=dt') (e3:sl=sl'):Obj.mk c d dt sl=Obj.mk c' d dt' sl':=by subst e1 e2 e3; rfl
theorem II {cd:ClassData} {m:List Value} (e:cd.mro=m) (d:cd.hasDel=false):cd={ cd with mro:=m,hasDel:=false }:=by subst e; rw [← d]
theorem Ba {K:Frag} {h:Heap} (X:K.In h) {C:Addr} (q:Az K C=true):KT h C:=
  ad q fun o ho q=>ad q fun cd hcd q=>aa q fun q1 q=>aa q1 fun c1 q1=>aa q1 fun c2 c3=>aa q fun q2 q=>aa q fun q3 q=>aa q fun q4 q5=>(ph X q5).elim fun m q6=>.mk cd.name cd.qualname cd.ns cd.bases cd.mro.tail cd.hasDict cd.slotNames cd.subclasses cd.abstract cd.collection o.dict _ _ _ _ _ m ((X _ _ ho).trans (congrArg some ((wX hcd).trans (EK (beq_iff_eq.mp c1) (congrArg Data.cls (II (beq_iff_eq.mp c2) (nt q2))) (beq_iff_eq.mp c3))))) q3 (EJ X _ q4) q6.1 q6.2
theorem Exn.made {F:Fm} {V:Pl} {σ:St} {s:Shared} {h':Heap} {e:Addr} {c:AV} {cls:Value} {args:List Value} (R:Rel X F V σ s) (hc:Iy c=some cls) (hm:Heap.MadeExcOf s.heap h' e cls args):Exn X F V σ { s with heap:=h' } (.ref e) c:=
  hm.there.elim fun t ht=>.mk (.mk (R.ext hm.keeps s.toks) (R.away hm.new) ht.1 rfl rfl rfl (.none rfl)) hc .new
section
variable {n:Nm} {x:Str} {np cpos pos:Pos} {es:List Expr} {xs:List C} (hx:tx n=x) (hk':sc.names.lookup x=some .globalImplicit) (hd:(x==("__debug__" : Str))=false)
theorem kQ {ae:AE} {b:Bool} {G:Prop} (h:(hc ae&&b)=true) (g:ae.h=false->ae.c=false->b=true->G):G:=aa h fun h1 h=>aa h1 fun a c=>g (nt a) (nt c) h
include hx hk' hd
theorem lz {t:Ty} {newId initId:String} (FC:ExcCallFacts t.nm newId initId) (FR:ExcRaiseFacts t.nm) (ha:look X.P.globs n=some (.ty t)) (hs:eP X sc es xs) (hp:∀ env,(starEach es env).any (·.1)=false) (hn:xs.length≤1000):fH X sc (.Raise (some (.Call (.Name x np) es [] cpos)) none pos) (aU (.ty t) xs):=
  fun hr hf R h he hk=>kQ h fun h1 h2 h=>wpAny_Raise_call FC FR (hf.hand h1) (cE cpos es _ (hp _)) (dH hx hk' hd ha hf R fun v hv=>⟨(hv.den (X:=X) (V:=⟨0,fun _=>0,[]⟩):v=_),gA (cE cpos es _ (hp _)) (hs hr hf R h he fun as vs V1 σ1 s1 l1 R1 d1 n1 h1=>⟨rfl,Nat.le_trans (Nat.le_of_eq (d1.length.symm.trans n1)) (Nat.le_trans hn (by decide)),fun h' e hm=>he (.ty t) _ V1 σ1 _ l1 (Exn.made R1 rfl ⟨hm.keeps,hm.new,hm.there⟩) h1⟩)⟩)
theorem sQ {c:Nat} {cl:Cls} (hcl:X.P.clss.get c=some cl) (hex:cl.exc=true) (ha:look X.P.globs n=some (.top c)) (hs:eP X sc es xs) (hp:∀ env,(starEach es env).any (·.1)=false) (hn:xs.length≤1000):fH X sc (.Raise (some (.Call (.Name x np) es [] cpos)) none pos) (aU (.top c) xs):=
  fun hr hf R h he hk=>kQ h fun h1 h2 h=>(Ba hf.top (X.pok.excs c cl hcl hex)).rec fun nm qn N bs bm hdct sn sub ab col dd k0 k1 k2 k3 k5 mN z1 z2 z3 z4 z5=>wpAny_Raise_call_subT (nm:=nm) (q:=qn) (N:=N) (bs:=bs) (bm:=bm) (hdct:=hdct) (sn:=sn) (sub:=sub) (ab:=ab) (col:=col) (dd:=dd) (k0:=k0) (k1:=k1) (k2:=k2) (k3:=k3) (k5:=k5) (mN:=mN) PySem.F.excBase_Exception (C:=c) z2 (hf.hand h1) (cE cpos es _ (hp _)) z5
      (dH hx hk' hd ha hf R fun v hv=>⟨(hv.den (X:=X) (V:=⟨0,fun _=>0,[]⟩):v=_),gA (cE cpos es _ (hp _)) (hs hr hf R h he fun as vs V1 σ1 s1 l1 R1 d1 n1 h1=>⟨rfl,Nat.le_trans (Nat.le_of_eq (d1.length.symm.trans n1)) (Nat.le_trans hn (by decide)),R1.keep z1,z4.keeps fun _ _=>R1.keep,z3.keeps fun _ _=>R1.keep,fun h' e hm=>he (.top c) _ V1 σ1 _ l1 (Exn.made R1 rfl hm) h1⟩)⟩)
end
theorem EL (f:Nat):dz X f qm:=fun _ _ _ _ h _ _=>ff h
section
variable {f:Nat} {r:Rc} {A:Around} {env:Env} {ae:AE} {F:Fm} {V V':Pl} {σ σ':St} {s s':Shared}
theorem Fit.frOk (x:Fit X f r sc A env ae F V) (hc:ae.c=false):Ev A env F:=
  ⟨(x.own hc).1,(x.own hc).2.imp fun outer h=>x.frames.rec fun envs e ok=>⟨h,sm (e.symm.trans h)▸ok⟩⟩
theorem Fit.handler (x:Fit X f r sc A env ae F V) (v:Option Value):Fit X f qm sc (A.mark v) env ⟨ae.cells,true,ae.c⟩ F V:=
  ⟨x.loc,x.glob,x.blt,x.scope,x.kind,x.cells,fun z=>ff z.symm,x.own,.inr fun _ _ _ _ _=>rfl,x.depth,x.units,x.frames.rec fun e q z=>.mk e q z,x.top,x.lim,x.cq⟩
theorem Rel.relock (R:Rel X F V σ s) (R':Rel X F V' σ' s'):Rel X F V' (σ'.wk σ.locks) s':=⟨{ R'.mem with lk:=R.mem.lk },R'.n,R'.facts,R'.os,R'.gens⟩
end
structure xk (t:String):Prop where
  exc:isSubtype (.type t) (.type "BaseException")=pure true
  nt:isSubtype (.type ((Manifest.find? t).elim "type" fun x=>x.metatype)) (.type "tuple")=pure false
  self:isSubtype (.type t) (.type t)=pure true
theorem kR:xk "ValueError" := ⟨by rw [isSubtype_type]; kernel_rfl,by rw [show ((Manifest.find? "ValueError").elim "type" fun x=>x.metatype) = "type" from by kernel_rfl,isSubtype_type]; kernel_rfl,by rw [isSubtype_type]; kernel_rfl⟩
theorem ie:xk "AssertionError" := ⟨by rw [isSubtype_type]; kernel_rfl,by rw [show ((Manifest.find? "AssertionError").elim "type" fun x=>x.metatype) = "type" from by kernel_rfl,isSubtype_type]; kernel_rfl,by rw [isSubtype_type]; kernel_rfl⟩
theorem mU:xk "KeyError" := ⟨by rw [isSubtype_type]; kernel_rfl,by rw [show ((Manifest.find? "KeyError").elim "type" fun x=>x.metatype) = "type" from by kernel_rfl,isSubtype_type]; kernel_rfl,by rw [isSubtype_type]; kernel_rfl⟩
inductive qz (X:Cx):AV->Prop
  | ty {t:Ty} (h:xk t.nm):qz X (.ty t)
  | top {c cl} (hcl:X.P.clss.get c=some cl) (hex:cl.exc=true):qz X (.top c)
noncomputable def Ty.all:List Ty:=[.int,.str,.list,.dict,.set,.bool,.tuple,.bytes,.ValueError,.AssertionError,.KeyError,.RuntimeError,.TypeError,.Exception,.BaseException,.object,.LookupError,.enumerate]
theorem Ty.all_ix (t:Ty):qh Ty.all t.ctorIdx=some t:=by cases t <;> rfl
theorem Ty.inj {t u:Ty} (h:Nat.beq t.ctorIdx u.ctorIdx=true):t=u:=sm (t.all_ix.symm.trans (nb h▸u.all_ix))
theorem mj {a b:AV} (h:D4 a b=true):a=b∧a≠.none:=
  az h (fun _ h=>ad h fun t ht h=>ad h fun u hu h=>⟨by rw [AV.ty_of ht,AV.ty_of hu,Ty.inj h],fun z=>nn ((congrArg AV.ty? z).symm.trans ht)⟩) fun c hc h=>ad h fun d hd h=>⟨by rw [AV.top_of hc,AV.top_of hd,nb h],fun z=>nn ((congrArg AV.top? z).symm.trans hc)⟩
section
variable {b hb o:List CS} {hv:AV} {body orelse:List Stmt} {pos:Pos}
theorem sR {h₀:ExceptHandler} {hs:List ExceptHandler} (h1:SndSs X sc body b) (h3:SndSs X sc orelse o)
    (hh:∀ {f A env r ae F V σ s k Q} {E:Value->Shared->Prop} {e cls a0},Fit X f r sc A env ae F V->mQ X F V k Q->Iy hv=some cls->hv≠.none->gb X F V σ s e cls a0 (some .none)->stmts qm ⟨ae.cells,true,ae.c⟩ lQ hb k σ=true->wpAny (model X.prog X.w) A (handleBy (.ref e) env (h₀::hs)) Q E s) :
    fH X sc (.Try body (h₀::hs) orelse [] pos) (jT b hv hb o):=
  fun hr hf R h he hk=>kQ h fun e1 e2 h=>wpAny_Try_except (h1 hr hf R h (fun c ev V1 σ1 s1 l1 x1 q=>aa q fun av q=>by
      cases x1 with
      | mk x hc hst=>
        exact x.note hst (hf.frOk e2) fun h2 x2=>x2.flight fun h3 x3=>hh (hf.mono l1) (hk.mono l1) ((mj av).1▸hc) ((mj av).1▸(mj av).2) (x3.rec fun R' aw g cl d z tb=>.mk (R.relock R') aw g cl d z tb) q)
    fun fl fw V1 σ1 s1 l1 R1 d1 q=>by
      cases d1 with
      | next=>exact h3 hr (hf.mono l1) R1 q (he.mono l1) (hk.mono l1)
      | cont=>exact hk .cont .cont V1 σ1 s1 l1 R1 .cont q
      | ret d=>exact hk _ _ V1 σ1 s1 l1 R1 (.ret d) q)
theorem uU {h₀:ExceptHandler} {hs:List ExceptHandler} (h1:SndSs X sc body b) (h3:SndSs X sc orelse o):fH X sc (.Try body (h₀::hs) orelse [] pos) (jT b .none hb o):=sR h1 h3 fun _ _ _ n _ _=>absurd rfl n
theorem Bb {n:Nm} {x:Str} {np hpos:Pos} {b₀:Stmt} {suite:List Stmt} (hok:qz X hv) (hx:tx n=x) (hk':sc.names.lookup x=some .globalImplicit) (hd:(x==("__debug__" : Str))=false) (ha:look X.P.globs n=some hv)
    (h1:SndSs X sc body b) (h2:SndSs X sc (b₀::suite) hb) (h3:SndSs X sc orelse o):fH X sc (.Try body [.ExceptHandler (some (.Name x np)) none (b₀::suite) hpos] orelse [] pos) (jT b hv hb o):=
  sR h1 h3 fun {f A env r ae F V σ s k Q E e cls a0} hf hk hc _ xa h=>by
    have suite_:∀ {s'},gb X F V σ s' e cls a0 (some .none)->∀ {E'},wpAny (model X.prog X.w) (A.mark (some (.ref e))) (setFlight (.ref e) none) (fun _ s₂=>wpAny (model X.prog X.w) (A.mark (some (.ref e))) (execs (b₀::suite) env) Q E' s₂) E' s':=fun {s'} xs {E'}=>xs.flight fun h' x'=>h2 (ke:=lQ) (EL f) (hf.handler _) (x'.rec fun R _ _ _ _ _ _=>R) h (fun _ _ _ _ _ _ _ h=>ff h) hk
    obtain ⟨R,aw,g,cl,d,z,tb⟩:=id xa
    cases hok with
    | top hcl hex=>
      refine wpAny_handleBy_cons (codeAny_handlers_test (dH hx hk' hd ha (hf.handler _) R fun v hv=>?_)) (by rintro ⟨⟩)
      have hv:v=.ref _:=hv.den (X:=X) (V:=V)
      subst hv
      obtain ⟨nm,qn,N,bs,bm,hdct,sn,sub,ab,col,dd,k0,k1,k2,k3,k5,mN,z1,z2,_⟩:=Ba hf.top (X.pok.excs _ _ hcl hex)
      obtain ⟨hp,gg,dr,tk,os⟩:=s
      exact wpAny_excMatches_sub_self (R.keep z1) g (cl.trans (sm hc).symm) z2 (codeAny_handlers_suite (suite_ xa))
    | @ty t ht=>
      exact wpAny_handleBy_builtin (X:=t.nm) (T:=t.nm) (b:=true) ht.exc ht.nt ht.self (dH hx hk' hd ha (hf.handler _) R fun v hv=>⟨hv.den (X:=X) (V:=V),⟨_,g,cl.trans (sm hc).symm⟩,suite_ xa⟩)
end
end
section
variable {X:Cx} {sc:Scope}
section
variable {F:Fm} {V:Pl} {t:AT} {loc:List (Nm×AV)} {locks l:List Nat} {h h':Heap} {K:List (Addr×Obj)} {D:List (Nat×Addr)} {ws:List Addr} {b:Addr}
theorem Mem.but (M:Mem X F V t loc locks h) (hw:∀ b∈ws,cM F V t b) (hk:∀ b o,b∉ws->h.get? b=some o->h'.get? b=some o):Mem X F V t loc locks h':=
  M.shift (fun a m q=>et fun o=>hk a o fun z=>have w:=(hw a z).a0; q.elim w.L fun q=>q.elim fun p q=>w.sus p q.1 q.2) fun b o e _ _ n=>hk b o (fun z=>n (hw b z)) e
noncomputable def Fm.hold (F:Fm) (K:List (Addr×Obj)) (D:List (Nat×Addr)):Fm:={ F with kp:=K++F.kp,lk:=D++F.lk }
structure KU (F:Fm) (V:Pl) (t:AT) (h:Heap) (D:List (Nat×Addr)) (p:Addr×Obj):Prop where
  get:h.get? p.1=some p.2
  L:p.1≠F.L
  h0:F.h₀.get? p.1=none
  sus:∀ q∈F.sus,q.1≠p.1
  cs:∀ q∈V.cs,q.1≠p.1
  ob:∀ i o,t.get i=some o->p.1=V.at_ i->(i,p.1)∈D
theorem fB {α:Type} {l r:List α} {P:α->Prop} (a:∀ x∈l,P x) (b:∀ x∈r,P x) (x:α) (h:x∈l++r):P x:=(List.mem_append.mp h).elim (a x) (b x)
theorem EN (l:List Nat) {r:List Nat} {i:Nat} (h:inL r i=true):inL (l++r) i=true:=by
  induction l with
  | nil=>exact h
  | cons a l ih=>rw [List.cons_append,sh,ih,Bool.or_true]
theorem Mem.hold (M:Mem X F V t loc locks h) (hK:∀ p∈K,KU F V t h D p) (hD:∀ q∈D,inL (l++locks) q.1=true∧∃ p∈K,p.1=q.2):Mem X (F.hold K D) V t loc (l++locks) h:=
  { fr:=M.fr.rec fun m K l=>.mk m K l,obj:=fun i o e=>(M.obj i o e).rec fun ob lt g L h0 r=>.mk ob lt g L h0 r,inj:=M.inj,kept:=fB (fun p hp=>⟨(hK p hp).get,(hK p hp).L,(hK p hp).h0⟩) M.kept,apart:=fB (fun p hp i o e q=>List.mem_append_left _ ((hK p hp).ob i o e q)) fun p hp i o e q=>List.mem_append_right _ (M.apart p hp i o e q),sus:=fun p hp=>have q:=M.sus p hp; ⟨q.ns,q.h0,q.L,q.ob⟩,kps:=fB (fun p hp q hq e=>(hK p hp).sus q hq e.symm) M.kps,lk:=fB (fun q hq=>(hD q hq).1) fun q hq=>EN l (M.lk q hq),wf:=fB (fun q hq=>(hD q hq).2.imp fun p=>.imp_left (List.mem_append_left _)) fun q hq=>(M.wf q hq).imp fun p=>.imp_left (List.mem_append_right _),cd:=M.cd.keep rfl fun p hp aw o e=>⟨⟨aw.h0,aw.L,fB (fun q hq e=>(hK q hq).cs p hp e.symm) aw.kp,aw.sus,aw.ob⟩,e⟩ }
theorem eO.unhold (x:eO (F.hold K D) V t b):eO F V t b:=⟨x.h0,x.L,fun p hp=>x.kp p (List.mem_append_right _ hp),x.sus,x.ob⟩
theorem cM.unhold (x:cM (F.hold K D) V t b):cM F V t b:=⟨x.a0.unhold,x.cs⟩
theorem Mem.unhold {V₂:Pl} {t₂:AT} {loc₂:List (Nm×AV)} {locks₂:List Nat} {h₂:Heap} (M:Mem X F V t loc locks h) (hd:∀ q∈D,∃ o,t.get q.1=some o∧q.2=V.at_ q.1) (N:Mem X (F.hold K D) V₂ t₂ loc₂ locks₂ h₂):Mem X F V₂ t₂ loc₂ locks h₂:=
  { fr:=N.fr.rec fun m K l=>.mk m K l,obj:=fun i o e=>(N.obj i o e).rec fun ob lt g L h0 r=>.mk ob lt g L h0 r,inj:=N.inj,kept:=fun p hp=>N.kept p (List.mem_append_right _ hp),apart:=fun p hp i o e q=>(List.mem_append.mp (N.apart p (List.mem_append_right _ hp) i o e q)).elim (fun m=>(hd _ m).elim fun o' z=>M.apart p hp i o' z.1 z.2) id,sus:=fun p hp=>have q:=N.sus p hp; ⟨q.ns,q.h0,q.L,q.ob⟩,kps:=M.kps,lk:=M.lk,wf:=M.wf,cd:=N.cd.keep rfl fun p hp aw o e=>⟨aw.unhold,e⟩ }
end
section
variable {F:Fm} {V V₂:Pl} {σ σ₂:St} {s s₂:Shared} {K:List (Addr×Obj)} {D:List (Nat×Addr)} {G:Prop}
theorem Rel.unhold (R:Rel X F V σ s) (hd:∀ q∈D,∃ o,σ.t.get q.1=some o∧q.2=V.at_ q.1) (N:Rel X (F.hold K D) V₂ σ₂ s₂):Rel X F V₂ (σ₂.wk σ.locks) s₂:=⟨R.mem.unhold hd N.mem,N.n,N.facts,N.os,N.gens⟩
theorem gb.unhold {e:Addr} {cls a0:Value} {st:Option Value} (R:Rel X F V σ s) (hd:∀ q∈D,∃ o,σ.t.get q.1=some o∧q.2=V.at_ q.1) (x:gb X (F.hold K D) V₂ σ₂ s₂ e cls a0 st):gb X F V₂ (σ₂.wk σ.locks) s₂ e cls a0 st:=
  x.rec fun N aw g cl d z tb=>.mk (R.unhold hd N) aw.unhold g cl d z (match tb with | .none z=>.none z | .tb z aw ne g d fr=>.tb z aw.unhold ne g d fr)
theorem Fit.hold {f:Nat} {r:Rc} {A:Around} {env:Env} {ae:AE} (x:Fit X f r sc A env ae F V):Fit X f r sc A env ae (F.hold K D) V:=
  ⟨x.loc,x.glob,x.blt,x.scope,x.kind,x.cells,x.hand,x.own,x.calls,x.depth,x.units,x.frames.rec fun e q z=>.mk e q z,x.top,x.lim,x.cq⟩
structure xl (F:Fm) (ws fp:List Addr):Prop where
  kp:∀ b∈ws,∀ p∈F.kp,p.1≠b
  lk:∀ b∈ws,∀ q∈F.lk,q.2≠b
  fp:∀ b∈fp,b∈ws∨(∃ ob,(b,ob)∈F.kp)∨∃ o,F.h₀.get? b=some o
structure jB (K:List (Addr×Obj)) (ws:List Addr):Prop where
  all:∀ b∈ws,∃ o,(b,o)∈K
  of:∀ p∈K,p.1∈ws
theorem KW (h:Heap) (ws:List Addr) (hx:∀ b∈ws,∃ o,h.get? b=some o) (g:∀ K,jB K ws->(∀ p∈K,h.get? p.1=some p.2)->G):G:=
  g (ws.filterMap fun b=>op (h.get? b) fun o=>some (b,o)) ⟨fun b hb=>(hx b hb).imp fun o e=>List.mem_filterMap.mpr ⟨b,hb,by rw [e]; rfl⟩,fun p hp=>(List.mem_filterMap.mp hp).elim fun b q=>ao q.2 fun o _ e=>sm e▸q.1⟩
    fun p hp=>(List.mem_filterMap.mp hp).elim fun b q=>ao q.2 fun o ho e=>sm e▸ho
theorem Rel.holdOwn (R:Rel X F V σ s) {ws:List Addr} (hw:∀ b∈ws,cM F V σ.t b) (hx:∀ b∈ws,∃ o,s.heap.get? b=some o) (g:∀ K,jB K ws->Rel X (F.hold K []) V σ s->G):G:=
  KW s.heap ws hx fun K c q=>g K c ⟨R.mem.hold (l:=[]) (fun p hp=>have w:=hw _ (c.of p hp); ⟨q p hp,w.a0.L,w.a0.h0,w.a0.sus,w.cs,fun i o e z=>absurd z.symm (w.a0.ob i o e)⟩) (fun q hq=>nomatch hq),R.n,R.facts,R.os,R.gens⟩
theorem Rel.drop (R:Rel X (F.hold K []) V σ s) {ws fp:List Addr} (fx:xl F ws fp) (c:jB K ws) (wf:∀ q∈F.lk,∃ p∈F.kp,p.1=q.2):Rel X F V σ s∧∀ b∈ws,cM F V σ.t b:=by
  have N:=R.mem
  refine ⟨⟨{ fr:=N.fr.rec fun m K l=>.mk m K l,obj:=fun i o e=>(N.obj i o e).rec fun ob lt g L h0 r=>.mk ob lt g L h0 r,inj:=N.inj,kept:=fun p hp=>N.kept p (List.mem_append_right _ hp),apart:=fun p hp=>N.apart p (List.mem_append_right _ hp),sus:=fun p hp=>have q:=N.sus p hp; ⟨q.ns,q.h0,q.L,q.ob⟩,kps:=fun p hp=>N.kps p (List.mem_append_right _ hp),lk:=N.lk,wf:=wf,cd:=N.cd.keep rfl fun p hp aw o e=>⟨aw.unhold,e⟩ },R.n,R.facts,R.os,R.gens⟩,fun b hb=>(c.all b hb).elim fun o m=>?_⟩
  have m:(b,o)∈K++F.kp:=List.mem_append_left _ m
  have q:=N.kept _ m
  exact ⟨⟨q.2.2,q.2.1,fx.kp b hb,fun p hp e=>N.kps _ m p hp e.symm,fun i o' e z=>fx.lk b hb _ (N.apart _ m i o' e z.symm) rfl⟩,fun p hp e=>(N.cd.cs p hp).rec fun _ aw _ _=>aw.kp _ m e.symm⟩
end
inductive ItR (X:Cx) (V:Pl) (h:Heap):It->Value->Prop
  | one {a v} (d:den X V a v):ItR X V h (.one a) v
  | two {a b T key x} (t:h.IsTuple T #[key,x]) (d1:den X V a key) (d2:den X V b x):ItR X V h (.two a b) (.ref T)
structure Src (X:Cx) (target:Expr) (V:Pl) (xs:List It) where
  I:Addr
  ws:List Addr
  fp:List Addr
  P:Nat->Value->Heap->Prop
  Md:Nat->Value->Heap->Prop
  S:Nat->Heap->Prop
  W:∀ A':Around,A'.handled=none->KTurns X.prog X.w A' target I fp ws xs.length P Md S
  hP:∀ i v h,P i v h->∃ x,xs[i]?=some x∧ItR X V h x v
  hx:∀ i h,S i h->∀ b∈ws,∃ o,h.get? b=some o
  self:∀ (A':Around) (i:Nat) (s':Shared) (Q:Value->Shared->Prop) (E:Value->Shared->Prop),A'.handled=none->S i s'.heap->Q (.ref I) s'->wpAny (model X.prog X.w) A' (pyIter (.ref I)) Q E s'
  two:∀ elts kk p,target=.Tuple elts kk p->elts.length=2
structure Src.At {target:Expr} {V:Pl} {xs:List It} (L:Src X target V xs) (F:Fm) (σ:St) (src:AV) (h:Heap):Prop where
  hw:∀ b∈L.ws,cM F V σ.t b
  hfp:∀ b∈L.fp,b∈L.ws∨i6 F V σ src b
  st:L.S 0 h
section
variable {target:Expr} {V:Pl} {xs:List It} {L:Src X target V xs} {F:Fm} {σ:St} {s:Shared} {src:AV} {G:Prop}
theorem Rel.loopIn (R:Rel X F V σ s) (a:L.At F σ src s.heap) (g:∀ K D,(∀ q∈D,∃ o,σ.t.get q.1=some o∧q.2=V.at_ q.1)->xl (F.hold K D) L.ws L.fp->(∀ q∈(F.hold K D).lk,∃ p∈(F.hold K D).kp,p.1=q.2)->∀ K',jB K' L.ws->Rel X ((F.hold K D).hold K' []) V (σ.wk (kL src++σ.locks)) s->G):G:=by
  have go:∀ (K:List (Addr×Obj)) (D:List (Nat×Addr)),(∀ q∈D,∃ o,σ.t.get q.1=some o∧q.2=V.at_ q.1)->(∀ p∈K,KU F V σ.t s.heap D p)->(∀ q∈D,inL (kL src++σ.locks) q.1=true∧∃ p∈K,p.1=q.2)->(∀ b∈L.ws,∀ p∈K,p.1≠b)->(∀ i o,src=.own i->σ.t.get i=some o->∃ ob,(V.at_ i,ob)∈K)->G:=by
    intro K D hd hK hD hw hs
    have R1:Rel X (F.hold K D) V (σ.wk (kL src++σ.locks)) s:=⟨R.mem.hold hK hD,R.n,R.facts,R.os,R.gens⟩
    have aw:∀ b∈L.ws,cM (F.hold K D) V σ.t b:=fun b hb=>have w:=a.hw b hb; ⟨⟨w.a0.h0,w.a0.L,fB (hw b hb) w.a0.kp,w.a0.sus,w.a0.ob⟩,w.cs⟩
    exact R1.holdOwn aw (L.hx _ _ a.st) fun K' c R2=>g K D hd ⟨fun b hb=>(aw b hb).a0.kp,fun b hb q hq e=>(R1.mem.wf q hq).elim fun p z=>(aw b hb).a0.kp p z.1 (z.2.trans e),fun b hb=>(a.hfp b hb).imp_right fun q=>q.imp_left fun q=>q.elim fun i q=>q.elim fun o q=>(hs i o q.1 q.2.1).imp fun ob m=>q.2.2▸List.mem_append_left _ m⟩ R1.mem.wf K' c R2
  refine (Classical.em (∃ i o,src=.own i∧σ.t.get i=some o)).elim (fun q=>q.elim fun i q=>q.elim fun o q=>?_) fun n=>go [] [] (fun _ h=>nomatch h) (fun _ h=>nomatch h) (fun _ h=>nomatch h) (fun _ _ _ h=>nomatch h) fun i o e f=>absurd ⟨i,o,e,f⟩ n
  have one:∀ {α:Type} {P:α->Prop} {a:α},P a->∀ x∈[a],P x:=fun h x m=>List.mem_singleton.mp m▸h
  exact (R.obj q.2).rec fun ob lt get nL h0 _=>go [(V.at_ i,ob)] [(i,V.at_ i)] (one ⟨o,q.2,rfl⟩) (one ⟨get,nL,h0,fun r hr e=>(R.mem.sus r hr).ob i o q.2 e.symm,fun r hr e=>(R.mem.cd.cs r hr).rec fun _ aw _ _=>aw.ob i o q.2 e.symm,fun j o' e z=>List.mem_singleton.mpr (congrArg (·,V.at_ i) (R.mem.inj j i o' o e q.2 z.symm))⟩)
    (one ⟨q.1▸(sh i σ.locks i).trans (by rw [decide_eq_true rfl]; rfl),(V.at_ i,ob),.head _,rfl⟩) (fun b hb=>one ((a.hw b hb).a0.ob i o q.2)) fun j o' e _=>⟨ob,sm (congrArg AV.own? (q.1.symm.trans e))▸.head _⟩
end
end
section
variable {X:Cx} {sc:Scope}
inductive ig (X:Cx) (sc:Scope):Expr->Tg->Prop
  | loc {x n p} (hx:tx n=x) (hl:sc.names.lookup x=some .local):ig X sc (.Name x p) (.loc n)
  | cel {x n p} (hx:tx n=x) (hl:sc.names.lookup x=some .cell):ig X sc (.Name x p) (.cel n)
  | tup {elts ts kk p} (g:au (qy X sc) elts ts) (hst:∀ env,assignEach elts env=elts.map fun e=>(false,assign e env)):ig X sc (.Tuple elts kk p) (.tup ts)
theorem ig.snd {e:Expr} {t:Tg} (h:ig X sc e t):Ez X sc e t:=by
  cases h with
  | loc hx hl=>exact A3 hx hl
  | cel hx hl=>exact sK hx hl
  | tup g hst=>exact sL g hst
theorem gD {F:Fm} {V:Pl} {E:Value->Shared->Prop}:dq X F V lQ E:=fun _ _ _ _ _ _ _ h=>ff h
section
variable {target:Expr} {tg:Tg} {A:Around} {env:Env} {ae:AE} {f:Nat} {r:Rc} {F:Fm} {V0 V V1:Pl} {σ:St} {s:Shared} {xs:List It} {x:It} {v:Value} {k:St->T} {Q:Unit->Shared->Prop} {E E₂:Value->Shared->Prop}
theorem sS (hr:dz X f r) (g:ig X sc target tg) (two:∀ elts kk p,target=.Tuple elts kk p->elts.length=2) (hh:A.handled=none) (hf:Fit X f r sc A env ae F V) (R:Rel X F V σ s) (l:V0.le V) (hx:ItR X V0 s.heap x v) (h:HL X.P ae tg x σ k=true) (hk:LOk X F V k Q):wpAny (model X.prog X.w) A (assign target env v) Q E s:=by
  cases hx with
  | one d=>exact g.snd (k:=k) hr hf R (aI l d) h gD hk
  | @two a b T key x t d1 d2=>
    cases g with
    | loc _ _=>exact ff h
    | cel _ _=>exact ff h
    | tup g hst=>
      refine wpAny_assign_Tuple hh t (by rw [hst,List.length_map,two _ _ _ rfl]; rfl) (by rw [hst,List.findIdx?_eq_none_iff]; exact fun x hx=>(List.mem_map.mp hx).elim fun y q=>q.2▸rfl) fun h' he'=>?_
      rw [hst,List.map_map]
      exact ly g hf (R.ext (fun b o e=>he' b o (Nat.ne_of_lt (Heap.lt_size e)) e) s.toks) (.cons (aI l d1) (.cons (aI l d2) .nil)) h (two _ _ _ rfl) hk
inductive Src.Inv (L:Src X target V0 xs) (F:Fm) (ae:AE) (tg:Tg) (body:St->(Fl->St->T)->T) (kf:Fl->St->T) (V1:Pl) (n:Nat) (s:Shared):Prop
  | mk {i V σ K} (e:n + i=xs.length) (l:V1.le V) (c:jB K L.ws) (R:Rel X (F.hold K []) V σ s) (st:L.S i s.heap) (h:turns X.P ae tg body kf (xs.drop i) σ=true)
theorem Src.turn (L:Src X target V0 xs) {body:St->(Fl->St->T)->T} {kf:Fl->St->T} {n:Nat} {B:Shared->Prop} {Post:Option Value->Shared->Prop} {E₃:Value->Shared->Prop} (hr:dz X f r) (g:ig X sc target tg) (hh:A.handled=none) (hf:Fit X f r sc A env ae F V1) (l0:V0.le V1) (fx:xl F L.ws L.fp) (wf:∀ q∈F.lk,∃ p∈F.kp,p.1=q.2)
    (I:L.Inv F ae tg body kf V1 n s) (hn:∀ V σ s,V1.le V->Rel X F V σ s->kf .next σ=true->Post none s) (hp:∀ v s1,wpAny (model X.prog X.w) A (letOwnedTupleGo target (.ref L.I) v) (fun _ s2=>wpAny (model X.prog X.w) A (assign target env v) (fun _=>B) E s2) E₂ s1->Post (some v) s1)
    (hb:∀ V σ s K (rest:St->T),V1.le V->Rel X (F.hold K []) V σ s->body σ (fun f σ=>f.rec (rest σ) (rest σ) fun a=>kf (.ret a) σ)=true->(∀ V2 σ2 s2,V.le V2->Rel X (F.hold K []) V2 σ2 s2->rest σ2=true->∃ m,m < n∧L.Inv F ae tg body kf V1 m s2)->B s):wpAny (model X.prog X.w) A (pyNext (.ref L.I)) Post E₃ s:=by
  obtain ⟨e,l,c,R,st,h⟩:=I
  rename_i i V σ K
  obtain ⟨R1,aw⟩:=R.drop fx c wf
  cases n with
  | zero=>
    obtain rfl:i=xs.length:=by omega
    rw [List.drop_length] at h
    exact (L.W A hh).done s _ _ st fun h1 tk hk=>hn V σ _ l ⟨R1.mem.but aw hk,R1.n,R1.facts,R1.os,R1.gens⟩ h
  | succ n=>
    have lt:i < xs.length:=by omega
    rw [List.drop_eq_getElem_cons lt] at h
    refine (L.W A hh).item i s _ _ lt st fun v h1 tk hMd hk1=>hp v _ ((L.W A hh).go i v _ _ _ hMd fun h2 hP st2 hk2=>?_)
    obtain ⟨x,hx,hit⟩:=L.hP i v h2 hP
    obtain rfl:xs[i]=x:=sm ((List.getElem?_eq_getElem lt).symm.trans hx)
    have R2:Rel X F V σ { s with heap:=h2,toks:=tk }:=⟨R1.mem.but aw fun b o hb e=>hk2 b o hb (hk1 b o hb e),R1.n,R1.facts,R1.os,R1.gens⟩
    refine R2.holdOwn aw (L.hx _ _ st2) fun K2 c2 R3=>sS (V0:=V0) hr g L.two hh (hf.mono l).hold R3 (Pl.le_trans l0 l) hit h fun V3 σ3 s3 l3 R4 h3=>hb V3 σ3 s3 K2 (turns X.P ae tg body kf (xs.drop (i + 1))) (Pl.le_trans l l3) R4 h3 fun V4 σ4 s4 l4 R5 h4=>⟨n,Nat.lt_succ_self n,.mk (by omega) (Pl.le_trans l (Pl.le_trans l3 l4)) c2 R5 ((L.W A hh).frame _ _ _ st2 fun b hb o e=>?_) h4⟩
    have kept:∀ {ob},(b,ob)∈K2++F.kp->s4.heap.get? b=some o:=fun m=>sm ((R3.mem.kept _ m).1.symm.trans e)▸(R5.mem.kept _ m).1
    exact (fx.fp b hb).elim (fun q=>(c2.all b q).elim fun ob m=>kept (List.mem_append_left _ m)) fun q=>q.elim (fun q=>q.elim fun ob m=>kept (List.mem_append_right _ m)) fun q=>q.elim fun o0 z=>sm ((R3.keep z).symm.trans e)▸R5.keep z
theorem gE {x:Str} {p:Pos} {it:Value} (h:Q () s):wpAny (model X.prog X.w) A (letOwnedTupleGo (.Name x p) it v) Q E s:=wpAny_of_eq (a:=()) rfl h
end
theorem au.of {α β:Type} {R:α->β->Prop} {l:List α} {r:List β} {b:β} (x:au R l r):∀ {i:Nat},r[i]?=some b->∃ a,l[i]?=some a∧R a b:=by
  induction x with
  | nil=>exact fun h=>nn h
  | cons q _ ih=>
    intro i h
    cases i with
    | zero=>exact ⟨_,rfl,sm h▸q⟩
    | succ i=>exact ih h
theorem au.ofA {α β:Type} {R:α->β->Prop} {l:List α} {r:Array β} {b:β} {i:Nat} (x:au R l r.toList) (h:r[i]?=some b):∃ a,l[i]?=some a∧R a b:=x.of (Array.getElem?_toList.trans h)
section
variable {target:Expr} {tg:Tg} {A:Around} {F:Fm} {V:Pl} {σ:St} {s:Shared} {src:AV} {x:Str} {p:Pos} {Q:Value->Shared->Prop} {E:Value->Shared->Prop}
theorem Rel.pushU (R:Rel X F V σ s) {ob:Obj} (t:Tok):Rel X F V σ { s with heap:=s.heap.push ob,toks:=t }:=R.ext (fun b o e=>Heap.get?_push_of_some _ e) t
noncomputable def ItK (X:Cx) (target:Expr) (F:Fm) (V:Pl) (σ:St) (xs:List It) (src:AV) (Q:Value->Shared->Prop):Prop:=∀ (L:Src X target V xs) s',Rel X F V σ s'->L.At F σ src s'.heap->Q (.ref L.I) s'
theorem pi (R:Rel X F V σ s):∀ b∈[s.heap.objs.size],cM F V σ.t b:=fun b hb=>List.mem_singleton.mp hb▸R.away (dM _)
theorem fpl {a b:Addr}:∀ c∈[a,b],c∈[a]∨c=b:=fun c hc=>(List.mem_cons.mp hc).elim (fun e=>.inl (e▸.head _)) fun hc=>.inr (List.mem_singleton.mp hc)
theorem fp2 {a b:Addr} (hl:i6 F V σ src b):∀ c∈[a,b],c∈[a]∨i6 F V σ src c:=fun c hc=>(List.mem_cons.mp hc).elim (fun e=>.inl (e▸.head _)) fun hc=>.inr (List.mem_singleton.mp hc▸hl)
theorem jC {a:Addr} {h:Heap} {o:Obj} (e:h.get? a=some o):∀ b∈[a],∃ o,h.get? b=some o:=fun b hb=>⟨o,List.mem_singleton.mp hb▸e⟩
theorem ml {α:Type} {l:List α} {f:α->It} {i:Nat} {a:α} (e:l[i]?=some a):(l.map f)[i]?=some (f a):=by rw [List.getElem?_map,e]; rfl
theorem xm {xs:List AV} {items:Array Value} (al:au (den X V) xs items.toList) (i:Nat) (v:Value) (h:Heap) (e:items[i]?=some v):∃ x,(xs.map It.one)[i]?=some x∧ItR X V h x v:=(al.ofA e).elim fun a q=>⟨.one a,ml q.1,.one q.2⟩
noncomputable def pj (e:Expr):Prop:=∀ elts kk p,e=.Tuple elts kk p->elts.length=2
theorem ii:pj (.Name x p):=fun _ _ _ e=>by cases e
theorem mV {l:Addr} {items:Array Value} {xs:List AV} (hT:ig X sc target tg) (h2:pj target) (R:Rel X F V σ s) (H:s.heap.IsList l items) (al:au (den X V) xs items.toList) (hq:∀ (L:Src X target V (xs.map .one)) s',Rel X F V σ s'->(∀ b∈L.ws,cM F V σ.t b)->(∀ b∈L.fp,b∈L.ws∨b=l)->L.S 0 s'.heap->Q (.ref L.I) s'):wpAny (model X.prog X.w) A (pyIter (.ref l)) Q E s:=by
  have hlt:l≠s.heap.objs.size:=H.elim fun o q=>Nat.ne_of_lt (Heap.lt_size q.1)
  refine wpAny_pyIter_list H (hq ⟨s.heap.objs.size,[s.heap.objs.size],[s.heap.objs.size,l],(fun i v _=>items[i]?=some v),(fun i v h=>items[i]?=some v∧(h.IsListIter s.heap.objs.size l (i + 1)∧h.IsList l items)),(fun i h=>h.IsListIter s.heap.objs.size l i∧h.IsList l items),fun A' hA=>?_,xm al,fun i h hs=>hs.1.elim fun o q=>jC q.1,fun A' i s' Q E hA st hQ=>wpAny_pyIter_listiter st.1 hQ,h2⟩ _ (R.pushU s.toks) (pi R) fpl ⟨⟨_,Heap.get?_push_size _ rfl,rfl,rfl⟩,H.at fun o e=>Heap.get?_push_of_some _ e⟩)
  rw [show (xs.map It.one).length=items.size by rw [List.length_map,al.len]]
  refine KTurns.ofWalks (Walks.list hA _ l hlt items) fun i v s Q E st hQ=>?_
  cases hT with
  | tup=>
    cases v with
    | ref T=>exact wpAny_letOwnedTupleGo_listiter st.1 hQ
    | _=>exact wpAny_of_eq (a:=()) rfl hQ
  | _=>exact gE hQ
theorem pk {l:Addr} {items:Array Value} {xs:List AV} (hT:ig X sc target tg) (h2:pj target) (R:Rel X F V σ s) (H:s.heap.IsList l items) (al:au (den X V) xs items.toList) (hl:i6 F V σ src l) (hq:ItK X target F V σ (xs.map .one) src Q):wpAny (model X.prog X.w) A (pyIter (.ref l)) Q E s:=
  mV hT h2 R H al fun L s' R w f st=>hq L s' R ⟨w,fun b hb=>(f b hb).elim .inl fun e=>.inr (e▸hl),st⟩
theorem Bc {l:Addr} {items:Array Value} {xs:List AV} (R:Rel X F V σ s) (H:s.heap.IsTuple l items) (al:au (den X V) xs items.toList) (hl:i6 F V σ src l) (hq:ItK X (.Name x p) F V σ (xs.map .one) src Q):wpAny (model X.prog X.w) A (pyIter (.ref l)) Q E s:=by
  have hlt:l≠s.heap.objs.size:=H.elim fun o q=>Nat.ne_of_lt (Heap.lt_size q.1)
  refine wpAny_pyIter_tuple H (hq ⟨s.heap.objs.size,[s.heap.objs.size],[s.heap.objs.size,l],(fun i v _=>items[i]?=some v),(fun i v h=>items[i]?=some v∧(h.IsTupleIter s.heap.objs.size l (i + 1)∧h.IsTuple l items)),(fun i h=>h.IsTupleIter s.heap.objs.size l i∧h.IsTuple l items),fun A' hA=>?_,xm al,fun i h hs=>hs.1.elim fun o q=>jC q.1,fun A' i s' Q E hA st hQ=>wpAny_pyIter_tupleiter st.1 hQ,ii⟩ _ (R.pushU s.toks) ⟨pi R,fp2 hl,⟨_,Heap.get?_push_size _ rfl,rfl,rfl⟩,H.at fun o e=>Heap.get?_push_of_some _ e⟩)
  rw [show (xs.map It.one).length=items.size by rw [List.length_map,al.len]]
  exact KTurns.ofWalks (Walks.tuple hA _ l hlt items) fun i v s Q E st hQ=>gE hQ
theorem xn {n:Nat} (h0:0 < n) (h:n < 256):dec n=[n]:=by rw [iN (Nat.ne_of_gt h0),Nat.div_eq_of_lt h,Nat.mod_eq_of_lt h]; rfl
theorem Bd {n:Nm} {t:Tok} (R:Rel X F V σ s) (ha:((dec n).all fun c=>Nat.blt 0 c&&Nat.blt c 128)=true) (hq:ItK X (.Name x p) F V σ ((dec n).map fun c=>.one (kv c)) src Q):wpAny (model X.prog X.w) A (pyIter (.str (tx n) t)) Q E s:=by
  have hb:∀ c∈dec n,0 < c∧c < 128:=fun c hc=>aa (List.all_eq_true.mp ha c hc) fun a b=>⟨Nat.le_of_ble_eq_true a,Nat.le_of_ble_eq_true b⟩
  refine wpAny_pyIter_ascii (Array.all_eq_true'.mpr fun c hc=>decide_eq_true (hb c (Array.mem_toList_iff.mpr hc)).2) (hq ⟨s.heap.objs.size,[s.heap.objs.size],[s.heap.objs.size],(fun i v _=>SignAt (tx n) i v),(fun i v h=>SignAt (tx n) i v∧h.IsStrIter s.heap.objs.size "str_ascii_iterator" (tx n) t (i + 1)),(fun i h=>h.IsStrIter s.heap.objs.size "str_ascii_iterator" (tx n) t i),fun A' hA=>?_,fun i v h hv=>?_,fun i h hs=>hs.elim fun o q=>jC q.1,fun A' i s' Q E hA st hQ=>wpAny_pyIter_striter_ascii st hQ,ii⟩ _ (R.pushU s.toks) ⟨pi R,fun _=>.inl,⟨_,Heap.get?_push_size _ rfl,rfl,rfl⟩⟩)
  · rw [show ((dec n).map fun c=>It.one (kv c)).length=(tx n).cps.size from List.length_map ..]
    exact KTurns.ofWalks (Walks.strAscii hA _ (tx n) t) fun i v s Q E st hQ=>gE hQ
  · obtain ⟨c,u,hc,rfl⟩:=hv
    have hc:(dec n)[i]?=some c:=(List.getElem?_toArray ..).symm.trans hc
    have b:=hb c (List.mem_of_getElem? hc)
    have e:tx c=⟨#[c]⟩:=congrArg (fun l:List Nat=>Str.mk l.toArray) (xn b.1 (Nat.lt_trans b.2 (by decide)))
    exact ⟨.one (kv c),ml (f:=fun c=>It.one (kv c)) hc,.one (e▸cO c u)⟩
theorem qA {es:List (Nm×AV)} {kvs:List (Str×Value)} {i:Nat} {k:Str} {y:Value} (al:au (kvR X tx V) es kvs) (e:kvs[i]?=some (k,y)):∃ en,es[i]?=some en∧k=tx en.1∧den X V en.2 y:=al.of e
theorem yI {i:Nat} {es:List (Nm×AV)} (ht:X.K.In F.h₀) (R:Rel X F V σ s) (hs:src=.own i) (hi:σ.t.get i=some (.dict es)) (hq:ItK X (.Name x p) F V σ (es.map fun e=>.one (kv e.1)) src Q):wpAny (model X.prog X.w) A (pyIter (.ref (V.at_ i))) Q E s:=
  R.dict hi fun kvs D al=>D.dictAt.elim fun ep hat=>by
    have hlt:V.at_ i≠s.heap.objs.size:=(R.obj hi).rec fun ob _ g _ _ _=>Nat.ne_of_lt (Heap.lt_size g)
    refine wpAny_pyIter_dict (R.notMods ht hi) hat (hq ⟨s.heap.objs.size,[s.heap.objs.size],[s.heap.objs.size,V.at_ i],(fun j v _=>∃ k y,kvs[j]?=some (k,y)∧(strKind X.prog X.w).is k v=true),(fun j v h=>(∃ k y,kvs[j]?=some (k,y)∧(strKind X.prog X.w).is k v=true)∧(h.IsKeyIter s.heap.objs.size (V.at_ i) (j + 1) kvs.length ep∧h.DictAt (strKind X.prog X.w) (V.at_ i) kvs ep)),(fun j h=>h.IsKeyIter s.heap.objs.size (V.at_ i) j kvs.length ep∧h.DictAt (strKind X.prog X.w) (V.at_ i) kvs ep),fun A' hA=>?_,fun j v h hv=>?_,fun j h hs=>hs.1.elim fun o q=>jC q.1,fun A' i s' Q E hA st hQ=>wpAny_pyIter_keyiter st.1 hQ,ii⟩ _ (R.pushU s.toks) ⟨pi R,fp2 (.inl ⟨i,_,hs,hi,rfl⟩),⟨_,Heap.get?_push_size _ rfl,rfl,rfl⟩,hat.at' fun o e=>Heap.get?_push_of_some _ e⟩)
    · rw [show (es.map fun e=>It.one (kv e.1)).length=kvs.length from (List.length_map ..).trans al.length]
      exact KTurns.ofWalks (Walks.dictKeys hA _ (V.at_ i) hlt _ ep) fun i v s Q E st hQ=>gE hQ
    · obtain ⟨k,y,e1,e2⟩:=hv
      obtain ⟨en,z1,rfl,z3⟩:=qA al e1
      obtain ⟨t,rfl⟩:=Value.isStrOf_shape e2
      exact ⟨.one (kv en.1),ml (f:=fun e=>It.one (kv e.1)) z1,.one (cO _ t)⟩
theorem uV {i:Nat} {es:List (Nm×AV)} {elts:List Expr} {kk:Nat} {vw:Addr} (h2:pj (.Tuple elts kk p)) (R:Rel X F V σ s) (hs:src=.own i) (hi:σ.t.get i=some (.dict es)) (hv:s.heap.IsItemsView vw (V.at_ i)) (hq:ItK X (.Tuple elts kk p) F V σ (es.map fun e=>.two (kv e.1) e.2) src Q):wpAny (model X.prog X.w) A (pyIter (.ref vw)) Q E s:=
  R.dict hi fun kvs D al=>D.dictAt.elim fun ep hat=>by
    have hlt:V.at_ i≠s.heap.objs.size:=(R.obj hi).rec fun ob _ g _ _ _=>Nat.ne_of_lt (Heap.lt_size g)
    refine wpAny_pyIter_items hv hat (hq ⟨s.heap.objs.size,[s.heap.objs.size],[s.heap.objs.size,V.at_ i],(fun j v h=>∃ T key k x,v=.ref T∧kvs[j]?=some (k,x)∧(strKind X.prog X.w).is k key=true∧h.IsTuple T #[key,x]),(fun j v h=>∃ T key k x ok ov,v=.ref T∧kvs[j]?=some (k,x)∧(strKind X.prog X.w).is k key=true∧h.IsTuple T #[key,x]∧IsItemIterOut h s.heap.objs.size (V.at_ i) (j + 1) kvs.length ep ok ov T∧h.DictAt (strKind X.prog X.w) (V.at_ i) kvs ep∧T≠s.heap.objs.size),(fun j h=>(∃ ok ov,IsItemIter h s.heap.objs.size (V.at_ i) j kvs.length ep ok ov)∧h.DictAt (strKind X.prog X.w) (V.at_ i) kvs ep),fun A' hA=>?_,fun j v h hv=>?_,fun j h hs=>hs.1.elim fun _ q=>q.elim fun _ q=>jC q,fun A' i s' Q E hA st hQ=>st.1.elim fun ok q=>q.elim fun ov z=>kcp_self z hQ,h2⟩ _ (R.pushU s.toks) ⟨pi R,fp2 (.inl ⟨i,_,hs,hi,rfl⟩),⟨_,_,Heap.get?_push_size _ rfl⟩,hat.at' fun o e=>Heap.get?_push_of_some _ e⟩)
    · rw [show (es.map fun e=>It.two (kv e.1) e.2).length=kvs.length from (List.length_map ..).trans al.length]
      exact kti_itemsTurns (knd:=strKind X.prog X.w) hA _ (V.at_ i) hlt _ ep
    · obtain ⟨T,key,k,y,rfl,e1,e2,hT⟩:=hv
      obtain ⟨en,z1,rfl,z3⟩:=qA al e1
      obtain ⟨t,rfl⟩:=Value.isStrOf_shape e2
      exact ⟨.two (kv en.1) en.2,ml (f:=fun e=>It.two (kv e.1) e.2) z1,.two hT (cO _ t) z3⟩
end
end
section
variable {X:Cx} {sc:Scope}
theorem lA {o:Expr} {name:Str} {apos pos:Pos} {args:List Expr} {env:Env} (hs:(starEach args env).any (·.1)=false) (hl:args.length < 30) (hp:(apos.endLine==pos.line)=true) :
    eval (.Call (.Attribute o name apos) args [] pos) env=(do
      let ov ← attributeBase o name env (eval o env)
      standAt apos.atName
      let (f,first) ← holding [ov] (getMethod ov name (do return (← importBound o env).getD true))
      callWith pos f first (backTo pos (starEach args env)) []):=by
  show (do
    let ov ← attributeBase o name env (eval o env)
    standAt apos.atName
    methodCall o name apos pos env ov (args.length + 0) (backTo pos (starEach args env)) [])=_
  have hform:methodCallForm (args.length + 0) (backTo pos (starEach args env)) []=true:=by
    unfold methodCallForm
    rw [show (backTo pos (starEach args env)).all (fun x=>!x.1)=true from List.all_eq_true.mpr fun x hx=>by rw [Bool.eq_false_iff.mpr (List.any_eq_false.mp (cE pos args env hs) x hx)]; rfl]
    simpa using hl
  congr 1
  funext ov
  congr 1
  funext _
  unfold methodCall
  rw [hform]
  unfold calleeOf methodCallPos
  rw [hp]
  rfl
theorem gF {o:Expr} {name:Str} {apos pos:Pos} {args:List Expr} {env:Env} (ho:∀ whole,attributeBase o name env whole=whole) (hs:(starEach args env).any (·.1)=false) (hl:args.length < 30) (hp:(apos.endLine==pos.line)=true) :
    eval (.Call (.Attribute o name apos) args [] pos) env=(do
      let ov ← eval o env
      standAt apos.atName
      let (f,first) ← holding [ov] (getMethod ov name (do return (← importBound o env).getD true))
      callWith pos f first (backTo pos (starEach args env)) []):=(lA hs hl hp).trans (by rw [ho])
noncomputable def pp (X:Cx) (sc:Scope) (target:Expr) (tg:Tg) (ik:Ik) (iter:Expr) (it:C):Prop:=∀ {f r A env ae F V σ s} {k:AV->List It->St->T} {ke:KE} {Q:Value->Shared->Prop} {E},dz X f r->Fit X f r sc A env ae F V->A.handled=none->Rel X F V σ s->
  it r ae (fun src σ=>ob (D3 X.P σ ik tg src) fun xs=>k src xs σ) ke σ=true->dq X F V ke E->(∀ src xs V' σ' s' (L:Src X target V' xs),V.le V'->Rel X F V' σ' s'->L.At F σ' src s'.heap->k src xs σ'=true->Q (.ref L.I) s')->
  wpAny (model X.prog X.w) A (eval iter env) (fun x s1=>wpAny (model X.prog X.w) A (pyIter x) Q E s1) E s
section
variable {sc':Scope} {tg:Tg} {A:Around} {F:Fm} {V:Pl} {σ:St} {s:Shared} {src:AV} {v:Value} {x:Str} {p:Pos} {Q:Value->Shared->Prop} {E:Value->Shared->Prop} {ys:List AV} {xs:List It}
theorem pq (hT:ig X sc' (.Name x p) tg) (ht:X.K.In F.h₀) (R:Rel X F V σ s) (d:den X V src v) (h:uz X.P σ src=some ys) (hq:ItK X (.Name x p) F V σ (ys.map .one) src Q):wpAny (model X.prog X.w) A (pyIter v) Q E s:=
  cB h (fun _ h=>ao h fun o ho h=>cB h
      (fun _ h=>cB h (fun _ h=>ao h fun es hes h=>ib (P:=fun v=>wpAny _ A (pyIter v) Q E s) ht R d (aj.dict_of hes▸ho) fun i kvs e hi _ _=>yI ht R e hi (by rw [← sm h,List.map_map] at hq; exact hq))
        fun xs hxs h=>jX (P:=fun v=>wpAny _ A (pyIter v) Q E s) ht R d (aj.tup_of hxs▸ho) fun adr l L al so=>Bc R L (sm h▸al) so hq)
      fun xs hxs h=>fy (P:=fun v=>wpAny _ A (pyIter v) Q E s) ht R d (aj.list_of hxs▸ho) fun adr l L al so=>pk hT ii R L (sm h▸al) so hq)
    fun n hn h=>bg h (fun ha h=>fJ (P:=fun v=>wpAny _ A (pyIter v) Q E s) (AV.lit_of hn▸d) fun t=>Bd R ha (by rw [← sm h,List.map_map] at hq; exact hq)) fun _=>nn
theorem IJ {target iter:Expr} {it:C} (hT:ig X sc' target tg) (hx:aK X sc iter it):pp X sc target tg .plain iter it:=
  fun hr hf hh R h he hk=>hx hr hf R h he fun src v V1 σ1 s1 l1 R1 d1 q=>ad q fun xs hxs w=>by
    cases hT with
    | loc hx hl=>exact ao hxs fun ys hy e=>pq (.loc hx hl) hf.top R1 d1 hy (sm e.symm▸fun L s' R' a=>hk src xs V1 σ1 s' L l1 R' a w)
    | cel hx hl=>exact ao hxs fun ys hy e=>pq (.cel hx hl) hf.top R1 d1 hy (sm e.symm▸fun L s' R' a=>hk src xs V1 σ1 s' L l1 R' a w)
    | tup g hst=>exact bg hxs (fun e2 hxs=>ao hxs fun o ho hxs=>ao hxs fun ys hy e=>fy (P:=fun v=>wpAny _ _ (pyIter v) _ _ s1) hf.top R1 d1 (aj.list_of hy▸ho) fun adr l L al so=>pk (.tup g hst) (fun _ _ _ e=>by cases e; exact g.length.trans (nb e2)) R1 L al so (sm e.symm▸fun L s' R' a=>hk src xs V1 σ1 s' L l1 R' a w)) fun _=>nn
theorem yJ {o:Expr} {elts:List Expr} {ts:List Tn} {kk:Nat} {apos pos:Pos} {it:C} {name:Str} (g:au (qy X sc') elts ts) (hn:name = "items") (ho:∀ env whole,attributeBase o name env whole=whole) (hp:(apos.endLine==pos.line)=true) (hx:aK X sc o it):pp X sc (.Tuple elts kk p) (.tup ts) .items (.Call (.Attribute o name apos) [] [] pos) it:=
  fun {f r A env ae F V σ s k ke Q E} hr hf hh R h he hk=>by
    subst hn
    exact MethodCall_ (pl:=do return (← importBound o env).getD true) (hx hr hf R h he fun src v V1 σ1 s1 l1 R1 d1 q=>ad q fun xs hxs q=>bg hxs (fun e2 hxs=>ao hxs fun ob ho hxs=>ao hxs fun es hes e=>ib (P:=fun v=>wpAny _ A (getMethod v _ _) _ E s1) hf.top R1 d1 (aj.dict_of hes▸ho) fun i kvs es' hi D _=>getMethod_builtin D.typeIs PySem.F.plainAttrs_dict PySem.F.slot_dict_items PySem.F.type_dict_items D.mapOf.noDict (callWith_method0 (call_meetsIn PySem.F.slot_dict_items D.typeIs PySem.F.entry_dict_items (PySem.F.args_dict_items_1 _) (meets_dict_items (strKind X.prog X.w) _ (R1.notMods hf.top hi)) ⟨⟨_,D⟩,uV (i:=i) (fun _ _ _ e=>by cases e; exact g.length.trans (nb e2)) (R1.pushU s1.toks) es' hi ⟨_,Heap.get?_push_size _ rfl,rfl,rfl⟩ (sm e.symm▸fun L s' R' a=>hk src xs V1 σ1 s' L l1 R' a q)⟩))) fun _=>nn) (gF (ho env) rfl (by decide) hp)
theorem yK (xs:List AV):∀ j,(oN xs j).length=xs.length:=by
  induction xs with
  | nil=>exact fun _=>rfl
  | cons x xs ih=>exact fun j=>congrArg (· + 1) (ih _)
theorem yL (xs:List AV):∀ {j i:Nat} {x:AV},xs[i]?=some x->(oN xs j)[i]?=some (.two (.int (.k ((j + i:Nat):Int))) x):=by
  induction xs with
  | nil=>exact fun h=>nn h
  | cons a xs ih=>
    intro j i x h
    cases i with
    | zero=>exact sm h▸rfl
    | succ i=>exact (ih (j:=j + 1) h).trans (by rw [Nat.add_right_comm,Nat.add_assoc])
theorem KX (R:Rel X F V σ s):∀ b∈[s.heap.objs.size + 1,s.heap.objs.size],cM F V σ.t b:=fun b hb=>R.away (Heap.get?_none_of_le ((List.mem_cons.mp hb).elim (fun z=>z▸Nat.le_succ _) fun hb=>Nat.le_of_eq (List.mem_singleton.mp hb).symm))
theorem fp3 {a b c:Addr} (hl:i6 F V σ src c):∀ d∈[a,b,c],d∈[a,b]∨i6 F V σ src d:=fun d hd=>(List.mem_cons.mp hd).elim (fun z=>.inl (z▸.head _)) fun hd=>(fp2 hl d hd).imp_left (.tail _)
theorem Mv {a b:Addr} {h:Heap} {o u:Obj} (e:h.get? a=some o) (e':h.get? b=some u):∀ c∈[a,b],∃ o,h.get? c=some o:=fun c hc=>(List.mem_cons.mp hc).elim (fun z=>⟨o,z▸e⟩) (jC e' c)
theorem EO {its:Array Value} (al:au (den X V) ys its.toList) (i:Nat) (v:Value) (h:Heap) (q:∃ T vals,v=.ref T∧(∃ t x,its[i]?=some x∧vals=#[.int i t,x])∧h.IsTuple T vals):∃ x,(oN ys 0)[i]?=some x∧ItR X V h x v:=by
  obtain ⟨T,vals,rfl,⟨t',y,hy',rfl⟩,hT⟩:=q
  exact (al.ofA hy').elim fun w z=>⟨_,yL ys z.1,.two hT (fK (by rw [IV.den_k X.h0,Nat.zero_add])) z.2⟩
noncomputable def EP {elts:List Expr} {kk:Nat} {l n:Nat} {its:Array Value} (p:Pos) (h2:pj (.Tuple elts kk p)) (hlt:l < n) (al:au (den X V) ys its.toList):Src X (.Tuple elts kk p) V (oN ys 0) where
  I:=n + 1
  ws:=[n + 1,n]
  fp:=[n + 1,n,l]
  P:=fun i v h=>∃ T vals,v=.ref T∧(∃ t x,its[i]?=some x∧vals=#[.int i t,x])∧h.IsTuple T vals
  Md:=fun i v h=>∃ T vals,v=.ref T∧(∃ t x,its[i]?=some x∧vals=#[.int i t,x])∧h.IsTuple T vals∧((∃ x,IsEnumOut h (n + 1) n ((i:Int) + 1) x T)∧h.IsListIter n l (i + 1)∧h.IsList l its∧T≠n + 1∧T≠n)
  S:=fun i h=>(∃ old,IsEnum h (n + 1) n i old)∧h.IsListIter n l i∧h.IsList l its
  W:=fun A' hA=>by
    rw [yK,← al.len]
    exact KTurns.ofWalksU (WalksT.enumerate hA (n + 1) n l (Nat.succ_ne_self _) (Nat.ne_of_lt (Nat.lt_succ_of_lt hlt)) (Nat.ne_of_lt hlt) its).toU
  hP:=EO al
  hx:=fun i h hs=>hs.1.elim fun _ q=>hs.2.1.elim fun o z=>Mv q z.1
  self:=fun A' i s' Q E hA st hQ=>st.1.elim fun _ z=>wpAny_pyIter_enum z hQ
  two:=h2
theorem yM {elts:List Expr} {kk:Nat} {l:Addr} {its:Array Value} (h2:pj (.Tuple elts kk p)) (R:Rel X F V σ s) (H:s.heap.IsList l its) (al:au (den X V) ys its.toList) (so:i6 F V σ src l) (hq:ItK X (.Tuple elts kk p) F V σ (oN ys 0) src Q):wpAny (model X.prog X.w) A (call (.type "enumerate") [.ref l]) (fun v s=>wpAny (model X.prog X.w) A (pyIter v) Q E s) E s:=
  call_enumerate_list H fun h' hE hI hsz hkk=>wpAny_pyIter_enum hE (hq (EP p h2 (H.elim fun o q=>Heap.lt_size q.1) al) _ (R.ext hkk s.toks) ⟨KX R,fp3 so,⟨_,hE⟩,hI,H.at fun o e=>hkk _ o e⟩)
theorem Be {elts:List Expr} {e:Expr} {ts:List Tn} {kk:Nat} {np pos:Pos} {it:C} {n:Nm} (g:au (qy X sc') elts ts) (hn:tx n=x) (hk':sc.names.lookup x=some .globalImplicit) (hd:(x==("__debug__" : Str))=false) (ha:look X.P.globs n=some (.ty .enumerate))
    (hx:aK X sc e it) (hst:∀ env,starEach [e] env=[(false,eval e env)]):pp X sc (.Tuple elts kk p) (.tup ts) .enum (.Call (.Name x np) [e] [] pos) it:=
  fun {f r A env ae F V σ s k ke Q E} hr hf hh R h he hk=>wpAny_Call_Name_kw (dH hn hk' hd ha hf R fun v hv=>(hv.den (X:=X) (V:=V):v=.type "enumerate")▸eZ (cE pos [e] env (by rw [hst]; rfl)) (oY (pos:=pos) (k:=fun as σ=>ob (f6 as) fun src=>ob (D3 X.P σ .enum (.tup ts) src) fun xs=>k src xs σ) hx sH hst hr hf R h he fun as vs V1 σ1 s1 l1 R1 d1 n1 q=>⟨⟨.machine,fun Q' hq=>by unfold keeperOf; exact wpAny_pure hq⟩,ad q fun a ha q=>au.one (P:=fun vs=>wpAny _ A (call (.type "enumerate") ([]++vs)) _ E s1) (cS ha▸d1) fun v da=>ad q fun xs hxs q=>bg hxs (fun e2 hxs=>ao hxs fun o ho hxs=>ao hxs fun ys hy e=>fy (P:=fun v=>wpAny _ A (call (.type "enumerate") [v]) _ E s1) hf.top R1 da (aj.list_of hy▸ho) fun l its H al so=>yM (fun _ _ _ e=>by cases e; exact g.length.trans (nb e2)) R1 H al so (sm e.symm▸fun L s' R' at_=>hk a xs V1 σ1 s' L l1 R' at_ q)) fun _=>nn⟩))
end
theorem Bf {target iter:Expr} {tg:Tg} {ik:Ik} {it:C} {body:List Stmt} {bs:List CS} {pos:Pos} (g:ig X sc target tg) (hi:pp X sc target tg ik iter it) (hb:SndSs X sc body bs) (hs:∀ env x,foldedSetIterable iter env x=pure x):fH X sc (.For target iter body [] pos) (jS X.P tg ik it bs):=
  fun {f r A env ae F V σ s k ke Q E} hr hf R h he hk=>kQ h fun h1 h2 h=>wpAny_For (hi hr hf (hf.hand h1) R h he fun src xs V1 σ1 s1 L l1 R1 a q=>aa q fun _ q=>R1.loopIn a fun K D hd fx wf K' c R2=>by
    have hf1:=hf.mono l1
    have RB:=(R2.drop fx c wf).1
    have nil:∀ {V:Pl} {t:AT},∀ q∈([]:List (Nat×Addr)),∃ o,t.get q.1=some o∧q.2=V.at_ q.1:=fun _ h=>nomatch h
    refine codeAny_forLoop_any (fun n s'=>L.Inv (F.hold K D) ae tg (fun τ k=>stmts r ae (fun c υ=>ke c (υ.wk σ1.locks)) bs k τ) (fun f τ=>k f (τ.wk σ1.locks)) V1 n s') (fun n s' I=>L.turn hr g (hf.hand h1) hf1.hold (Pl.le_refl _) fx wf I (fun V2 σ2 s2 l2 R3 q=>wpAny_execs_nil (hk.next (Pl.le_trans l1 l2) (R1.unhold hd R3) q)) (fun v s1 h=>h) fun V2 σ2 s2 Kw rest l2 R3 q next=>?_) xs.length (.mk (Nat.add_zero _) (Pl.le_refl _) c R2 a.st q)
    refine hb hr (hf1.mono l2).hold.hold R3 q (fun c ev V3 σ3 s3 l3 x q=>?_) fun fl fw V4 σ4 s4 l4 R4 d4 q4=>?_
    · cases x with
      | mk x hc hst=>exact x.note hst ((hf1.mono l2).hold.hold.frOk h2) fun h4 x4=>(gb.unhold R1 hd (gb.unhold RB nil x4)).back (hf1.own h2).1 fun h5 x5=>he c _ V3 _ _ (Pl.le_trans l1 (Pl.le_trans l2 l3)) (.mk x5 hc .on) q
    · cases d4 with
      | next=>exact next V4 σ4 s4 l4 R4 q4
      | cont=>exact next V4 σ4 s4 l4 R4 q4
      | ret d=>exact hk _ _ V4 _ s4 (Pl.le_trans l1 (Pl.le_trans l2 l4)) (R1.unhold hd (RB.unhold nil R4)) (.ret d) q4) (hs env)
end
section
variable {X:Cx} {sc:Scope}
noncomputable def Fm.comp (F:Fm) (m:Str->Option Value) (C:Addr):Fm:={ F with L:=C,sus:=(F.L,m)::F.sus }
section
variable {F:Fm} {V V₂:Pl} {t t₂:AT} {loc loc₂:List (Nm×AV)} {locks locks₂:List Nat} {h h' h₂:Heap} {m m':Str->Option Value} {C:Addr}
theorem Mem.compIn (M:Mem X F V t loc locks h) (hm:h.Ns F.L m) (hC:h.objs.size≤C) (hns:h'.Ns C m') (hk:∀ b o,h.get? b=some o->h'.get? b=some o):Mem X (F.comp m C) V t [] locks h':=by
  have ne:∀ {b o},h.get? b=some o->b≠C:=fun e q=>absurd (Heap.lt_size e) (Nat.not_lt.mpr (q▸hC))
  have nsC:∀ {a m},h.Ns a m->h'.Ns a m∧a≠C:=fun x=>⟨et (hk _) x,x.elim fun _ x=>x.elim fun _ x=>x.elim fun _ x=>ne x.1⟩
  have sz:F.L < h.objs.size:=hm.elim fun _ x=>x.elim fun _ x=>x.elim fun _ x=>Heap.lt_size x.1
  exact { fr:=M.fr.rec fun m0 K _=>.mk m' ⟨hns,fun b o e=>hk _ _ (K.keep b o e),Nat.le_trans K.above (Nat.le_trans (Nat.le_of_lt sz) hC)⟩ fun n a e=>nn e,obj:=fun i o e=>(M.obj i o e).rec fun ob lt g L h0 r=>.mk ob lt (hk _ _ g) (ne g) h0 r,inj:=M.inj,kept:=fun p hp=>have q:=M.kept p hp; ⟨hk _ _ q.1,ne q.1,q.2.2⟩,apart:=M.apart,sus:=fun p hp=>(List.mem_cons.mp hp).elim (fun e=>e▸⟨(nsC hm).1,M.fr.rec fun _ K _=>Heap.get?_none_of_le K.above,(nsC hm).2,fun i o e=>(M.obj i o e).rec fun _ _ _ L _ _=>L⟩) fun hp=>have q:=M.sus p hp; ⟨(nsC q.ns).1,q.h0,(nsC q.ns).2,q.ob⟩,kps:=fun p hp q hq=>(List.mem_cons.mp hq).elim (fun e=>e▸(M.kept p hp).2.1) (M.kps p hp q),lk:=M.lk,wf:=M.wf,cd:=M.cd.keep rfl fun p hp aw o e=>⟨⟨aw.h0,ne e,aw.kp,fun q hq=>(List.mem_cons.mp hq).elim (fun e=>e▸aw.L.symm) (aw.sus q),aw.ob⟩,hk _ _ e⟩ }
theorem Mem.compOut (M:Mem X F V t loc locks h) (hm:h.Ns F.L m) (hl:V.le V₂) (N:Mem X (F.comp m C) V₂ t₂ loc₂ locks₂ h₂):Mem X F V₂ t₂ loc locks₂ h₂∧cM F V₂ t₂ C:=
  have q:=N.sus _ (.head _)
  ⟨{ fr:=M.fr.rec fun m0 K l=>.mk m0 ⟨jW hm K.ns▸q.ns,fun b o e=>N.fr.rec fun _ K' _=>K'.keep b o e,K.above⟩ fun n a e=>(l n a e).imp fun v z=>⟨z.1,aI hl z.2⟩,obj:=fun i o e=>(N.obj i o e).rec fun ob lt g _ h0 r=>.mk ob lt g (q.ob i o e) h0 r,inj:=N.inj,kept:=fun p hp=>⟨(N.kept p hp).1,(M.kept p hp).2⟩,apart:=N.apart,sus:=fun p hp=>have z:=N.sus p (.tail _ hp); ⟨z.ns,z.h0,(M.sus p hp).L,z.ob⟩,kps:=M.kps,lk:=N.lk,wf:=N.wf,cd:=N.cd.keep rfl fun p hp aw o e=>⟨⟨aw.h0,(aw.sus _ (.head _)).symm,aw.kp,fun q hq=>aw.sus q (.tail _ hq),aw.ob⟩,e⟩ },⟨⟨N.fr.rec fun _ K _=>Heap.get?_none_of_le K.above,q.L.symm,fun p hp=>(N.kept p hp).2.1,fun p hp=>(N.sus p (.tail _ hp)).L,fun i o e=>(N.obj i o e).rec fun _ _ _ L _ _=>L⟩,fun p hp=>(N.cd.cs p hp).rec fun _ aw _ _=>aw.L⟩⟩
end
noncomputable def de (sc scope:Scope):Scope:={ scope with names:=scope.names.map fun (n,k)=>if (k==.free&&sc.kind==.function&&sc.names.lookup n==some .cell) then (n,.cell) else (n,k) }
theorem uW {env:Env} {scope:Scope} (h:env.scope=sc):relabel scope env=de sc scope:=h▸rfl
noncomputable def bY (scope:Scope):List Str:=((scope.names.filter fun x=>x.2==.free).map (·.1)).reverse
theorem qC {env:Env} {g:Str->Addr} (l:List (Str×NameKind)):∀ (cs:List (Str×Addr)),(∀ x∈l,x.2=.free->env.cells.lookup x.1=some (g x.1))->
    (forIn l cs fun x r=>if (x.2==NameKind.free)=true then do let a ← cellOf env x.1; pure (ForInStep.yield ((x.1,a)::r)) else pure (ForInStep.yield r):Sem (List (Str×Addr)))=pure ((((l.filter fun x=>x.2==.free).map (·.1)).reverse.map fun n=>(n,g n))++cs):=by
  induction l with
  | nil=>exact fun _ _=>rfl
  | cons x l ih=>
    intro cs h
    have ih:=fun cs=>ih cs fun y hy=>h y (.tail _ hy)
    rw [List.forIn_cons,List.filter_cons]
    by_cases e:(x.2==NameKind.free)=true
    · rw [if_pos e,if_pos e,show cellOf env x.1=pure (g x.1) by unfold cellOf; rw [h x (.head _) (by simpa using e)],pure_bind,pure_bind]
      exact (ih _).trans (by rw [List.map_cons,List.reverse_cons,List.map_append,List.append_assoc]; rfl)
    · rw [if_neg e,if_neg e,pure_bind]
      exact ih cs
theorem fT {env:Env} {g:Str->Addr} {scope:Scope} (h:∀ x∈scope.names,x.2=.free->env.cells.lookup x.1=some (g x.1)):closureFor scope env=pure ((bY scope).map fun n=>(n,g n)):=by
  have:=qC (env:=env) (g:=g) scope.names [] h
  rw [List.append_nil] at this
  exact (congrArg (· >>= fun r=>pure r) this).trans rfl
theorem fU {cells:List (Str×Addr)} {ae:AE} {V:Pl} (hc:∀ n i,look ae.cells n=some i->i < V.n∧cells.lookup (tx n)=some (V.at_ i)) (fr:List Nm):∀ {cl:List (Nm×Nat)},closure ae fr=some cl->
    (∀ n∈fr,cells.lookup (tx n)=some ((cells.lookup (tx n)).getD 0))∧∀ n i,look cl n=some i->i < V.n∧(fr.map fun n=>(tx n,(cells.lookup (tx n)).getD 0)).lookup (tx n)=some (V.at_ i):=by
  induction fr with
  | nil=>exact fun h=>⟨(fun n hn=>nomatch hn),fun n i e=>(nn (sm h▸e:look [] n=some i))⟩
  | cons n fr ih=>
    exact fun h=>ao h fun i hi h=>ao h fun r hr e=>by
      have hb:=hc n i hi
      refine ⟨fun m hm=>(List.mem_cons.mp hm).elim (fun z=>by rw [z,hb.2]; rfl) ((ih hr).1 m),fun m j e'=>?_⟩
      rw [← sm e,bq] at e'
      rw [List.map_cons,List.lookup_cons]
      exact (Decidable.em (n=m)).elim (fun q=>by rw [if_pos q] at e'; rw [← q,← sm e',hb.2,show (tx n==tx n)=true from beq_self_eq_true _]; exact ⟨hb.1,rfl⟩) fun q=>by
        rw [if_neg q] at e'; rw [show (tx m==tx n)=false from beq_eq_false_iff_ne.mpr fun z=>q (jy z).symm]; exact (ih hr).2 m j e'
inductive jZ (X:Cx) (sc:Scope):List Expr->List C->Prop
  | nil:jZ X sc [] []
  | one {c x} (h:eC X sc c x):jZ X sc [c] [x]
noncomputable def HP (ifs:List Expr) (env:Env):Sem Bool:=forIn ifs true fun c r=>if r=true then do let ok ← isTrue c env (eval c env); pure (ForInStep.yield ok) else pure (ForInStep.yield r)
theorem sT {ifs:List Expr} {cs:List C} (hc:jZ X sc ifs cs) {f:Nat} {r:Rc} (hr:dz X f r) {A:Around} {env:Env} {ae:AE} {F:Fm} {V:Pl} {σ:St} {s:Shared} {k:Bool->St->T} {Q:Bool->Shared->Prop} {E:Value->Shared->Prop}
    (hf:Fit X f r sc A env ae F V) (R:Rel X F V σ s) (h:Ac X.P r ae lQ cs σ k=true) (hk:∀ q V' σ' s',V.le V'->Rel X F V' σ' s'->k q σ'=true->Q q s'):wpAny (model X.prog X.w) A (HP ifs env) Q E s:=by
  cases hc with
  | nil=>exact wpAny_tests_nil (hk true V σ s (Pl.le_refl V) R h)
  | one hx=>exact wpAny_tests_one (hx (k:=fun _ q σ=>be q (k true σ) (k false σ)) (ke:=lQ) hr hf R h gD fun a q V1 σ1 s1 l1 R1 _ q1=>hk q V1 σ1 s1 l1 R1 (aQ q1 (fun e h=>e▸h) fun e h=>e▸h))
noncomputable def KY (e target iter:Expr) (ifs:List Expr) (em:Addr->Env->Sem Unit) (it:Value) (D:Addr) (env:Env):Sem Fin:=do
  standAt iter.pos
  match ← pyNext it with
  | none=>pure (.done .next)
  | some v=>
    letOwnedTupleGo target it v
    assign target env v
    let mut ok:=true
    for c in ifs do
      if ok then ok ← isTrue c env (eval c env)
    if ok then
      em D env
    again (.compLoop e 0 it (.ref D) env)
noncomputable def Bg (elt:Expr) (D:Addr) (env:Env):Sem Unit:=do
  let x ← eval elt env
  let _ ← call (.builtin "list.append") [.ref D,x]
noncomputable def Bh (kx vx:Expr) (D:Addr) (env:Env):Sem Unit:=do
  let kv ← eval kx env
  let vv ← holding [kv] (eval vx env)
  standAt { kx.pos with endLine:=vx.pos.endLine,endCol:=vx.pos.endCol }
  holding [kv,vv] (dictSet D kv vv)
structure mW (X:Cx) (e target iter:Expr) (ifs:List Expr) (em:Addr->Env->Sem Unit):Prop where
  cl:clausesOf e=[⟨target,iter,ifs,0⟩]
  under:∀ (A:Around) it acc env,A.under (.compLoop e 0 it acc env)=A
  turn:∀ it D env,(model X.prog X.w).den (.compLoop e 0 it (.ref D) env)=(KY e target iter ifs em it D env).onRaise fun x=>do noteFrame x env; theTreesLotGoes x
  start:∀ {A:Around} {it acc:Value} {env:Env} {R:Result->Shared->Prop} {s:Shared},codeAny (model X.prog X.w) A (.compLoop e 0 it acc env) R s->wpAny (model X.prog X.w) A (pyIter it) (fun it' s'=>codeAny (model X.prog X.w) A (.compLoop e 0 it' acc env) R s') (notedBy (model X.prog X.w) A env fun x s'=>R (.error x) s') s->codeAny (model X.prog X.w) A (.compStart e 0 it acc env) R s
theorem mW.loop {e target iter:Expr} {ifs:List Expr} {em:Addr->Env->Sem Unit} (H:mW X e target iter ifs em) {A:Around} {I D:Addr} {env:Env} {R:Result->Shared->Prop} (J:Nat->Shared->Prop)
    (turn:∀ n s,J n s->wpAny (model X.prog X.w) A (pyNext (.ref I)) (fun r s₁=>match r with
      | none=>R (.ok .next) s₁
      | some v=>wpAny (model X.prog X.w) A (letOwnedTupleGo target (.ref I) v) (fun _ s₂=>wpAny (model X.prog X.w) A (assign target env v) (fun _ s₃=>wpAny (model X.prog X.w) A (HP ifs env) (fun ok s₄=>if ok=true then wpAny (model X.prog X.w) A (em D env) (fun _ s₅=>∃ m,m < n∧J m s₅) (fun _ _=>False) s₄ else ∃ m,m < n∧J m s₄) (fun _ _=>False) s₃) (fun _ _=>False) s₂) (fun _ _=>False) s₁) (fun _ _=>False) s)
    {n:Nat} {s:Shared} (h:J n s):codeAny (model X.prog X.w) A (.compLoop e 0 (.ref I) (.ref D) env) R s:=by
  refine codeAny_loop rfl J (fun n s hI=>?_) n h
  rw [H.under,H.turn]
  refine wpAny_noted (wpAny_mono (E:=fun _ _=>False) ?_ (fun _ _ q=>q) fun _ _ q=>q.elim)
  refine wpAny_bind (wpAny_standAt (wpAny_bind (wpAny_mono (turn n s hI) (fun r s₁ h₁=>?_) fun _ _ h'=>h')))
  cases r with
  | none=>exact wpAny_pure h₁
  | some v=>
    refine wpAny_bind (wpAny_mono h₁ (fun _ s₂ h₂=>wpAny_bind (wpAny_mono h₂ (fun _ s₃ h₃=>wpAny_bind (wpAny_mono h₃ (fun ok s₄ h₄=>?_) fun _ _ h'=>h')) fun _ _ h'=>h')) fun _ _ h'=>h')
    cases ok with
    | false=>exact wpAny_pure ⟨rfl,h₄⟩
    | true=>exact wpAny_bind (wpAny_mono (show wpAny (model X.prog X.w) A (em D env) (fun _ s₅=>∃ m,m < n∧J m s₅) (fun _ _=>False) s₄ from h₄) (fun _ s₅ h₅=>wpAny_pure ⟨rfl,h₅⟩) fun _ _ q=>q)
theorem sU (elt target iter:Expr) (ifs:List Expr) (scope:Scope) (pos:Pos):mW X (.ListComp elt [⟨target,iter,ifs,0⟩] scope pos) target iter ifs (Bg elt):=⟨rfl,fun _ _ _ _=>rfl,fun it D env=>congrArg (fun m:Sem Fin=>m.onRaise _) (compTurn_list ..),fun h1 h2=>codeAny_compStart_list h1 h2⟩
theorem sV (kx vx target iter:Expr) (ifs:List Expr) (scope:Scope) (pos:Pos):mW X (.DictComp kx vx [⟨target,iter,ifs,0⟩] scope pos) target iter ifs (Bh kx vx):=⟨rfl,fun _ _ _ _=>rfl,fun it D env=>congrArg (fun m:Sem Fin=>m.onRaise _) (compTurn_dict ..),fun h1 h2=>codeAny_compStart_dict h1 h2⟩
end
section
variable {X:Cx} {sc:Scope}
structure uX (X:Cx) (sc:Scope) (target iter:Expr) (ifs:List Expr) (scope:Scope) (tg:Tg) (ik:Ik) (it:C) (cs:List C) (fr:List Nm):Prop where
  fr:fr.map tx=bY scope
  kind:scope.kind=.function
  cq:∀ code qual,X.cq (de sc scope) code qual
  cell:∀ x∈scope.names,x.2≠.cell
  names:∀ x∈scope.names,x.2=.local->scope.names.lookup x.1=some .local
  hit:pp X sc target tg ik iter it
  tg:ig X (de sc scope) target tg
  ifs:jZ X (de sc scope) ifs cs
  fold:∀ env x,foldedSetIterable iter env x=pure x
noncomputable def EQ (X:Cx) (A:Around) (F:Fm) (V:Pl) (k:KV) (use:Option (Value->Sem Unit)) (Q:Value->Shared->Prop) (E:Value->Shared->Prop):Prop:=∀ a v V' σ' s' C,V.le V'->Rel X F V' σ' s'->den X V' a v->k a σ'=true->cM F V' σ'.t C->(∃ m,s'.heap.Ns C m)->compPost (model X.prog X.w) A E use Q v C (.ok .next) s'
noncomputable def IK (X:Cx) (sc:Scope) (emit:Rc->AE->Nat->KE->St->(St->T)->T) (em:Addr->Env->Sem Unit):Prop:=∀ {f r A env ae F V σ s out D} {k:St->T} {Q:Unit->Shared->Prop} {E:Value->Shared->Prop},dz X f r->Fit X f r sc A env ae F V->Rel X F V σ s->emit r ae out lQ σ k=true->out < V.n->V.at_ out=D->LOk X F V k Q->wpAny (model X.prog X.w) A (em D env) Q E s
section
variable {e target iter:Expr} {ifs:List Expr} {scope:Scope} {pos q:Pos} {tg:Tg} {ik:Ik} {it:C} {cs:List C} {fr:List Nm} {f:Nat} {r:Rc} {A:Around} {env:Env} {ae:AE} {F:Fm} {V:Pl} {σ:St} {s:Shared} {k:KV} {ke:KE} {use:Option (Value->Sem Unit)} {Q:Value->Shared->Prop} {E:Value->Shared->Prop}
theorem Fit.comp (x:Fit X f r sc A env ae F V) (hA:A.handled=none) (hkind:scope.kind=.function) {cl:List (Nm×Nat)} (hcl:closure ae fr=some cl) (hcq:∀ code qual,X.cq (de sc scope) code qual) (m:Str->Option Value) (C:Addr) :
    Fit X f r (de sc scope) A (compEnvC scope (fr.map fun n=>(tx n,(env.cells.lookup (tx n)).getD 0)) C env) ⟨cl,false,true⟩ (F.comp m C) V:=
  ⟨rfl,x.glob,x.blt,uW x.scope,hkind,(fU x.cells fr hcl).2,fun _=>hA,fun h=>ff h.symm,.inl hA,x.depth,x.units,x.frames.rec fun envs e ok=>.mk envs e fun e' he=>have z:=ok e' he; ⟨z.1,z.2.imp fun Lf z=>⟨z.1,.inr (z.2.elim (fun e=>e▸.head _) (.tail _))⟩⟩,x.top,x.lim,hcq _ _⟩
theorem mX {acc:aj} {ob:Obj} {newAcc:Sem Value} {emit:Rc->AE->Nat->KE->St->(St->T)->T} {em:Addr->Env->Sem Unit} (HA:mW X e target iter ifs em) (H:uX X sc target iter ifs scope tg ik it cs fr) (hlive:ob.isFreed=false) (hobj:∀ V,objR X V acc ob)
    (hnew:∀ {A:Around} {Q:Value->Shared->Prop} {E:Value->Shared->Prop} {s:Shared},Q (.ref s.heap.objs.size) { s with heap:=s.heap.push ob }->wpAny (model X.prog X.w) A newAcc Q E s) (hem:IK X (de sc scope) emit em)
    (hr:dz X f r) (hf:Fit X f r sc A env ae F V) (R:Rel X F V σ s) (h:comp X.P r ae ke tg ik it cs fr acc (emit r) k σ=true) (he:dq X F V ke E) (hk:EQ X A F V k use Q E):wpAny (model X.prog X.w) A (comprehension e scope env pos newAcc false (eval iter env) use) Q E s:=
  aa h fun hh h=>ad h fun cl hclos h=>by
    have hA:=hf.hand (nt hh)
    have hcs:=fU hf.cells fr hclos
    have hfree:∀ x∈scope.names,x.2=.free->env.cells.lookup x.1=some ((env.cells.lookup x.1).getD 0):=fun x hx e=>(List.mem_map.mp (H.fr▸List.mem_reverse.mpr (List.mem_map.mpr ⟨x,List.mem_filter.mpr ⟨hx,by rw [e]; rfl⟩,rfl⟩):x.1∈fr.map tx)).elim fun n z=>z.2▸hcs.1 n z.1
    have hclo:closureFor scope env=pure (fr.map fun n=>(tx n,(env.cells.lookup (tx n)).getD 0)):=by
      rw [fT (g:=fun n=>(env.cells.lookup n).getD 0) hfree,← H.fr,List.map_map]; rfl
    refine wpAny_comprehension_free HA.cl (H.fold env) hclo H.kind H.names (H.hit hr hf hA R h he fun src xs V1 σ1 s1 L l1 R1 a q1=>aa q1 fun _ q1=>R1.loopIn a fun K D hd fx wf K' c R2=>hnew ?_)
    have RB:=(R2.drop fx c wf).1.push hlive (hobj _) s1.toks
    have R3:=R2.push hlive (hobj _) s1.toks
    have lad:V1.le (V1.add s1.heap.objs.size):=V1.le_add _
    have hN:σ1.n < (V1.add s1.heap.objs.size).n:=R1.n▸Nat.lt_succ_self _
    have hD:(V1.add s1.heap.objs.size).at_ σ1.n=s1.heap.objs.size:=R1.n▸V1.add_at _
    have hold:∀ b o,s1.heap.get? b=some o->(s1.heap.push ob).get? b=some o:=fun b o e=>Heap.get?_push_of_some _ e
    generalize hs2:s1.heap.push ob=h2 at RB R3 hold ⊢
    obtain ⟨m,K2,_⟩:=RB.fr
    refine wpAny_newFunctionEnv H.cell (fun _ h=>nomatch h) (fun h' hns hsb=>?_) H.kind
    have keep:∀ b o,h2.get? b=some o->h'.get? b=some o:=fun b o e=>hsb.extBut b o (Nat.ne_of_lt (Heap.lt_size e)) (Heap.get?_push_of_some _ e)
    have R4:Rel X (((F.hold K D).comp m h2.objs.size).hold K' []) (V1.add s1.heap.objs.size) (((σ1.wk (kL src++σ1.locks)).add acc).wl []) { s1 with heap:=h',toks:=s1.toks + 0 }:=⟨R3.mem.compIn K2.ns (Nat.le_refl _) hns keep,R3.n,R3.facts,R3.os,R3.gens⟩
    have hfc:=((hf.mono l1).mono lad).hold (K:=K) (D:=D) |>.comp (scope:=scope) hA H.kind hclos H.cq m h2.objs.size
    have st:=(L.W A hA).frame 0 _ h' a.st fun b _ o e=>keep b o (hold b o e)
    have goal:codeAny (model X.prog X.w) A (.compLoop e 0 (.ref L.I) (.ref s1.heap.objs.size) (compEnvC scope (fr.map fun n=>(tx n,(env.cells.lookup (tx n)).getD 0)) h2.objs.size env)) (compPost (model X.prog X.w) A E use Q (.ref s1.heap.objs.size) h2.objs.size) { s1 with heap:=h',toks:=s1.toks + 0 }:=by
      refine HA.loop (L.Inv ((F.hold K D).comp m h2.objs.size) ⟨cl,false,true⟩ tg (fun σ k=>Ac X.P r ⟨cl,false,true⟩ lQ cs σ fun q σ=>be q (emit r ⟨cl,false,true⟩ σ1.n lQ σ (k .next)) (k .next σ)) (fun _ υ=>k (.own σ1.n) ((υ.wk σ1.locks).wl σ1.loc)) (V1.add s1.heap.objs.size)) (fun n s I=>L.turn hr H.tg hA hfc lad ⟨fx.kp,fx.lk,fx.fp⟩ wf I (fun V2 σ2 s2 l2 R5 q=>?_) (fun v s1 h=>h) fun V2 σ2 s2 Kw rest l2 R5 q next=>?_) (.mk (Nat.add_zero _) (Pl.le_refl _) c R4 st q1)
      · obtain ⟨M,aw⟩:=RB.mem.compOut K2.ns l2 R5.mem
        exact hk (.own σ1.n) _ V2 ((σ2.wl σ1.loc).wk σ1.locks) s2 _ (Pl.le_trans l1 (Pl.le_trans lad l2)) (R1.unhold hd ⟨M,R5.n,R5.facts,R5.os,R5.gens⟩) ⟨Nat.lt_of_lt_of_le hN l2.1,by rw [l2.2 _ hN,hD]⟩ q aw.unhold (R5.fr.rec fun m K _=>⟨m,K.ns⟩)
      · refine sT H.ifs hr (hfc.mono l2).hold R5 q fun b V3 σ3 s3 l3 R6 q3=>?_
        cases b with
        | true=>
          have l23:=Pl.le_trans l2 l3
          rw [if_pos rfl]
          exact hem hr ((hfc.mono l2).mono l3).hold R6 q3 (Nat.lt_of_lt_of_le hN l23.1) ((l23.2 _ hN).trans hD) fun V4 σ4 s4 l4 R7 q4=>next V4 σ4 s4 (Pl.le_trans l3 l4) R7 q4
        | false=>exact next V3 σ3 s3 l3 R6 q3
    exact HA.start goal (L.self A 0 _ _ _ hA st goal)
end
noncomputable def KZ (elt:C):Rc->AE->Nat->KE->St->(St->T)->T:=fun r ae' out ke σ k=>elt r ae' (fun a σ=>ob (σ.list? out) fun xs=>Nat.ble xs.length 900&&upd out (.list (xs++[a])) σ k) ke σ
noncomputable def K0 (kx vx:C):Rc->AE->Nat->KE->St->(St->T)->T:=fun r ae' out ke σ k=>kx r ae' (fun a σ=>vx r ae' (fun b σ=>ob (σ.dict? out) fun es=>ob (g7 a) fun q=>Nat.ble es.length 900&&upd out (.dict (put es q b)) σ k) ke σ) ke σ
theorem ER {elt:Expr} {x:C} (hx:aK X sc elt x):IK X sc (KZ x) (Bg elt):=
  fun hr hf R h ho eD hk=>wpAny_bind (hx hr hf R h gD fun a v V1 σ1 s1 l1 R1 d1 q=>ad q fun xs hb q=>aa q fun hl q=>aa q fun hlk q=>eD▸l1.2 _ ho▸R1.listO (list_of hb) fun ob l n hob hc hdn hdt al=>wpAny_bind (gC hob hc hdt (fun h' o' n' ho' c' dn' d' hsb=>wpAny_pure (hk V1 _ _ l1 (R1.upd (o':=.list (xs++[a])) (list_of hb) (nt hlk) hsb ho' ⟨⟨c',dn'.trans hdn⟩,.mk _ n' d' (by rw [Array.toList_push]; exact al.append (.cons d1 .nil))⟩ s1.toks) q)) (fA hl al.len.symm)))
theorem ES {kx vx:Expr} {x y:C} (hx:aK X sc kx x) (hy:aK X sc vx y):IK X sc (K0 x y) (Bh kx vx):=
  fun {f r A env ae F V σ s out D k Q E} hr hf R h ho eD hk=>wpAny_bind (hx hr hf R h gD fun a v V1 σ1 s1 l1 R1 d1 q=>wpAny_bind (wpAny_holding (hy hr (hf.mono l1) R1 q gD fun b w V2 σ2 s2 l2 R2 d2 q=>wpAny_bind (wpAny_standAt (wpAny_holding
    (ad q fun es hb q=>ad q fun n hn q=>aa q fun hl q=>aa q fun hlk q=>eD▸(Pl.le_trans l1 l2).2 _ ho▸R2.dict (dict_of hb) fun kvs D al=>cD (P:=fun v=>wpAny _ A (dictSet (V2.at_ out) v w) Q E s2) (aI l2 d1) hn fun t=>wpAny_dictSet_pairs (aY _ _ _ _) D (fun h' D' hs=>hk V2 _ _ (Pl.le_trans l1 l2) (R2.updD (dict_of hb) (nt hlk) hs D' (iQ bW d2 al (ft D))) q) (fA hl al.length)))))))
section
variable {f:Nat} {r:Rc} {A:Around} {env:Env} {ae:AE} {F:Fm} {V:Pl} {σ:St} {s:Shared}
theorem Rel.but (R:Rel X F V σ s) {C:Addr} (aw:cM F V σ.t C) {h':Heap} (hs:Heap.SameBut C s.heap h') (t:Tok):Rel X F V σ { s with heap:=h',toks:=t }:=
  ⟨R.mem.but (ws:=[C]) (fun b hb=>List.mem_singleton.mp hb▸aw) fun b o hb e=>hs.extBut b o (fun q=>hb (List.mem_singleton.mpr q)) e,R.n,R.facts,R.os,R.gens⟩
theorem pr {k:KV} {Q:Value->Shared->Prop} {E:Value->Shared->Prop} (hk:KOk X F V k Q):EQ X A F V k none Q E:=
  fun a v V' σ' s' C l R d q aw hm=>hm.elim fun m hm=>⟨m,hm,fun h' hs=>hk a v V' σ' _ l (R.but aw hs s'.toks) d q⟩
theorem yN {k:KF} {n:Nm} {x:Str} {p:Pos} {Q:Flow->Shared->Prop} {E:Value->Shared->Prop} (hf:Fit X f r sc A env ae F V) (hx:tx n=x) (hl:sc.names.lookup x=some .local) (hk:mQ X F V k Q):EQ X A F V (fun a σ=>store n a σ fun σ=>k .next σ) (some (assign (.Name x p) env)) (fun _=>Q .next) E:=
  fun a v V' σ' s' C l R d q aw hm=>hm.elim fun mC hmC=>wpAny_assign_Name (by
    rw [storeName_local (hf.name hl) (by rw [hf.env_kind]; rfl),hf.loc,← hx]
    exact R.fr.rec fun m K _=>wpAny_nsSet K.ns fun h' hn hs=>⟨mC,hmC.sameBut hs aw.a0.L,fun h'' hs''=>hk.next l ((R.store K.ns d hn hs s'.toks).but (V:=V') (σ:=σ'.wl (put σ'.loc n a)) aw hs'' _) q⟩)
end
section
variable {target iter:Expr} {ifs:List Expr} {scope:Scope} {pos:Pos} {tg:Tg} {ik:Ik} {it:C} {cs:List C} {fr:List Nm} (H:uX X sc target iter ifs scope tg ik it cs fr)
include H
noncomputable def uY (X:Cx) (sc:Scope) (e:Expr) (scope:Scope) (iter:Expr) (newAcc:Sem Value) (x:C):Prop:=∀ {f r A env ae F V σ s k ke use Q E} {q:Pos},dz X f r->Fit X f r sc A env ae F V->Rel X F V σ s->x r ae k ke σ=true->dq X F V ke E->EQ X A F V k use Q E->wpAny (model X.prog X.w) A (comprehension e scope env q newAcc false (eval iter env) use) Q E s
theorem pt {elt:Expr} {x:C} (hx:aK X (de sc scope) elt x):uY X sc (.ListComp elt [⟨target,iter,ifs,0⟩] scope pos) scope iter (newList []) (gn X.P x tg ik it cs fr):=
  fun hr hf R h he hk=>mX (acc:=.list []) (ob:={ cls:=.type "list", dict:=none,data:=.seq ([]:List Value).toArray }) (sU elt target iter ifs scope pos) H rfl (fun V=>⟨⟨rfl,rfl⟩,.mk _ _ rfl .nil⟩) (fun h=>wpAny_newObj_type h) (ER hx) hr hf R h he hk
theorem pu {kx vx:Expr} {x y:C} (hx:aK X (de sc scope) kx x) (hy:aK X (de sc scope) vx y):uY X sc (.DictComp kx vx [⟨target,iter,ifs,0⟩] scope pos) scope iter newDict (ea X.P x y tg ik it cs fr):=
  fun hr hf R h he hk=>mX (acc:=.dict []) (ob:=emptyDict) (sV kx vx target iter ifs scope pos) H rfl (fun V=>dw.mk [] ⟨#[],0,⟨rfl,rfl,rfl⟩,rfl,fun _ h=>(nomatch h),.nil,List.nodup_nil⟩ .nil) (fun h=>wpAny_newObj_type h) (ES hx hy) hr hf R h he hk
end
section
variable {target iter:Expr} {ifs:List Expr} {scope:Scope} {pos spos p:Pos} {c:C} {y:Str} {n:Nm}
theorem yO {elt:Expr} (h:uY X sc (.ListComp elt [⟨target,iter,ifs,0⟩] scope pos) scope iter (newList []) c):aK X sc (.ListComp elt [⟨target,iter,ifs,0⟩] scope pos) c:=fun hr hf R h' he hk=>h (q:=iter.pos) hr hf R h' he (pr hk)
theorem yP {kx vx:Expr} (h:uY X sc (.DictComp kx vx [⟨target,iter,ifs,0⟩] scope pos) scope iter newDict c):aK X sc (.DictComp kx vx [⟨target,iter,ifs,0⟩] scope pos) c:=fun hr hf R h' he hk=>h (q:=iter.pos) hr hf R h' he (pr hk)
theorem sW {e:Expr} {newAcc:Sem Value} {q:Pos} (h:uY X sc e scope iter newAcc c) (hu:∀ env,evalThenUse e env (assign (.Name y p) env)=(do let _ ← comprehension e scope env q newAcc false (eval iter env) (some (assign (.Name y p) env)))) (hy:tx n=y) (hl:sc.names.lookup y=some .local) (hs:∀ env,env.scope=sc->swapsWith e (some (.Name y p)) spos.line env=pure true):fH X sc (.Assign [.Name y p] e spos) (ag (aE n) c):=
  fun hr hf R h' he hk=>by
    rw [exec_Assign_Name_used _ _ _ _ (hs _ hf.scope)]
    refine wpAny_bind (wpAny_standAt (wpAny_bind ?_))
    rw [hu]
    exact wpAny_bind (wpAny_mono (h hr hf R h' he (yN hf hy hl hk)) (fun _ s' hq=>wpAny_pure (wpAny_pure hq)) fun _ _ e=>e)
theorem mY {elt:Expr} (h:uY X sc (.ListComp elt [⟨target,iter,ifs,0⟩] scope pos) scope iter (newList []) c) (hy:tx n=y) (hl:sc.names.lookup y=some .local) (hs:∀ env,env.scope=sc->swapsWith (.ListComp elt [⟨target,iter,ifs,0⟩] scope pos) (some (.Name y p)) spos.line env=pure true):fH X sc (.Assign [.Name y p] (.ListComp elt [⟨target,iter,ifs,0⟩] scope pos) spos) (ag (aE n) c):=
  sW (q:=iter.pos) h (fun _=>rfl) hy hl hs
theorem mZ {kx vx:Expr} (h:uY X sc (.DictComp kx vx [⟨target,iter,ifs,0⟩] scope pos) scope iter newDict c) (hy:tx n=y) (hl:sc.names.lookup y=some .local) (hs:∀ env,env.scope=sc->swapsWith (.DictComp kx vx [⟨target,iter,ifs,0⟩] scope pos) (some (.Name y p)) spos.line env=pure true):fH X sc (.Assign [.Name y p] (.DictComp kx vx [⟨target,iter,ifs,0⟩] scope pos) spos) (ag (aE n) c):=
  sW (q:=iter.pos) h (fun _=>rfl) hy hl hs
end
end
section
variable {X:Cx} {sc:Scope}
section
variable {F:Fm} {V V':Pl} {σ σ':St} {s s':Shared} {a:Addr} {ob:Obj}
theorem sA.shift {F F':Fm} {st:Option Value} (h:sA F st) (e:F'.L=F.L):sA F' st:=by
  cases h with
  | new=>exact .new
  | off=>exact .off
  | on=>exact e▸.on
theorem Rel.hold1 (R:Rel X F V σ s) (aw:cM F V σ.t a) (h:s.heap.get? a=some ob):Rel X (F.hold [(a,ob)] []) V σ s:=
  ⟨R.mem.hold (l:=[]) (fun p hp=>List.mem_singleton.mp hp▸⟨h,aw.a0.L,aw.a0.h0,aw.a0.sus,aw.cs,fun i o e z=>absurd z.symm (aw.a0.ob i o e)⟩) (fun q hq=>nomatch hq),R.n,R.facts,R.os,R.gens⟩
theorem Rel.drop1 (R:Rel X F V σ s) (aw:cM F V σ.t a) (R':Rel X (F.hold [(a,ob)] []) V' σ' s'):Rel X F V' σ' s'∧cM F V' σ'.t a∧s'.heap.get? a=some ob:=
  have q:=R'.drop (ws:=[a]) (fp:=[]) ⟨fun b hb=>List.mem_singleton.mp hb▸aw.a0.kp,fun b hb r hr e=>(R.mem.wf r hr).elim fun p z=>aw.a0.kp p z.1 (z.2.trans (e.trans (List.mem_singleton.mp hb))),fun _ h=>nomatch h⟩ ⟨fun b hb=>⟨ob,List.mem_singleton.mp hb▸.head _⟩,fun p hp=>List.mem_singleton.mp hp▸.head _⟩ R.mem.wf
  ⟨q.1,q.2 a (.head _),(R'.mem.kept (a,ob) (.head _)).1⟩
theorem dq.hold1 {ke:KE} {E:Value->Shared->Prop} (R:Rel X F V σ s) (aw:cM F V σ.t a) (he:dq X F V ke E):dq X (F.hold [(a,ob)] []) V ke E:=
  fun c ev V' σ' s' l x q=>he c ev V' σ' s' l (x.rec fun x hc hs=>.mk (x.rec fun R' w g cl d z tb=>.mk (R.drop1 aw R').1 w.unhold g cl d z (match tb with | .none z=>.none z | .tb z aw ne g d fr=>.tb z aw.unhold ne g d fr)) hc (hs.shift rfl)) q
theorem Rel.adopt (R:Rel X F V σ s) {o:aj} {h':Heap} (aw:cM F V σ.t a) (hs:Heap.SameBut a s.heap h') (hn:h'.get? a=some ob) (ho:objR X (V.add a) o ob) (t:Tok):Rel X F (V.add a) (σ.add o) { s with heap:=h',toks:=t }:=by
  have e:(V.add a).at_ σ.n=a:=R.n▸V.add_at a
  refine ⟨R.mem.put (V.le_add a) rfl (R.n▸Nat.lt_succ_self _) (fun b x q _ z=>(hs.2 b (e▸q)).trans z) (fun _=>et fun o z=>(hs.2 _ aw.a0.L.symm).trans z) ?_ ?_ ?_ ?_ ?_ ?_ ?_ ho,congrArg (· + 1) R.n,R.facts,R.os,R.gens⟩ <;> rw [e]
  · exact aw.a0.h0
  · exact aw.a0.L
  · exact aw.a0.kp
  · exact aw.a0.sus
  · exact aw.cs
  · exact fun k x e _=>aw.a0.ob k x e
  · exact hn
end
noncomputable def prR (X:Cx) (V:Pl) (a:AV×AV) (v:Value×Value):Prop:=den X V a.1 v.1∧den X V a.2 v.2
noncomputable def K3 (X:Cx) (F:Fm) (V:Pl) (k:List (AV×AV)->St->T) (Q:List (Value×Value)->Shared->Prop):Prop:=∀ as vs V' σ' s',V.le V'->Rel X F V' σ' s'->au (prR X V') as vs->k as σ'=true->Q vs s'
noncomputable def pv (X:Cx) (sc:Scope) (ks:List (Option Expr)) (vs:List Expr) (xs:List (C×C)):Prop:=∀ {f r A env ae F V σ s} {pos:Pos} {k ke Q E},dz X f r->Fit X f r sc A env ae F V->Rel X F V σ s->KH r ae ke xs k σ=true->dq X F V ke E->K3 X F V k Q->wpAny (model X.prog X.w) A (evalPairs (pairTrees ks vs env pos)) Q E s
theorem yQ:pv X sc [] [] []:=fun {f r A env ae F V σ s pos k ke Q E} hr hf R h he hk=>evalPairs_nil (hk [] [] V σ s (Pl.le_refl V) R .nil h)
theorem uZ {e d:Expr} {ks:List (Option Expr)} {vs:List Expr} {x y:C} {xs:List (C×C)} (hx:aK X sc e x) (hy:aK X sc d y) (hs:pv X sc ks vs xs):pv X sc (some e::ks) (d::vs) ((x,y)::xs):=
  fun hr hf R h he hk=>evalPairs_cons (hx hr hf R h he fun a v V1 σ1 s1 l1 R1 d1 h1=>wpAny_bind (hy hr (hf.mono l1) R1 h1 (he.mono l1) fun b w V2 σ2 s2 l2 R2 d2 h2=>wpAny_bind (wpAny_standAt (wpAny_pure (have l:=Pl.le_trans l1 l2
    hs hr (hf.mono l) R2 h2 (he.mono l) fun as vs V3 σ3 s3 l3 R3 d3 h3=>hk ((a,b)::as) ((v,w)::vs) V3 σ3 s3 (Pl.le_trans l l3) R3 (.cons ⟨aI (Pl.le_trans l2 l3) d1,aI l3 d2⟩ d3) h3)))))
section
variable {K:Type} [DecidableEq K] {knd:PySem.KeyKind X.prog X.w K} {key:AV->Option Nm} {kx:Nm->K} {mk:List (Nm×AV)->aj}
theorem qE (inj:∀ a b,kx a=kx b->a=b) (hkey:∀ {V a v q},den X V a v->key a=some q->knd.is (kx q) v=true) {V:Pl} {as:List (AV×AV)} {vs:List (Value×Value)} (d:au (prR X V) as vs):∀ {acc es:List (Nm×AV)} {kvs:List (K×Value)},au (kvR X kx V) acc kvs->(kvs.map (·.1)).Nodup->Ae key as acc=some es->
    ∃ new,Carries knd vs new∧au (kvR X kx V) es (merged kvs new):=by
  induction d with
  | nil=>exact fun hk hn h=>⟨[],trivial,sm h▸hk⟩
  | cons d _ ih=>exact fun hk hn h=>ao h fun q hq h=>(ih (iQ inj d.2 hk hn) (gB hn) h).elim fun new z=>⟨(kx q,_)::new,⟨hkey d.1 hq,rfl,z.1⟩,z.2⟩
theorem j0 (inj:∀ a b,kx a=kx b->a=b) (hkey:∀ {V a v q},den X V a v->key a=some q->knd.is (kx q) v=true) (hmk:∀ {V es o},dw X knd kx V es o->objR X V (mk es) o) {ks:List (Option Expr)} {vs:List Expr} {xs:List (C×C)} {pos:Pos} (hs:pv X sc ks vs xs) (hall:ks.all (·.isSome)=true) (hl:ks.length=vs.length) (h0:ks≠[]) (hlen:ks.length≤15) :
    aK X sc (.Dict ks vs pos) (Ag key mk xs):=
  fun {f r A env ae F V σ s k ke Q E} hr hf R h he hk=>by
    have R1:Rel X F V σ { s with heap:=s.heap.push emptyDict }:=R.pushU s.toks
    have aw:=R.away (dM s.heap)
    refine wpAny_Dict_walk (knd:=knd) hall hl h0 hlen (hs hr hf.hold (R1.hold1 aw (Heap.get?_push_size _ rfl)) h (he.hold1 R1 aw) fun as vals V1 σ1 s1 l1 R3 d1 q1=>ad q1 fun es hes q1=>(R1.drop1 aw R3).elim fun R4 z=>(qE (knd:=knd) inj hkey d1 .nil List.nodup_nil hes).elim fun new h2=>?_)
    refine ⟨new,h2.1,⟨_,#[],_,z.2,⟨rfl,rfl,rfl⟩,rfl,(fun e he=>nomatch he),.nil,List.nodup_nil⟩,fun h' D' hsb=>(Heap.dictOf_iff.mp D').elim fun o w=>hk (.own σ1.n) _ _ _ _ (Pl.le_trans l1 (Pl.le_add _ _)) (R4.adopt (o:=mk es) z.1 hsb w.1 (hmk (.mk _ w.2 (h2.2.mono fun _ _=>.imp_right (aI (Pl.le_add _ _))))) _) (cP R4.n _) q1⟩
end
theorem Bj {K:Type} [DecidableEq K] {knd:PySem.KeyKind X.prog X.w K} {kx:Nm->K} {V:Pl}:dw X knd kx V [] emptyDict:=.mk [] ⟨#[],0,⟨rfl,rfl,rfl⟩,rfl,fun _ h=>(nomatch h),.nil,List.nodup_nil⟩ .nil
section
variable {ks:List (Option Expr)} {vs:List Expr} {xs:List (C×C)} {pos:Pos}
theorem yR:aK X sc (.Dict [] [] pos) (aV []):=fun {f r A env ae F V σ s k ke Q E} hr hf R h he hk=>wpAny_Dict_empty (hk (.own σ.n) _ _ _ _ (Pl.le_add _ _) (R.push (o:=.dict []) (ob:=emptyDict) rfl Bj s.toks) (cP R.n _) h)
theorem IL:aK X sc (.Dict [] [] pos) (qk []):=fun {f r A env ae F V σ s k ke Q E} hr hf R h he hk=>wpAny_Dict_empty (hk (.own σ.n) _ _ _ _ (Pl.le_add _ _) (R.push (o:=.bdict []) (ob:=emptyDict) rfl Bj s.toks) (cP R.n _) h)
variable (hs:pv X sc ks vs xs) (hall:ks.all (·.isSome)=true) (hl:ks.length=vs.length) (h0:ks≠[]) (hlen:ks.length≤15)
include hs hall hl h0 hlen
theorem Bk:aK X sc (.Dict ks vs pos) (aV xs):=j0 (knd:=strKind X.prog X.w) bW (fun {V a v q} d hq=>cD (P:=fun v=>(strKind X.prog X.w).is (tx q) v=true) d hq fun t=>aY ..) id hs hall hl h0 hlen
theorem yS:aK X sc (.Dict ks vs pos) (qk xs):=j0 (knd:=bytesKind X.prog X.w) qu (fun {V a v q} d hq=>mJ (P:=fun v=>(bytesKind X.prog X.w).is (ub q) v=true) d hq fun t=>bytesKind_is ..) id hs hall hl h0 hlen
end
inductive sX (K:Frag) (h:Heap) (x:Value) (k:Nat):Prop
  | mk {H:Heap->Prop} (Z:KitX K x (.type (kn k)) H) (p:H h) (hx:x≠.builtin "__main__.__loader__#opaque")
theorem Ty.kn {t:Ty}:Nat.ble t.ctorIdx 3=true->t.nm=kn t.ctorIdx:=t.rec (fun _=>rfl) (fun _=>rfl) (fun _=>rfl) (fun _=>rfl) ff ff ff ff ff ff ff ff ff ff ff ff ff ff
section
variable {A:Around} {F:Fm} {V:Pl} {σ:St} {s:Shared} {Q:Value->Shared->Prop} {E:Value->Shared->Prop} {v c:AV} {x y:Value}
theorem Bl {k:Nat} (R:Rel X F V σ s) (d:den X V v x) (h:Ih σ v=some k):sX X.K s.heap x k∧Nat.ble k 5=true:=by
  cases v with
  | none=>exact sm h▸⟨d▸.mk kitx_none trivial (fun e=>nomatch e),rfl⟩
  | bool q=>exact sm h▸⟨d▸.mk kitx_bool trivial (fun e=>nomatch e),rfl⟩
  | int i=>exact sm h▸⟨bH (P:=fun x=>sX X.K s.heap x 0) d fun t=>.mk kitx_int trivial (fun e=>nomatch e),rfl⟩
  | str i=>exact sm h▸⟨bQ (P:=fun x=>sX X.K s.heap x 1) d fun t=>.mk kitx_str trivial (fun e=>nomatch e),rfl⟩
  | own i=>exact ao h fun o ho h=>cB h (fun _ h=>cB h (fun _=>nn) fun es hes h=>sm h▸⟨aW (P:=fun x=>sX X.K s.heap x 3) d fun _=>R.dict (aj.dict_of hes▸ho) fun kvs D _=>.mk kitx_dict (D.elim fun o q=>q.elim fun _ q=>q.elim fun _ q=>⟨o,q.1,q.2.1.1⟩) (fun e=>nomatch e),rfl⟩) fun xs hxs h=>sm h▸⟨aW (P:=fun x=>sX X.K s.heap x 2) d fun _=>R.listO (aj.list_of hxs▸ho) fun ob l n g c _ _ _=>.mk kitx_list ⟨ob,g,c⟩ (fun e=>nomatch e),rfl⟩
  | _=>exact nn h
theorem qF {q:Bool} (ht:X.K.In F.h₀) (R:Rel X F V σ s) (dv:den X V v x) (dc:den X V c y) (h:zX X.P σ v c=some q) (hq:∀ t,Q (.bool q) { s with toks:=t }):wpAny (model X.prog X.w) A (call (.builtin "isinstance") [x,y]) Q E s:=
  have T:X.K.In s.heap:=ht.keeps fun b o e=>R.keep e
  cB h (fun _ h=>ao h fun t hct h=>ao h fun k hk h=>bg h (fun b h=>aa b fun b1 b2=>(Bl R dv hk).1.rec fun Z p hx=>kia_one Z T p ((AV.ty_of hct▸dc:den X V (.ty t) y)▸(Ty.kn b2).symm▸sm h▸X.pok.isiU k t.ctorIdx b1 b2) hx hq) fun _=>nn)
    fun a ha h=>ao h fun ca hca h=>bg h (fun _=>nn) fun hex h=>have C:=X.pok.cls a ca hca hex; have e:y=.ref a:=(AV.top_of ha▸dc:den X V (.top a) y); e▸cB h
      (fun _ h=>ao h fun d hd h=>ao h fun cd hcd h=>ao h fun es hes h=>bg h (fun _=>nn) fun hexd h=>ao hd fun i hi hd=>aW (P:=fun x=>wpAny _ A (call (.builtin "isinstance") [x,.ref a]) Q E s) (AV.own_of hi▸dv) fun _=>have D:=X.pok.cls _ cd hcd hexd; R.instD (inst_of hd) (dict_of hes) fun od kvs I _ _ _=>kia_one (kitx_own D.pg D.hd D.fc X.pok.isiG.1 X.pok.isiG.2 D.mro) T I (sm h▸AV.top_of ha▸X.pok.isiD d.1 cd a ca hcd hca hexd hex) (fun e=>nomatch e) hq)
      fun k hk h=>(Bl R dv hk).elim fun z b5=>z.rec fun Z p hx=>kia_one Z T p (sm h▸C.kit k b5) hx hq
end
end
section
variable {X:Cx} {sc:Scope}
section
variable {A:Around} {F:Fm} {V:Pl} {σ:St} {s:Shared} {k:KV} {ke:KE} {Q:Value->Shared->Prop} {E:Value->Shared->Prop}
theorem m6 {i:Nat} {a:AV} {dflt:Option AV} {key:Value} {rest:List Value} (hh:A.handled=none) (ht:X.K.In F.h₀) (R:Rel X F V σ s) (da:den X V a key) (h:Ir i a dflt k ke σ=true) (he:dq X F V ke E) (hk:KOk X F V k Q)
    (dr:oe dflt (rest=[]) fun b=>∃ y,rest=[y]∧den X V b y):wpAny (model X.prog X.w) A (call (.builtin "dict.pop") (.ref (V.at_ i)::key::rest)) Q E s:=
  ad h fun es hes h=>have hi:=dict_of hes; ad h fun q hq h=>R.dict hi fun kvs D al=>cD (P:=fun key=>wpAny _ A (call (.builtin "dict.pop") (.ref (V.at_ i)::key::rest)) Q E s) da hq fun t=>by
    have two:rest=[]∨∃ y,rest=[y]:=by
      cases dflt with
      | none=>exact .inl dr
      | some b=>exact .inr (dr.imp fun y z=>z.1)
    have args:argsOk "dict.pop" ⟨.ref (V.at_ i)::.str (tx q) t::rest,[]⟩:=two.elim (fun e=>e▸PySem.F.args_dict_pop_2 _ _) fun e=>e.elim fun y e=>e▸PySem.F.args_dict_pop_3 _ _ _
    refine az h (fun hx h=>?_) fun x hx h=>aa h fun hl h=>aa h fun hlk h=>(ee bW al hx).elim fun v hv=>call_meetsIn PySem.F.slot_dict_pop D.typeIs PySem.F.entry_dict_pop args (meets_dict_pop_there (strKind X.prog X.w) _ (aY _ _ _ _) rest two rfl)
      ⟨_,v,D,fA hl al.length,hv.1,fun h' D' hs=>hk x v V _ _ (Pl.le_refl V) (R.updD hi (nt hlk) hs D' (AG bW al (ft D))) hv.2 h⟩
    have hn:=fj bW al hx
    cases dflt with
    | none=>
      obtain rfl:rest=[]:=dr
      exact call_meetsIn PySem.F.slot_dict_pop D.typeIs PySem.F.entry_dict_pop args (meets_dict_pop_missing (strKind X.prog X.w) _ (aY _ _ _ _) (R.notMods ht hi) rfl) ⟨hh,_,D,hn,fun h' e hm=>he (.ty .KeyError) _ V σ _ (Pl.le_refl V) (R.exn hm rfl) h⟩
    | some b=>
      obtain ⟨y,rfl,dy⟩:=dr
      exact call_meetsIn PySem.F.slot_dict_pop D.typeIs PySem.F.entry_dict_pop args (meets_dict_pop_default (strKind X.prog X.w) _ (aY _ _ _ _) (R.notMods ht hi) rfl y) ⟨_,D,hn,hk.here (R.toks _) dy h⟩
theorem m7 {i:Nat} {a b:AV} {key:Value} {rest:List Value} (ht:X.K.In F.h₀) (R:Rel X F V σ s) (da:den X V a key) (h:getD i a b k σ=true) (hk:KOk X F V k Q) (dr:(rest=[]∧b=.none)∨∃ y,rest=[y]∧den X V b y):wpAny (model X.prog X.w) A (call (.builtin "dict.get") (.ref (V.at_ i)::key::rest)) Q E s:=
  ad h fun es hes h=>have hi:=dict_of hes; ad h fun q hq h=>R.dict hi fun kvs D al=>cD (P:=fun key=>wpAny _ A (call (.builtin "dict.get") (.ref (V.at_ i)::key::rest)) Q E s) da hq fun t=>by
    have fin:∀ {y},den X V b y->Q ((valueAt kvs (tx q)).getD y) { s with toks:=s.toks + 1 }:=fun dy=>by
      cases hx:look es q with
      | some x=>rw [hx] at h; exact (ee bW al hx).elim fun v hv=>by rw [hv.1]; exact hk.here (R.toks _) hv.2 h
      | none=>rw [hx] at h; rw [fj bW al hx]; exact hk.here (R.toks _) dy h
    exact dr.elim (fun z=>z.1▸call_meetsIn PySem.F.slot_dict_get D.typeIs PySem.F.entry_dict_get (PySem.F.args_dict_get_2 _ _) (meets_dict_get (strKind X.prog X.w) _ (aY _ _ _ _) (R.notMods ht hi)) ⟨_,D.mapOf,fin (z.2▸rfl)⟩)
      fun z=>z.elim fun y z=>z.1▸call_meetsIn PySem.F.slot_dict_get D.typeIs PySem.F.entry_dict_get (PySem.F.args_dict_get_3 _ _ _) (meets_dict_get_default (strKind X.prog X.w) _ (aY _ _ _ _) (R.notMods ht hi) y) ⟨_,D.mapOf,fin z.2⟩
theorem qG {fs:List (Nm×AV)} {more:List (Str×Value)} (h:au (kvR X tx V) fs more):∀ {es:List (Nm×AV)} {kvs:List (Str×Value)},au (kvR X tx V) es kvs->(kvs.map (·.1)).Nodup->au (kvR X tx V) (fs.foldl (fun es f=>put es f.1 f.2) es) (merged kvs more):=by
  induction h with
  | nil=>exact fun h _=>h
  | @cons f p fs more x _ ih=>exact fun h hn=>(show merged (stored _ (tx f.1) p.2) more=merged _ (p::more) by rw [← x.1]; rfl)▸ih (iQ bW x.2 h hn) (gB hn)
theorem u0 {i j:Nat} (ht:X.K.In F.h₀) (R:Rel X F V σ s) (h:updD i j k σ=true) (hk:KOk X F V k Q):wpAny (model X.prog X.w) A (call (.builtin "dict.update") [.ref (V.at_ i),.ref (V.at_ j)]) Q E s:=
  ad h fun es hes h=>ad h fun fs hfs h=>aa h fun hc h=>aa hc fun hne hc=>aa hc fun h1 h2=>aa h fun hlk h=>R.dict (dict_of hes) fun kvs D al=>R.dict (dict_of hfs) fun more D2 al2=>call_meetsIn PySem.F.slot_dict_update D.typeIs PySem.F.entry_dict_update (PySem.F.args_dict_update_2 _ _) (meets_dict_update (strKind X.prog X.w) _ _ (fun e=>Nat.ne_of_beq_eq_false (nt hne) (R.mem.inj i j _ _ (dict_of hes) (dict_of hfs) e)) (R.notMods ht (dict_of hfs)))
      ⟨_,_,D,D2,Nat.le_trans (Nat.add_le_add (al.length▸Nat.le_of_ble_eq_true h1) (al2.length▸Nat.le_of_ble_eq_true h2)) (by decide),fun h' D' _ hs=>hk .none .none V _ _ (Pl.le_refl V) (R.updD (dict_of hes) (nt hlk) hs D' (qG al2 al (ft D))) rfl h⟩
theorem qH {i:Nat} {md:Md} {as:List AV} {xs:List Value} (hh:A.handled=none) (ht:X.K.In F.h₀) (R:Rel X F V σ s) (ds:au (den X V) as xs) (h:uC i md as k ke σ=true) (he:dq X F V ke E) (hk:KOk X F V k Q) (id:String) (e:md.rec "" "" "dict.pop" "dict.get" "" "" "" "dict.update" "" "" "" "" "" "" = id):wpAny (model X.prog X.w) A (call (.builtin id) (.ref (V.at_ i)::xs)) Q E s:=by
  subst e
  cases md with
  | pop=>exact az h (fun _ h=>ad h fun p hp h=>au.two (P:=fun xs=>wpAny _ A (call (.builtin "dict.pop") (.ref (V.at_ i)::xs)) Q E s) (jw hp▸ds) fun c d da db=>m6 hh ht R da h he hk ⟨_,rfl,db⟩) fun a ha h=>au.one (P:=fun xs=>wpAny _ A (call (.builtin "dict.pop") (.ref (V.at_ i)::xs)) Q E s) (cS ha▸ds) fun c da=>m6 hh ht R da h he hk rfl
  | get=>exact az h (fun _ h=>ad h fun p hp h=>au.two (P:=fun xs=>wpAny _ A (call (.builtin "dict.get") (.ref (V.at_ i)::xs)) Q E s) (jw hp▸ds) fun c d da db=>m7 ht R da h hk (.inr ⟨_,rfl,db⟩)) fun a ha h=>au.one (P:=fun xs=>wpAny _ A (call (.builtin "dict.get") (.ref (V.at_ i)::xs)) Q E s) (cS ha▸ds) fun c da=>m7 ht R da h hk (.inl ⟨rfl,rfl⟩)
  | update=>exact ad h fun j hj h=>ao hj fun a ha hj=>au.one (P:=fun xs=>wpAny _ A (call (.builtin "dict.update") (.ref (V.at_ i)::xs)) Q E s) (cS ha▸ds) fun c da=>aW (P:=fun c=>wpAny _ A (call (.builtin "dict.update") [.ref (V.at_ i),c]) Q E s) (AV.own_of hj▸da) fun _=>u0 ht R h hk
  | _=>exact ff h
theorem Rel.plistO {G:Prop} (R:Rel X F V σ s) {i:Nat} {p:IV} {xs:List AV} (h:σ.t.get i=some (.plist p xs)) (g:∀ ob (l:Array Value) n pre post,s.heap.get? (V.at_ i)=some ob->ob.cls=.type "list" -> ob.dict=none->ob.data=.seq l n->l.toList=pre++post->(pre.length:Int)=p.den X.nu->au (den X V) xs post->G):G:=
  (R.obj h).rec fun ob _ hob _ _ r=>r.2.rec fun l n pre post hd e hp al=>g ob l n pre post hob r.1.1 r.1.2 hd e hp al
theorem Bm {p:IV} {n:Nat} {pre:Nat} (H:cC X.nu σ.f) (h:bnd p n σ=true) (e:(pre:Int)=p.den X.nu):pre + n≤1000000:=by
  have q:=bc H h
  rw [IV.den_k X.h0] at q
  have q:X.nu p.x + (p.c + n)≤1000000 + 0:=q
  have e:(pre:Int)=X.nu p.x + p.c:=e
  omega
theorem qI {i:Nat} {md:Md} {as:List AV} {xs:List Value} (R:Rel X F V σ s) (ds:au (den X V) as xs) (h:uB i md as k σ=true) (hk:KOk X F V k Q):wpAny (model X.prog X.w) A (call (.builtin "list.append") (.ref (V.at_ i)::xs)) Q E s:=
  aa h fun _ h=>ad h fun a ha h=>au.one (P:=fun xs=>wpAny _ A (call (.builtin "list.append") (.ref (V.at_ i)::xs)) Q E s) (cS ha▸ds) fun v dv=>ad h fun o ho h=>az h
    (fun _ h=>ad h fun p hp h=>aa h fun hb h=>aa h fun hlk h=>have ho:=aj.plist_of hp▸ho; R.plistO ho fun ob l n pre post hob hc hdn hdt e hpre al=>gC hob hc hdt (fun h' o' n' ho' c' dn' d' hsb=>hk .none .none V _ _ (Pl.le_refl V)
        (R.upd (o':=.plist p.1 (p.2++[a])) ho (nt hlk) hsb ho' ⟨⟨c',dn'.trans hdn⟩,.mk _ n' pre (post++[v]) d' (by rw [Array.toList_push,e,List.append_assoc]) hpre (al.append (.cons dv .nil))⟩ s.toks) rfl h)
      (by rw [← Array.length_toList,e,List.length_append,← al.length]; exact Nat.le_trans (Bm R.facts hb hpre) (by decide)))
    fun ys hy h=>aa h fun hl h=>aa h fun hlk h=>have ho:=aj.list_of hy▸ho; R.listO ho fun ob l n hob hc hdn hdt al=>gC hob hc hdt (fun h' o' n' ho' c' dn' d' hsb=>hk .none .none V _ _ (Pl.le_refl V)
      (R.upd (o':=.list (ys++[a])) ho (nt hlk) hsb ho' ⟨⟨c',dn'.trans hdn⟩,.mk _ n' d' (by rw [Array.toList_push]; exact al.append (.cons dv .nil))⟩ s.toks) rfl h) (fA hl al.len.symm)
end
end
section
variable {X:Cx} {sc:Scope}
theorem Fit.room {f:Nat} {r:Rc} {A:Around} {env:Env} {ae:AE} {F:Fm} {V:Pl} (x:Fit X f r sc A env ae F V):(∀ f as k ke σ,r f as k ke σ=false)∨lS X f A F:=
  x.calls.symm.imp_right fun h=>⟨h,x.depth,Nat.lt_of_lt_of_le x.units (by decide),x.frames,x.top,x.lim⟩
structure K4 (T id:String) (name:Str):Prop where
  pa:PlainAttrs T
  slot:Slot T name id
  ty:typeOf (.builtin id)=pure (.type "method_descriptor")
noncomputable def mdT (k:Nat):String:=k.rec "list" fun k _=>k.rec "dict" fun k _=>k.rec "set" fun _ _ => "str"
noncomputable def qJ (md:Md):String:=md.rec "" "list.append" "dict.pop" "dict.get" "" "" "" "dict.update" "str.split" "" "str.encode" "str.replace" "str.join" "set.add"
noncomputable def sY (name:Str) (md:Md):Prop:=∀ k,Nat.beq (fm md) (k + 1)=true->K4 (mdT k) (qJ md) name
theorem sY.mk {name:Str} {md:Md} {k:Nat} (e:fm md=k + 1) (g:K4 (mdT k) (qJ md) name):sY name md:=fun j h=>Nat.succ.inj (e.symm.trans (nb h))▸g
noncomputable def mds:List (Str×Md):=[("append", .append),("pop", .pop),("get", .get),("update", .update),("add", .add),("split", .split),("encode", .encode),("replace", .replace),("join", .join)]
noncomputable def K5 (name:Str):Md:=mds.rec .other fun p _ ih=>if p.1=name then p.2 else ih
theorem gG {a b:Str} {m n:Md} (h:sY a m) (g:sY b n):sY b (if a=b then m else n):=(Decidable.em (a=b)).elim (fun e=>by rw [if_pos e,← e]; exact h) fun e=>by rw [if_neg e]; exact g
theorem ET (name:Str):sY name (K5 name):=
  gG (.mk rfl ⟨PySem.F.plainAttrs_list,PySem.F.slot_list_append,PySem.F.type_list_append⟩) (gG (.mk rfl ⟨PySem.F.plainAttrs_dict,PySem.F.slot_dict_pop,PySem.F.type_dict_pop⟩) (gG (.mk rfl ⟨PySem.F.plainAttrs_dict,PySem.F.slot_dict_get,PySem.F.type_dict_get⟩) (gG (.mk rfl ⟨PySem.F.plainAttrs_dict,PySem.F.slot_dict_update,PySem.F.type_dict_update⟩)
    (gG (.mk rfl ⟨PySem.F.plainAttrs_set,PySem.F.slot_set_add,PySem.F.type_set_add⟩) (gG (.mk rfl ⟨PySem.F.plainAttrs_str,PySem.F.slot_str_split,PySem.F.type_str_split⟩) (gG (.mk rfl ⟨PySem.F.plainAttrs_str,PySem.F.slot_str_encode,PySem.F.type_str_encode⟩)
      (gG (.mk rfl ⟨PySem.F.plainAttrs_str,PySem.F.slot_str_replace,PySem.F.type_str_replace⟩) (gG (.mk rfl ⟨PySem.F.plainAttrs_str,PySem.F.slot_str_join,PySem.F.type_str_join⟩) fun _ h=>ff h))))))))
noncomputable def Bn (X:Cx):Prop:=∀ {f r A F V σ s fv fx as xs k ke Q E},dz X f r->A.handled=none->((∀ f as k ke σ,r f as k ke σ=false)∨lS X f A F)->X.K.In F.h₀->Rel X F V σ s->den X V fv fx->au (den X V) as xs->wT X.P r fv as k ke σ=true->dq X F V ke E->KOk X F V k Q->jY (model X.prog X.w) A E fx s∧wpAny (model X.prog X.w) A (call fx xs) Q E s
noncomputable def u1 (X:Cx):Prop:=∀ {A F V σ s x v md as xs k Q} {E:Value->Shared->Prop},A.handled=none->X.K.In F.h₀->Rel X F V σ s->den X V (.str x) v->au (den X V) as xs->uE X.P x md as k σ=true->KOk X F V k Q->wpAny (model X.prog X.w) A (call (.builtin (qJ md)) (v::xs)) Q E s
noncomputable def u2 (X:Cx):Prop:=∀ {A F V σ s i md as xs k Q} {E:Value->Shared->Prop},A.handled=none->A.units < 9000->X.K.In F.h₀->Rel X F V σ s->au (den X V) as xs->uD i md as k σ=true->KOk X F V k Q->wpAny (model X.prog X.w) A (call (.builtin (qJ md)) (.ref (V.at_ i)::xs)) Q E s
theorem kS {M:Model} {A:Around} {E:Value->Shared->Prop} {s:Shared} (id:String):jY M A E (.builtin id) s:=⟨.machine,fun Q' hq=>by unfold keeperOf; exact wpAny_pure hq⟩
theorem lB {M:Model} {A:Around} {E:Value->Shared->Prop} {s:Shared} {a g:Addr} {self:Value} {og:Obj} {fd:FuncData} (ha:s.heap.get? a=some (methodObj (.ref g) self)) (hg:s.heap.get? g=some og) (hd:og.data=.func fd):jY M A E (.ref a) s:=
  ⟨.boundFrame,fun Q' hq=>by
    unfold keeperOf
    refine wpAny_bind (wpAny_load ha ?_)
    dsimp only
    rw [if_neg (by decide)]
    exact wpAny_bind (wpAny_load hg (by rw [hd]; exact wpAny_pure hq))⟩
section
variable {f:Nat} {r:Rc} {A:Around} {env:Env} {ae:AE} {F:Fm} {V:Pl} {σ:St} {s:Shared} {ke:KE} {Q:Value->Shared->Prop} {E:Value->Shared->Prop} {args:List Expr} {xs:List C} {pos:Pos}
theorem pw {fx:Value} {first:List Value} {k:List AV->St->T} (hs:eP X sc args xs) (hst:∀ env,(starEach args env).any (·.1)=false) (hr:dz X f r) (hf:Fit X f r sc A env ae F V) (R:Rel X F V σ s) (h:evs r ae ke xs k σ=true) (he:dq X F V ke E)
    (hc:∀ as vs V1 σ1 s1,V.le V1->Rel X F V1 σ1 s1->au (den X V1) as vs->k as σ1=true->jY (model X.prog X.w) A E fx s1∧wpAny (model X.prog X.w) A (call fx (first++vs)) Q E s1):wpAny (model X.prog X.w) A (callWith pos fx first (backTo pos (starEach args env)) []) Q E s:=
  eZ (cE pos args env (hst env)) (hs hr hf R h he fun as vs V1 σ1 s1 l R1 d _ h=>hc as vs V1 σ1 s1 l R1 d h)
theorem Rel.set {G:Prop} (R:Rel X F V σ s) {i:Nat} {ys:List AV} (h:σ.t.get i=some (.set ys)) (g:∀ es ep t,s.heap.get? (V.at_ i)=some ⟨.type "set", none,.set es ep t,#[]⟩->HM V ys es t->G):G:=
  (R.obj h).rec fun ob _ hob _ _ w=>Eg.rec (motive:=fun ob _=>s.heap.get? (V.at_ i)=some ob->G) (fun es ep t z hob=>g es ep t hob z) (w:Eg V ys ob) hob
theorem Bo {P:Pg} {i:Nat} {m:Nm} {k:KV} {cd:Nat×Nat} {es:List (Nm×AV)} (h1:σ.inst? i=some cd) (h2:σ.dict? cd.2=some es) (h3:lm P cd.1 m=some .dat):D6 P r (.own i) m k ke σ=ob (look es m) fun a=>wL k a σ:=by
  show ob (σ.inst? i) _=_; rw [h1]; show ob (σ.dict? cd.2) _=_; rw [h2]; show ob (lm P cd.1 m) _=_; rw [h3]; rfl
noncomputable def Gm (X:Cx) (A:Around) (env:Env) (pos:Pos) (args:List Expr) (Q:Value->Shared->Prop) (E:Value->Shared->Prop) (name:Str) (s:Shared) (ov:Value):Prop:=∀ pl,wpAny (model X.prog X.w) A (getMethod ov name pl) (fun p s=>wpAny (model X.prog X.w) A (callWith pos p.1 p.2 (backTo pos (starEach args env)) []) Q E s) E s
section
variable {k:KV} {m:Nm} {md:Md} {i:Nat} (hmd:sY (tx m) md) (hs:eP X sc args xs) (hst:∀ env,(starEach args env).any (·.1)=false) (hr:dz X f r) (hf:Fit X f r sc A env ae F V) (hA:A.handled=none) (R:Rel X F V σ s) (he:dq X F V ke E) (hk:KOk X F V k Q)
include hmd hs hst hr hf hA R he hk
omit hk hA in
theorem xp {j:Nat} {kk:List AV->St->T} {ov:Value} (hkd:Nat.beq (fm md) (j + 1)=true) (ht:s.TypeIs ov (mdT j)) (hd:∀ a,ov=.ref a->∃ o,s.heap.get? a=some o∧o.dict=none) (h:evs r ae ke xs kk σ=true)
    (hc:∀ as vs V2 σ2 s2,V.le V2->Rel X F V2 σ2 s2->au (den X V2) as vs->kk as σ2=true->wpAny (model X.prog X.w) A (call (.builtin (qJ md)) (ov::vs)) Q E s2):Gm X A env pos args Q E (tx m) s ov:=
  fun pl=>getMethod_builtin ht (hmd _ hkd).pa (hmd _ hkd).slot (hmd _ hkd).ty hd (pw hs hst hr hf R h he fun as vs V2 σ2 s2 l2 R2 d2 h2=>⟨kS _,hc as vs V2 σ2 s2 l2 R2 d2 h2⟩)
theorem IM (HT:u1 X) {y:SS} {ov:Value} (d:den X V (.str y) ov) (hkd:Nat.beq (fm md) 4=true) (h:evs r ae ke xs (fun as σ=>uE X.P y md as k σ) σ=true):Gm X A env pos args Q E (tx m) s ov:=
  xp hmd hs hst hr hf R he (j:=3) hkd (bQ (P:=fun ov=>s.TypeIs ov "str") d fun t=>typeIs_str _ _ _) (fun a e=>bQ (P:=fun ov=>ov=.ref a->_) d (fun t e=>nomatch e) e) h fun as vs V2 σ2 s2 l2 R2 d2 h2=>HT hA hf.top R2 (aI l2 d) d2 h2 (hk.mono l2)
theorem xq {ob:Obj} (hi:i < V.n) (g:s.heap.get? (V.at_ i)=some ob) (hc:ob.cls=.type "list") (hd:ob.dict=none) (hkd:Nat.beq (fm md) 1=true) (h:evs r ae ke xs (fun as σ=>uB i md as k σ) σ=true):Gm X A env pos args Q E (tx m) s (.ref (V.at_ i)):=
  xp hmd hs hst hr hf R he (j:=0) hkd ⟨ob,g,hc⟩ (fun a e=>Value.ref.inj e▸⟨ob,g,hd⟩) h fun as vs V2 σ2 s2 l2 R2 d2 h2=>l2.2 i hi▸aa h2 fun e _=>(show qJ md = "list.append" by cases md <;> first | rfl | exact ff e)▸qI R2 d2 h2 (hk.mono l2)
theorem IN (HS:u2 X) {ys:List AV} (hi:i < V.n) (g:σ.t.get i=some (.set ys)) (hkd:Nat.beq (fm md) 3=true) (h:evs r ae ke xs (fun as σ=>uD i md as k σ) σ=true):Gm X A env pos args Q E (tx m) s (.ref (V.at_ i)):=
  R.set g fun es ep t g _=>xp hmd hs hst hr hf R he (j:=2) hkd ⟨_,g,rfl⟩ (fun a e=>Value.ref.inj e▸⟨_,g,rfl⟩) h fun as vs V2 σ2 s2 l2 R2 d2 h2=>l2.2 i hi▸HS hA (Nat.lt_of_le_of_lt (Nat.le_add_right _ _) hf.units) hf.top R2 d2 h2 (hk.mono l2)
theorem EU {es:List (Nm×AV)} (hi:i < V.n) (g:σ.t.get i=some (.dict es)) (hkd:Nat.beq (fm md) 2=true) (h:evs r ae ke xs (fun as σ=>uC i md as k ke σ) σ=true):Gm X A env pos args Q E (tx m) s (.ref (V.at_ i)):=
  R.dict g fun kvs D _=>xp hmd hs hst hr hf R he (j:=1) hkd D.typeIs D.mapOf.noDict h fun as vs V2 σ2 s2 l2 R2 d2 h2=>l2.2 i hi▸qH hA hf.top R2 d2 h2 (he.mono l2) (hk.mono l2) _ (by cases md <;> first | rfl | exact ff h2)
end
section
variable {k:KV} {m:Nm} {i:Nat} (hs:eP X sc args xs) (hst:∀ env,(starEach args env).any (·.1)=false) (hr:dz X f r) (hf:Fit X f r sc A env ae F V) (R:Rel X F V σ s) (he:dq X F V ke E) (hk:KOk X F V k Q)
include hs hst hr hf R he hk
theorem IO {c g:Nat} (C:KO X.K c (tx m) g) (rd:readsIn X.K c (.type "type")=true) (h:evs r ae ke xs (fun as σ=>r (.top g) (.top c::as) k ke σ) σ=true):Gm X A env pos args Q E (tx m) s (.ref c):=
  C.rec fun p rest ga fc rc ob pl=>ob.elim fun obf z=>z.elim fun fd z=>by
    have T:X.K.In s.heap:=hf.top.keeps fun b o e=>R.keep e
    have R2:Rel X F V σ { s with heap:=s.heap.push (methodObj (.ref g) (.ref c)),toks:=s.toks + 1 }:=R.pushU (s.toks + 1)
    have aw:=R.away (dM s.heap)
    refine method_cls T ga (cls_bind T rd fc (wpAny_call (codeAny_mono (cm_get (s:={ s with toks:=s.toks + 1 }) T rc (R:=fun rr s'=>rr=.ok (.ret (.ref s.heap.objs.size))∧s'={ s with heap:=s.heap.push (methodObj (.ref g) (.ref c)),toks:=s.toks + 1 }) ⟨rfl,rfl⟩) fun rr s' z=>?_)))
    obtain ⟨rfl,rfl⟩:=z
    exact handed_on rfl (pw hs hst hr hf.hold (R2.hold1 aw (Heap.get?_push_size _ rfl)) h (he.hold1 R2 aw) fun as vs V2 σ2 s2 l2 R4 d2 q2=>(R2.drop1 aw R4).elim fun R5 w=>⟨lB w.2 ((hf.top.keeps fun _ _=>R5.keep) _ _ z.1) z.2,(hf.mono l2).room.elim (fun hb=>ff ((hb ..).symm.trans q2)) fun room=>wpAny_call (method_call w.2 (hr room R5 (show den X V2 (.top g) (.ref g) from rfl) (.cons (show den X V2 (.top c) (.ref c) from rfl) d2) q2 (he.mono l2) (hk.mono l2)))⟩)
theorem K6 {g:Nat} {cd:Nat×Nat} {cl:Cls} {es:List (Nm×AV)} (hi:i < V.n) (C:w0 X.K cd.1 cl) (z:findIn X.K (.ref cd.1) (tx m)=some (some (.ref g))) (F1:KN X.K g) (ho:σ.t.get i=some (.inst cd.1 cd.2)) (hes:σ.t.get cd.2=some (.dict es)) (hgl:look es m=none) (h:evs r ae ke xs (fun as σ=>r (.top g) (.own i::as) k ke σ) σ=true):Gm X A env pos args Q E (tx m) s (.ref (V.at_ i)):=
  fun pl=>F1.ob.elim fun obf q=>q.elim fun fd q=>R.instD ho hes fun od kvs I _ io al=>method_fn (hf.top.keeps fun b o e=>R.keep e) I C.ga C.gm z F1.ty (show (lookIn (tx m) od).map (·.isSome)=some false by rw [kO io,fj bW al hgl]; rfl) (pw hs hst hr hf R h he fun as vs V2 σ2 s2 l2 R2 d2 q2=>⟨kP ((hf.top.keeps fun _ _=>R2.keep) _ _ q.1) q.2,mS hr (hf.mono l2).room R2 (fv:=.top g) (as:=.own i::as) rfl (.cons (aI l2 (show den X V (.own i) _ from ⟨hi,rfl⟩)) d2) q2 (he.mono l2) (hk.mono l2)⟩)
theorem IP (HC:Bn X) (hA:A.handled=none) {cd:Nat×Nat} {cl:Cls} {es:List (Nm×AV)} (hi:i < V.n) (C:w0 X.K cd.1 cl) (z:wZ X.K cd.1 (tx m)) (ho:σ.t.get i=some (.inst cd.1 cd.2)) (hes:σ.t.get cd.2=some (.dict es)) (hg:D6 X.P r (.own i) m (fun f σ=>evs r ae ke xs (fun as σ=>wT X.P r f as k ke σ) σ) ke σ=true):Gm X A env pos args Q E (tx m) s (.ref (V.at_ i)):=
  fun pl=>R.instD ho hes fun od kvs I _ io al=>method_usual (hf.top.keeps fun b o e=>R.keep e) I C.ga C.gm z.no rfl (mM hr hf.top hf.room1 R (show den X V (.own i) _ from ⟨hi,rfl⟩) hg fun a v V2 σ2 s2 l2 R2 d2 q2=>pw hs hst hr (hf.mono l2) R2 q2 (he.mono l2) fun as vs V3 σ3 s3 l3 R3 d3 q3=>have l:=Pl.le_trans l2 l3; HC hr hA (hf.mono l).room hf.top R3 (aI l3 d2) d3 q3 (he.mono l) (hk.mono l))
end
theorem Bp (HC:Bn X) (HT:u1 X) (HS:u2 X) {o:Expr} {x:C} {name:Str} {m:Nm} {md:Md} {apos:Pos} (hm:tx m=name) (hmd:sY name md) (hx:aK X sc o x) (hs:eP X sc args xs)
    (ho:∀ env whole,attributeBase o name env whole=whole) (hst:∀ env,(starEach args env).any (·.1)=false) (hl:args.length < 30) (hp:(apos.endLine==pos.line)=true):aK X sc (.Call (.Attribute o name apos) args [] pos) (ak X.P x m md xs):=
  fun {f r A env ae F V σ s k ke Q E} hr hf R h he hk=>aa h fun hh h=>MethodCall_ (pl:=do return (← importBound o env).getD true) (hx hr hf R h he fun v ov V1 σ1 s1 l1 R1 d1 q=>by
    subst hm
    have hA:=hf.hand (nt hh)
    have hf1:=hf.mono l1
    have hk1:=hk.mono l1
    have he1:=he.mono l1
    suffices z:Gm X A env pos args Q E (tx m) s1 ov from z _
    refine az q (fun _ q=>az q (fun _ q=>ad q fun y hy q=>aa q fun hkd q=>IM hmd hs hst hr hf1 hA R1 he1 hk1 HT (AV.str_of hy▸d1) hkd q) fun c hc q=>ad q fun g hg q=>ao hg fun fd hfd hg=>gc (hfd.trans (congrArg some (Fd.cm_of hg))) fun cl _ C z=>(AV.top_of hc▸d1:den X V1 (.top c) ov)▸IO hs hst hr hf1 R1 he1 hk1 z C.rd q)
      fun i hi q=>aW (P:=Gm X A env pos args Q E (tx m) s1) (AV.own_of hi▸d1) fun hin=>ad q fun o ho q=>az q (fun _ q=>az q
        (fun _ q=>az q (fun _ q=>ad q fun u hu q=>aa q fun hkd q=>cB hu (fun _ hu=>ao hu fun p hp _=>R1.plistO (aj.plist_of hp▸ho) fun ob _ _ _ _ g c d _ _ _ _=>xq hmd hs hst hr hf1 hA R1 he1 hk1 hin g c d hkd q) fun l hl _=>R1.listO (aj.list_of hl▸ho) fun ob _ _ g c d _ _=>xq hmd hs hst hr hf1 hA R1 he1 hk1 hin g c d hkd q)
          fun ys hys q=>aa q fun hkd q=>IN hmd hs hst hr hf1 hA R1 he1 hk1 HS hin (aj.set_of hys▸ho) hkd q)
        fun es hes q=>aa q fun hkd q=>EU hmd hs hst hr hf1 hA R1 he1 hk1 hin (aj.dict_of hes▸ho) hkd q)
      fun cd hcd q=>ad q fun es hes q=>ad q fun fd hfd q=>gc hfd fun cl _ C z=>?_
    have ho':=aj.inst_of hcd▸ho
    cases fd with
    | fn g=>exact az q (fun hgl q=>K6 hs hst hr hf1 R1 he1 hk1 hin C z.1 z.2 ho' (dict_of hes) hgl (AV.own_of hi▸q)) fun _ _ q=>ff q
    | dat=>exact IP hs hst hr hf1 R1 he1 hk1 HC hA hin C z ho' (dict_of hes) ((Bo ((congrArg (fun o=>op o aj.inst?) ho).trans hcd) hes hfd).trans q)
    | _=>exact ff q) (gF (ho _) (hst _) hl hp)
end
end
end
end Mine
namespace Mine
section
open PySem PySem.W PyProof.Rows PySem.Builtin PySem.Builtin.Str PySem.Builtin._codecs
section
variable {X:Cx} {sc:Scope}
theorem yT {s sub:Str} {hi limit:Nat} {l:List Nat}:∀ {free:Nat},(∀ i∈l,¬ (i + sub.length≤hi∧subAt s sub i=true))->(forIn l ((#[]:Array Nat),free) (StrLaws.occBody s sub hi limit)).run.fst=#[]:=by
  induction l with
  | nil=>exact fun _=>rfl
  | cons a l ih=>exact fun h=>by rw [List.forIn_cons]; unfold StrLaws.occBody; rw [if_neg fun z=>h a (.head _) ⟨z.1.2,z.2⟩]; exact ih fun i q=>h i (.tail _ q)
section
variable {A:Around} {F:Fm} {V:Pl} {σ:St} {s:Shared} {k:KV} {Q:Value->Shared->Prop} {E:Value->Shared->Prop}
theorem oz {n a b:Nm} {c:Nat} {t u v:Tok} (hc:dec a=[c]) (hn:(dec n).any (Nat.beq c)=false) (h:Q (.str (tx n) t) s):wpAny (model X.prog X.w) A (call (.builtin "str.replace") [.str (tx n) t,.str (tx a) u,.str (tx b) v]) Q E s:=by
  have ha:tx a=⟨#[c]⟩:=by unfold tx; rw [hc]
  have hno:c∉(tx n).cps.toList:=fun hm=>Bool.false_ne_true (hn.symm.trans (List.any_eq_true.mpr ⟨c,hm,nbr c⟩))
  have h2:¬ ∃ i,i + (⟨#[c]⟩:Str).length≤(tx n).length∧subAt (tx n) ⟨#[c]⟩ i=true:=fun z=>Bool.false_ne_true ((decide_eq_false hno).symm.trans ((StrLaws.found_one (tx n) c).symm.trans ((StrLaws.found_iff (tx n) ⟨#[c]⟩).mpr z)))
  have hcond:((occurrences (tx n) (tx a) 0 (tx n).length ((tx n).length + 1)).isEmpty || ((tx a).length==0&&(tx b).length==0))=true:=by rw [ha,StrLaws.occ_eq,yT fun i _ z=>h2 ⟨i,z⟩]; rfl
  have g:=gives_str_replace (tx n) (tx a) (tx b) t u v fun z=>ff (z.symm.trans hcond)
  rw [if_pos hcond] at g
  exact call_gives PySem.F.slot_str_replace (typeIs_str _ _ _) PySem.F.entry_str_replace (PySem.F.args_str_replace_3 _ _ _) g h
theorem sZ {t u:Tok} (h:Q (.ref s.heap.objs.size) { s with toks:=s.toks + 3,heap:=s.heap.push { cls:=.type "list", data:=.seq #[.str (tx 49) s.toks,.str (tx 48) (s.toks + 1),.str (tx 13105) (s.toks + 2)] } }):wpAny (model X.prog X.w) A (call (.builtin "str.split") [.str (tx 0x312e302e3331) t,.str (tx 46) u]) Q E s:=by
  refine call_meets PySem.F.slot_str_split (typeIs_str _ _ _) PySem.F.entry_str_split (PySem.F.args_str_split_2 _ _) (meets_str_split_sep (tx 0x312e302e3331) (tx 46) t u (by decide +kernel) (by decide +kernel) (by decide +kernel) (by decide +kernel) (by decide +kernel)) ?_
  rw [show partsBetween (tx 0x312e302e3331) (occurrences (tx 0x312e302e3331) (tx 46) 0 (tx 0x312e302e3331).length ((tx 0x312e302e3331).length + 1)) (tx 46).length=[tx 49,tx 48,tx 13105] by decide +kernel]
  exact h
theorem gH {α β:Type} {f:α->Option β} {x:α} {l:List α} {r:List β} {G:Prop} (h:jP f (x::l)=some r) (g:∀ y r',f x=some y->jP f l=some r'->r=y::r'->G):G:=ao h fun y hy h=>ao (o:=jP f l) h fun r' hr e=>g y r' hy hr (sm e).symm
theorem Bq {xs:List AV} {vs:List Value} (d:au (den X V) xs vs):∀ {l:List SS},z8 xs=some l->∃ ps:List (Str×Tok),vs=strValues ps∧ps.map (·.1)=l.map fun y=>sx (y.den X.nu):=by
  induction d with
  | nil=>exact fun h=>⟨[],rfl,sm h▸rfl⟩
  | @cons a v xs vs d _ ih=>exact fun h=>gH h fun y r' hy hr e=>(ih hr).elim fun ps z=>(AV.str_of hy▸d:den X V (.str y) v).elim fun t w=>⟨(sx (y.den X.nu),t)::ps,by rw [z.1,w]; rfl,by rw [e,List.map_cons,List.map_cons,z.2]⟩
theorem u3 (g p q:Str) (r:List Str):glued g (p::q::r)=p++g++glued g (q::r):=by
  have gen:∀ (l:List Str) (a b:Array Nat),l.foldl (fun acc (p:Str)=>acc++g.cps++p.cps) (a++b)=a++l.foldl (fun acc (p:Str)=>acc++g.cps++p.cps) b:=by
    intro l
    induction l with
    | nil=>exact fun _ _=>rfl
    | cons x l ih=>exact fun a b=>by rw [List.foldl_cons,List.foldl_cons,Array.append_assoc,Array.append_assoc,← Array.append_assoc (xs:=b)]; exact ih a _
  exact congrArg Str.mk (gen r (p.cps++g.cps) q.cps)
theorem yU (x:SS) (l:List SS):glued (sx (x.den X.nu)) (l.map fun y=>sx (y.den X.nu))=sx (aN X.nu (gM x l)):=by
  induction l with
  | nil=>rfl
  | cons y l ih=>
    cases l with
    | nil=>exact congrArg sx (show y.den X.nu=aN X.nu (y.pcs++[]) by rw [List.append_nil]; rfl)
    | cons z l=>rw [List.map_cons,List.map_cons,u3,← List.map_cons (f:=fun y:SS=>sx (y.den X.nu)),ih,show aN X.nu (gM x (y::z::l))=y.den X.nu++(x.den X.nu++aN X.nu (gM x (z::l))) from (bP y.pcs _).trans (congrArg _ (bP x.pcs _)),bI,bI,List.append_assoc]
theorem yV (x:SS) (l:List SS):∀ y,(aN X.nu (gM x (y::l))).length + (x.den X.nu).length=((y::l).map fun y=>(y.den X.nu).length + (x.den X.nu).length).sum:=by
  induction l with
  | nil=>exact fun y=>by rw [show aN X.nu (gM x [y])=y.den X.nu from congrArg (aN X.nu) (List.append_nil y.pcs)]; rfl
  | cons z l ih=>exact fun y=>by rw [show aN X.nu (gM x (y::z::l))=y.den X.nu++(x.den X.nu++aN X.nu (gM x (z::l))) from (bP y.pcs _).trans (congrArg _ (bP x.pcs _)),List.map_cons,List.sum_cons,← ih z,List.length_append,List.length_append,Nat.add_assoc,Nat.add_assoc,Nat.add_assoc]
theorem yW (n:Nat) (l:List Str):∀ acc,l.foldl (fun a (y:Str)=>a + y.length + n) acc=acc + (l.map fun y=>y.length + n).sum:=by
  induction l with
  | nil=>exact fun _=>rfl
  | cons y l ih=>exact fun acc=>by rw [List.foldl_cons,ih,List.map_cons,List.sum_cons,Nat.add_assoc,Nat.add_assoc,Nat.add_assoc]
theorem yX {x:SS} (h:Aa x=true):∀ c∈x.den X.nu,c < 128:=by
  have go:∀ l:List Pc,(l.all fun p=>p.rec kK fun _=>true)=true->∀ c∈aN X.nu l,c < 128:=by
    intro l
    induction l with
    | nil=>exact fun _ c h=>nomatch h
    | cons p l ih=>exact fun h c hc=>aa (List.all_cons▸h:(p.rec kK (fun _=>true)&&l.all fun p=>p.rec kK fun _=>true)=true) fun h1 h2=>(List.mem_append.mp hc).elim (fun hc=>by cases p with | lit n=>exact Nat.le_of_ble_eq_true (List.all_eq_true.mp h1 c hc) | int i=>exact wW _ c hc) (ih h2 c)
  exact go x.pcs h
theorem u4 {x:SS} {t:Tok} {a:AV} {v:Value} {xs:List AV} {l:List SS} (ht:X.K.In F.h₀) (R:Rel X F V σ s) (da:den X V a v) (ho:lP X.P σ a=some (.list xs)) (hst:z8 xs=some l) (hfx:jr x=true) (h:hW (mkS (gM x l)) σ k=true) (hk:KOk X F V k Q):wpAny (model X.prog X.w) A (call (.builtin "str.join") [.str (sx (x.den X.nu)) t,v]) Q E s:=
  fy (P:=fun v=>wpAny _ A (call (.builtin "str.join") [.str (sx (x.den X.nu)) t,v]) Q E s) ht R da ho fun adr arr L al _=>(Bq al hst).elim fun ps e=>aa h fun hfit h=>by
    have hlen:=dA (X:=X) hfit
    rw [iP X.h0] at hlen
    have hl:tooLong ((ps.map (·.1)).toArray.foldl (· + ·.length + (sx (x.den X.nu)).length) 0)=false:=by
      rw [List.foldl_toArray,e.2,yW,List.map_map,Nat.zero_add,show ((fun (y:Str)=>y.length + (sx (x.den X.nu)).length)∘fun (y:SS)=>sx (y.den X.nu))=fun y=>(y.den X.nu).length + (x.den X.nu).length from rfl]
      refine decide_eq_false (Nat.not_lt.mpr ?_)
      cases l with
      | nil=>exact Nat.zero_le _
      | cons y l=>rw [← yV]; exact Nat.le_trans (Nat.add_le_add hlen (dA (X:=X) hfx)) (by decide)
    have hq:∀ t' s',Rel X F V σ s'->Q (.str (sx (aN X.nu (gM x l))) t') s':=fun t' s' R'=>hk (.str (mkS (gM x l))) _ V σ s' (Pl.le_refl V) R' ⟨t',by rw [iP X.h0]⟩ h
    have hg:=yU (X:=X) x l
    rw [← e.2] at hg
    have hsz:(sx (aN X.nu (gM x l))).length≤sizeLine:=Nat.le_trans hlen (by decide)
    refine call_meets PySem.F.slot_str_join (typeIs_str _ _ _) PySem.F.entry_str_join (PySem.F.args_str_join_2 _ _) (meets_str_join_list _ t adr ps hl) ⟨(Array.toList_inj.mp (show arr.toList=(strValues ps).toArray.toList from e.1)▸L:_),?_⟩
    rw [← hg] at hq hsz
    match ps,hq,hsz with
    | [],hq,hsz=>exact ⟨hsz,hq _ _ (R.toks _)⟩
    | [p],hq,hsz=>exact (hq p.2 s R:Q (.str (glued (sx (x.den X.nu)) [p.1]) p.2) s)
    | p::q::r,hq,hsz=>exact ⟨hsz,hq _ _ (R.toks _)⟩
end
end
section
variable {X:Cx} {sc:Scope}
theorem K7 {S:Type} {body:Nat->S->Sem (ForInStep S)} {n:Nat} {s0 s1:S} (h0:n=0->s0=s1) (h1:0 < n->body 0 s0=pure (.yield s1)) (h2:∀ i,body i s1=pure (.done s1)):(forIn (List.range' 0 n) s0 body:Sem S)=pure s1:=by
  cases n with
  | zero=>rw [h0 rfl]; rfl
  | succ k=>
    rw [List.range'_succ,List.forIn_cons,h1 (Nat.succ_pos _),pure_bind]
    cases k with
    | zero=>rfl
    | succ k=>exact (List.forIn_cons ..).trans (by rw [h2,pure_bind])
theorem Br {f:Nat->List UInt8} {a:Array Nat} (h:∀ c∈a,f c=[c.toUInt8]):(a.map fun c=>(f c).toArray).flatten=a.map Nat.toUInt8:=by
  rw [show (a.map fun c=>(f c).toArray)=a.map fun c=>#[c.toUInt8] from Array.map_congr_left fun c hc=>by rw [h c hc]]
  obtain ⟨l⟩:=a
  clear h
  apply Array.toList_inj.mp
  simp only [List.map_toArray,Array.toList_flatten,List.map_map,Function.comp_def]
  induction l with
  | nil=>rfl
  | cons c l ih=>rw [List.map_cons,List.flatten_cons,ih]; rfl
theorem yY (x:Str) (hx:∀ c∈x.cps,c < 128) (hl:x.cps.size≤sizeLine) (self:Value):encodeNarrow "str.encode" utf8Codec none self x=pure (x.cps.map Nat.toUInt8):=by
  have hbad:∀ c∈x.cps,utf8Codec.bad c=false:=fun c hc=>by
    show (decide _&&decide _)=false
    rw [decide_eq_false (Nat.not_le.mpr (Nat.lt_trans (hx c hc) (by decide))),Bool.false_and]
  have hbytes:∀ c∈x.cps,utf8Codec.bytesOf c=[c.toUInt8]:=fun c hc=>if_pos (hx c hc)
  unfold encodeNarrow
  simp only [Std.Legacy.Range.forIn_eq_forIn_range',Std.Legacy.Range.size,Nat.sub_zero,Nat.add_sub_cancel,Nat.div_one]
  rw [K7 (s1:=(x.cps.size,x.cps.map Nat.toUInt8,{}))]
  · rfl
  · exact fun h=>by rw [Array.eq_empty_of_size_eq_zero h,Array.map_empty]; rfl
  · intro h
    have hlt:0 < x.cps.size:=h
    simp only [Array.size_empty,gt_iff_lt,Nat.not_lt_zero,if_false]
    rw [show x.cps[0]?=some x.cps[0] from Array.getElem?_eq_getElem hlt]
    have e:x.cps.extract 0=x.cps:=Array.extract_size
    have hf:(x.cps.extract 0).findIdx? utf8Codec.bad=none:=by rw [e,Array.findIdx?_eq_none_iff]; exact hbad
    simp only [hbad _ (Array.getElem_mem hlt),hf]
    simp
    rw [Br hbytes]
  · intro i
    dsimp only
    rw [if_neg (Nat.not_lt.mpr (Array.size_map (f:=Nat.toUInt8) (xs:=x.cps)▸hl)),show x.cps[x.cps.size]?=none from Array.getElem?_eq_none (Nat.le_refl _)]
theorem s5 (x:Str) (t u:Tok):«str.encode» ⟨[.str x t,.str (Str.ofString "utf-8") u],[]⟩=(do ret (← encodeRoad "str.encode" (.str x t) x (Str.ofString "utf-8") none)):=by
  rw [show «str.encode» ⟨[.str x t,.str (Str.ofString "utf-8") u],[]⟩=(do
    let encoding:=(← codecArg "str.encode" "encode" "'encoding'" (some (.str (Str.ofString "utf-8") u))).getD "utf-8"
    ret (← encodeRoad "str.encode" (.str x t) x encoding none)) from rfl]
  rw [show codecArg "str.encode" "encode" "'encoding'" (some (.str (Str.ofString "utf-8") u))=pure (some (Str.ofString "utf-8")) by
    unfold codecArg
    dsimp only
    rw [show strArg "str.encode" "encode" "'encoding'" (.str (Str.ofString "utf-8") u)=pure (Str.ofString "utf-8") from rfl,pure_bind,show (Str.ofString "utf-8").cps.any (fun x=>decide (x≥128))=false by decide +kernel,show (Str.ofString "utf-8").cps.contains 0=false by decide +kernel]
    rfl]
  rfl
section
variable {A:Around} {F:Fm} {V:Pl} {σ:St} {s:Shared} {k:KV} {Q:Value->Shared->Prop} {E:Value->Shared->Prop}
theorem qK {x:Str} {t u:Tok} (hx:∀ c∈x.cps,c < 128) (hl:x.cps.size≤sizeLine) (h:Q (.bytes (x.cps.map Nat.toUInt8) s.toks) { s with toks:=s.toks + 1 }):wpAny (model X.prog X.w) A (call (.builtin "str.encode") [.str x t,.str (Str.ofString "utf-8") u]) Q E s:=by
  refine wpAny_call_entry PySem.F.slot_str_encode (typeIs_str _ _ _) PySem.F.entry_str_encode ?_ (PySem.F.args_str_encode_2 _ _)
  rw [s5,encodeRoad_utf8,yY x hx hl,pure_bind]
  unfold mkBytes
  rw [if_neg (Nat.not_lt.mpr (Array.size_map (f:=Nat.toUInt8) (xs:=x.cps)▸hl))]
  exact wpAny_bind (wpAny_bind (wpAny_fresh (wpAny_pure (wpAny_pure ⟨_,rfl,h⟩))))
theorem qL:u1 X:=fun {A F V σ s x v md as xs k Q E} hA ht R dv ds h hk=>by
  have eu:Str.ofString "utf-8" = tx 504464026936:=by decide +kernel
  refine az h (fun _ h=>ad h fun a ha h=>?_) fun p hp h=>?_
  · refine au.one (P:=fun xs=>wpAny _ A (call (.builtin (qJ md)) (v::xs)) Q E s) (cS ha▸ds) fun c dc=>?_
    cases md with
    | split=>exact aa h fun e h=>ad e fun b hb e=>ad e fun n hn e=>aa e fun e1 e2=>fJ (P:=fun v=>wpAny _ A (call (.builtin "str.split") [v,c]) Q E s) (nb e2▸SS.lit_of hn▸dv) fun t=>cD (P:=fun c=>wpAny _ A (call (.builtin "str.split") [.str _ t,c]) Q E s) dc (nb e1▸hb) fun u=>sZ (hk (.own σ.n) _ _ _ _ (Pl.le_add _ _) (R.push (o:=.list [kv 49,kv 48,kv 13105]) rfl ⟨⟨rfl,rfl⟩,.mk _ _ rfl (.cons (cO _ _) (.cons (cO _ _) (.cons (cO _ _) .nil)))⟩ (s.toks + 3)) (cP R.n _) h)
    | encode=>exact aa h fun e h=>ad e fun b hb e=>aa e fun e1 e=>aa e fun e2 e3=>bQ (P:=fun v=>wpAny _ A (call (.builtin "str.encode") [v,c]) Q E s) dv fun t=>cD (P:=fun c=>wpAny _ A (call (.builtin "str.encode") [.str _ t,c]) Q E s) dc (nb e1▸hb) fun u=>eu▸qK (fun c hc=>yX (X:=X) e2 c (Array.mem_toList_iff.mpr hc)) (Nat.le_trans (dA (X:=X) e3) (by decide)) (hk (.bytes x) _ V σ _ (Pl.le_refl V) (R.toks _) ⟨s.toks,congrArg (Value.bytes · _) (List.map_toArray ..)⟩ h)
    | join=>exact ad h fun ys ho h=>ao ho fun o ho ho'=>ad h fun l hl h=>aa h fun hfx h=>bQ (P:=fun v=>wpAny _ A (call (.builtin "str.join") [v,c]) Q E s) dv fun t=>u4 ht R dc (aj.list_of ho'▸ho) hl hfx h hk
    | _=>exact ff h
  · refine au.two (P:=fun xs=>wpAny _ A (call (.builtin (qJ md)) (v::xs)) Q E s) (jw hp▸ds) fun c d dc dd=>?_
    cases md with
    | replace=>exact ad h fun a ha h=>ad h fun b hb h=>ad h fun n hn h=>ad h fun q hq h=>aa h fun hno h=>fJ (P:=fun v=>wpAny _ A (call (.builtin "str.replace") [v,c,d]) Q E s) (SS.lit_of hn▸dv) fun t=>cD (P:=fun c=>wpAny _ A (call (.builtin "str.replace") [.str _ t,c,d]) Q E s) dc ha fun u=>cD (P:=fun d=>wpAny _ A (call (.builtin "str.replace") [.str _ t,.str _ u,d]) Q E s) dd hb fun w=>oz (cS hq) (nt hno) (hk.here R (cO _ t) h)
    | _=>exact ff h
end
end
end
end Mine
namespace Mine
section
open PySem PySem.W PyProof.Rows
section
variable {X:Cx} {sc:Scope}
section
variable {A:Around} {F:Fm} {V:Pl} {σ:St} {s:Shared} {k:KV} {Q:Value->Shared->Prop} {E:Value->Shared->Prop}
theorem s7 {G:Prop} {n m:Nat} (h:Iu n k σ=true) (e:m=n) (g:(m:Int) < 2 ^ 63->k (.int (.k m)) σ=true->G):G:=aa h fun a b=>g (Int.lt_of_le_of_lt (Int.ofNat_le.mpr (e▸Nat.le_of_ble_eq_true a)) (by decide)) (e▸b)
theorem yZ {as:List AV} {vs:List Value} (ht:X.K.In F.h₀) (R:Rel X F V σ s) (ds:au (den X V) as vs) (h:wO X.P .len as k σ=true) (hk:KOk X F V k Q):wpAny (model X.prog X.w) A (call (.builtin "len") vs) Q E s:=
  have fin:∀ {m:Nat} {t u:Tok},k (.int (.k m)) σ=true->Q (.int m t) { s with toks:=u }:=fun h=>hk.here (R.toks _) (fK (IV.den_k X.h0 _)) h
  ad h fun i hi h=>ao hi fun a ha hi=>au.one (P:=fun vs=>wpAny _ A (call (.builtin "len") vs) Q E s) (cS ha▸ds) fun v dv=>aW (P:=fun v=>wpAny _ A (call (.builtin "len") [v]) Q E s) (AV.own_of hi▸dv) fun _=>ad h fun o ho h=>az h
    (fun _ h=>az h
      (fun _ h=>az h
        (fun _ h=>ad h fun xs hxs h=>ad h fun n hn h=>ao hn fun a ha hn=>R.set (aj.set_of hxs▸ho) fun es ep t g z=>by
          have h1:es.size=1∧t.fits es.size=true:=by
            rw [cS ha] at z
            cases z with
            | lit n e z f=>exact ⟨z,f⟩
            | few own=>exact (own a (.head _)).elim fun i e=>nn ((congrArg AV.lit? e).symm.trans hn)
            | many h=>exact absurd h (show ¬ 5≤1 by decide)
          exact call_len_set g ⟨rfl,rfl,rfl⟩ rfl h1.2 (by rw [h1.1]; decide) (by rw [h1.1]; exact fin h))
        fun p hp h=>R.plistO (aj.plist_of hp▸ho) fun ob l n pre post hob hc hdn hdt e hpre al=>aa h fun hb h=>have hsz:l.size=pre.length + p.2.length:=by rw [← Array.length_toList,e,List.length_append,← al.length]
          Calls.call_len_list ⟨ob,hob,hc,n,hdt⟩ (Int.lt_of_le_of_lt (Int.ofNat_le.mpr (hsz▸Bm R.facts hb hpre)) (by decide)) (hk (.int ⟨p.1.x,p.1.c + p.2.length⟩) _ V σ _ (Pl.le_refl V) (R.toks _) (fK (show X.nu p.1.x + (p.1.c + p.2.length)=l.size by rw [hsz,Int.natCast_add,hpre,← Int.add_assoc]; rfl)) h))
      fun xs hxs h=>R.dict (aj.dict_of hxs▸ho) fun kvs D al=>s7 h al.length.symm fun b h=>call_len_dict (R.notMods ht (aj.dict_of hxs▸ho)) D b (fin h))
    fun xs hxs h=>R.list (aj.list_of hxs▸ho) fun l L al=>s7 h al.len fun b h=>Calls.call_len_list L b (fin h)
theorem qM {as:List AV} {vs:List Value} (ht:X.K.In F.h₀) (R:Rel X F V σ s) (ds:au (den X V) as vs) (h:wP .dict as k σ=true) (hk:KOk X F V k Q):wpAny (model X.prog X.w) A (call (.type "dict") vs) Q E s:=
  ad h fun es hes h=>aa h fun hl h=>ao hes fun i hi hes=>ao hi fun a ha hi=>au.one (P:=fun vs=>wpAny _ A (call (.type "dict") vs) Q E s) (cS ha▸ds) fun v dv=>aW (P:=fun v=>wpAny _ A (call (.type "dict") [v]) Q E s) (AV.own_of hi▸dv) fun _=>R.dict (dict_of hes) fun kvs D al=>kt_call_dict (R.notMods ht (dict_of hes)) D (fA hl al.length) fun h' D' hs=>(Heap.dictOf_iff.mp D').elim fun o w=>hk (.own σ.n) _ _ _ _ (Pl.le_add _ _) (R.new (o:=.dict es) (fun b o e=>hs.extBut b o (Nat.ne_of_lt (Heap.lt_size e)) (Heap.get?_push_of_some _ e)) (dM _) w.1 (dw.mk kvs w.2 (al.mono fun _ _=>.imp_right (aI (Pl.le_add _ _)))) s.toks) (cP R.n _) h
theorem y6 {i:IV} (h:jr (mkS [.int i])=true):-300000≤i.den X.nu∧i.den X.nu≤300000:=
  tf (Nat.beq i.x 0&&(iLe 0 i.c&&iLe i.c 9)) (fun e=>aa e fun e1 e=>aa e fun a b=>by rw [dL e1]; exact ⟨Int.le_trans (by decide) (dE a),Int.le_trans (dE b) (by decide)⟩) fun e=>by
    have e':mx [.int i]=[.int i]:=f8 e
    unfold mkS at h
    rw [e'] at h
    exact aa h fun h _=>aa (List.all_cons▸h:(ll (.int i)&&_)=true) fun h _=>aa h fun hb h=>aa h fun a b=>have q:=X.hB i.x (nt hb); ⟨Int.le_trans (by decide) (Int.add_le_add q.1 (dE a)),Int.le_trans (Int.add_le_add q.2 (dE b)) (by decide)⟩
theorem u5 {i:IV} {t:Tok} (R:Rel X F V σ s) (h:hW (mkS [.int i]) σ k=true) (hk:KOk X F V k Q):wpAny (model X.prog X.w) A (call (.type "str") [.int (i.den X.nu) t]) Q E s:=
  aa h fun hfit h=>by
    have hb:=y6 (X:=X) hfit
    refine PySem.P.str_of_int ?_ (hk (.str (mkS [.int i])) _ V σ _ (Pl.le_refl V) (R.toks _) ⟨s.toks,?_⟩ h)
    · have:(i.den X.nu).natAbs < 2 ^ 19:=by omega
      exact (Decidable.em ((i.den X.nu).natAbs=0)).elim (fun z=>by rw [z]; decide) fun z=>(Nat.log2_lt z).mpr (Nat.lt_of_lt_of_le this (Nat.pow_le_pow_right (by decide) (by decide)))
    · rw [iP X.h0,show aN X.nu [.int i]=ia (i.den X.nu) from List.append_nil _]
      show Value.str (Str.ofString (toString (i.den X.nu))) s.toks=_
      rw [Str.ofString_eq_toList]
      rfl
end
theorem u6 (a:List Nat):∀ b,leL a b=true↔a≤b:=by
  induction a with
  | nil=>exact fun b=>⟨fun _=>List.nil_le b,fun _=>rfl⟩
  | cons a l ih=>
    intro b
    cases b with
    | nil=>exact ⟨fun h=>ff h,fun h=>nomatch List.le_nil.mp h⟩
    | cons b r=>
      rw [List.cons_le_cons_iff,← ih]
      show be (Nat.blt a b) true (be (Nat.blt b a) false (leL l r))=true↔_
      refine ⟨fun h=>aQ h (fun e _=>.inl (Nat.le_of_ble_eq_true e)) fun e h=>aQ h (fun _ h=>ff h) fun e' h=>.inr ⟨Nat.le_antisymm (Nat.le_of_not_lt fun z=>Bool.false_ne_true (e'.symm.trans (Nat.ble_eq.mpr z))) (Nat.le_of_not_lt fun z=>Bool.false_ne_true (e.symm.trans (Nat.ble_eq.mpr z))),h⟩,fun h=>h.elim (fun h=>lR (Nat.ble_eq.mpr h)) fun h=>?_⟩
      have e:Nat.blt b b=false:=Bool.eq_false_iff.mpr fun z=>Nat.lt_irrefl _ (Nat.le_of_ble_eq_true z)
      rw [h.1,e]; exact h.2
theorem py (n m:Nm) (l:List Nm):zU n (m::l)=be (leL (dec n) (dec m)) (n::m::l) (m::zU n l):=rfl
theorem pz (n:Nm) (l:List Nm):(zU n l).Perm (n::l):=by
  induction l with
  | nil=>exact .refl _
  | cons m l ih=>rw [py]; exact ju (P:=fun x=>List.Perm x (n::m::l)) _ (fun _=>.refl _) fun _=>(ih.cons m).trans (.swap n m l)
theorem u7 (l:List Nm):(oM l).Perm l:=by
  induction l with
  | nil=>exact .refl _
  | cons n l ih=>exact (pz n (oM l)).trans (ih.cons n)
noncomputable def leN (a b:Nm):Prop:=dec a≤dec b
theorem s9 (n:Nm) (l:List Nm):l.Pairwise leN->(zU n l).Pairwise leN:=by
  induction l with
  | nil=>exact fun _=>List.pairwise_singleton _ _
  | cons m l ih=>
    intro h
    have h':=List.pairwise_cons.mp h
    rw [py]
    refine ju (P:=List.Pairwise leN) _ (fun e=>List.pairwise_cons.mpr ⟨fun x hx=>(List.mem_cons.mp hx).elim (fun z=>z▸(u6 _ _).mp e) fun hx=>List.le_trans ((u6 _ _).mp e) (h'.1 x hx),h⟩) fun e=>?_
    have e:leN m n:=(List.le_total (dec n) (dec m)).resolve_left fun z=>Bool.false_ne_true (e.symm.trans ((u6 _ _).mpr z))
    exact List.pairwise_cons.mpr ⟨fun x hx=>(List.mem_cons.mp ((pz n l).mem_iff.mp hx)).elim (fun z=>z▸e) (h'.1 x),ih h'.2⟩
theorem qN (l:List Nm):(oM l).Pairwise leN:=by
  induction l with
  | nil=>exact .nil
  | cons n l ih=>exact s9 n _ ih
noncomputable def leS (a b:Str):Prop:=a.cps.toList≤b.cps.toList
theorem lU (l:List Str):∀ p,risingS p l=true->(p::l).Pairwise leS:=by
  induction l with
  | nil=>exact fun _ _=>List.pairwise_singleton _ _
  | cons x r ih=>
    intro p h
    refine aa (h:(_&&risingS x r)=true) fun h1 h2=>?_
    rw [PyProof.Rows.ltCps_eq] at h1
    have h1:leS p x:=of_decide_eq_false (nt h1)
    exact List.pairwise_cons.mpr ⟨fun y hy=>(List.mem_cons.mp hy).elim (fun z=>z▸h1) fun hy=>List.le_trans h1 ((List.pairwise_cons.mp (ih x h2)).1 y hy),ih x h2⟩
theorem oA {l:List Nm} {ss:List Str} (hp:ss.Perm (l.map tx)) (hs:sortedS ss=true):ss=(oM l).map tx:=by
  refine List.Perm.eq_of_pairwise (le:=leS) (fun a b _ _ x y=>?_) ?_ (List.pairwise_map.mpr (qN l)) (hp.trans ((u7 l).map tx).symm)
  · exact congrArg Str.mk (Array.toList_inj.mp (List.le_antisymm x y))
  · cases ss with
    | nil=>exact .nil
    | cons p l=>exact lU l p hs
theorem ta {vs:List Value} {ss:List Str} (h:StrsAre vs ss):vs.length=ss.length:=by
  induction h with
  | nil=>rfl
  | cons _ _ _ ih=>exact congrArg (· + 1) ih
noncomputable def pA (X:Cx) (v:Value) (ss:List Str) (s:Shared):Prop:=∀ {A':Around} {Q':List Value->Shared->Prop} {E':Value->Shared->Prop},A'.handled=none->(∀ vs h' tk,StrsAre vs ss->(∀ b o,s.heap.get? b=some o->h'.get? b=some o)->Q' vs { s with heap:=h',toks:=tk })->wpAny (model X.prog X.w) A' (collect v) Q' E' s
section
variable {A:Around} {s:Shared} {E:Value->Shared->Prop}
theorem EV {v:Value} {ss:List Str} {Q:Value->Shared->Prop} (hA:A.handled=none) (hcol:pA X v ss s) (h64:ss.length < 64)
    (h:∀ (h':Heap) (tk:Tok) (a:Addr) (out:Array Value) (ss':List Str) (e:Nat),(∀ b o,s.heap.get? b=some o->h'.get? b=some o)->s.heap.get? a=none->h'.get? a=some (seqObj "list" out e)->StrsAre out.toList ss'->ss'.Perm ss->sortedS ss'=true->Q (.ref a) { s with heap:=h',toks:=tk }):wpAny (model X.prog X.w) A (call (.builtin "sorted") [v]) Q E s:=by
  refine Calls.call_function_entry PyProof.Rows.kind_sorted PyProof.Rows.plain_sorted PyProof.Rows.entry_sorted (PyProof.Rows.args_sorted1 _) ?_
  unfold Builtin.«sorted»
  refine wpAny_bind (m:=checkCount "sorted" 1 1 _) (wpAny_pure ?_)
  refine wpAny_bind (hcol hA fun vs h1 tk hS hk=>wpAny_bind (wpAny_newList ?_))
  have hoL:(h1.push (seqObj "list" vs.toArray 0)).get? h1.objs.size=some (seqObj "list" vs.toArray 0):=Heap.get?_push_size _ rfl
  show wpAny _ _ _ _ _ { s with heap:=h1.push (seqObj "list" vs.toArray 0),toks:=tk }
  refine wpAny_bind (wpAny_holding (wpAny_call_entry slot_list_sort ⟨_,hoL,rfl⟩ entry_list_sort (list_sort_treeK PyProof.Rows.strKind_oneLt (s:={ s with heap:=h1.push (seqObj "list" vs.toArray 0),toks:=tk }) hoL hS.keysOf (fun v₁ v₂ rest e=>keyKind_strs (by rw [← e]; exact hS)) (ta hS▸h64) fun st' a1 a2=>⟨_,rfl,?_⟩) (PyProof.Rows.args_list_sort _)))
  obtain ⟨ss',b1,b2,b3⟩:=sorted_out_str hS a1 a2
  refine (sortedHeap_at hoL).elim fun e hat=>wpAny_pure ⟨_,rfl,h _ tk h1.objs.size _ ss' e (fun b o e=>?_) ?_ hat b1 b2 b3⟩
  · have hlt:=Heap.lt_size (hk b o e)
    exact (sortedHeap_old (Nat.ne_of_lt hlt) (by rw [size_push']; exact Nat.lt_succ_of_lt hlt)).trans (Heap.get?_push_of_some _ (hk b o e))
  · cases e:s.heap.get? h1.objs.size with
    | none=>rfl
    | some o=>exact absurd (Heap.lt_size (hk _ _ e)) (Nat.lt_irrefl _)
end
noncomputable def EW (n:Nm) (v:Value):Prop:=∃ t,v=.str (tx n) t
theorem mn {l:List Nm} {vs:List Value} (h:au EW l vs):StrsAre vs (l.map tx):=by
  induction h with
  | nil=>exact .nil
  | cons q _ ih=>exact q.elim fun t e=>e▸.cons _ t ih
theorem y7 {V:Pl} {l:List Nm}:∀ {vs:List Value},StrsAre vs (l.map tx)->au (den X V) (l.map kv) vs:=by
  induction l with
  | nil=>exact fun h=>by cases h; exact .nil
  | cons n l ih=>exact fun h=>by cases h with | cons y t h=>exact .cons (cO n t) (ih h)
theorem qO {V:Pl} {xs:List AV} {vs:List Value} (d:au (den X V) xs vs):∀ {l:List Nm},oP xs=some l->au EW l vs:=by
  induction d with
  | nil=>exact fun h=>sm h▸.nil
  | cons d _ ih=>exact fun h=>gH h fun y r' hy hr e=>e▸.cons (cD (P:=EW y) d hy fun t=>⟨t,rfl⟩) (ih hr)
theorem tc (l:List Nm):oP (l.map kv)=some l:=by
  induction l with
  | nil=>rfl
  | cons n l ih=>show op (oP (l.map kv)) (fun r=>some (n::r))=_; rw [ih]; rfl
theorem te (xs:List AV):∀ {l:List Nm},oP xs=some l->xs.length=l.length:=by
  induction xs with
  | nil=>exact fun h=>sm h▸rfl
  | cons x xs ih=>exact fun h=>gH h fun y r' hy hr e=>e▸congrArg (· + 1) (ih hr)
theorem th {α β:Type} {R:α->β->Prop} {r:List β}:∀ {l:List α},r.length=l.length->(∀ (j:Nat) v,r[j]?=some v->∃ a,l[j]?=some a∧R a v)->au R l r:=by
  induction r with
  | nil=>exact fun e _=>List.eq_nil_of_length_eq_zero e.symm▸.nil
  | cons v r ih=>
    intro l e h
    cases l with
    | nil=>cases e
    | cons a l=>exact .cons ((h 0 v rfl).elim fun a' z=>sm z.1▸z.2) (ih (Nat.succ.inj e) fun j w z=>h (j + 1) w z)
section
variable {A:Around} {F:Fm} {V:Pl} {σ:St} {s:Shared} {k:KV} {Q:Value->Shared->Prop} {E:Value->Shared->Prop}
theorem SignAt.tx {n:Nm} {cs:List Nat} (hb:∀ c∈cs,0 < c∧c < 128) {i:Nat} {v:Value} (h:SignAt ⟨cs.toArray⟩ i v):∃ c,cs[i]?=some c∧EW c v:=h.elim fun c h=>h.elim fun u h=>have e:=(List.getElem?_toArray ..).symm.trans h.1; ⟨c,e,u,h.2.trans (by
  have b:=hb c (List.mem_of_getElem? e)
  unfold Mine.tx; rw [xn b.1 (Nat.lt_trans b.2 (by decide))])⟩
theorem qP {as:List AV} {vs:List Value} (hA:A.handled=none) (ht:X.K.In F.h₀) (R:Rel X F V σ s) (ds:au (den X V) as vs) (h:wO X.P .sorted as k σ=true) (hk:KOk X F V k Q):wpAny (model X.prog X.w) A (call (.builtin "sorted") vs) Q E s:=
  ad h fun a ha h=>au.one (P:=fun vs=>wpAny _ A (call (.builtin "sorted") vs) Q E s) (cS ha▸ds) fun v dv=>ad h fun xs hxs h=>ad h fun l hl h=>aa h fun h64 h=>by
    have h64:l.length < 64:=Nat.le_of_ble_eq_true h64
    have sz:∀ {n:Nat},n=l.length->n≤sizeLine:=fun e=>e▸Nat.le_trans (Nat.le_of_lt h64) (by decide)
    suffices hcol:pA X v (l.map tx) s from EV hA hcol (by rw [List.length_map]; exact h64) fun h' tk a out ss' e hkeep hno hat hS hp hs=>hk (.own σ.n) _ _ _ _ (Pl.le_add _ _) (R.new (o:=.list ((oM l).map kv)) hkeep hno hat ⟨⟨rfl,rfl⟩,.mk out e rfl (y7 (oA hp hs▸hS))⟩ tk) (cP R.n _) h
    exact cB hxs (fun _ hxs=>ao hxs fun o ho hxs=>cB hxs
        (fun _ hxs=>cB hxs (fun _ hxs=>ao hxs fun es hes hxs=>ib (P:=fun v=>pA X v (l.map tx) s) ht R dv (aj.dict_of hes▸ho) fun i kvs _ hi D al=>D.dictAt.elim fun ep hat=>by
            intro hA' hq
            rw [← sm hxs,show (es.map fun e=>kv e.1)=(es.map (·.1)).map kv from (List.map_map (g:=kv) (f:=Prod.fst) (l:=es)).symm,tc] at hl
            have e:=al.length.symm.trans ((List.length_map ..).symm.trans (congrArg List.length (sm hl)))
            exact kdu_collect (kdl_dict (knd:=strKind X.prog X.w) (kvs:=kvs) (ep:=ep) (R.notMods ht hi)) hA' hat (sz e) fun h' tk acc hk' hit=>hq _ h' tk (mn (th ((Array.length_toList ..).trans (hit.1.trans e)) fun j v z=>(hit.2 j v (Array.getElem?_toList.symm.trans z)).elim fun k w=>w.elim fun y w=>(qA al w.1).elim fun en u=>⟨en.1,by rw [← sm hl,List.getElem?_map,u.1]; rfl,(Value.isStrOf_shape w.2).imp fun t e=>u.2.1▸e⟩)) hk')
          fun ys hys hxs=>jX (P:=fun v=>pA X v (l.map tx) s) ht R dv (aj.tup_of hys▸ho) fun adr arr L al _ {A' Q' E'} hA' hq=>L.elim fun ob w=>w.2.2.elim fun n w'=>wpAny_collect_seq adr (.inr rfl) w.1 w.2.1 w' (fun h' hk'=>hq _ h' s.toks (mn (qO al (sm hxs▸hl))) hk') (sz (al.len.trans (te _ (sm hxs▸hl)))))
        fun ys hys hxs=>fy (P:=fun v=>pA X v (l.map tx) s) ht R dv (aj.list_of hys▸ho) fun adr arr L al _ {A' Q' E'} hA' hq=>L.elim fun ob w=>w.2.2.elim fun n w'=>wpAny_collect_seq adr (.inl rfl) w.1 w.2.1 w' (fun h' hk'=>hq _ h' s.toks (mn (qO al (sm hxs▸hl))) hk') (sz (al.len.trans (te _ (sm hxs▸hl)))))
      fun n hn hxs=>bg hxs (fun ha hxs=>fJ (P:=fun v=>pA X v (l.map tx) s) (AV.lit_of hn▸dv) fun t {A' Q' E'} hA' hq=>by
        rw [← sm hxs,tc] at hl
        have hb:∀ c∈dec n,0 < c∧c < 128:=fun c hc=>aa (List.all_eq_true.mp ha c hc) fun a b=>⟨Nat.le_of_ble_eq_true a,Nat.le_of_ble_eq_true b⟩
        refine wpAny_collect_str hA' _ t (fun s' acc hk' g1 g2 g3 hit=>?_) (sz (congrArg List.length (sm hl)))
        obtain ⟨a1,a2,a3,a4,a5⟩:=s'
        cases g1; cases g2; cases g3
        exact hq _ _ _ (mn (th ((Array.length_toList ..).trans (hit.1.trans (congrArg List.length (sm hl)))) fun j v z=>sm hl▸SignAt.tx (n:=n) hb (hit.2 j v (Array.getElem?_toList.symm.trans z)))) hk') fun _=>nn
end
end
end
end Mine
namespace Mine
section
open PySem PySem.W PyProof.Rows PySem.Calls
section
variable {X:Cx} {sc:Scope}
section
variable {prog:Program} {w:World} {A:Around} {R:Result->Shared->Prop} {I:Addr} {fp wr:List Addr} {G:Array GenState->Array GenState->Prop} {P:Nat->Value->Prop} {St:Nat->Shared->Prop}
theorem y8 (W:WalksS prog w A.in1 I fp wr G 1 P St) (S:Addr) (hSf:S∉fp) (x:Str) (hval:∀ i v,P i v->∃ t,v=.str x t) {s:Shared} (hst:St 0 s)
    (hS:s.heap.SetOf (strKind prog w) S (fun _=>false) 0)
    (hR:∀ s' n,Moved (S::wr) G s s'->s'.heap.SetOf (strKind prog w) S (fun k=>false || decide (k=x)) n->n=1->R (.ok (.ret .none)) s') :
    codeAny (model prog w) A (.builtin "set.update.loop" ⟨[.ref S,.ref I],[]⟩) R s:=by
  have hSw:S∉wr:=fun h=>hSf (W.sub _ h)
  have hsub:∀ b∈wr,b∈S::wr:=fun b hb=>List.mem_cons_of_mem _ hb
  refine codeAny_builtin F.entry_set_update_loop ?_
  rw [Around.under_plainId F.plain_set_update_loop _]
  show wpAny _ A.in1 (pyNext (.ref I) >>= _) _ _ s
  refine wpAny_bind (W.item 0 s _ _ Nat.zero_lt_one hst fun v s' hP hst' hm=>?_)
  obtain ⟨t,rfl⟩:=hval 0 v hP
  have hS':s'.heap.SetOf (strKind prog w) S (fun _=>false) 0:=by
    obtain ⟨o,es,ep,tb,ho,rest⟩:=hS
    exact ⟨o,es,ep,tb,hm.heap S _ hSw ho,rest⟩
  show wpAny _ A.in1 (holding [Value.str x t] (setAdd S (.str x t)) >>= _) _ _ s'
  refine wpAny_bind (wpAny_holding ?_)
  unfold setAdd
  refine wpAny_holding ?_
  refine wpAny_bind ((strKind prog w).pyHash (k:=x) (show (x==x)=true from beq_self_eq_true x) ?_)
  refine wpAny_setAddHashed_of (knd:=strKind prog w) (s:={ s' with toks:=s'.toks + 1 }) (show (x==x)=true from beq_self_eq_true x) rfl hS' (by unfold scanBound; omega) fun h' hsb hS2=>?_
  refine wpAny_pure ⟨plainId_quiet F.plain_set_update_loop _,?_⟩
  refine codeAny_builtin F.entry_set_update_loop ?_
  rw [Around.under_plainId F.plain_set_update_loop _]
  show wpAny _ A.in1 (pyNext (.ref I) >>= _) _ _ _
  refine wpAny_bind (W.done _ _ _ (W.frame _ s' _ _ hst' (Nat.le_succ _) fun b hb o e=>?_) fun s'' hm''=>?_)
  · rw [hsb.2 b (fun h:b=S=>hSf (by rw [← h]; exact hb))]; exact e
  show wpAny _ A.in1 (ret Value.none) _ _ s''
  refine wpAny_pure (hR s'' _ (Moved.trans W.gtrans ((hm.mono hsub).then_heap (Nat.le_succ _) fun b o hb e=>?_) (hm''.mono hsub)) (by
      obtain ⟨o,es,ep,t,ho,rest⟩:=hS2
      exact ⟨o,es,ep,t,hm''.heap S _ hSw ho,rest⟩) rfl)
  rw [hsb.2 b (fun h:b=S=>hb (by rw [h]; exact List.mem_cons_self))]; exact e
end
section
variable {prog:Program} {w:World} {A:Around} {E:Value->Shared->Prop} {s:Shared}
set_option maxHeartbeats 3200000 in
theorem oB {l:Addr} {x:Str} {t0:Tok} {Q:Value->Shared->Prop} (hh:A.handled=none) (hl:s.heap.IsList l #[.str x t0])
    (h:∀ (h':Heap) (tk:Nat),h'.SetOf (strKind prog w) s.heap.objs.size (fun k=>false || decide (k=x)) 1->
      (∀ b o,b < s.heap.objs.size->s.heap.get? b=some o->h'.get? b=some o)->Q (.ref s.heap.objs.size) { s with heap:=h',toks:=tk }) :
    wpAny (model prog w) A (call (.type "set") [.ref l]) Q E s:=by
  obtain ⟨c,tl,hmro⟩:=F.called_set.mro
  have hmade:=F.called_set.made
  have hsub:=F.called_set.sub
  refine wpAny_call (codeAny_of_tree ?_)
  show wpAny _ _ (callAny (.type "set") _) _ _ _
  refine wpAny_pure ⟨Code.quiet_builtin _ (by decide +kernel),codeAny_builtin F.entry_type_call ?_⟩
  rw [Around.under_plain (weight_type_call_type "set" [.ref l] []) rfl]
  have h1:=F.called_set.notType
  have h2:=F.called_set.canCreate
  have hct:=F.typeCall_set_1 (.ref l)
  repeat (any_goals (first | assumption | wp_step))
  refine codeAny_mono (code_set_new_1 (.ref l) (E:=E) (Q₁:=fun obj s₁=>∃ led:Bool,obj=.ref s.heap.objs.size∧s₁={ s with heap:=s.heap.push { cls:=.type "set", dict:=none,data:=.set #[] 0 (.fresh 0 0 led) } }) fun led=>⟨led,rfl,rfl⟩) fun r s₁ hr=>?_
  cases r with
  | error e=>exact hr
  | ok fl=>
    cases fl with
    | ret obj=>
      obtain ⟨led,rfl,rfl⟩:=hr
      have hS:(s.heap.push { cls:=.type "set", dict:=none,data:=.set #[] 0 (.fresh 0 0 led) }).get? s.heap.objs.size=some { cls:=.type "set", dict:=none,data:=.set #[] 0 (.fresh 0 0 led) }:=Heap.get?_push_size _ rfl
      have hT:Shared.TypeIs { s with heap:=s.heap.push { cls:=.type "set", dict:=none,data:=.set #[] 0 (.fresh 0 0 led) } } (.ref s.heap.objs.size) "set" := ⟨_,hS,rfl⟩
      have hli:=F.called_set.init.lookup
      have hbi:=F.called_set.init.bind (.ref s.heap.objs.size)
      repeat (any_goals (first | assumption | wp_step))
      refine codeAny_mono (codeAny_call_builtin (R:=wants (fun r s₂=>r=.none∧∃ h' tk,s₂={ s with heap:=h',toks:=tk }∧
          h'.SetOf (strKind prog w) s.heap.objs.size (fun k=>false || decide (k=x)) 1∧
          (∀ b o,b < s.heap.objs.size->s.heap.get? b=some o->h'.get? b=some o)) E) F.called_set.init.plain F.entry_set_init (check_set_init_1 hT ?_)) fun r₂ s₂ hr₂=>?_
      · obtain ⟨ol,hol,hcl,nl,hdl⟩:=hl
        obtain ⟨ocls,odict,odata,oslots⟩:=ol
        simp only at hcl hdl
        subst hcl; subst hdl
        have hol':(s.heap.push { cls:=.type "set", dict:=none,data:=.set #[] 0 (.fresh 0 0 led) }).get? l=some { cls:=.type "list", dict:=odict,data:=.seq #[.str x t0] nl,slots:=oslots }:=Heap.get?_push_of_some _ hol
        have hsls:=F.sub_list_set
        have hslf:=F.sub_list_frozenset
        have hne:(Value.type "list" == Value.type "dict")=false:=by decide
        have hl1:(s.heap.push { cls:=.type "set", dict:=none,data:=.set #[] 0 (.fresh 0 0 led) }).IsList l #[.str x t0]:=⟨_,hol',rfl,nl,rfl⟩
        unfold Builtin.«set.__init__» noKeywords Builtin.Frozenset.updateFrom
        generalize hPI:pyIter=PI
        wp_walk
        subst hPI
        refine wpAny_pyIter_list hl1 ?_
        refine wpAny_bind (wpAny_runValue ?_)
        have hlS:l < s.heap.objs.size:=Heap.lt_size hol
        have hh3:A.in1.in1.in1.handled=none:=by simp [hh]
        have hneI:l≠(s.heap.push { cls:=.type "set", dict:=none,data:=.set #[] 0 (.fresh 0 0 led) }).objs.size:=by
          rw [Heap.size_push]; exact Nat.ne_of_lt (Nat.lt_succ_of_lt hlS)
        have hSf:s.heap.objs.size∉[(s.heap.push { cls:=.type "set", dict:=none,data:=.set #[] 0 (.fresh 0 0 led) }).objs.size,l]:=by
          rw [Heap.size_push]; simp only [List.mem_cons,List.mem_singleton,List.not_mem_nil,or_false,not_or]
          exact ⟨Nat.ne_of_lt (Nat.lt_succ_self _),Nat.ne_of_gt hlS⟩
        have hval:∀ (i:Nat) (v:Value),(#[Value.str x t0]:Array Value)[i]?=some v->∃ t,v=.str x t:=fun i v hv=>by
          cases i with
          | zero=>simp at hv; exact ⟨t0,hv.symm⟩
          | succ i=>simp at hv
        refine y8 ((Walks.list hh3 _ l hneI #[.str x t0]).toS) s.heap.objs.size hSf x hval
          ⟨⟨_,Heap.get?_push_size _ rfl,rfl,rfl⟩,(hl1.push _)⟩ ?hS0 ?hR
        case hS0=>
          have hget:((s.heap.push { cls:=.type "set", dict:=none,data:=.set #[] 0 (.fresh 0 0 led) }).push { cls:=.type "list_iterator", data:=.fields #[.ref l,.int 0 0] }).get? s.heap.objs.size
              = some { cls:=.type "set", dict:=none,data:=.set #[] 0 (.fresh 0 0 led) }:=Heap.get?_push_of_some _ hS
          exact PyProof.Rows.SetOf_congr ((PyProof.Rows.setObjOf_fresh (knd:=strKind prog w) led).setOf hget (by unfold scanBound; omega)) (fun _=>rfl) rfl
        case hR=>
          intro s' n hm hS' hn
          subst hn
          obtain ⟨h',g',d',tk',os'⟩:=s'
          have eg:g'=s.gens:=hm.gens
          have ed:d'=s.drawn:=hm.drawn
          have eo:os'=s.os:=hm.os
          subst eg; subst ed; subst eo
          show wpAny _ _ _ _ _ _
          refine wpAny_pure ?_
          show wpAny _ _ (ret Value.none) _ _ _
          refine wpAny_pure ⟨rfl,h',tk',rfl,hS',fun b o hb e=>?_⟩
          have hb1:b≠s.heap.objs.size:=Nat.ne_of_lt hb
          have hb2:b≠(s.heap.push { cls:=.type "set", dict:=none,data:=.set #[] 0 (.fresh 0 0 led) }).objs.size:=by
            rw [Heap.size_push]; exact Nat.ne_of_lt (Nat.lt_succ_of_lt hb)
          exact hm.heap b o (by simp only [List.mem_cons,List.mem_singleton,List.not_mem_nil,or_false,not_or]; exact ⟨hb1,hb2⟩) (Heap.get?_push_of_some _ (Heap.get?_push_of_some _ e))
      · cases r₂ with
        | error e=>exact hr₂
        | ok fl₂=>
          cases fl₂ with
          | ret r=>
            obtain ⟨rfl,h',tk,rfl,hS',hk'⟩:=hr₂
            repeat (any_goals (first | assumption | wp_step))
            exact h _ _ hS' hk'
          | _=>exact hr₂
    | _=>exact hr
end
theorem pB {M:Model} {A:Around} {E:Value->Shared->Prop} {s:Shared} (id:String):jY M A E (.type id) s:=⟨.machine,fun Q' hq=>by unfold keeperOf; exact wpAny_pure hq⟩
section
variable {A:Around} {F:Fm} {V:Pl} {σ:St} {s:Shared} {k:KV} {Q:Value->Shared->Prop} {E:Value->Shared->Prop}
theorem y9 {as:List AV} {vs:List Value} (hA:A.handled=none) (ht:X.K.In F.h₀) (R:Rel X F V σ s) (ds:au (den X V) as vs) (h:wP .set as k σ=true) (hk:KOk X F V k Q):wpAny (model X.prog X.w) A (call (.type "set") vs) Q E s:=by
  refine az h (fun hn h=>?_) fun a ha h=>ad h fun xs hxs h=>ad h fun n hn h=>ao hxs fun i hi hxs=>ao hi fun b hb hi=>ao hn fun c hc hn=>au.one (P:=fun vs=>wpAny _ A (call (.type "set") vs) Q E s) (cS hb▸ds) fun v dv=>aW (P:=fun v=>wpAny _ A (call (.type "set") [v]) Q E s) (AV.own_of hi▸dv) fun _=>R.listO (list_of hxs) fun ob l m hob hlc hdn hdt al=>?_
  · cases ds with
    | cons _ _=>exact nn hn.symm
    | nil=>exact call_set_0 fun led=>hk (.own σ.n) _ _ _ _ (Pl.le_add _ _) (R.push (o:=.set []) rfl (.mk #[] 0 (.fresh 0 0 led) (.few (fun a ha=>(nomatch ha)) (Nat.le_refl _) rfl rfl rfl fun e he=>(nomatch he))) s.toks) (cP R.n _) h
  · have e:∃ t,l=#[.str (tx n) t]:=au.one (P:=fun r=>∃ t,l=(r.map fun v=>v).toArray->l=#[.str (tx n) t]) (cS hc▸al) (fun v dv=>cD (P:=fun v=>∃ t,l=([v].map fun v=>v).toArray->l=#[.str (tx n) t]) dv hn fun t=>⟨t,id⟩) |>.imp fun t z=>z (by rw [List.map_id']; )
    obtain ⟨t,rfl⟩:=e
    refine oB (x:=tx n) (t0:=t) hA ⟨ob,hob,hlc,m,hdt⟩ fun h' tk hS hkeep=>?_
    obtain ⟨o,es,ep,tb,ho,⟨e1,e2,e3⟩,hdd,_,_,_,hf,hn⟩:=hS
    refine hk (.own σ.n) _ _ _ _ (Pl.le_add _ _) (R.new (o:=.set [kv n]) (fun b o e=>hkeep b o (Heap.lt_size e) e) (dM _) ho ?_ tk) (cP R.n _) h
    obtain ⟨a,b,c,d⟩:=o
    cases e1; cases e2; cases e3; cases hdd
    exact .mk es ep tb (.lit n rfl hn hf)
theorem ti {t:Ty} {as:List AV} {xs:List Value} (hA:A.handled=none) (ht:X.K.In F.h₀) (R:Rel X F V σ s) (ds:au (den X V) as xs) (h:wP t as k σ=true) (hk:KOk X F V k Q):wpAny (model X.prog X.w) A (call (.type t.nm) xs) Q E s:=by
  cases t with
  | dict=>exact qM ht R ds h hk
  | set=>exact y9 hA ht R ds h hk
  | str=>exact ad h fun i hi h=>ao hi fun a ha hi=>au.one (P:=fun vs=>wpAny _ A (call (.type "str") vs) Q E s) (cS ha▸ds) fun v dv=>bH (P:=fun v=>wpAny _ A (call (.type "str") [v]) Q E s) (AV.int_of hi▸dv) fun t=>u5 R h hk
  | _=>exact ff h
theorem tj {b:Bi} {as:List AV} {xs:List Value} (hA:A.handled=none) (ht:X.K.In F.h₀) (R:Rel X F V σ s) (ds:au (den X V) as xs) (h:wO X.P b as k σ=true) (hk:KOk X F V k Q):wpAny (model X.prog X.w) A (call (.builtin b.nm) xs) Q E s:=by
  cases b with
  | len=>exact yZ ht R ds h hk
  | isinstance=>exact ad h fun p hp h=>ad h fun q hq h=>au.two (P:=fun vs=>wpAny _ A (call (.builtin "isinstance") vs) Q E s) (jw hp▸ds) fun c d dc dd=>qF ht R dc dd hq fun t=>hk (.bool q) _ V σ _ (Pl.le_refl V) (R.toks t) rfl h
  | sorted=>exact qP hA ht R ds h hk
  | all=>exact ff h
end
theorem lC:Bn X:=fun hr hA hroom ht R df ds h he hk=>az h (fun _ h=>az h (fun _ h=>aa h fun hc h=>⟨qw ht R df hc,mS hr hroom R df ds h he hk⟩) fun b hb h=>(AV.blt_of hb▸df:den X _ (.blt b) _)▸⟨kS _,tj hA ht R ds h hk⟩) fun t htt h=>(AV.ty_of htt▸df:den X _ (.ty t) _)▸⟨pB _,ti hA ht R ds h hk⟩
theorem Bs {id:Str} {p pos:Pos} {es:List Expr} {xf:C} {xs:List C} (hf:aK X sc (.Name id p) xf) (hs:eP X sc es xs) (hp:∀ env,(starEach es env).any (·.1)=false):aK X sc (.Call (.Name id p) es [] pos) (aC X.P xf xs):=
  fun hr hfit R h he hk=>aa h fun hh h=>wpAny_Call_Name_kw (hf hr hfit R h he fun fv fx V1 σ1 s1 l1 R1 d1 h1=>pw (first:=[]) hs hp hr (hfit.mono l1) R1 h1 (he.mono l1) fun as vs V2 σ2 s2 l2 R2 d2 h2=>have l:=Pl.le_trans l1 l2
    lC hr (hfit.hand (nt hh)) (hfit.mono l).room hfit.top R2 (aI l2 d1) d2 h2 (he.mono l) (hk.mono l))
theorem za {pos}:fH X sc (.Continue pos) sf:=fun {f r A env ae F V σ s k ke Q E} hr hf R h he hk=>wpAny_Continue (hk .cont .cont V σ s (Pl.le_refl V) R .cont h)
end
section
variable {X:Cx} {sc:Scope}
section
variable {prog:Program} {w:World} {A:Around} {E:Value->Shared->Prop} {s:Shared} {t t1 t2 t3:Tok} {Q:Value->Shared->Prop} {b:Addr}
theorem Mw {n:Int} (h0:0≤n) (h1:n≤100000):n.natAbs.log2 < 1920:=by
  have h:n.natAbs < 2 ^ 17:=by omega
  rcases Nat.eq_zero_or_pos n.natAbs with e | e
  · rw [e]; decide
  · have:=(Nat.log2_lt (by omega)).mpr h; omega
noncomputable def T1 (y:Str) (n:Int):Str:=Str.ofString "\"" ++ y++Str.ofString "\":{\"version\":" ++ Str.ofString (toString n)++Str.ofString "}"
noncomputable def T2 (y z:Str) (n:Int):Str:=Str.ofString "{\"_type\":\"" ++ y++Str.ofString "\",\"expires\":9,\"meta\":{" ++ z++Str.ofString "},\"spec_version\":\"1.0.31\",\"version\":" ++ Str.ofString (toString n)++Str.ofString "}"
theorem EX {y:Str} {n:Int} (hy:y.length≤1000000) (h0:0≤n) (h1:n < 10 ^ 10) (hl:n.natAbs.log2 < 1920):Meets (Builtin.«str.__mod__» ⟨[.str (⟨#[34,37,115,34,58,123,34,118,101,114,115,105,111,110,34,58,37,100,125]⟩:Str) t,.ref b],[]⟩) (fun _ R s=>IsTup s.heap b #[.str y t1,.int n t2]∧∀ t' k,R (.ok (.ret (.str (T1 y n) t'))) { s with toks:=k }):=by
  unfold T1
  kpt_run
set_option maxHeartbeats 4000000 in
theorem EY {y z:Str} {n:Int} (hy:y.length≤1000000) (hz:z.length≤1000000) (h0:0≤n) (h1:n < 10 ^ 10) (hl:n.natAbs.log2 < 1920):Meets (Builtin.«str.__mod__» ⟨[.str (⟨#[123,34,95,116,121,112,101,34,58,34,37,115,34,44,34,101,120,112,105,114,101,115,34,58,57,44,34,109,101,116,97,34,58,123,37,115,125,44,34,115,112,101,99,95,118,101,114,115,105,111,110,34,58,34,49,46,48,46,51,49,34,44,34,118,101,114,115,105,111,110,34,58,37,100,125]⟩:Str) t,.ref b],[]⟩) (fun _ R s=>IsTup s.heap b #[.str y t1,.str z t3,.int n t2]∧∀ t' k,R (.ok (.ret (.str (T2 y z n) t'))) { s with toks:=k }):=by
  unfold T2
  kpt_run
theorem xr {x T:Str} {its:Array Value} (ht:IsTup s.heap b its) (hm:Meets (Builtin.«str.__mod__» ⟨[.str x t,.ref b],[]⟩) (fun _ R s=>IsTup s.heap b its∧∀ t' k,R (.ok (.ret (.str T t'))) { s with toks:=k }))
    (h:∀ t' k,Q (.str T t') { s with toks:=k }):wpAny (model prog w) A (binaryOp .Mod (.str x t) (.ref b)) Q E s:=by
  have hT:s.TypeIs (.ref b) "tuple" := by
    obtain ⟨o,ho,hc,_⟩:=ht
    exact ⟨o,ho,hc⟩
  exact KPt.bin_left (T := "str") (U := "tuple") (op:=.Mod) (by decide) (typeIs_str s _ t) hT PySem.F.fills_str_mod KPt.fills_tuple PySem.F.slot_str_mod
    (call_meets PySem.F.slot_str_mod (typeIs_str s _ t) PySem.F.entry_str_mod (PySem.F.args_str_mod_2 _ _) hm ⟨ht,fun t' k=>⟨(fun e=>nomatch e),h t' k⟩⟩)
end
theorem qQ (i:Int):Str.ofString (toString i)=sx (ia i):=by rw [Str.ofString_eq_toList]; rfl
theorem IQ {a:List Nat} {i:Int}:T1 (sx a) i=sx (dec 34++(a++(dec 2711856516674924341862538814010++(ia i++dec 125)))):=by
  unfold T1
  rw [show Str.ofString "\"" = sx (dec 34) by decide +kernel,show Str.ofString "\":{\"version\":" = sx (dec 2711856516674924341862538814010) by decide +kernel,show Str.ofString "}" = sx (dec 125) by decide +kernel,qQ,bI,bI,bI,bI,List.append_assoc,List.append_assoc,List.append_assoc]
theorem IR {a b:List Nat} {i:Int}:T2 (sx a) (sx b) i=sx (dec 581485144947527027669538++(a++(dec 12785412691923937890408015334777184575363438484798075++(b++(dec 243168528965340591381944762623269021763769106824327523385003832487923875727030539395642++(ia i++dec 125)))))):=by
  unfold T2
  rw [show Str.ofString "{\"_type\":\"" = sx (dec 581485144947527027669538) by decide +kernel,show Str.ofString "\",\"expires\":9,\"meta\":{" = sx (dec 12785412691923937890408015334777184575363438484798075) by decide +kernel,show Str.ofString "},\"spec_version\":\"1.0.31\",\"version\":" = sx (dec 243168528965340591381944762623269021763769106824327523385003832487923875727030539395642) by decide +kernel,show Str.ofString "}" = sx (dec 125) by decide +kernel,qQ,bI,bI,bI,bI,bI,bI,List.append_assoc,List.append_assoc,List.append_assoc,List.append_assoc,List.append_assoc]
theorem K8:(⟨#[34,37,115,34,58,123,34,118,101,114,115,105,111,110,34,58,37,100,125]⟩:Str)=tx 761487669299114765124245260717148644078609533:=by decide +kernel
theorem K9:(⟨#[123,34,95,116,121,112,101,34,58,34,37,115,34,44,34,101,120,112,105,114,101,115,34,58,57,44,34,109,101,116,97,34,58,123,37,115,125,44,34,115,112,101,99,95,118,101,114,115,105,111,110,34,58,34,49,46,48,46,51,49,34,44,34,118,101,114,115,105,111,110,34,58,37,100,125]⟩:Str)=tx 1995888931218245985690203249244025848687563671085647514188834173263146002319704281819011512552707108735855434489185822088459659648204107355376231033835064900255566485970295147816061:=by decide +kernel
theorem pC {i:IV} (h:ll (.int i)=true):-200000≤i.den X.nu∧i.den X.nu≤200000:=aa h fun hb h=>aa h fun a b=>have q:=X.hB i.x (nt hb); ⟨Int.add_le_add q.1 (dE a),Int.add_le_add q.2 (dE b)⟩
theorem m8 {n:Int} (h0:-300000≤n) (h1:n≤300000):n.natAbs.log2 < 1920:=
  have h:n.natAbs < 2 ^ 19:=by omega
  (Decidable.em (n.natAbs=0)).elim (fun z=>by rw [z]; decide) fun z=>(Nat.log2_lt z).mpr (Nat.lt_of_lt_of_le h (Nat.pow_le_pow_right (by decide) (by decide)))
section
variable {A:Around} {F:Fm} {V:Pl} {σ:St} {s:Shared} {k:KV} {Q:Value->Shared->Prop} {E:Value->Shared->Prop}
theorem xu {i:IV} (H:cC X.nu σ.f) (h:okI i σ=true):0≤i.den X.nu∧i.den X.nu≤200000:=aa h fun a b=>⟨by have q:=bc H a; rw [IV.den_k X.h0,Int.add_zero] at q; exact q,(pC b).2⟩
theorem xv {l:List Pc} {v:Value} {u:Tok} (R:Rel X F V σ s) (hk:KOk X F V k Q) (h:hW (mkS l) σ k=true) (e:∃ t,v=.str (sx (aN X.nu l)) t):Q v { s with toks:=u }:=aa h fun _ h=>hk (.str (mkS l)) _ V σ _ (Pl.le_refl V) (R.toks u) (e.imp fun t e=>by rw [iP X.h0]; exact e) h
theorem u8 {n:Nm} {i:Nat} {xs:List AV} {t:Tok} (R:Rel X F V σ s) (hi:σ.t.get i=some (.tup xs)) (h:KM n xs k σ=true) (hk:KOk X F V k Q):wpAny (model X.prog X.w) A (binaryOp .Mod (.str (tx n) t) (.ref (V.at_ i))) Q E s:=
  ad h fun a ha h=>ad h fun x hx h=>aa h fun q2 h=>R.tup hi fun l L al=>by
    have hd:∀ {b:AV} {r:List AV} {v:Value},xs=b::r->den X V b v->∃ t,v=.str (sx (x.den X.nu)) t:=fun e d=>by subst e; rw [show _=a from sm ha,AV.str_of hx] at d; exact d
    refine az h (fun _ h=>ad h fun p hp h=>ad h fun y hy h=>ad h fun j hj h=>aa h fun q hz=>aa q fun q1 q=>aa q fun q3 q4=>?_) fun p hp h=>ad h fun j hj h=>aa h fun q hz=>aa q fun q1 q4=>?_
    · obtain ⟨b0,b1⟩:=xu R.facts q4
      cases xs with
      | nil=>exact nn ha
      | cons b r=>
        obtain rfl:r=[p.1,p.2]:=jw hp
        obtain ⟨l⟩:=l
        refine au.uncons (P:=fun l=>s.heap.IsTuple (V.at_ i) ⟨l⟩->_) al (fun v1 r d1 ds=>au.two (P:=fun r=>s.heap.IsTuple (V.at_ i) ⟨v1::r⟩->_) ds fun v2 v3 d2 d3 L=>?_) L
        obtain ⟨t1,rfl⟩:=hd rfl d1
        obtain ⟨t2,rfl⟩:=(AV.str_of hy▸d2:den X V (.str y) v2)
        obtain ⟨t3,rfl⟩:=(AV.int_of hj▸d3:den X V (.int j) v3)
        rw [nb q1]
        exact xr L (K9▸EY (y:=sx (x.den X.nu)) (z:=sx (y.den X.nu)) (dA (X:=X) q2) (dA (X:=X) q3) b0 (Int.lt_of_le_of_lt b1 (by decide)) (m8 (by omega) (by omega))) fun t' k'=>xv R hk hz ⟨t',by
          rw [IR]
          show _=Value.str (sx (dec _++aN X.nu (x.pcs++_))) t'
          rw [bP]
          show _=Value.str (sx (dec _++(_++(dec _++aN X.nu (y.pcs++_))))) t'
          rw [bP]; rfl⟩
    · obtain ⟨b0,b1⟩:=xu R.facts q4
      obtain rfl:xs=[p.1,p.2]:=jw hp
      obtain ⟨l⟩:=l
      refine au.two (P:=fun r=>s.heap.IsTuple (V.at_ i) ⟨r⟩->_) al (fun v1 v2 d1 d2 L=>?_) L
      obtain ⟨t1,rfl⟩:=hd rfl d1
      obtain ⟨t2,rfl⟩:=(AV.int_of hj▸d2:den X V (.int j) v2)
      rw [nb q1]
      exact xr L (K8▸EX (y:=sx (x.den X.nu)) (dA (X:=X) q2) b0 (Int.lt_of_le_of_lt b1 (by decide)) (m8 (by omega) (by omega))) fun t' k'=>xv R hk hz ⟨t',by
        rw [IQ]
        show _=Value.str (sx (dec _++aN X.nu (x.pcs++_))) t'
        rw [bP]; rfl⟩
end
theorem EZ {n:Nm} {x:Str} {es:List Expr} {xs:List C} {kd kk p1 p2 pos} (hx:tx n=x) (hs:eP X sc es xs) (hn:xs.length≤1000):aK X sc (.BinOp (.Constant (.str x) kd p1) .Mod (.Tuple es kk p2) pos) (D8 n xs):=
  fun {f r A env ae F V σ s k ke Q E} hr hf R h he hk=>wpAny_BinOp (wpAny_Constant_str (w6 hs hn hr hf (R.toks _) h he fun a v V1 σ1 s1 l1 R1 d1 h1=>ad h1 fun i hi h1=>ad h1 fun ys hy h1=>ao hy fun o ho hy=>aW (P:=fun v=>wpAny _ A (binaryOp .Mod (.str x _) v) Q E s1) (AV.own_of hi▸d1) fun _=>hx▸u8 R1 (aj.tup_of hy▸ho) h1 (hk.mono l1)))
noncomputable def tm (X:Cx) (sc:Scope) (e:Expr) (x:C):Prop:=∀ {f r A env ae F V σ s} {k:List Pc->St->T} {ke:KE} {Q E},dz X f r->Fit X f r sc A env ae F V->Rel X F V σ s->x r ae (fun a σ=>ob (Ad a) fun ps=>k ps σ) ke σ=true->(∀ ps σ,k ps σ=true->jr (.dyn ps)=true)->dq X F V ke E->
  (∀ ps t V' σ' s',V.le V'->Rel X F V' σ' s'->k ps σ'=true->Q (.str (sx (aN X.nu ps)) t) s')->wpAny (model X.prog X.w) A (eval e env) Q E s
theorem zb (n:Nm) (x:Str) (kd pos) (hx:tx n=x):tm X sc (.Constant (.str x) kd pos) (ai n):=fun {f r A env ae F V σ s k ke Q E} hr hf R h hq he hk=>wpAny_Constant_str (hx▸(congrArg (fun l=>Q (.str (sx l) s.toks) _) (List.append_nil (dec n))).mp (hk [.lit n] s.toks V σ _ (Pl.le_refl V) (R.toks (s.toks + 1)) h))
theorem zc {e:Expr} {x:C} {pos} (hx:aK X sc e x):tm X sc (.FormattedValue e (-1) none pos) x:=fun {f r A env ae F V σ s k ke Q E} hr hf R h hq he hk=>FormattedValue_plain (hx hr hf R h he fun a v V1 σ1 s1 l1 R1 d1 h1=>ad h1 fun ps hps h1=>cB hps
    (fun _ hps=>ao hps fun i hi hps=>bH (P:=fun v=>wpAny _ A (formatField v Str.empty) Q E s1) (AV.int_of hi▸d1) fun t=>have hb:=pC (X:=X) (aa (sm hps▸hq ps σ1 h1:jr (.dyn [.int i])=true) fun h _=>aa (List.all_cons▸h:(ll (.int i)&&_)=true) fun h _=>h)
      formatField_int_small (m8 (Int.le_trans (by decide) hb.1) (Int.le_trans hb.2 (by decide))) (show Q (.str (Str.ofString (toString (i.den X.nu))) _) _ from qQ (i.den X.nu)▸(congrArg (fun l=>Q (.str (sx l) _) _) (List.append_nil (ia (i.den X.nu)))).mp ((sm hps).symm▸hk ps (s1.toks + 1) V1 σ1 _ l1 (R1.toks (s1.toks + 1 + 1)) h1:Q (.str (sx (aN X.nu [.int i])) (s1.toks + 1)) _)))
    fun y hy hps=>bQ (P:=fun v=>wpAny _ A (formatField v Str.empty) Q E s1) (AV.str_of hy▸d1:den X V1 (.str y) v) fun t=>formatField_str (fun t' tk=>((sm hps).symm▸hk ps t' V1 σ1 _ l1 (R1.toks tk) h1:Q (.str (sx (aN X.nu y.pcs)) t') _)) (Nat.le_trans (dA (X:=X) (x:=.dyn y.pcs) (sm hps▸hq ps σ1 h1)) (by decide)))
theorem u9 {es:List Expr} {xs:List C} (hs:au (tm X sc) es xs):∀ {acc:SS} {f r A env ae F V σ s k ke Q E},dz X f r->Fit X f r sc A env ae F V->Rel X F V σ s->uF r ae ke k xs acc σ=true->(acc.den X.nu).length≤1000000->dq X F V ke E->KOk X F V k Q->wpAny (model X.prog X.w) A (joinParts (sx (acc.den X.nu)) (evalEach es env)) Q E s:=by
  have sz:∀ {n:Nat},n≤1000000->n≤sizeLine:=fun h=>Nat.le_trans h (by decide)
  induction hs with
  | nil=>exact fun hr hf R h hl he hk=>joinParts_nil (hk.here (R.toks _) (w4 _ _) h) (sz hl)
  | @cons e x es xs hx _ ih=>
    intro acc f r A env ae F V σ s k ke Q E hr hf R h hl he hk
    refine joinParts_cons (hx (k:=fun ps σ=>(jr (.dyn ps)&&jr (mkS (acc.pcs++ps)))&&uF r ae ke k xs (mkS (acc.pcs++ps)) σ) hr hf R h (fun ps σ h=>aa h fun h _=>aa h fun h _=>h) he fun ps t V1 σ1 s1 l1 R1 h1=>aa h1 fun h2 h1=>aa h2 fun _ h2=>?_)
    have hl2:=dA (X:=X) h2
    show _∧wpAny _ A (joinParts (sx (acc.den X.nu)++sx (aN X.nu ps)) _) Q E s1
    rw [show sx (acc.den X.nu)++sx (aN X.nu ps)=sx ((mkS (acc.pcs++ps)).den X.nu) by rw [iP X.h0,bP,bI]; rfl]
    exact ⟨sz hl2,ih hr (hf.mono l1) R1 h1 hl2 (he.mono l1) (hk.mono l1)⟩
theorem Bt {e₁ e₂:Expr} {es:List Expr} {xs:List C} {pos} (hs:au (tm X sc) (e₁::e₂::es) xs):aK X sc (.JoinedStr (e₁::e₂::es) pos) (dG xs):=
  fun hr hf R h he hk=>JoinedStr_many (u9 (acc:=.lit 0) hs hr hf R h (Nat.le_trans (Nat.le_of_eq (congrArg List.length (gv (nu:=X.nu) 0))) (by decide)) he hk)
end
section
variable {X:Cx} {sc:Scope}
theorem vb {pos pos':Pos} {c cv:Value}:∀ (l:List Value),TriplesOk l->codeAmong pos' (l++[rawInt pos.line,rawInt pos.col,c])=some cv->codeAmong pos' l=some cv∨(pos'.line=pos.line∧pos'.col=pos.col∧cv=c):=by
  intro l h
  fun_induction TriplesOk l with
  | case1=>
    intro e
    simp only [List.nil_append,codeAmong,rawInt] at e
    split at e
    · rename_i hq
      simp only [Bool.and_eq_true,beq_iff_eq] at hq
      exact .inr ⟨by omega,by omega,(sm e).symm⟩
    · exact nn e
  | case2 a t b u x rest ih=>
    intro e
    simp only [List.cons_append,codeAmong] at e ⊢
    split at e
    · rename_i hq; rw [if_pos hq]; exact .inl e
    · rename_i hq; rw [if_neg hq]; exact ih h e
  | case3 l h1 h2=>exact h.elim
section
variable {F:Fm} {V:Pl} {t:AT} {loc:List (Nm×AV)} {locks:List Nat} {h h':Heap} {P c':Addr} {cs':List (Addr×Option Obj)}
noncomputable def Pl.tabs (V:Pl) (cs':List (Addr×Option Obj)):Pl:=⟨V.n,V.at_,cs'⟩
theorem Pl.le_tabs (sub:∀ p∈V.cs,p∈cs'):V.le (V.tabs cs'):=⟨Nat.le_refl _,fun _ _=>rfl,sub⟩
theorem eO.tabs {a:Addr} (x:eO F V t a):eO F (V.tabs cs') t a:=⟨x.h0,x.L,x.kp,x.sus,x.ob⟩
theorem Mem.atTab (M:Mem X F V t loc locks h) (sub:∀ p∈V.cs,p∈cs') (aP:eO F V t P) (hx:Heap.ExtBut P h h') (cd:Cd X F (V.tabs cs') t h'):Mem X F (V.tabs cs') t loc locks h':=
  have le:=Pl.le_tabs sub
  { fr:=M.fr.rec fun m K l=>.mk m ⟨K.ns.extBut hx aP.L.symm,fun b o e=>hx b o (fun q=>nn ((q▸aP.h0).symm.trans e)) (K.keep b o e),K.above⟩ fun n a e=>(l n a e).imp fun v q=>⟨q.1,aI le q.2⟩,obj:=fun i o e=>(M.obj i o e).rec fun ob lt g L h0 r=>.mk ob lt (hx _ _ (aP.ob i o e) g) L h0 (oS le r),inj:=M.inj,kept:=fun p hp=>have q:=M.kept p hp; ⟨hx _ _ (aP.kp p hp) q.1,q.2⟩,apart:=M.apart,sus:=fun p hp=>have q:=M.sus p hp; ⟨q.ns.extBut hx (aP.sus p hp),q.h0,q.L,q.ob⟩,kps:=M.kps,lk:=M.lk,wf:=M.wf,cd }
theorem jV.tab {C:Pos->Value->Prop} {ps:Array Value} (x:jV V h P C) (g:h.get? P=some (tabObj ps)):(P,none)∈V.cs∧TriplesOk ps.toList∧∀ pos cv,codeAmong pos ps.toList=some cv->C pos cv:=
  x.rec fun ps' m g' tr c=>have e:ps'=ps:=by have z:=sm (g'.symm.trans g); injection z with _ _ z; injection z; ; e▸⟨m,tr,c⟩
theorem Mem.code (M:Mem X F V t loc locks h) {f:Nat->Nat->Str} (hP:(P,f)∈X.tb) (h1:∀ q∈X.tb,q.1=P->q.2=f) {ps:Array Value} (ho:h.get? P=some (tabObj ps)) {pos:Pos} {oc:Obj} {vs:Array Value} {u:Tok}
    (hx:Heap.ExtBut P h h') (hge:h.objs.size≤c') (hoc:h'.get? c'=some oc) (hd:oc.data=.fields vs) (hv:vs[1]?=some (.str (f pos.line pos.col) u)) (htb:h'.get? P=some (tabObj (ps++#[rawInt pos.line,rawInt pos.col,.ref c']))):Mem X F (V.tabs ((c',some oc)::V.cs)) t loc locks h':=by
  have D:=M.cd
  obtain ⟨mP,tr,am⟩:=(D.tb _ hP).tab ho
  have tl:(ps++#[rawInt pos.line,rawInt pos.col,Value.ref c']).toList=ps.toList++[rawInt pos.line,rawInt pos.col,.ref c']:=Array.toList_append
  have ne:∀ {b o},h.get? b=some o->b≠c':=fun e q=>absurd (Heap.lt_size e) (Nat.not_lt.mpr (q▸hge))
  have other:∀ {Q C},jV V h Q C->Q≠P->(∀ {C'},(∀ pos cv,C pos cv->C' pos cv)->jV (V.tabs ((c',some oc)::V.cs)) h' Q C'):=fun x q _ k=>x.rec fun ps m g tr c=>.mk ps (.tail _ m) (hx _ _ q g) tr fun pos cv e=>k pos cv (c pos cv e)
  have tabGet:∀ {Q C},jV V h Q C->Q≠c':=fun x=>x.rec fun _ _ g _ _=>ne g
  refine M.atTab (fun p=>.tail _) ((D.cs _ mP).rec fun _ aw _ _=>aw) hx ⟨fun p hp=>(List.mem_cons.mp hp).elim (fun z=>z.symm▸.mk oc (M.away (Heap.get?_none_of_le hge)).a0.tabs hoc fun _ e=>sm e) fun hp=>(D.cs p hp).rec fun ob aw g q=>(Decidable.em (p.1=P)).elim (fun z=>.mk _ aw.tabs (z▸htb) fun _ e=>nn ((D.un p hp _ hP z).symm.trans e)) fun z=>.mk ob aw.tabs (hx _ _ z g) q,fun q hq=>(Decidable.em (q.1=P)).elim (fun z=>?_) fun z=>other (D.tb q hq) z fun pos cv=>ec.cs fun p=>.tail _,fun p hp q hq e=>(List.mem_cons.mp hp).elim (fun z=>absurd (e.symm.trans (congrArg Prod.fst z)) (tabGet (D.tb q hq))) fun hp=>D.un p hp q hq e,fun Q hQ=>other (D.tf Q hQ) (fun z=>X.tbf _ hP (z▸hQ)) fun _ _=>id,fun p hp e=>(List.mem_cons.mp hp).elim (fun z=>absurd (congrArg Prod.fst z) (tabGet (D.tf _ e))) fun hp=>D.uf p hp e⟩
  exact .mk _ (.tail _ (z▸mP)) (z▸htb) (tl▸TriplesOk_snoc _ _ _ _ tr) fun pos' cv hc=>(vb _ tr (tl▸hc)).elim (fun hc=>h1 q hq z▸(am pos' cv hc).cs fun p=>.tail _) fun w=>by rw [h1 q hq z,w.1,w.2.1,w.2.2]; exact .mk (.head _) hd hv
theorem Mem.codeF (M:Mem X F V t loc locks h) (hP:P∈X.tf) {ps:Array Value} (hx:Heap.ExtBut P h h') (ho:h'.get? P=some (tabObj ps)) (ht:TriplesOk ps.toList):Mem X F V t loc locks h':=by
  have D:=M.cd
  refine M.atTab (cs':=V.cs) (fun p=>id) ((D.tf _ hP).rec fun _ m _ _ _=>(D.cs _ m).rec fun _ aw _ _=>aw) hx ⟨fun p hp=>(D.cs p hp).rec fun ob aw g q=>(Decidable.em (p.1=P)).elim (fun z=>.mk _ aw (z▸ho) fun _ e=>nn ((D.uf p hp (z▸hP)).symm.trans e)) fun z=>.mk ob aw (hx _ _ z g) q,fun q hq=>(D.tb q hq).rec fun ps m g tr c=>.mk ps m (hx _ _ (fun e=>X.tbf q hq (e▸hP)) g) tr c,D.un,fun Q hQ=>(Decidable.em (Q=P)).elim (fun z=>(D.tf Q hQ).rec fun _ m _ _ _=>.mk ps m (z▸ho) ht fun _ _ _=>trivial) fun z=>(D.tf Q hQ).rec fun ps m g tr c=>.mk ps m (hx _ _ z g) tr c,D.uf⟩
end
inductive m9 (X:Cx) (code:Value) (P:Addr):Prop
  | mk {c oc vs file tf flags tg inF text tt} (e:code=.ref c) (lk:X.K.lookup c=some oc) (cl:oc.cls=.type "code") (d:oc.data=.fields vs) (h11:vs[11]?=some (.ref P)) (r1:vs.getD 18 .none=.str file tf) (r2:vs.getD 7 .none=.int flags tg) (r3:vs.getD 9 .none=.bool inF) (r4:vs.getD 10 .none=.int text tt)
noncomputable def xw (X:Cx) (code:Value) (qn:Nat->Nat->Str):Prop:=∃ P,(P,qn)∈X.tb∧(∀ q∈X.tb,q.1=P->q.2=qn)∧m9 X code P
section
variable {A:Around} {F:Fm} {V:Pl} {σ:St} {s:Shared} {P:Addr} {E:Value->Shared->Prop}
theorem tn (R:Rel X F V σ s) (ht:X.K.In F.h₀) (hP:eO F V σ.t P):∃ mg,s.heap.Ns mainGlobals mg∧s.heap.BuiltinsAt mg P∧mainGlobals≠P:=by
  have T:X.K.In s.heap:=ht.keeps fun b o e=>R.keep e
  have nP:∀ {b o},F.h₀.get? b=some o->b≠P:=fun e q=>nn ((q▸hP.h0).symm.trans e)
  obtain ⟨mg,hg,hl⟩:=lp T X.pok.gns.1
  refine ad X.pok.bmain fun bm hb h=>aa h fun h1 h=>aa h fun h2 h=>ad h fun o ho h=>aa h fun k1 h=>aa h fun k2 k3=>⟨mg,hg,⟨bm,o,hl _ _ (ao hb fun v hv e=>ao hv fun w hw z=>hw.trans (congrArg some ((show w=some v from z).trans (congrArg some (gw e))))),bne_iff_ne.mp h1,bne_iff_ne.mp h2,nP (ht _ _ ho),T _ _ ho,eq_of_beq k1,eq_of_beq k2,yt k3⟩,(lp ht X.pok.gns.1).elim fun _ z=>z.1.elim fun _ z=>z.elim fun _ z=>z.elim fun _ z=>nP z.1⟩
noncomputable def tq (name qual:Str) (params:Arguments) (body:FuncBody) (scope:Scope) (clos:List (Str×Addr)) (doc pm cv ctv:Value):FuncData:={ name,qualname:=qual,params,body,scope,globals:=mainGlobals,closure:=clos,defaults:=.none,kwdefaults:=.none,doc,pyModule:=pm,annotations:=none,code:=cv,closureTuple:=ctv,builtins:=builtinsNs }
theorem xx {p:Nat} {cl:List (Nm×Nat)} {name qual:Str} {params:Arguments} {body:FuncBody} {scope:Scope} {env:Env} {pos:Pos} {line:Nat} {clos:List (Str×Addr)} {k:KV} {Q:Value->Shared->Prop} {qn:Nat->Nat->Str}
    (hb:(∃ ss,body=.stmts ss)∨∃ e,body=.expr e) (hC:xw X env.code qn) (hq:qn pos.line pos.col=qual) (ht:X.K.In F.h₀) (hglob:env.globals=mainGlobals) (hclos:closureFor scope env=pure clos)
    (hcl:∀ n i,look cl n=some i->i < V.n∧clos.lookup (tx n)=some (V.at_ i)) (hfn:∀ doc pm cv ctv,X.fn p (tq name qual params body scope clos doc pm cv ctv))
    (R:Rel X F V σ s) (h:new (.fn p cl) σ (fun i σ=>k (.own i) σ)=true) (hk:KOk X F V k Q):wpAny (model X.prog X.w) A (makeFunction name qual params body scope env [] [] [] pos line) Q E s:=by
  obtain ⟨P,hPt,h1,CX⟩:=hC
  obtain ⟨hcode,hoc,hcls,hd,h11,r1,r2,r3,r4⟩:=CX
  rename_i c oc vs file tf flags tg inF text tt
  have T:X.K.In s.heap:=ht.keeps fun b o e=>R.keep e
  refine (R.mem.cd.tb _ hPt).rec fun ps mP hP tr am=>(R.mem.cd.cs _ mP).rec fun _ aP _ _=>?_
  obtain ⟨mg,hg,hB,hgP⟩:=tn R ht aP
  have C:CodeHd s.heap c P:=⟨oc,vs,file,tf,flags,tg,inF,text,tt,T _ _ hoc,hcls,hd,h11,by rw [Array.getD_eq_getD_getElem?,h11]; rfl,r1,r2,r3,r4,fun q=>nn ((q▸aP.h0).symm.trans (ht _ _ hoc))⟩
  have fin:∀ {V1:Pl} {h1:Heap} {doc pm cv ctv:Value} {tk:Tok},V.le V1->Rel X F V1 σ { s with heap:=h1,toks:=tk }->ec V1 cv qual->Q (.ref h1.objs.size) { s with heap:=h1.push { cls:=.type "function", data:=.func (tq name qual params body scope clos doc pm cv ctv) },toks:=tk }:=fun {V1 h1 doc pm cv ctv tk} l1 R1 hcv=>have l2:=Pl.le_trans l1 (Pl.le_add V1 h1.objs.size)
    hk (.own σ.n) _ _ _ _ l2 (R1.push (o:=.fn p cl) rfl (.mk _ rfl (hfn doc pm cv ctv) (hcv.cs (Pl.le_add V1 h1.objs.size).3) fun n i hi=>gx l2 (P:=fun a=>clos.lookup (tx n)=some a) (hcl n i hi)) tk) (cP R1.n _) h
  cases hf:codeAmong pos ps.toList with
  | none=>
    have miss:∀ {c':Addr} {ctv doc:Value} {h':Heap} {tk:Nat},Heap.ExtBut P s.heap h'->s.heap.objs.size≤c'->h'.CodeRec (.ref c') qual->h'.get? P=some (tabObj (ps++#[rawInt pos.line,rawInt pos.col,.ref c']))->
        Q (.ref h'.objs.size) { s with heap:=h'.push { cls:=.type "function", data:=.func (tq name qual params body scope clos doc ((mg "__name__").getD .none) (.ref c') ctv) },toks:=tk }:=by
      intro c' ctv doc h' tk hx hge rc htb
      obtain ⟨c2,o2,v2,t2,e2,g2,d2,n2⟩:=rc
      cases e2
      exact fin (Pl.le_tabs fun p=>.tail _) ⟨R.mem.code hPt h1 hP (pos:=pos) hx hge g2 d2 (hq.symm▸n2) htb,R.n,R.facts,R.os,R.gens⟩ (.mk (.head _) d2 n2)
    obtain ⟨ss,rfl⟩ | ⟨e,rfl⟩:=hb
    · exact makeFunction_K hclos hglob hg hcode C hP tr hf hgP hB fun c' ctv doc h' tk a b _ d e=>miss a b d e
    · exact kla_makeFunction hclos hglob hg hcode C hP tr hf hgP hB fun c' ctv h' tk a b _ d e=>miss a b d e
  | some cv=>
    have hcv:ec V cv qual:=hq▸am pos cv hf
    obtain ⟨ss,rfl⟩ | ⟨e,rfl⟩:=hb
    · exact makeFunction_hit hclos hglob hg hcode C hP tr hf hB fun ctv doc h' tk a _=>fin (Pl.le_refl V) (R.ext a tk) hcv
    · exact kla_makeFunctionHit hclos hglob hg hcode C hP tr hf hB fun ctv h' tk a _=>fin (Pl.le_refl V) (R.ext a tk) hcv
end
end
section
variable {X:Cx} {sc:Scope}
section
variable {f:Nat} {r:Rc} {A:Around} {env:Env} {ae:AE} {F:Fm} {V:Pl} {σ:St} {s:Shared} {scope:Scope} {fr:List Nm}
theorem E0 {x:Str} {p:Pos} {t:Tg} {a:AV} {v:Value} {k:St->T} {Q:Unit->Shared->Prop} {E:Value->Shared->Prop} (hT:ig X sc (.Name x p) t) (hf:Fit X f r sc A env ae F V) (R:Rel X F V σ s) (d:den X V a v) (h:zV X.P ae t a σ k=true) (hk:LOk X F V k Q):wpAny (model X.prog X.w) A (storeName env x v) Q E s:=by
  cases hT with
  | loc hx hl=>exact gd hf hx hl R d fun s' R'=>hk V _ s' (Pl.le_refl V) R' h
  | cel hx hl=>exact ad h fun i hi h=>ad h fun y hy h=>aa h fun hlk h=>ao hy fun o ho hy=>have ho':σ.t.get i=some (.cell y):=ho.trans (congrArg some (aj.cell_of hy))
      (R.obj ho').rec fun ob _ hob _ _ r=>i5.rec (fun y' hd1 _=>wpAny_storeName_cell hf.env_kind (hf.name hl) (hx▸(hf.cells _ i hi).2) ⟨ob,hob,hd1⟩ fun h' q hs=>q.elim fun ob' q=>hk V _ _ (Pl.le_refl V) (R.upd (o':=.cell (some a)) ho' (nt hlk) hs q.1 (i5.mk _ q.2 fun a' e=>⟨v,rfl,sm e▸d⟩) s.toks) h) r
structure Bu (X:Cx) (sc:Scope) (p:Nat) (fr:List Nm) (name:Str) (params:Arguments) (body:FuncBody) (scope:Scope) (pos:Pos) (last:Str):Prop where
  fr:fr.map tx=bY scope
  cq:∀ code qual,X.cq sc code qual->∃ qn,xw X code qn∧qn pos.line pos.col=qual++last
  fn:∀ qual clos doc pm cv ctv,X.fn p (tq name qual params body scope clos doc pm cv ctv)
theorem nc (hf:Fit X f r sc A env ae F V) (hfr:fr.map tx=bY scope) {cl:List (Nm×Nat)} (hclos:closure ae fr=some cl):∃ clos,closureFor scope env=pure clos∧∀ n i,look cl n=some i->i < V.n∧clos.lookup (tx n)=some (V.at_ i):=by
  have hcs:=fU hf.cells fr hclos
  refine ⟨fr.map fun n=>(tx n,(env.cells.lookup (tx n)).getD 0),?_,hcs.2⟩
  rw [fT (g:=fun n=>(env.cells.lookup n).getD 0) fun x hx e=>(List.mem_map.mp (hfr▸List.mem_reverse.mpr (List.mem_map.mpr ⟨x,List.mem_filter.mpr ⟨hx,by rw [e]; rfl⟩,rfl⟩):x.1∈fr.map tx)).elim fun n z=>z.2▸hcs.1 n z.1,← hfr,List.map_map]; rfl
end
theorem E1 {p:Nat} {fr:List Nm} {params:Arguments} {body:Expr} {scope:Scope} {pos:Pos} (hdef:∀ env,defaultsOf params env=([],[])) (H:Bu X sc p fr "<lambda>" params (.expr body) scope pos "<lambda>"):aK X sc (.Lambda params body scope pos) (se p fr):=
  fun hr hf R h he hk=>ad h fun cl hcl h=>(nc hf H.fr hcl).elim fun clos z=>(H.cq _ _ hf.cq).elim fun qn w=>kla_eval (hdef _) (xx (.inr ⟨body,rfl⟩) w.1 w.2 hf.top hf.glob z.1 z.2 (fun doc pm cv ctv=>H.fn _ _ doc pm cv ctv) R h hk)
theorem Bv {p:Nat} {fr:List Nm} {name:Str} {params:Arguments} {body:List Stmt} {scope:Scope} {np pos:Pos} {t:Tg} (hT:ig X sc (.Name name np) t) (hd0:params.defaults=[]) (hk0:params.kw_defaults=[]) (ha:∀ env,annTrees params none env=[])
    (H:Bu X sc p fr name params (.stmts body) scope pos name):fH X sc (.FunctionDef name params body [] none [] scope none name pos) (Ai X.P p fr t):=
  fun {f r A env ae F V σ s k ke Q E} hr hf R h he hk=>ad h fun cl hcl h=>(nc hf H.fr hcl).elim fun clos z=>(H.cq _ _ hf.cq).elim fun qn w=>nestDef_K hd0 hk0 (ha _) (by
    have hne:qualnameIn env name name=env.qual++name:=by
      unfold qualnameIn
      cases hT with
      | loc _ hl=>rw [hf.name hl]; exact if_neg (by decide)
      | cel _ hl=>rw [hf.name hl]; exact if_neg (by decide)
    rw [hne]
    exact xx (k:=fun a σ=>zV X.P ae t a σ fun σ=>k .next σ) (.inl ⟨body,rfl⟩) w.1 w.2 hf.top hf.glob z.1 z.2 (fun doc pm cv ctv=>H.fn _ _ doc pm cv ctv) R h fun a v V1 σ1 s1 l1 R1 d1 q1=>E0 hT (hf.mono l1) R1 d1 q1 fun V2 σ2 s2 l2 R2 q2=>hk.next (Pl.le_trans l1 l2) R2 q2)
end
section
variable {X:Cx} {sc:Scope}
theorem vc {n:Nm} (h:kK n=true):Txt.isdigit (tx n)=eV n:=by
  have one:∀ c,c < 128->Unicode.isDigit c=(Nat.ble 48 c&&Nat.ble c 57):=by decide +kernel
  have e:(tx n).cps.all Unicode.isDigit=(dec n).all fun c=>Nat.ble 48 c&&Nat.ble c 57:=List.all_toArray.trans (by
    have ha:∀ c∈dec n,c < 128:=fun c hc=>Nat.le_of_ble_eq_true (List.all_eq_true.mp h c hc)
    generalize dec n=l at ha
    induction l with
    | nil=>rfl
    | cons c l ih=>rw [List.all_cons,List.all_cons,one c (ha c (.head _)),ih fun d hd=>ha d (.tail _ hd)])
  show (decide ((tx n).length > 0)&&(tx n).cps.all Unicode.isDigit)=_
  rw [e,show decide ((tx n).length > 0)=!(dec n).isEmpty by show decide ((dec n).length > 0)=_; cases dec n <;> rfl]
  rfl
theorem Bw {M:Model} {A:Around} {E:Value->Shared->Prop} {s:Shared} {env:Env} {c P:Addr} {ps:Array Value} {pos:Pos} {qualname:Str} {scope:Scope} {Q:Value->Shared->Prop} (hc:env.code=.ref c) (hok:s.heap.IsCode c P ps) (htab:s.heap.TableAt c P ps)
    (hQ:∀ code h' tk ps',Heap.ExtBut P s.heap h'->h'.IsCode c P ps'->h'.get? P=some (tabObj ps')->Q code { s with heap:=h',toks:=tk }):wpAny M A (genexprCode env pos qualname scope) Q E s:=by
  cases hnf:codeAmong pos ps.toList with
  | none=>exact wpAny_genexprCodeX hc hok htab hnf fun c' h' tk hx _ _ hok' _ ht' _=>hQ _ _ _ _ hx hok' ht'.2
  | some cv=>exact wpAny_genexprCode_hit hc hok hnf (hQ _ _ _ _ (Heap.ExtBut.refl _ _) hok htab.2)
structure HQ (X:Cx) (sc:Scope) (x:Str) (iter:Expr) (scope:Scope):Prop where
  cq:∀ code qual,X.cq sc code qual->∃ P∈X.tf,m9 X code P
  fr:bY scope=[]
  co:scope.isCoroutine=false
  cell:∀ y∈scope.names,y.2≠.cell
  h0:scope.names.lookup (".0" : Str)=some NameKind.local
  hx:scope.names.lookup x=some .local
  kind:scope.kind=.function
  dbg:(x==("__debug__" : Str))=false
  fold:∀ env v,genFold iter env v=pure v
  mth:∀ pe env whole,attributeBase (.Name x pe) ("isdigit" : Str) env whole=whole
theorem lD (n:Nat):passing (fun _=>true) n 0=List.range n:=by unfold passing; simp
section
variable {A:Around} {F:Fm} {V:Pl} {σ:St} {s:Shared}
theorem Bx {code:Value} {P:Addr} {h:Heap} {ps:Array Value} (ht:X.K.In F.h₀) (T:X.K.In h) (C:m9 X code P) (aP:eO F V σ.t P) (gP:h.get? P=some (tabObj ps)) (tP:TriplesOk ps.toList):∃ c,code=.ref c∧h.IsCode c P ps∧h.TableAt c P ps:=by
  obtain ⟨hcode,hoc,hoq,hd,h11,g1,g2,g3,g4⟩:=C
  exact ⟨_,hcode,⟨_,_,_,_,_,_,_,_,_,tabObj ps,T _ _ hoc,hd,by rw [Array.getD_eq_getD_getElem?,h11]; rfl,g1,g2,g3,g4,gP,rfl,tP,fun q=>nn ((q▸aP.h0).symm.trans (ht _ _ hoc))⟩,⟨_,_,T _ _ hoc,hoq,hd,h11⟩,gP⟩
end
theorem vd {x:Str} {iter:Expr} {it:C} {scope:Scope} {pn pe ap cp px gp pos:Pos} (H:HQ X sc x iter scope) (hp:(ap.endLine==cp.line)=true) (hall:sc.names.lookup ("all" : Str)=some .globalImplicit) (ha:look X.P.globs 6384748=some (.blt .all))
    (hst:∀ env,starEach [Expr.GeneratorExp (.Call (.Attribute (.Name x pe) "isdigit" ap) [] [] cp) [⟨.Name x px,iter,[],0⟩] scope gp] env=(false,eval (.GeneratorExp (.Call (.Attribute (.Name x pe) "isdigit" ap) [] [] cp) [⟨.Name x px,iter,[],0⟩] scope gp) env)::starEach [] env)
    (hx:aK X sc iter it):aK X sc (.Call (.Name "all" pn) [.GeneratorExp (.Call (.Attribute (.Name x pe) "isdigit" ap) [] [] cp) [⟨.Name x px,iter,[],0⟩] scope gp] [] pos) (ql it):=
  fun {f r A env ae F V σ s k ke Q E} hr hf R h he hk=>kQ h fun h1 h2 h=>by
    have hA:=hf.hand h1
    have hclos:closureFor scope env=pure []:=(fT (env:=env) (g:=fun _=>0) (scope:=scope) fun y hy e=>(nomatch (H.fr▸List.mem_reverse.mpr (List.mem_map.mpr ⟨y,List.mem_filter.mpr ⟨hy,by rw [e]; rfl⟩,rfl⟩):y.1∈([]:List Str)))).trans (by rw [H.fr]; rfl)
    obtain ⟨P,hPf,CX⟩:=H.cq _ _ hf.cq
    refine wpAny_Call_Name_kw (dH (n:=6384748) (by decide +kernel) hall (by decide +kernel) ha hf R fun v hv=>(hv.den (X:=X) (V:=V):v=.builtin "all")▸eZ (by unfold backTo; rw [hst]; rfl) (wpAny_items_cons ?_ (hst env)))
    refine wpAny_GeneratorExp_walksQ hA H.co hclos H.cell H.h0 H.hx H.kind (Nat.lt_of_le_of_lt (Nat.le_add_right _ _) hf.depth) (hx hr hf R h he fun src v V1 σ1 s1 l1 R1 d1 q1=>ad q1 fun xs hxs q1=>ad q1 fun L hL q1=>aa q1 fun hchk q1=>aa hchk fun hle hasc=>ao hxs fun i hi hxs=>aW (P:=fun v=>wpAny _ A (pyIter v) _ E s1) (AV.own_of hi▸d1) fun _=>R1.list (list_of hxs) fun arr hl al=>?_) (H.fold env)
    have hat:=qO al hL
    have hsz:arr.size=L.length:=hat.len
    have hlt:V1.at_ i < s1.heap.objs.size:=hl.elim fun o z=>Heap.lt_size z.1
    refine wpAny_pyIter_list hl ?_
    have R2:Rel X F V1 σ1 { s1 with heap:=s1.heap.push { cls:=.type "list_iterator", data:=.fields #[.ref (V1.at_ i),.int 0 0] } }:=R1.pushU s1.toks
    have hIt:(s1.heap.push { cls:=.type "list_iterator", data:=.fields #[.ref (V1.at_ i),.int 0 0] }).IsListIter s1.heap.objs.size (V1.at_ i) 0:=⟨_,Heap.get?_push_size _ rfl,rfl,rfl⟩
    have awI:=R1.away (dM s1.heap)
    have hl2:=hl.push { cls:=.type "list_iterator", data:=.fields #[.ref (V1.at_ i),.int 0 0] }
    generalize s1.heap.push { cls:=.type "list_iterator", data:=.fields #[.ref (V1.at_ i),.int 0 0] }=h2 at R2 hIt hl2
    have limOf:∀ {s':Shared},Rel X F V1 σ1 s'->s'.heap.NoLimit:=fun R'=>hf.lim.keeps fun _ _=>R'.keep
    refine ⟨limOf R2,(R2.mem.cd.tf P hPf).rec fun ps mP gP tP _=>(R2.mem.cd.cs _ mP).rec fun _ aP _ _=>(Bx (σ:=σ1) hf.top (hf.top.keeps fun _ _=>R2.keep) CX aP gP tP).elim fun c z=>Bw z.1 z.2.1 z.2.2 fun code h3 tk3 ps3 hx3 hok3 gP3=>?_⟩
    obtain ⟨_,_,_,_,_,_,_,_,_,op3,_,_,_,_,_,_,_,gP4,dP4,tP3,_⟩:=hok3
    cases gP3.symm.trans gP4; cases dP4
    have R3:Rel X F V1 σ1 { s1 with heap:=h3,toks:=tk3 }:=⟨R2.mem.codeF hPf hx3 gP3 tP3,R2.n,R2.facts,R2.os,R2.gens⟩
    have hIt3:h3.IsListIter s1.heap.objs.size (V1.at_ i) 0:=hIt.at fun o e=>hx3 _ o (fun q=>awI.cs _ mP q.symm) e
    have hl3:h3.IsList (V1.at_ i) arr:=hl2.at fun o e=>hx3 _ o (aP.ob i _ (list_of hxs)) e
    obtain ⟨mg,hg,⟨bm,obm,k1,k2,k3,k4,k5,k6,k7,k8⟩,_⟩:=tn R3 hf.top aP
    rw [hf.glob]
    refine wpAny_builtinsFor hg k1 k2 k5 k6 k7 k8 ?_
    have hcI:cStatics≠s1.heap.objs.size:=fun q=>hf.lim.elim fun _ z=>z.1.elim fun o z=>z.elim fun _ z=>z.elim fun _ z=>nn ((q▸awI.a0.h0).symm.trans z.1)
    have awC:=R3.away (dM h3)
    refine ⟨s1.heap.objs.size,[s1.heap.objs.size,V1.at_ i],[s1.heap.objs.size],arr.size,_,_,fun _=>true,fun i y=>y=.bool (eV (L.getD i 0)),rfl,(fun A' hA'=>Walks.list hA' _ _ (Nat.ne_of_lt hlt) arr),⟨hIt3,hl3⟩,fun b hb=>?_,limOf R3,fun hm=>hcI (List.mem_singleton.mp hm),fun href hk3=>⟨fun A' E' j v t m3 hA' hj hns hm hk4=>?_,fun A' E' j v t m3 hA' hj _ hns hm hk4=>?_⟩,fun a h5 tk5 gs hbare ha hsz5 hk5 W5 G5=>?_⟩
    · exact (List.mem_cons.mp hb).elim (fun z=>z▸hIt3.elim fun o e=>Heap.lt_size e.1) fun hb=>List.mem_singleton.mp hb▸hl3.elim fun o e=>Heap.lt_size e.1
    · rw [List.forIn_nil]; exact wpAny_pure ⟨rfl,t.heap,t.toks,rfl,fun _ _ e=>e⟩
    · obtain ⟨n,hn,u,rfl⟩:=hat.ofA hj
      refine MethodCall_ (pl:=do return (← importBound (.Name x pe) (genEnv scope [] h3.objs.size code builtinsNs env)).getD true) (wpAny_Name (wpAny_loadName_local (by exact H.kind) (by exact H.hx) hns hm ?_) H.dbg) (gF (H.mth pe _) rfl (by decide) hp)
      refine GM.isdigit (callWith_method0 (SC.isdigit ⟨?_,t.heap,t.toks,rfl,fun _ _ e=>e⟩))
      rw [vc (List.all_eq_true.mp hasc _ (List.mem_of_getElem? hn)),List.getD_eq_getElem?_getD,hn]; rfl
    · refine wpAny_items_nil ⟨kS _,?_⟩
      obtain ⟨fp,wr,g,St,W,hst5,hfpw⟩:∃ fp wr g St,WalksS X.prog X.w A.in4 a fp wr (GenOnlyQ g) (passing (fun _=>true) arr.size 0).length (fun j y=>∃ i,(passing (fun _=>true) arr.size 0)[j]?=some i∧y=.bool (eV (L.getD i 0))) St∧St 0 _∧wr=[h3.objs.size,s1.heap.objs.size]:=⟨_,_,_,_,W5,G5,rfl⟩
      have W:=W.in4_1
      refine call_all_walkS (W.self 0 _ _ _ hst5 ⟨a,fp,wr,GenOnlyQ g,_,_,St,fun j=>eV (L.getD j 0),rfl,W,hst5,fun j v t Q' E' hj hq=>?_,fun s' hm=>?_⟩)
      · obtain ⟨i',e1,rfl⟩:=hj
        rw [lD] at e1
        obtain ⟨e2,e3⟩:=List.getElem?_eq_some_iff.mp e1
        rw [List.getElem_range] at e3
        exact e3▸wpAny_truthy_bool hq
      · have R6:Rel X F V1 σ1 s':=⟨(R3.ext hk5 tk5).mem.but (ws:=[h3.objs.size,s1.heap.objs.size]) (fun b hb=>(List.mem_cons.mp hb).elim (fun z=>z▸awC) fun hb=>List.mem_singleton.mp hb▸awI) (fun b o hb e=>hm.heap b o (hfpw▸hb) e),R3.n,R3.facts,hm.os.trans R3.os,AllBare.movedS (fun y hy=>(Array.mem_push.mp hy).elim (R3.gens y) fun z=>z▸hbare) hm⟩
        rw [show (List.range (passing (fun _=>true) arr.size 0).length).all (fun j=>eV (L.getD j 0))=L.all eV by rw [lD,List.length_range,hsz]; exact all_range L eV]
        exact hk (.bool (L.all eV)) _ V1 σ1 s' l1 R6 rfl q1
end
section
variable {X:Cx} {sc:Scope}
theorem By {o i:Expr} {x y:C} {p pos:Pos} (ho:∀ a r,letTemporaryGo o a r=pure ()) (hx:aK X sc o x) (hy:aK X sc i y):aK X sc (.Subscript o (.Slice (some i) none none p) pos) (Ah x y):=
  fun {f r A env ae F V σ s k ke Q E} hr hf R h he hk=>wpAny_Subscript_list_slice (hx hr hf R h he fun v ov V1 σ1 s1 l1 R1 d1 q1=>wpAny_evalPart_some (hy hr (hf.mono l1) R1 q1 (he.mono l1) fun j jv V2 σ2 s2 l2 R2 d2 q2=>wpAny_evalPart_none (ad q2 fun a ha q2=>ad q2 fun b hb q2=>ad q2 fun np hnp q2=>aa q2 fun hc q2=>aa hc fun c1 hc=>aa hc fun c2 hc=>aa hc fun c3 c4=>ao hnp fun ob hob hnp=>by
    have hi:σ2.t.get a=some (.plist np.1 np.2):=aj.plist_of hnp▸hob
    obtain ⟨_,rfl⟩:=(AV.own_of ha▸aI l2 d1:den X V2 (.own a) ov)
    obtain ⟨t,rfl⟩:=(AV.int_of hb▸d2:den X V2 (.int b) jv)
    refine R2.plistO hi fun ob arr nn pre post hob hcl hdn hdt hlp hpre al=>?_
    have hb:b.den X.nu=(pre.length:Int):=by rw [hpre]; unfold IV.den; rw [nb c1,hZ c2]
    have c4:=bc R2.facts c4
    rw [IV.den_k X.h0,← hpre] at c4
    have hlen:arr.size=pre.length + post.length:=by rw [← Array.length_toList,hlp,List.length_append]
    have hpl:post.length≤900:=al.length▸Nat.le_of_ble_eq_true c3
    refine ⟨_,arr,some (pre.length:Int),none,rfl,⟨ob,hob,hcl,nn,hdt⟩,Nat.le_trans (show arr.size≤100900 by omega) (by decide),hb▸.int _ _,.none,?_⟩
    have R3:=R2.pushU (ob:={ cls:=.type "slice", data:=.fields #[.int (b.den X.nu) t,.none,.none] }) s2.toks
    rw [show slicePick arr (some (pre.length:Int)) none none=post.toArray by rw [slicePick_from',hlp]; simp]
    have R4:=R3.push (o:=.list np.2) (ob:={ cls:=.type "list", data:=.seq post.toArray }) rfl ⟨⟨rfl,rfl⟩,.mk post.toArray _ rfl (cZ (Pl.le_add _ _) al)⟩ s2.toks
    rw [← Heap.size_push s2.heap { cls:=.type "slice", data:=.fields #[.int (b.den X.nu) t,.none,.none] }]
    exact hk (.own σ2.n) _ _ _ _ (Pl.le_trans (Pl.le_trans l1 l2) (Pl.le_add _ _)) R4 (cP R3.n _) q2))) ho
theorem E2 {σ:St} {a b:IV} {k:KV} {G:Prop} (H:cC X.nu σ.f) (h:wM X.D .add a b σ k=true) (g:∀ τ r,bp X.nu σ τ->r.den X.nu=a.den X.nu + b.den X.nu->k (.int r) τ=true->G):G:=
  aQ h (fun e h=>g σ ⟨a.x,a.c + b.c⟩ (.refl H) (by rw [dL e]; exact (Int.add_assoc ..).symm) h) fun _ h=>aQ h (fun e h=>g σ ⟨b.x,a.c + b.c⟩ (.refl H) (by rw [dL e]; exact Int.add_left_comm ..) h) fun _ h=>jU (k:=fun v σ=>k (.int ⟨a.x,a.c + v⟩) σ) X.h0 H h fun τ as h=>g τ ⟨a.x,a.c + b.den X.nu⟩ as (Int.add_assoc ..).symm h
theorem Bz {o i e:Expr} {x y z:C} {p pos:Pos} (hx:aK X sc o x) (hy:aK X sc i y) (hz:aK X sc e z) (ha:∀ ov iv new,augStore i ov iv new=(do holding [new,ov,iv] (setItem ov iv new); release [new,ov,iv] []; pure .next)) :
    fH X sc (.AugAssign (.Subscript o i p) .Add e pos) (Iv X.P X.D x y z):=
  fun {f r A env ae F V σ s k ke Q E} hr hf R h he hk=>wpAny_AugAssign_Subscript_any (hx hr hf R h he fun v ov V1 σ1 s1 l1 R1 d1 q1=>hy hr (hf.mono l1) R1 q1 (he.mono l1) fun j jv V2 σ2 s2 l2 R2 d2 q2=>(i7 (A:=A) (E:=E) hf.top R2 (aI l2 d1) d2 q2 fun old oldv V3 σ3 s3 l3 R3 d3 q3=>by
    have l123:=Pl.le_trans (Pl.le_trans l1 l2) l3
    exact hz hr (hf.mono l123) R3 q3 (he.mono l123) fun b bv V4 σ4 s4 l4 R4 d4 q4=>ad q4 fun u hu q4=>ad q4 fun w hw q4=>by
      have l34:=Pl.le_trans l3 l4
      obtain ⟨t,rfl⟩:=(AV.int_of hu▸d3:den X V3 (.int u) oldv)
      obtain ⟨t',rfl⟩:=(AV.int_of hw▸d4:den X V4 (.int w) bv)
      exact AutoIntOps.iadd_0 (E2 R4.facts q4 fun τ r as e q5=>mT hf.top ((R4.asks as).toks _) (aI l34 (aI l2 d1)) (aI l34 d2) (fK e) q5 fun σ6 s6 R6 q6=>hk.next (Pl.le_trans l123 l4) R6 q6)).rec fun _ _ _ _ w=>w) ha
end
section
variable {X:Cx} {sc:Scope}
theorem au.rev {α β:Type} {R:α->β->Prop} {l:List α} {r:List β} (h:au R l r):au R l.reverse r.reverse:=by
  induction h with
  | nil=>exact .nil
  | cons a _ ih=>rw [List.reverse_cons,List.reverse_cons]; exact ih.append (.cons a .nil)
theorem gI (a:Addr) (h:Heap):Heap.SameBut a h h:=⟨rfl,fun _ _=>rfl⟩
theorem Rel.away_add {F:Fm} {V:Pl} {σ:St} {s:Shared} (R:Rel X F V σ s) {a b:Addr} {o:aj} (hb:b≠a) (x:cM F V σ.t b):cM F (V.add a) (σ.add o).t b:=
  ⟨⟨x.a0.h0,x.a0.L,x.a0.kp,x.a0.sus,fun i o' e=>by
    have e:(Tr.set o σ.t σ.n).get i=some o':=e
    rw [Tr.get_set] at e
    exact (Decidable.em (i=σ.n)).elim (fun z=>by rw [z,← R.n,V.add_at]; exact hb.symm) fun z=>by rw [if_neg z] at e; rw [(V.le_add a).2 i ((R.obj e).rec fun _ lt _ _ _ _=>lt)]; exact x.a0.ob i o' e⟩,x.cs⟩
theorem qR {F:Fm} {s:Shared} {k:List AV->St->T} {Q:Prop} (es:List (Nm×AV)):∀ {acc:List AV} {as accA:List Addr} {V:Pl} {σ:St},Rel X F V σ s->as.length=es.length->as.Pairwise (· < ·)->(∀ a∈as,cM F V σ.t a)->
    (∀ (j:Nat) (a:Addr) (e:Nm×AV),as[j]?=some a->es[j]?=some e->∃ key x,den X V (kv e.1) key∧den X V e.2 x∧s.heap.get? a=some { cls:=.type "tuple", data:=.seq #[key,x] })->au (den X V) acc (accA.map Value.ref)->Af k es acc σ=true->
    (∀ V' σ' xs,V.le V'->Rel X F V' σ' s->au (den X V') xs ((accA.reverse++as).map Value.ref)->(∀ a,cM F V σ.t a->a∉as->cM F V' σ'.t a)->k xs σ'=true->Q)->Q:=by
  induction es with
  | nil=>
    intro acc as accA V σ R hl hp ha hg hacc h hk
    obtain rfl:=List.eq_nil_of_length_eq_zero hl
    exact hk V σ acc.reverse (Pl.le_refl V) R (by rw [List.append_nil,List.map_reverse]; exact hacc.rev) (fun a aw _=>aw) h
  | cons e es ih=>
    intro acc as accA V σ R hl hp ha hg hacc h hk
    cases as with
    | nil=>cases hl
    | cons a as=>
      obtain ⟨key,x,dk,dx,hob⟩:=hg 0 a e rfl rfl
      have le:=V.le_add a
      have hp:=List.pairwise_cons.mp hp
      have R':=R.adopt (o:=.tup [kv e.1,e.2]) (ha a (.head _)) (gI a s.heap) hob ⟨rfl,.mk #[key,x] 0 rfl (.cons (aI le dk) (.cons (aI le dx) .nil))⟩ s.toks
      exact ih (accA:=a::accA) R' (Nat.succ.inj hl) hp.2 (fun b hb=>R.away_add (Nat.ne_of_gt (hp.1 b hb)) (ha b (.tail _ hb))) (fun j b e' h1 h2=>(hg (j + 1) b e' h1 h2).imp fun _ z=>z.imp fun _ z=>⟨aI le z.1,aI le z.2.1,z.2.2⟩) (.cons (cP R.n a) (cZ le hacc)) h
        fun V' σ' xs l R2 d2 aw2 q=>hk V' σ' xs (Pl.le_trans le l) R2 (by rw [List.reverse_cons,List.append_assoc] at d2; exact d2) (fun b ab hb=>aw2 b (R.away_add (fun z=>hb (z▸.head _)) ab) fun z=>hb (.tail _ z)) q
theorem oC {o:Expr} {it:C} {pn ap cp pos:Pos} (hl:sc.names.lookup ("list" : Str)=some .globalImplicit) (hg:look X.P.globs 1818850164=some (.ty .list)) (ho:∀ env whole,attributeBase o ("items" : Str) env whole=whole) (hp:(ap.endLine==cp.line)=true)
    (hx:aK X sc o it):aK X sc (.Call (.Name "list" pn) [.Call (.Attribute o "items" ap) [] [] cp] [] pos) (gq it):=
  fun {f r A env ae F V σ s k ke Q E} hr hf R h he hk=>aa h fun hh h=>by
    have hA:=hf.hand (nt hh)
    refine wpAny_Call_Name_kw (dH (n:=1818850164) (by decide +kernel) hl (by decide +kernel) hg hf R fun v hv=>(hv.den (X:=X) (V:=V):v=.type "list")▸eZ rfl (wpAny_items_cons ?_ rfl))
    refine MethodCall_ (pl:=do return (← importBound o env).getD true) (hx hr hf R h he fun src v V1 σ1 s1 l1 R1 d1 q1=>ad q1 fun es hes q1=>aa q1 fun hlen q1=>ao hes fun i hi hes=>aW (P:=fun v=>wpAny _ A (getMethod v _ _) _ E s1) (AV.own_of hi▸d1) fun _=>R1.dict (dict_of hes) fun kvs D al=>D.dictAt.elim fun ep hat=>?_) (gF (ho env) rfl (by decide) hp)
    refine getMethod_builtin D.typeIs PySem.F.plainAttrs_dict PySem.F.slot_dict_items PySem.F.type_dict_items D.mapOf.noDict (callWith_method0 (call_meetsIn PySem.F.slot_dict_items D.typeIs PySem.F.entry_dict_items (PySem.F.args_dict_items_1 _) (meets_dict_items (strKind X.prog X.w) _ (R1.notMods hf.top (dict_of hes))) ⟨⟨_,D⟩,wpAny_items_nil ⟨pB _,?_⟩⟩))
    refine kdx_call (knd:=strKind X.prog X.w) (kvs:=kvs) (ep:=ep) hA ⟨_,Heap.get?_push_size _ rfl,rfl,rfl⟩ (hat.at' fun o e=>Heap.get?_push_of_some _ e) (Nat.le_trans (al.length▸Nat.le_of_ble_eq_true hlen) (by decide)) fun h' tk acc c as hk' hS has hG hacc=>?_
    have R3:=(R1.pushU (ob:={ cls:=.type "dict_items", data:=.fields #[.ref (V1.at_ i)] }) s1.toks).ext hk' tk
    have hz:(s1.heap.push { cls:=.type "dict_items", data:=.fields #[.ref (V1.at_ i)] }).objs.size=s1.heap.objs.size + 1:=Heap.size_push ..
    have fresh:∀ a,s1.heap.objs.size≤a->cM F V1 σ1.t a:=fun a ha=>R1.away (Heap.get?_none_of_le ha)
    refine qR (k:=fun xs σ=>new (.list xs) σ fun i σ=>k (.own i) σ) es (accA:=[]) R3 (has.trans al.length.symm) hG.rise (fun a ha=>fresh a ?_) (fun j a e h1 h2=>?_) .nil q1 fun V2 σ2 xs l2 R4 d4 aw4 q4=>?_
    · have h1:=hG.above a ha
      change (s1.heap.push { cls:=.type "dict_items", data:=.fields #[.ref (V1.at_ i)] }).objs.size < a at h1
      omega
    · obtain ⟨key,k',x,e1,e2,e3⟩:=hG.pairs j a h1
      obtain ⟨en,z1,rfl,z3⟩:=qA al e1
      cases h2.symm.trans z1
      obtain ⟨t,rfl⟩:=Value.isStrOf_shape e2
      exact ⟨_,x,cO _ t,z3,e3⟩
    · have awB:cM F V2 σ2.t (s1.heap.push { cls:=.type "dict_items", data:=.fields #[.ref (V1.at_ i)] }).objs.size:=aw4 _ (fresh _ (hz▸Nat.le_succ _)) fun hm=>Nat.lt_irrefl _ (hG.above _ hm)
      exact hk (.own σ2.n) _ _ _ _ (Pl.le_trans (Pl.le_trans l1 l2) (Pl.le_add _ _)) (R4.adopt (o:=.list xs) awB (gI _ _) hS ⟨⟨rfl,rfl⟩,.mk acc c rfl (by rw [hacc]; exact cZ (Pl.le_add _ _) d4)⟩ tk) (cP R4.n _) q4
end
section
variable {X:Cx} {sc:Scope}
section
variable {n:Str} {ns:List Str}
theorem ew {p:Str×Value} {l:List (Str×Value)}:(p::l).lookup n=if n=p.1 then some p.2 else l.lookup n:=by
  rw [List.lookup_cons]
  exact (Decidable.em (n=p.1)).elim (fun e=>by rw [if_pos e,beq_iff_eq.mpr e]) fun e=>by rw [if_neg e,beq_eq_false_iff_ne.mpr e]
theorem lW {vs:List Value}:n∉ns->(ns.zip vs).lookup n=none:=by
  induction ns generalizing vs with
  | nil=>exact fun _=>rfl
  | cons m ns ih=>
    intro h
    cases vs with
    | nil=>rfl
    | cons v vs=>rw [List.zip_cons_cons,ew,if_neg (show ¬ n=m from fun e=>h (e▸.head _))]; exact ih fun q=>h (.tail _ q)
theorem gO {vs:List Value}:n∈ns.take vs.length->((ns.zip vs).lookup n).isNone=false:=by
  induction ns generalizing vs with
  | nil=>exact fun h=>nomatch List.take_nil▸h
  | cons m ns ih=>
    intro h
    cases vs with
    | nil=>exact nomatch h
    | cons v vs=>
      rw [List.zip_cons_cons,ew]
      exact (Decidable.em (n=m)).elim (fun e=>by rw [if_pos e]; rfl) fun e=>by rw [if_neg e]; exact ih ((List.mem_cons.mp h).resolve_left e)
theorem ve {f:Str->Option Value} {vs:List Value}:ns.length=vs.length->ns.Nodup->(∀ n∈ns,f n=(ns.zip vs).lookup n)->(ns.filterMap fun n=>(f n).map fun v=>(n,v))=ns.zip vs:=by
  induction ns generalizing vs with
  | nil=>exact fun _ _ _=>rfl
  | cons n ns ih=>
    intro hl hn hf
    cases vs with
    | nil=>cases hl
    | cons v vs=>
      have hn:=List.nodup_cons.mp hn
      rw [List.filterMap_cons,hf n (.head _),List.zip_cons_cons,ew,if_pos rfl]
      exact congrArg ((n,v)::·) (ih (Nat.succ.inj hl) hn.2 fun m hm=>(hf m (.tail _ hm)).trans (by rw [List.zip_cons_cons,ew,if_neg (show ¬ m=n from fun e=>hn.1 (e▸hm))]))
noncomputable def orE (a b:Option Value):Option Value:=a.rec b some
theorem fW (l r:List (Str×Value)) (n:Str):(l++r).lookup n=orE (l.lookup n) (r.lookup n):=by
  induction l with
  | nil=>rfl
  | cons p l ih=>
    rw [List.cons_append,ew,ew]
    exact (Decidable.em (n=p.1)).elim (fun e=>by rw [if_pos e,if_pos e]; rfl) fun e=>by rw [if_neg e,if_neg e]; exact ih
theorem zd (l:List (Str×Value)):∀ slots:List (Str×Value),∃ out,(forIn l slots fun x r=>if (List.lookup x.1 r).isNone=true then pure (ForInStep.yield (r++[(x.1,x.2)])) else pure (ForInStep.yield r):Sem (List (Str×Value)))=pure out∧∀ n,out.lookup n=orE (slots.lookup n) (l.lookup n):=by
  induction l with
  | nil=>exact fun slots=>⟨slots,rfl,fun n=>by cases slots.lookup n <;> rfl⟩
  | cons p l ih=>
    intro slots
    rw [List.forIn_cons]
    by_cases h:(List.lookup p.1 slots).isNone=true
    · rw [if_pos h,pure_bind]
      refine (ih (slots++[(p.1,p.2)])).imp fun out z=>⟨z.1,fun n=>?_⟩
      rw [z.2,fW,ew (l:=l),ew]
      cases hs:slots.lookup n with
      | some v=>rfl
      | none=>exact (Decidable.em (n=p.1)).elim (fun e=>by rw [if_pos e,if_pos e]; rfl) fun e=>by rw [if_neg e,if_neg e]; rfl
    · rw [if_neg h,pure_bind]
      refine (ih slots).imp fun out z=>⟨z.1,fun n=>?_⟩
      rw [z.2,ew (l:=l)]
      cases hs:slots.lookup n with
      | some v=>rfl
      | none=>exact congrArg (orE none) (if_neg fun e=>h (by rw [← e,hs]; rfl)).symm
theorem kT {l:List Str} {r r':List Value} {k:Nat} (h:r.length=min k l.length):l.zip (r++r')=(l.take k).zip r++(l.drop k).zip r':=by
  have:=List.zip_append (l₁:=l.take k) (r₁:=l.drop k) (l₂:=r) (r₂:=r') (by rw [List.length_take,h])
  rw [List.take_append_drop] at this
  exact this
theorem BA {vals ds:List Value} (hdl:ds.length≤ns.length) (hv:vals.length≤ns.length) (hm:ns.length≤vals.length + ds.length) (n:Str) :
    orE ((ns.zip vals).lookup n) (((ns.drop (ns.length - ds.length)).zip ds).lookup n)=(ns.zip (vals++ds.drop (ds.length - (ns.length - vals.length)))).lookup n:=by
  have hj:ds.length - (ns.length - vals.length)=vals.length - (ns.length - ds.length):=by omega
  have e1:ns.zip vals=(ns.take vals.length).zip vals:=by
    have:=kT (l:=ns) (r:=vals) (r':=[]) (k:=vals.length) (Nat.min_eq_left hv).symm
    rw [List.append_nil,List.zip_nil_right,List.append_nil] at this
    exact this
  have e3:(ns.drop (ns.length - ds.length)).zip ds=((ns.drop (ns.length - ds.length)).take (vals.length - (ns.length - ds.length))).zip (ds.take (vals.length - (ns.length - ds.length)))++(ns.drop vals.length).zip (ds.drop (vals.length - (ns.length - ds.length))):=by
    have h:=kT (l:=ns.drop (ns.length - ds.length)) (r:=ds.take (vals.length - (ns.length - ds.length))) (r':=ds.drop (vals.length - (ns.length - ds.length))) (k:=vals.length - (ns.length - ds.length)) (by rw [List.length_take,List.length_drop]; omega)
    rw [List.take_append_drop,List.drop_drop,show ns.length - ds.length + (vals.length - (ns.length - ds.length))=vals.length by omega] at h
    exact h
  rw [kT (k:=vals.length) (Nat.min_eq_left hv).symm,fW,e1,hj]
  cases hs:List.lookup n ((ns.take vals.length).zip vals) with
  | some v=>rfl
  | none=>
    rw [e3,fW,lW fun q=>?_]
    · rfl
    · have z:=gO (n:=n) (ns:=ns.take vals.length) (vs:=vals) (by rw [List.take_take,Nat.min_self]; exact List.mem_of_mem_drop (List.drop_take ..▸q))
      rw [hs] at z; exact ff z.symm
end
theorem vf {fd:FuncData} {s:Shared} {vals:List Value} {ns:List Str} {ds:List Value} (h1:fd.params.posonlyargs=[]) (h2:fd.params.args.map (·.arg)=ns) (h3:fd.params.kwonlyargs=[]) (h4:fd.params.vararg=none) (h5:fd.params.kwarg=none)
    (hd:(fd.defaults=.none∧ds=[])∨∃ T o n,fd.defaults=.ref T∧s.heap.get? T=some o∧o.data=.seq ds.toArray n) (hn:ns.Nodup) (hdl:ds.length≤ns.length) (hv:vals.length≤ns.length) (hm:ns.length≤vals.length + ds.length) :
    BindsTo s fd ⟨vals,[]⟩ (ns.zip (vals++ds.drop (ds.length - (ns.length - vals.length)))):=by
  have tail:∀ {M:Model} {A:Around} {E:Value->Shared->Prop} {Q:List (Str×Value)->Shared->Prop} (dv:Option (Array Value)),(dv.getD #[]).toList=ds->Q (ns.zip (vals++ds.drop (ds.length - (ns.length - vals.length)))) s->
      wpAny M A (seqItems? fd.defaults) (fun x s'=>x=dv∧s'=s) E s->wpAny M A (bindArgs fd ⟨vals,[]⟩) Q E s:=by
    intro M A E Q dv hdv hq hw
    unfold bindArgs
    simp only [h1,h2,h3,h4,h5,List.map_nil,List.nil_append,List.append_nil,List.forIn_nil,pure_bind,Option.isNone_none,Bool.and_true,List.isEmpty_nil,Bool.not_true,Bool.false_eq_true,if_false]
    refine wpAny_bind (wpAny_mono hw (fun x s' hx=>?_) fun _ _ e=>e)
    obtain ⟨rfl,rfl⟩:=hx
    have c3:(List.filter (fun n=>(List.lookup n (ns.zip vals)).isNone) (List.take (ns.length - ds.length) ns))=[]:=
      List.filter_eq_nil_iff.mpr fun n hn'=>by rw [gO (List.mem_of_mem_take (i:=ns.length - ds.length) (by rw [List.take_take,Nat.min_eq_left (show ns.length - ds.length≤vals.length by omega)]; exact hn'))]; decide
    rw [hdv,if_neg (show ¬ (decide (vals.length > ns.length)=true) from fun z=>absurd (of_decide_eq_true z) (Nat.not_lt.mpr hv)),Nat.sub_eq_zero_of_le hdl,List.drop_zero,c3]
    simp only [List.isEmpty_nil,Bool.not_true,Bool.false_eq_true,if_false]
    obtain ⟨out,e,ho⟩:=zd ((ns.drop (ns.length - ds.length)).zip ds) (ns.zip vals)
    refine wpAny_bind (wpAny_of_eq e (wpAny_pure ?_))
    rw [show (ns.filterMap fun n=>Option.map (Prod.mk n) (List.lookup n out))=ns.zip (vals++ds.drop (ds.length - (ns.length - vals.length))) from ve (by rw [List.length_append,List.length_drop]; omega) hn fun n _=>(ho n).trans (BA hdl hv hm n)]
    exact hq
  exact fun M A E Q hq=>hd.elim (fun z=>tail none (z.2▸rfl) hq (z.1▸wpAny_pure ⟨rfl,rfl⟩)) fun z=>z.elim fun T z=>z.elim fun o z=>z.elim fun n z=>tail (some ds.toArray) rfl hq (z.1▸wpAny_seqItems z.2.1 z.2.2 ⟨rfl,rfl⟩)
end
section
variable {X:Cx} {sc:Scope}
structure iY (X:Cx) (fd:FuncData) (fn:Fn):Prop where
  kind:fd.scope.kind=.function
  co:fd.scope.isCoroutine=false
  gen:fd.scope.isGenerator=false
  glob:fd.globals=mainGlobals
  blt:fd.builtins=builtinsNs
  cq:X.cq fd.scope fd.code (fd.qualname ++ ".<locals>.")
  p1:fd.params.posonlyargs=[]
  p2:fd.params.args.map (·.arg)=fn.params.map tx
  p3:fd.params.kwonlyargs=[]
  p4:fd.params.vararg=none
  p5:fd.params.kwarg=none
  nodup:fn.params.Nodup
  dflt:(fd.defaults=.none∧fn.dflt=[])∨∃ T o n ds,fd.defaults=.ref T∧X.K.lookup T=some o∧o.data=.seq (List.toArray ds) n∧∀ V,au (den X V) fn.dflt ds
  dlen:fn.dflt.length≤fn.params.length
  kinds:∀ n∈fn.params,fd.scope.names.lookup (tx n)=some (if n∈fn.cells then .cell else .local)
section
variable {V:Pl}
theorem au.zipK {ns:List Nm}:∀ {as:List AV} {vs:List Value},au (den X V) as vs->au (kvR X tx V) (ns.zip as) ((ns.map tx).zip vs):=by
  induction ns with
  | nil=>exact fun _=>.nil
  | cons n ns ih=>
    intro as vs h
    cases h with
    | nil=>exact .nil
    | cons d ds=>exact .cons ⟨rfl,d⟩ (ih ds)
theorem au.drop {α β:Type} {R:α->β->Prop} {l:List α} {r:List β} (h:au R l r):∀ n,au R (l.drop n) (r.drop n):=by
  induction h with
  | nil=>exact fun n=>by rw [List.drop_nil,List.drop_nil]; exact .nil
  | cons a h ih=>exact fun n=>n.rec (.cons a h) fun n _=>ih n
theorem bO {β:Type} {n:Nat} {a:β} {l:List (Nat×β)}:look l n=some a->(n,a)∈l:=by
  induction l with
  | nil=>exact nn
  | cons p l ih=>
    rw [bq]
    exact (Decidable.em (p.1=n)).elim (fun e=>by rw [if_pos e]; exact fun h=>sm h▸e▸.head _) fun e=>by rw [if_neg e]; exact fun h=>.tail _ (ih h)
theorem au.memL {α β:Type} {R:α->β->Prop} {l:List α} {r:List β} (h:au R l r) {a:α} (ha:a∈l):∃ b,b∈r∧R a b:=by
  induction h with
  | nil=>exact nomatch ha
  | cons q _ ih=>exact (List.mem_cons.mp ha).elim (fun e=>⟨_,.head _,e▸q⟩) fun ha=>(ih ha).imp fun _ z=>⟨.tail _ z.1,z.2⟩
theorem qS {x:Str} {v:Value} {l:List (Str×Value)}:(l.map (·.1)).Nodup->(x,v)∈l->l.lookup x=some v:=by
  induction l with
  | nil=>exact fun _ h=>nomatch h
  | cons p l ih=>
    intro hn h
    have hn:=List.nodup_cons.mp hn
    rw [ew]
    exact (List.mem_cons.mp h).elim (fun e=>by rw [← e,if_pos rfl]) fun h=>by rw [if_neg (show ¬ x=p.1 from fun e=>hn.1 (List.mem_map.mpr ⟨(x,v),h,e⟩))]; exact ih hn.2 h
theorem iY.bind {fd:FuncData} {fn:Fn} {s:Shared} {as:List AV} {xs:List Value} {bs:List (Nm×AV)} {G:Prop} (ok:iY X fd fn) (ht:X.K.In s.heap) (ha:au (den X V) as xs) (hb:Ab fn as=some bs)
    (g:∀ bv,BindsTo s fd ⟨xs,[]⟩ bv->au (kvR X tx V) bs bv->(bv.map (·.1)).Nodup->(∀ b∈bs,b.1∈fn.params)->G):G:=by
  refine bg hb (fun hc hb=>aa hc fun c1 c2=>?_) fun _=>nn
  have hl:=ha.length
  have c1:=Nat.le_of_ble_eq_true c1
  have c2:=Nat.le_of_ble_eq_true c2
  obtain ⟨ds,hd,hdd⟩:∃ ds,((fd.defaults=.none∧ds=[])∨∃ T o n,fd.defaults=.ref T∧s.heap.get? T=some o∧o.data=.seq (List.toArray ds) n)∧au (den X V) fn.dflt ds:=
    ok.dflt.elim (fun z=>⟨[],.inl ⟨z.1,rfl⟩,z.2▸.nil⟩) fun ⟨T,o,n,ds,e,h1,h2,h3⟩=>⟨ds,.inr ⟨T,o,n,e,ht _ _ h1,h2⟩,h3 V⟩
  have hdl:=hdd.length
  have e:(fn.params.map tx).length=fn.params.length:=List.length_map ..
  have hnd:(fn.params.map tx).Nodup:=ok.nodup.map tx fun a b hab e=>hab (jy e)
  have q:=vf (vals:=xs) (ns:=fn.params.map tx) (ds:=ds) ok.p1 ok.p2 ok.p3 ok.p4 ok.p5 hd hnd (by rw [e,← hdl]; exact ok.dlen) (by rw [e,← hl]; exact c1) (by rw [e,← hl,← hdl]; exact c2)
  rw [e,← hl,← hdl] at q
  rw [← sm hb] at g
  refine g _ q (au.zipK (ha.append (hdd.drop _))) ?_ fun b hb=>(List.of_mem_zip (a:=b.1) (b:=b.2) hb).1
  rw [List.map_fst_zip]
  · exact hnd
  · rw [e,List.length_append,List.length_drop,← hl,← hdl]; omega
end
noncomputable def cI (fd:FuncData) (L a:Addr) (cells:List (Str×Addr)):Env:=newEnv fd.scope L fd.globals cells (fd.qualname ++ ".<locals>.") (some a) fd.code none fd.builtins
section
variable {f:Nat} {r:Rc} {fd:FuncData} {fn:Fn} {a:Addr} {A:Around} {F:Fm} {V V':Pl} {σ:St} {s:Shared} {k:KV} {ke:KE} {Q:Value->Shared->Prop} {E:Value->Shared->Prop} {L:Addr} {m:Str->Option Value} {cells:List (Str×Addr)} {cl:List (Nm×Nat)}
theorem pD {t:AT} {h:Heap} (ok:iY X fd fn) (fr:uM A F):∃ envs,A.frames=some envs∧∀ e∈cI fd L a cells::envs,e.scope.kind≠.module∧∃ Lf,e.frame=some Lf∧(Lf=(F.call V t h m L).L∨Lf∈(F.call V t h m L).sus.map (·.1)):=
  fr.rec fun envs hA hfr=>⟨envs,hA,fun e he=>(List.mem_cons.mp he).elim (fun z=>z▸⟨(fun q=>nomatch ok.kind.symm.trans q),L,rfl,.inl rfl⟩) fun he=>have z:=hfr e he; ⟨z.1,z.2.imp fun Lf z=>⟨z.1,.inr (z.2.elim (fun e=>e▸.head _) (.tail _))⟩⟩⟩
theorem BB (ok:iY X fd fn) (hroom:lS X (f + 1) A F) (R:Rel X F V σ s) (hcells:∀ n i,look cl n=some i->i < V'.n∧cells.lookup (tx n)=some (V'.at_ i)) :
    Fit X f r fd.scope (A.deeper (cI fd L a cells)) (cI fd L a cells) ⟨cl,false,false⟩ (F.call V σ.t s.heap m L) V':=by
  obtain ⟨envs,hA,hfr⟩:=pD (V:=V) (t:=σ.t) (h:=s.heap) (m:=m) (L:=L) (a:=a) (cells:=cells) ok hroom.frames
  have eA:(A.deeper (cI fd L a cells)).frames=some (cI fd L a cells::envs):=by show A.frames.map _=_; rw [hA]; rfl
  exact ⟨rfl,ok.glob,ok.blt,rfl,ok.kind,hcells,fun _=>hroom.hand,fun _=>⟨rfl,envs,eA⟩,.inl hroom.hand,by have:=hroom.depth; show A.depth + 1 + 5 * f < 1000; omega,by have:=hroom.units; show A.units + 3 + 25 * f < 9000; omega,.mk _ eA hfr,fun b o e=>R.mem.baseKeeps (hroom.top b o e),hroom.lim.imp fun mc z=>⟨et (fun _=>R.mem.baseKeeps) z.1,z.2⟩,ok.cq⟩
noncomputable def IS (σ:St) (k:KV):KF:=fun fl τ=>fl.rec (k .none ((τ.wl σ.loc).wk σ.locks)) false fun a=>k a ((τ.wl σ.loc).wk σ.locks)
theorem HR (R:Rel X F V σ s) (hm:s.heap.Ns F.L m) (hk:KOk X F V k Q):mQ X (F.call V σ.t s.heap m L) V (IS σ k) fun fl s'=>Ret Q E (.ok (.ret (match fl with | .ret v=>v | _=>.none))) s':=fun fl fw V2 σ2 s2 l2 R2 d2 q2=>by
  have B:=R.back hm l2 R2
  cases d2 with
  | next=>exact hk .none .none V2 _ s2 l2 B rfl q2
  | cont=>exact ff q2
  | ret d=>exact hk _ _ V2 _ s2 l2 B d q2
theorem BC (ok:iY X fd fn) (hroom:lS X (f + 1) A F) (R:Rel X F V σ s) (hm:s.heap.Ns F.L m) (hke:dq X F V ke E):dq X (F.call V σ.t s.heap m L) V (fun c τ=>ke c ((τ.wl σ.loc).wk σ.locks))
    fun e s'=>wpAny (model X.prog X.w) (A.deeper (cI fd L a cells)) («leaving» (cI fd L a cells) e) (fun _ s''=>Ret Q E (.error e) s'') (fun e' s''=>Ret Q E (.error e') s'') s':=fun c ev V2 σ2 s2 l2 x2 q2=>(pD (V:=V) (t:=σ.t) (h:=s.heap) (m:=m) (L:=L) (a:=a) (cells:=cells) ok hroom.frames).elim fun envs z=>Exn.leave R hm ⟨rfl,envs,by show A.frames.map _=_; rw [z.1]; rfl,z.2⟩ l2 x2 fun s' x'=>hke c ev V2 _ s' l2 x' q2
noncomputable def E3 (X:Cx) (fd:FuncData) (fn:Fn) (a:Addr) (ss:List Stmt):Prop:=∀ {f r A ae F V σ s k ke Q E} {L:Addr} {cells:List (Str×Addr)},dz X f r->Fit X f r fd.scope A (cI fd L a cells) ae F V->cells=fd.closure∨fd.closure=[]->Rel X F V σ s->stmts r ae ke fn.body k σ=true->dq X F V ke E->mQ X F V k Q->
  _root_.PySem.wpAt (model X.prog X.w) A (.func ss (cI fd L a cells)) (execs ss (cI fd L a cells)) Q E s
inductive BodyOk (X:Cx) (fd:FuncData) (fn:Fn) (a:Addr):Prop
  | stmts {ss} (h:fd.body=.stmts ss) (run:E3 X fd fn a ss)
  | expr {e x} (h:fd.body=.expr e) (hx:aK X fd.scope e x) (hb:fn.body=[aL x])
theorem j2 {ss:List Stmt} (h:fd.body=.stmts ss) (hs:SndSs X fd.scope ss fn.body):BodyOk X fd fn a:=.stmts h fun hr hf _ R h he hk=>wpAt_of_wpAny (hs hr hf R h he hk)
theorem tw (hr:dz X f r) (ok:iY X fd fn) (hb:BodyOk X fd fn a) (hc:fn.cells=[]) (hnc:∀ x∈fd.scope.names,x.2≠.cell) {ob:Obj} (ho:s.heap.get? a=some ob) (hdt:ob.data=.func fd) (hcd:s.heap.CodeRec fd.code fd.qualname)
    (hcl:∀ n i,look cl n=some i->i < V.n∧fd.closure.lookup (tx n)=some (V.at_ i)) {as:List AV} {xs:List Value} (hroom:lS X (f + 1) A F) (R:Rel X F V σ s) (hd:au (den X V) as xs) (h:wQ r fn cl as k ke σ=true) (hke:dq X F V ke E) (hk:KOk X F V k Q):codeAny (model X.prog X.w) A (.call (.ref a) ⟨xs,[]⟩) (Ret Q E) s:=
  ad h fun bs hbs h=>ok.bind (hroom.top.keeps fun _ _=>R.keep) hd hbs fun bv hbind hall hnd hpar=>R.fr.rec fun m K _=>by
    rw [hc] at h
    have h:stmts r ⟨cl,false,false⟩ (fun c τ=>ke c ((τ.wl σ.loc).wk σ.locks)) fn.body (IS σ k) (σ.wl bs)=true:=h
    have hkl:∀ x∈bv,fd.scope.names.lookup x.1=some .local:=fun x hx=>(hall.mem hx).elim fun b z=>z.2.1▸(ok.kinds b.1 (hpar b z.1)).trans (by rw [hc,if_neg List.not_mem_nil])
    have hlk:∀ n a,look bs n=some a->∃ v,bv.reverse.lookup (tx n)=some v∧den X V a v:=fun n a e=>(hall.memL (bO e)).elim fun v z=>⟨v.2,qS (by rw [List.map_reverse]; exact List.pairwise_reverse.mpr (hnd.imp fun h=>h.symm)) (List.mem_reverse.mpr (z.2.1▸z.1)),z.2.2⟩
    have fin:∀ h₁:Heap,h₁.Ns s.heap.objs.size (fun x=>bv.reverse.lookup x)->(∀ b o,s.heap.get? b=some o->h₁.get? b=some o)->Rel X (F.call V σ.t s.heap m s.heap.objs.size) V (σ.wl bs) { s with heap:=h₁,toks:=s.toks + bv.length }:=fun h₁ hns hkeep=>R.enter K.ns (Nat.le_refl _) hns hkeep hlk _
    have fit:Fit X f r fd.scope (A.deeper (cI fd s.heap.objs.size a fd.closure)) (cI fd s.heap.objs.size a fd.closure) ⟨cl,false,false⟩ (F.call V σ.t s.heap m s.heap.objs.size) V:=BB ok hroom R hcl
    have hdep:A.depth < recursionLimit:=Nat.lt_of_le_of_lt (Nat.le_add_right _ _) hroom.depth
    have hlim:=hroom.lim.keeps fun _ _=>R.keep
    cases hb with
    | stmts hbody hrun=>exact ks_codeAny_call_defAt hdep ho hdt hlim hcd hbody hbind hnc hkl (fun h₁ hns hkeep=>hrun hr fit (.inl rfl) (fin h₁ hns hkeep) h (BC ok hroom R K.ns hke) (HR R K.ns hk)) ok.co ok.gen ok.kind
    | expr hbody hx hfb=>
      rw [hfb] at h
      exact kla_callFunE hdep ho hdt ok.co ok.gen hbody hcd (hbind _ _ _ _ (wpAny_newFunctionEnv hnc hkl (fun h₁ hns hsb=>⟨hlim.fresh _ hsb,kla_codeExpr (hx (k:=fun a τ=>k a ((τ.wl σ.loc).wk σ.locks)) hr fit (fin h₁ hns fun b o e=>hsb.extBut b o (Nat.ne_of_lt (Heap.lt_size e)) (Heap.get?_push_of_some _ e)) h (BC ok hroom R K.ns hke) fun a v V2 σ2 s2 l2 R2 d2 q2=>hk a v V2 _ s2 l2 (R.back K.ns l2 R2) d2 q2)⟩) ok.kind))
end
end
section
variable {X:Cx} {sc:Scope}
inductive IT (X:Cx) (F:Fm) (V:Pl) (t:AT) (h:Heap) (cells:List (Str×Addr)) (n:Nm) (x:Option AV):Prop
  | mk {c ob y} (e:cells.lookup (tx n)=some c) (g:h.get? c=some ob) (aw:cM F V t c) (d:ob.data=.cell y) (v:∀ a,x=some a->∃ v,y=some v∧den X V a v)
theorem i8 {F:Fm} {s:Shared} {bs:List (Nm×AV)} {cells:List (Str×Addr)} {k:List (Nm×Nat)->St->T} {P:Prop} (hap:∀ n n' c,cells.lookup (tx n)=some c->cells.lookup (tx n')=some c->n=n') (l:List Nm):∀ {cl:List (Nm×Nat)} {V:Pl} {σ:St},l.Nodup->Rel X F V σ s->
    (∀ n∈l,IT X F V σ.t s.heap cells n (look bs n))->(∀ n i,look cl n=some i->i < V.n∧cells.lookup (tx n)=some (V.at_ i))->jQ bs k l cl σ=true->
    (∀ V' σ' cl',V.le V'->Rel X F V' σ' s->(∀ n i,look cl' n=some i->i < V'.n∧cells.lookup (tx n)=some (V'.at_ i))->k cl' σ'=true->P)->P:=by
  induction l with
  | nil=>exact fun hn R hc hcl h hk=>hk _ _ _ (Pl.le_refl _) R hcl h
  | cons n l ih=>
    intro cl V σ hn R hc hcl h hk
    have hn:=List.nodup_cons.mp hn
    exact (hc n (.head _)).rec fun {c ob y} e g aw d v=>by
      have le:=V.le_add c
      have R':=R.adopt (o:=.cell (look bs n)) aw (gI c s.heap) g (i5.mk y d fun a ha=>(v a ha).imp fun _ q=>⟨q.1,aI le q.2⟩) s.toks
      refine ih hn.2 R' (fun n' hn'=>(hc n' (.tail _ hn')).rec fun e' g' aw' d' v'=>.mk e' g' (R.away_add (fun q=>hn.1 (hap n' n _ e' (q▸e)▸hn')) aw') d' fun a ha=>(v' a ha).imp fun _ q=>⟨q.1,aI le q.2⟩) (fun n' i e'=>?_) h fun V' σ' cl' l' R2 hcl' q=>hk V' σ' cl' (Pl.le_trans le l') R2 hcl' q
      rw [bq] at e'
      exact (Decidable.em (n=n')).elim (fun q=>by rw [if_pos q] at e'; rw [← q,← sm e',e,← R.n,V.add_at]; exact ⟨Nat.lt_succ_self _,rfl⟩) fun q=>by rw [if_neg q] at e'; exact gx le (P:=fun a=>cells.lookup (tx n')=some a) (hcl n' i e')
theorem e8 {n:Nm} {a:AV} (cs:List Nm):∀ {bs:List (Nm×AV)},look (cs.foldl (fun l c=>l.filter fun p=>!Nat.beq p.1 c) bs) n=some a->look bs n=some a∧n∉cs:=by
  induction cs with
  | nil=>exact fun h=>⟨h,List.not_mem_nil⟩
  | cons c cs ih=>
    intro bs h
    obtain ⟨h1,h2⟩:=ih h
    have key:∀ l:List (Nm×AV),look (l.filter fun p=>!Nat.beq p.1 c) n=some a->look l n=some a∧n≠c:=by
      intro l
      induction l with
      | nil=>exact nn
      | cons p l ih=>
        rw [List.filter_cons,bq]
        refine tf (Nat.beq p.1 c) (fun e h=>?_) fun e h=>?_
        · rw [e] at h
          have i:=ih h
          rw [if_neg (show ¬ p.1=n from fun z=>i.2 (z.symm.trans (nb e)))]; exact i
        · rw [e,if_pos (show (!false)=true from rfl),bq] at h
          exact (Decidable.em (p.1=n)).elim (fun z=>by rw [if_pos z] at h; rw [if_pos z]; exact ⟨h,fun q=>Nat.ne_of_beq_eq_false e (z.trans q)⟩) fun z=>by rw [if_neg z] at h; rw [if_neg z]; exact ih h
    exact (key _ h1).imp id fun k2 q=>(List.mem_cons.mp q).elim k2 h2
section
variable {ko:Str->Option NameKind} {x:Str} {v:Value} {l:List (Str×Value)}
theorem ze:∀ {mm:Str->Option Value},x∉l.map (·.1)->bindL ko l mm x=mm x:=by
  induction l with
  | nil=>exact fun _=>rfl
  | cons p l ih=>
    intro mm h
    have hx:¬ x=p.1:=fun e=>h (e▸.head _)
    refine (ih fun q=>h (.tail _ q)).trans ?_
    split
    · exact if_neg hx
    · rfl
theorem zf:∀ {mm:Str->Option Value},x∉l.map (·.1)->bindC ko l mm x=mm x:=by
  induction l with
  | nil=>exact fun _=>rfl
  | cons p l ih=>
    intro mm h
    have hx:¬ x=p.1:=fun e=>h (e▸.head _)
    refine (ih fun q=>h (.tail _ q)).trans ?_
    split
    · rfl
    · exact if_neg hx
theorem pE:∀ {mm:Str->Option Value},(l.map (·.1)).Nodup->(x,v)∈l->ko x=some .local->bindL ko l mm x=some v:=by
  induction l with
  | nil=>exact fun _ h=>nomatch h
  | cons p l ih=>
    intro mm hn h hk
    have hn:=List.nodup_cons.mp hn
    exact (List.mem_cons.mp h).elim (fun e=>by subst e; exact (ze hn.1).trans (by dsimp only; rw [if_pos hk,if_pos rfl])) fun h=>ih hn.2 h hk
theorem pF:∀ {mm:Str->Option Value},(l.map (·.1)).Nodup->(x,v)∈l->ko x≠some .local->bindC ko l mm x=some v:=by
  induction l with
  | nil=>exact fun _ h=>nomatch h
  | cons p l ih=>
    intro mm hn h hk
    have hn:=List.nodup_cons.mp hn
    exact (List.mem_cons.mp h).elim (fun e=>by subst e; exact (zf hn.1).trans (by dsimp only; rw [if_neg hk,if_pos rfl])) fun h=>ih hn.2 h hk
end
section
variable {f:Nat} {r:Rc} {fd:FuncData} {fn:Fn} {a:Addr} {A:Around} {F:Fm} {V V':Pl} {σ:St} {s:Shared} {k:KV} {ke:KE} {Q:Value->Shared->Prop} {E:Value->Shared->Prop}
theorem BD (hr:dz X f r) (ok:iY X fd fn) {ss:List Stmt} (hbody:fd.body=.stmts ss) (hs:SndSs X fd.scope ss fn.body) (hclo:fd.closure=[]) (hcn:fn.cells.Nodup) (hcc:∀ L,∀ n∈fn.cells,((cellsFrom L fd.scope.names []).lookup (tx n)).isSome=true)
    {ob:Obj} (ho:s.heap.get? a=some ob) (hdt:ob.data=.func fd) (hcd:s.heap.CodeRec fd.code fd.qualname) {as:List AV} {xs:List Value} (hroom:lS X (f + 1) A F) (R:Rel X F V σ s) (hd:au (den X V) as xs) (h:wQ r fn [] as k ke σ=true) (hke:dq X F V ke E) (hk:KOk X F V k Q) :
    codeAny (model X.prog X.w) A (.call (.ref a) ⟨xs,[]⟩) (Ret Q E) s:=
  ad h fun bs hbs h=>ok.bind (hroom.top.keeps fun _ _=>R.keep) hd hbs fun bv hbind hall hnd hpar=>R.fr.rec fun m K _=>by
    have h:jQ bs (fun cl τ=>stmts r ⟨cl,false,false⟩ (fun c τ=>ke c ((τ.wl σ.loc).wk σ.locks)) fn.body (IS σ k) τ) fn.cells [] (σ.wl (fn.cells.foldl (fun l c=>l.filter fun p=>!Nat.beq p.1 c) bs))=true:=h
    refine codeAny_call_function (Nat.lt_of_le_of_lt (Nat.le_add_right _ _) hroom.depth) ho hdt ok.co ok.gen hbody hcd (hbind _ _ _ _ ?_)
    rw [hclo]
    refine wpAny_newFunctionEnv_cells ok.kind (fun x hx=>(hall.mem hx).elim fun b z=>z.2.1▸(Decidable.em (b.1∈fn.cells)).elim (fun q=>.inr ⟨(ok.kinds b.1 (hpar b z.1)).trans (by rw [if_pos q]),hcc _ b.1 q⟩) fun q=>.inl ((ok.kinds b.1 (hpar b z.1)).trans (by rw [if_neg q]))) fun env' he s' x=>?_
    have he:env'=cI fd s.heap.objs.size a (cellsFrom (s.heap.objs.size + 1) fd.scope.names []):=he
    subst he
    have xns:=x.toInCall.ns
    have xcell:=x.cell
    have xapart:=x.apart
    have xabove:=x.above
    obtain ⟨h',tk,rfl,hkeep⟩:=x.done
    have mem:∀ {n b},look bs n=some b->∃ v,(tx n,v)∈bv∧den X V b v∧fd.scope.names.lookup (tx n)=some (if n∈fn.cells then .cell else .local):=fun e=>(hall.memL (bO e)).elim fun v z=>⟨v.2,z.2.1▸z.1,z.2.2,ok.kinds _ (hpar _ (bO e))⟩
    have R1:Rel X (F.call V σ.t s.heap m s.heap.objs.size) V (σ.wl (fn.cells.foldl (fun l c=>l.filter fun p=>!Nat.beq p.1 c) bs)) { s with heap:=h',toks:=tk }:=R.enter K.ns (Nat.le_refl _) xns hkeep (fun n b e=>(mem (e8 _ e).1).imp fun v z=>⟨pE hnd z.1 (z.2.2.trans (by rw [if_neg (e8 _ e).2])),z.2.1⟩) tk
    refine ⟨(hroom.lim.keeps fun _ _=>R.keep).keeps hkeep,ks_codeAny_funcAt (i8 (cl:=[]) (s:={ s with heap:=h',toks:=tk }) (cells:=cellsFrom (s.heap.objs.size + 1) fd.scope.names []) (fun n n' c e1 e2=>jy (name_of_addr xapart (mem_of_lookup e1) (mem_of_lookup e2))) fn.cells hcn R1 (fun n hn=>?_) (fun n i e=>nn e) h fun V2 σ2 cl2 l2 R2 hcl2 q2=>wpAt_of_wpAny (hs hr (BB ok hroom R hcl2) R2 q2 ((BC ok hroom R K.ns hke).mono l2) ((HR R K.ns hk).mono l2)))⟩
    obtain ⟨c,hc⟩:=Option.isSome_iff_exists.mp (hcc (s.heap.objs.size + 1) n hn)
    have gt:=xabove _ c (mem_of_lookup hc)
    have w:=R.away (Heap.get?_none_of_le (Nat.le_of_lt gt))
    have h0:(F.call V σ.t s.heap m s.heap.objs.size).h₀.get? c=none:=by
      cases q:(F.call V σ.t s.heap m s.heap.objs.size).h₀.get? c with
      | none=>rfl
      | some o=>exact nn ((Heap.get?_none_of_le (Nat.le_of_lt gt)).symm.trans (of_hideAll _ q))
    exact (xcell (tx n) c hc).elim fun ob' z=>.mk hc z.1 ⟨⟨h0,Nat.ne_of_gt gt,fun p hp=>w.a0.kp p (List.mem_filter.mp hp).1,fun p hp=>(List.mem_cons.mp hp).elim (fun e=>e▸w.a0.L.symm) (w.a0.sus p),w.a0.ob⟩,w.cs⟩ z.2 fun b e=>(mem e).imp fun v z=>⟨pF hnd z.1 (by show fd.scope.names.lookup (tx n)≠_; rw [z.2.2,if_pos hn]; decide),z.2.1⟩
end
end
section
variable {X:Cx} {sc:Scope}
structure HU (X:Cx) (fd:FuncData) (a c g:Addr):Prop where
  me:∃ ob,X.K.lookup a=some ob∧ob.data=.func fd
  clo:∃ cc D oc,fd.closure=[(("__class__" : Str),cc)]∧X.K.lookup cc=some oc∧oc.data=.cell (some (.ref D))∧(∃ cd,clsIn X.K D=some cd)∧mroIn X.K c (.ref D)=some true∧ks_superIn X.K c D "__init__" = some (some (.ref g))
  cls:∃ cd,clsIn X.K c=some cd
  fn:typeIn X.K (.ref g)=some (.type "function")∧∃ ob fd',X.K.lookup g=some ob∧ob.data=.func fd'
  self:∃ ar,(fd.params.posonlyargs++fd.params.args).head?=some ar∧ar.arg=tx 0x73656c66
  code:∃ cda oc vs file tf,fd.code=.ref cda∧X.K.lookup cda=some oc∧oc.data=.fields vs∧vs[2]?=some (.str file tf)∧((X.prog.main.file:Str)==file)=true
  top:(X.prog.main.scope.names.lookup ("super" : Str)).isSome=false
  ks:fd.scope.names.lookup ("super" : Str)=some .globalImplicit
  kc:fd.scope.names.lookup ("__class__" : Str)=some .free
  kl:fd.scope.names.lookup (tx 0x73656c66)=some .local
  g1:nsIn X.K mainGlobals "super" = some none
  g2:nsIn X.K builtinsNs "super" = some (some (.type "super"))
  op:nsIn X.K cStatics "thirdparty.any" = some none
theorem BE {K:Frag} {c:Addr} {cd:ClassData} (h:clsIn K c=some cd):∃ o,K.lookup c=some o∧o.data=.cls cd:=by
  unfold clsIn at h
  split at h
  · exact ⟨_,by assumption,congrArg Data.cls (sm h)⟩
  · exact nn h
theorem E4 {K:Frag} {g:Addr} {v:Value} (h:typeIn K (.ref g)=some v):∃ o,K.lookup g=some o∧o.cls=v:=Option.map_eq_some_iff.mp (h:(K.lookup g).map (·.cls)=some v)
theorem qT {fd:FuncData} {fn:Fn} {a c g:Addr} {p0 p1 ap cp ep:Pos} {args:List Expr} {xs:List C} {ss:List Stmt} {rest:List CS} (H:HU X fd a c g) (hbody:fd.body=.stmts (.Expr (.Call (.Attribute (.Call (.Name "super" p0) [] [] p1) "__init__" ap) args [] cp) ep::ss))
    (hfb:fn.body=bd (jt c g xs)::rest) (hkind:fd.scope.kind=.function) (hargs:eP X fd.scope args xs) (hss:SndSs X fd.scope ss rest) (hst:∀ env,(starEach args env).any (·.1)=false) (hl:args.length < 30) (hp:(ap.endLine==cp.line)=true)
    (hsw:∀ env,env.scope=fd.scope->swapsWith (.Call (.Attribute (.Call (.Name "super" p0) [] [] p1) "__init__" ap) args [] cp) none ep.line env=pure false):BodyOk X fd fn a:=
  .stmts hbody fun {f r A ae F V σ s k ke Q E L cells} hr hf hcells R h he hk=>by
    rw [hfb] at h
    obtain ⟨cc,D,occ,hclo,hcc,hcd,⟨cdD,hD⟩,hmro,hsup⟩:=H.clo
    obtain rfl:cells=[(("__class__" : Str),cc)]:=hcells.elim (fun e=>e.trans hclo) fun e=>nomatch hclo.symm.trans e
    have h:jt c g xs r ae (fun _ σ=>stmts r ae ke rest k σ) ke σ=true:=h
    refine kQ h fun _ _ h=>ad h fun i hi h=>ad h fun d hd h=>aa h fun hq h=>ad h fun es hes h=>ao hi fun av hi hav=>?_
    obtain rfl:=AV.own_of hav
    have hdd:=inst_of hd
    rw [nb hq] at hdd
    refine R.fr.rec fun m K hloc=>(hloc _ _ hi).elim fun vs hself=>?_
    obtain ⟨hself,hvi,rfl⟩:=hself
    have T:X.K.In s.heap:=hf.top.keeps fun _ _=>R.keep
    refine R.instD hdd (dict_of hes) fun od kvs I _ _ _=>?_
    obtain ⟨ar,har,hara⟩:=H.self
    obtain ⟨ob,hme,hmed⟩:=H.me
    obtain ⟨cda,oc,cvs,file,tf,hcode,hoc,hocd,hc2,hfile⟩:=H.code
    obtain ⟨cdc,hcdc⟩:=H.cls
    obtain ⟨hty,ob2,fd2,hg,hgd⟩:=H.fn
    obtain ⟨mg,n1,f1⟩:=lp T X.pok.gns.1
    obtain ⟨mb,n2,f2⟩:=lp T X.pok.gns.2
    obtain ⟨oD,hD1,hD2⟩:=BE hD
    have hko:∀ x,(cI fd L a [("__class__", cc)]).kindOf x=fd.scope.names.lookup x:=fun x=>rfl
    refine ks_wpAt_execs_cons (ks_wpAt_Expr_any (ks_wpAt_MethodCall (pl:=do return (← importBound (.Call (.Name "super" p0) [] [] p1) (cI fd L a [("__class__", cc)])).getD true) ?_ (lA (hst _) hl hp)) (by unfold interactive; rw [show (cI fd L a [("__class__", cc)]).scope.kind=.function from hkind]; rfl) (hsw _ rfl))
    refine ks_wpAt_super_base (env:=cI fd L a [("__class__", cc)]) (fd:=fd) (ar:=ar) (hko _▸H.ks) (hko _▸H.kc) (by decide +kernel) rfl (T _ _ hme) hmed har hcode (T _ _ hoc) hocd hc2 hfile H.top ?_
    refine ks_loadName_global hkind (hko _▸H.ks) (Calls.loadGlobal_builtin (env:=cI fd L a [("__class__", cc)]) (by rw [show (cI fd L a [("__class__", cc)]).globals=mainGlobals from hf.glob]; exact n1) (f1 _ _ H.g1) (by rw [show (cI fd L a [("__class__", cc)]).builtins=builtinsNs from hf.blt]; exact n2) (f2 _ _ H.g2) ⟨rfl,?_⟩)
    refine wpAny_loadName_free hkind (hko _▸H.kc) rfl ⟨occ,T _ _ hcc,hcd⟩ ?_
    rw [hara]
    refine wpAny_loadName_local hkind (hko _▸H.kl) (by rw [show (cI fd L a [("__class__", cc)]).locals=F.L from hf.loc]; exact K.ns) hself ?_
    obtain ⟨hh,gg,dr,t,os⟩:=s
    refine ks_wpAny_isType_cls (T _ _ hD1) hD2 ⟨rfl,ks_wpAny_call_super (T _ _ hD1) hD2 I.at_ I.cls (fun c' e=>nomatch (e:Data.plain=Data.cls c')) (looks_mroIn T hmro) fun h' hso hk'=>?_⟩
    have R1:Rel X F V σ ⟨h',gg,dr,t,os⟩:=R.ext hk' t
    have T1:X.K.In h':=T.keeps hk'
    have I1:InstAt h' (V.at_ i) { cls:=.ref c,dict:=some (V.at_ d.2),data:=.plain } c (some od):=⟨hk' _ _ I.1,I.2,I.3,hk' _ _ I.4⟩
    obtain ⟨of,hof,hofc⟩:=E4 hty
    unfold ks_superIn at hsup
    rw [hcdc] at hsup
    refine ks_wpAny_getMethod_super hso (looks_opaque T1 H.op) (l₀:=cdc.mro) (fun A Q E s k q=>wpAny_bind ((looks_clsIn T1 hcdc) A _ E s k (wpAny_pure q))) rfl T1 hsup (T1 _ _ hof) hofc (ks_ne T1 I1 hcdc) (by decide +kernel) ?_
    have R2:Rel X F V σ ⟨h'.push (methodObj (.ref g) (.ref (V.at_ i))),gg,dr,t + 1,os⟩:=R1.pushU (t + 1)
    have aw:=R1.away (dM h')
    have hf2:Fit X f r fd.scope A (cI fd L a [("__class__", cc)]) ae F V:=hf
    exact pw (pos:=cp) hargs hst hr hf2.hold (R2.hold1 aw (Heap.get?_push_size _ rfl)) h (he.hold1 R2 aw) fun as vs V2 σ2 s2 l2 R4 d2 q2=>(R2.drop1 aw R4).elim fun R5 w=>⟨lB w.2 ((hf.top.keeps fun _ _=>R5.keep) _ _ hg) hgd,(hf2.mono l2).room.elim (fun hb=>ff ((hb ..).symm.trans q2)) fun room=>wpAny_call (method_call w.2 (hr room R5 (show den X V2 (.top g) (.ref g) from rfl) (.cons (aI l2 (show den X V (.own i) _ from ⟨hvi,rfl⟩)) d2) q2 (he.mono l2) fun b v V3 σ3 s3 l3 R6 d6 q6=>have l:=Pl.le_trans l2 l3; wpAt_of_wpAny (hss hr (hf2.mono l) R6 q6 (he.mono l) (hk.mono l))))⟩
structure WOk (X:Cx) (W:Pf):Prop where
  fns:∀ a fn,W.fns.get a=some fn->∃ ob fd,X.K.lookup a=some ob∧ob.data=.func fd∧codeIn X.K fd.code fd.qualname=true∧iY X fd fn∧
    ((fn.cells=[]∧(∀ x∈fd.scope.names,x.2≠.cell)∧BodyOk X fd fn a)∨(fd.closure=[]∧fn.cells.Nodup∧(∀ L,∀ n∈fn.cells,((cellsFrom L fd.scope.names []).lookup (tx n)).isSome=true)∧∃ ss,fd.body=.stmts ss∧SndSs X fd.scope ss fn.body))
  lams:∀ p fn fd,W.lams.get p=some fn->X.fn p fd->iY X fd fn∧fn.cells=[]∧(∀ x∈fd.scope.names,x.2≠.cell)∧∀ a,BodyOk X fd fn a
theorem tz {W:Pf} (HW:WOk X W) {f:Nat} {r:Rc} (hr:dz X f r):dz X (f + 1) (HK X.P W r):=fun {A F V σ s fv fx as xs k ke Q E} hroom R df ds h hke hk=>have T:X.K.In s.heap:=hroom.top.keeps fun _ _=>R.keep
  az h (fun _ h=>ad h fun p hp h=>ad h fun fn hfn h=>ao hp fun i hi hp=>aW (P:=fun fx=>codeAny (model X.prog X.w) A (.call fx ⟨xs,[]⟩) (Ret Q E) s) (AV.own_of hi▸df) fun _=>R.fnO hp fun ob fd hob hd hfd hcode hcl=>(HW.lams _ fn fd hfn hfd).elim fun ok c=>tw hr ok (c.2.2 _) c.1 c.2.1 hob hd (hcode.rec' R.mem.cd) hcl hroom R ds h hke hk)
    fun a ha h=>have e:fx=.ref a:=(AV.top_of ha▸df:den X V (.top a) fx); e▸az h (fun _ h=>ad h fun cl hcl h=>aa h fun hex h=>uP hr hcl (nt hex) hroom R ds h hke hk) fun fn hfn h=>(HW.fns a fn hfn).elim fun ob z=>z.elim fun fd z=>z.2.2.2.2.elim
      (fun c=>tw hr z.2.2.2.1 c.2.2 c.1 c.2.1 (T _ _ z.1) z.2.1 (codeRec_of T z.2.2.1) (fun n i e=>nn (e:look [] n=some i)) hroom R ds h hke hk) fun c=>c.2.2.2.elim fun ss w=>BD hr z.2.2.2.1 w.1 w.2 c.1 c.2.1 c.2.2.1 (T _ _ z.1) z.2.1 (codeRec_of T z.2.2.1) hroom R ds h hke hk
theorem zg {W:Pf} (HW:WOk X W) (n:Nat):dz X n (run X.P W n):=by
  induction n with
  | zero=>exact fun _ _ _ _ h _ _=>ff h
  | succ n ih=>exact tz HW ih
end
section
variable {X:Cx} {sc:Scope}
theorem pG:∀ {l r:List Nat},l.Nodup->(∀ x∈l,x∈r)->l.length≤r.length
  | [],_,_,_=>Nat.zero_le _
  | a::l,r,hn,h=>by
    have hn:=List.nodup_cons.mp hn
    have:=pG (l:=l) (r:=r.erase a) hn.2 fun x hx=>(List.mem_erase_of_ne (fun e=>hn.1 (by rw [← e]; exact hx))).mpr (h x (List.mem_cons_of_mem _ hx))
    rw [List.length_erase_of_mem (h a List.mem_cons_self)] at this
    have h2:0 < r.length:=List.length_pos_of_mem (h a List.mem_cons_self)
    simp only [List.length_cons]; omega
noncomputable def eE (m:Nat):Nat->Nat×Nat->Nat×Nat
  | 0,s=>s
  | n + 1,s=>eE m n (SetTable.leap m s.1 s.2)
theorem tA (m:Nat):∀ (n:Nat) (s:Nat×Nat),(eE m n s).2=s.2 / 32 ^ n
  | 0,s=>by simp [eE]
  | n + 1,s=>by
    show (eE m n (SetTable.leap m s.1 s.2)).2=_
    rw [tA m n]
    show s.2 / 32 / 32 ^ n=_
    rw [Nat.div_div_eq_div_mul,Nat.pow_succ,Nat.mul_comm]
theorem BF (m:Nat):∀ (n:Nat) (s:Nat×Nat),s.1 < m + 1->(eE m n s).1 < m + 1
  | 0,s,h=>h
  | n + 1,s,h=>BF m n _ (Nat.mod_lt _ (Nat.succ_pos m))
theorem xy (m:Nat):∀ (a b:Nat) (s:Nat×Nat),eE m (a + b) s=eE m b (eE m a s)
  | 0,b,s=>by rw [Nat.zero_add]; rfl
  | a + 1,b,s=>by
    rw [Nat.succ_add]
    exact xy m a b _
noncomputable def E5 (m i:Nat):List Nat:=(List.range 5).map fun n=>(eE m n (i,0)).1
theorem La:∀ i,i < 8->(E5 7 i).Nodup:=by decide +kernel
theorem IU:∀ i,i < 32->(E5 31 i).Nodup:=by decide +kernel
theorem tB {m:Nat} (h5:∀ i,i < m + 1->(E5 m i).Nodup) {s:Nat×Nat} (hs:s.1 < m + 1) (hp:s.2 < 2 ^ 64) {occ:List Nat} (ho:occ.length≤4):∃ n,n≤17∧(eE m n s).1∉occ:=by
  have e13:(eE m 13 s).2=0:=by
    rw [tA]
    exact Nat.div_eq_of_lt (Nat.lt_of_lt_of_le hp (by decide))
  have hlt:=BF m 13 s hs
  have he:eE m 13 s=((eE m 13 s).1,0):=by rw [← e13]
  apply Classical.byContradiction
  intro hno
  have all:∀ n,n≤17->(eE m n s).1∈occ:=fun n hn=>Classical.byContradiction fun q=>hno ⟨n,hn,q⟩
  have:=pG (h5 _ hlt) (r:=occ) fun x hx=>by
    obtain ⟨n,hn,rfl⟩:=List.mem_map.mp hx
    rw [List.mem_range] at hn
    rw [← he,← xy]
    exact all _ (by omega)
  simp [E5] at this
  omega
theorem xz (h:Int):SetTable.bits h < 2 ^ 64:=by
  unfold SetTable.bits
  have:=Int.emod_lt_of_pos h (show (0:Int) < 2 ^ 64 by decide)
  have h2:=Int.emod_nonneg h (show ((2:Int) ^ 64)≠0 by decide)
  omega
structure oE (t:SetTable):Prop where
  mask:t.mask=7
  dum:t.dummies=#[]
  few:t.place.size≤4
variable {t:SetTable}
theorem pH (j:Nat):SetTable.has #[] j=false:=by
  unfold SetTable.has
  rw [show (#[]:Array Nat)[SetTable.below #[] j]?=none by simp]
  rfl
theorem ng (T:oE t) (j:Nat):t.slot j=.empty∨∃ i,t.slot j=.live i∧t.place[i]?=some j:=by
  unfold SetTable.slot
  dsimp only
  by_cases h:(t.place[SetTable.below t.place j]?==some j)=true
  · rw [if_pos h]; exact .inr ⟨_,rfl,beq_iff_eq.mp h⟩
  · rw [if_neg h,T.dum,pH]; exact .inl rfl
theorem BG (T:oE t) {j:Nat} (h:j∉t.place.toList):t.slot j=.empty:=by
  rcases ng T j with e | ⟨i,e,h2⟩
  · exact e
  · exact (h (by rw [Array.mem_toList_iff]; exact Array.mem_of_getElem? h2)).elim
noncomputable def tC (t:SetTable):Nat->SetTable.Probe->Prop
  | 0,p=>t.slot p.j=.empty
  | n + 1,p=>t.slot p.j=.empty∨tC t n (t.advance p)
theorem Lb (i:Nat) (h:i < 8):SetTable.runEnd 7 i - i=0:=by
  unfold SetTable.runEnd
  rw [if_neg (by omega)]; omega
theorem Mx (T:oE t) {p:SetTable.Probe} (hm:p.more=0) (hj:p.j=p.i):(t.advance p).more=0∧(t.advance p).j=(t.advance p).i∧((t.advance p).i,(t.advance p).perturb)=SetTable.leap 7 p.i p.perturb∧(t.advance p).dummy=p.dummy:=by
  unfold SetTable.advance
  rw [if_neg (by omega),T.mask]
  refine ⟨Lb _ (Nat.mod_lt _ (by decide)),rfl,rfl,rfl⟩
theorem xA (T:oE t):∀ (n:Nat) (p:SetTable.Probe),p.more=0->p.j=p.i->t.slot (eE 7 n (p.i,p.perturb)).1=.empty->tC t n p
  | 0,p,_,hj,h=>by show t.slot p.j=_; rw [hj]; exact h
  | n + 1,p,hm,hj,h=>by
    obtain ⟨a,b,c,_⟩:=Mx T hm hj
    refine .inr (xA T n _ a b ?_)
    rw [c]; exact h
theorem vg (T:oE t) (h:Int):∃ n,n≤17∧tC t n (t.probeStart h):=by
  have hb:=xz h
  obtain ⟨n,hn,hx⟩:=tB La (s:=(SetTable.bits h % 8,SetTable.bits h)) (Nat.mod_lt _ (by decide)) hb (occ:=t.place.toList) (by rw [Array.length_toList]; exact T.few)
  refine ⟨n,hn,xA T n _ ?_ rfl ?_⟩
  · show SetTable.runEnd t.mask (SetTable.bits h % (t.mask + 1)) - SetTable.bits h % (t.mask + 1)=0
    rw [T.mask]; exact Lb _ (Nat.mod_lt _ (by decide))
  · show t.slot (eE 7 n (SetTable.bits h % (t.mask + 1),SetTable.bits h)).1=.empty
    rw [T.mask]; exact BG T hx
theorem E6 (T:oE t) (hashAt:Nat->Int) (h:Int):∀ (n fuel:Nat) (p:SetTable.Probe),n < fuel->p.dummy=none->tC t n p->
    (∃ j,SetTable.probe.go t hashAt h fuel p=some (.empty j none))∨∃ j i m next,SetTable.probe.go t hashAt h fuel p=some (.candidate j i next)∧t.slot j=.live i∧t.place[i]?=some j∧m < n∧next.dummy=none∧tC t m next:=by
  intro n
  induction n with
  | zero=>
    intro fuel p hf hd hg
    cases fuel with
    | zero=>omega
    | succ fuel=>
      refine .inl ⟨p.j,?_⟩
      unfold SetTable.probe.go
      rw [show t.slot p.j=.empty from hg,hd]
  | succ n ih=>
    intro fuel p hf hd hg
    cases fuel with
    | zero=>omega
    | succ fuel=>
      have hd':(t.advance p).dummy=none:=by
        unfold SetTable.advance
        split
        · exact hd
        · exact hd
      rcases ng T p.j with e | ⟨i,e,e2⟩
      · refine .inl ⟨p.j,?_⟩
        unfold SetTable.probe.go
        rw [e,hd]
      · have hg':tC t n (t.advance p):=by
          rcases hg with q | q
          · rw [e] at q; cases q
          · exact q
        unfold SetTable.probe.go
        rw [e]
        dsimp only
        split
        · exact .inr ⟨p.j,i,n,_,rfl,e,e2,Nat.lt_succ_self n,hd',hg'⟩
        · rcases ih fuel _ (by omega) hd' hg' with ⟨j,q⟩ | ⟨j,i',m,next,q,q2,q3,q4,q5⟩
          · exact .inl ⟨j,q⟩
          · exact .inr ⟨j,i',m,next,q,q2,q3,by omega,q5⟩
end
section
variable {X:Cx} {sc:Scope}
variable {prog:Program} {w:World} {A:Around} {E:Value->Shared->Prop} {s:Shared}
noncomputable abbrev jD (prog:Program) (w:World) (h:Heap) (ks:List Str) (a:Addr):Prop:=IsTupleKey (PySem.strKind prog w) h ks a
theorem pI {ks:List Str} {vs:List Value} (hi:ItemsAre (PySem.strKind prog w) ks vs):∀ v∈vs,∃ x t,v=.str x t:=by
  induction hi with
  | nil=>intro v hv; cases hv
  | cons h1 _ ih=>
    intro v hv
    rcases List.mem_cons.mp hv with rfl | hv
    · obtain ⟨t,e⟩:=Value.isStrOf_shape h1; exact ⟨_,t,e⟩
    · exact ih v hv
theorem i9 {ks:List Str} {a:Addr} {Q:Bool->Shared->Prop} (hk:jD prog w s.heap ks a) (h:Q false s):wpAny (model prog w) A (ofAClassStatement 8 (.ref a)) Q E s:=by
  have hT:=hk.typeIs
  obtain ⟨o,items,n,ho,_,hd,hi⟩:=hk
  unfold ofAClassStatement
  refine wpAny_bind (wpAny_typeOf hT ?_)
  dsimp only
  refine wpAny_bind (wpAny_pure ?_)
  simp only [Bool.not_true,Bool.false_eq_true,if_false]
  refine wpAny_bind (wpAny_seqItems ho hd ?_)
  dsimp only
  refine wpAny_bind ?_
  rw [← Array.forIn_toList]
  refine wpAny_forIn_list _ (fun rest r s'=>r.1=none∧s'=s∧∀ v∈rest,∃ x t,v=Value.str x t) _ ?_ ?_ _ _ ⟨rfl,rfl,pI hi⟩
  · rintro v rest r s' ⟨hr,rfl,hall⟩
    obtain ⟨x,t,rfl⟩:=hall v List.mem_cons_self
    refine wpAny_bind (wpAny_pure ?_)
    simp only [Bool.false_eq_true,if_false]
    exact wpAny_pure ⟨rfl,rfl,fun u hu'=>hall u (List.mem_cons_of_mem _ hu')⟩
  · rintro ⟨r1,r2⟩ s' ⟨hr,rfl,_⟩
    simp only at hr
    subst hr
    exact wpAny_pure h
theorem zh {ks:List Str} {a:Addr} {Q:Bool->Shared->Prop} (hk:jD prog w s.heap ks a) (h:∀ b,Q b s):wpAny (model prog w) A (hashByValue 8 (.ref a)) Q E s:=by
  have hT:=hk.typeIs
  obtain ⟨o,items,n,ho,_,hd,hi⟩:=hk
  unfold hashByValue
  refine wpAny_bind (wpAny_specialOf hT F.slot_tuple_hash.lookup ?_)
  try dsimp only
  refine wpAny_bind (wpAny_seqItems ho hd ?_)
  try dsimp only
  refine wpAny_bind ?_
  rw [← Array.forIn_toList]
  refine wpAny_forIn_list _ (fun rest r s'=>s'=s∧∀ v∈rest,∃ x t,v=Value.str x t) _ ?_ ?_ _ _ ⟨rfl,pI hi⟩
  · rintro v rest r s' ⟨rfl,hall⟩
    obtain ⟨x,t,rfl⟩:=hall v List.mem_cons_self
    refine wpAny_bind (wpAny_pure ?_)
    simp only [Bool.not_false,if_true]
    first
      | exact wpAny_pure ⟨rfl,fun u hu'=>hall u (List.mem_cons_of_mem _ hu')⟩
      | exact wpAny_pure (wpAny_pure (h _))
      | skip
  · rintro ⟨r1,r2⟩ s' ⟨rfl,_⟩
    cases r1 with
    | none=>exact wpAny_pure (h _)
    | some b=>exact wpAny_pure (h _)
theorem tD {ks:List Str} {xa:Addr} {stored:List Value} {Q:Bool->Shared->Prop} (hx:jD prog w s.heap ks xa) (hes:∀ y∈stored,∃ b kb,y=.ref b∧jD prog w s.heap kb b) (h:Q false s) :
    wpAny (model prog w) A (searchCouldBeSeen (.ref xa) stored) Q E s:=by
  unfold searchCouldBeSeen
  refine wpAny_bind ?_
  refine wpAny_forIn_list _ (fun rest r s'=>r.1=none∧s'=s∧∀ y∈rest,∃ b kb,y=Value.ref b∧jD prog w s.heap kb b) _ ?_ ?_ _ _ ⟨rfl,rfl,hes⟩
  · rintro v rest r s' ⟨hr,rfl,hall⟩
    obtain ⟨b,kb,rfl,hb⟩:=hall v List.mem_cons_self
    have rest':∀ y∈rest,∃ b kb,y=Value.ref b∧jD prog w s'.heap kb b:=fun u hu'=>hall u (List.mem_cons_of_mem _ hu')
    dsimp only
    split
    · exact wpAny_pure ⟨rfl,rfl,rest'⟩
    · refine wpAny_bind (wpAny_eqIsQuiet_tuple hx ?_)
      simp only [Bool.not_true,Bool.false_eq_true,if_false]
      refine wpAny_bind (wpAny_eqIsQuiet_tuple hb ?_)
      simp only [Bool.not_true,Bool.false_eq_true,if_false]
      refine wpAny_bind (i9 hx ?_)
      simp only [Bool.false_eq_true,if_false]
      refine wpAny_bind (i9 hb ?_)
      simp only [Bool.false_eq_true,if_false]
      exact wpAny_pure ⟨rfl,rfl,rest'⟩
  · rintro ⟨r1,r2⟩ s' ⟨hr,rfl,_⟩
    simp only at hr
    subst hr
    exact wpAny_pure h
theorem xB {t:SetTable} (T:oE t) {n:Nat} (hsz:t.place.size=n):t.fits n=true:=by
  unfold SetTable.fits SetTable.fill
  rw [T.dum,T.mask,hsz]
  have:=T.few
  simp; omega
theorem zi {a xa:Addr} {o:Obj} {es:Array (Int×Value)} {ep:Nat} {t:SetTable} {ks:List Str} {h:Int} {Q:SetFound->Shared->Prop} (hx:jD prog w s.heap ks xa) (hes:∀ e∈es.toList,∃ b kb,e.2=.ref b∧jD prog w s.heap kb b)
    (ho:s.heap.get? a=some o) (hd:o.data=.set es ep t) (T:oE t) (hsz:t.place.size=es.size) (hu:A.units < cLine) (hQ1:∀ j,Q (.free j false) s) (hQ2:∀ r,Q (.there r) s) :
    ∀ (n fuel:Nat) (stand:Option SetTable.Probe),n < fuel->(stand.getD (t.probeStart h)).dummy=none->n≤100->tC t n (stand.getD (t.probeStart h))->wpAny (model prog w) A (setSearchFrom a (.ref xa) h true fuel stand) Q E s:=by
  intro n
  induction n using Nat.strongRecOn with
  | ind n ih=>
    intro fuel stand hf hdm h100 hg
    cases fuel with
    | zero=>omega
    | succ fuel=>
      unfold setSearchFrom
      refine wpAny_bind (wpAny_setState_of ho hd (xB T hsz) ?_)
      dsimp only
      have hgw:t.gaveWay=false:=by unfold SetTable.gaveWay; rw [T.mask]; rfl
      rw [hgw]
      simp only [Bool.false_eq_true,if_false]
      have key:∀ H:Nat->Int,(∃ j,t.probe H h (stand.getD (t.probeStart h))=some (.empty j none))∨∃ j i m next,t.probe H h (stand.getD (t.probeStart h))=some (.candidate j i next)∧t.slot j=.live i∧t.place[i]?=some j∧m < n∧next.dummy=none∧tC t m next:=
        fun H=>E6 T H h n (10 * SetTable.turns t.mask) _ (by unfold SetTable.turns; rw [T.mask]; omega) hdm hg
      generalize hq:t.probe _ h (stand.getD (t.probeStart h))=met
      have key:=hq▸key _
      rcases key with ⟨j,rfl⟩ | ⟨j,i,m,next,rfl,q2,q3,q4,q5,q6⟩
      · clear hq
        dsimp only
        exact wpAny_pure (hQ1 j)
      · clear hq
        dsimp only
        have hi:i < es.size:=by
          have:=(Array.getElem?_eq_some_iff.mp q3).1
          omega
        have he:es[i]?=some es[i]:=Array.getElem?_eq_getElem hi
        obtain ⟨b,kb,eb,hb⟩:=hes es[i] (by rw [Array.mem_toList_iff]; exact Array.getElem_mem hi)
        have fin:wpAny (model prog w) A (do
            let some (_,y):=es[i]? | unsupported "internal:set-entry"
            let equal ← holding [y] (eqBool y (.ref xa))
            let (es',_,t') ← setState a
            if true&&equal then return SetFound.there none
            let some same:=t'.sameMemory t.moves t.mask | unsupported "set.changed-during-lookup:is-the-new-block-at-the-old-address"
            let still ← match (if same then t'.slot j else .empty) with
              | .live i'=>match es'[i']? with
                | some (_,y')=>do pure (if ← isSame y' y then some i' else none)
                | none=>pure none
              | _=>pure none
            match still with
            | none=>rule "set.search.anew"; setSearchFrom a (.ref xa) h true fuel none
            | some i'=>if equal then return .there (some i') else setSearchFrom a (.ref xa) h true fuel (some next)) Q E s:=by
          rw [he]
          dsimp only
          rw [eb]
          refine wpAny_bind (wpAny_holding (wpAny_eqBool_tuple hu hb hx ?_))
          refine wpAny_bind (wpAny_setState_of ho hd (xB T hsz) ?_)
          dsimp only
          cases decide (kb=ks) with
          | true=>
            simp only [Bool.and_self,if_true]
            exact wpAny_pure (hQ2 _)
          | false=>
            simp only [Bool.and_false,Bool.false_eq_true,if_false]
            have hsm:t.sameMemory t.moves t.mask=some true:=by unfold SetTable.sameMemory; simp
            rw [hsm]
            dsimp only
            simp only [if_true]
            rw [q2]
            dsimp only
            rw [he]
            dsimp only
            rw [eb]
            refine wpAny_bind (wpAny_isSame_ref_self ?_)
            refine wpAny_bind (wpAny_pure ?_)
            simp only [beq_self_eq_true,if_true]
            exact ih m q4 fuel (some next) (by omega) q5 (by omega) q6
        split
        · refine wpAny_bind (tD hx (fun y hy=>?_) ?_)
          · obtain ⟨e,he1,rfl⟩:=List.mem_map.mp hy
            have:e∈es.toList:=by
              rw [Array.mem_toList_iff] at he1 ⊢
              exact (Array.mem_filter.mp he1).1
            exact hes e this
          · simp only [Bool.false_eq_true,if_false]
            exact fin
        · exact fin
end
section
variable {X:Cx} {sc:Scope}
noncomputable abbrev Own:=Array (Option Nat)
noncomputable def occ (o:Own):List Nat:=(List.range 32).filter fun j=>(o.getD j none).isSome
theorem nj {f g:Nat->Bool} {j:Nat} (hf:f j=false) (hg:g j=true) (he:∀ x,x≠j->g x=f x):∀ {l:List Nat},l.Nodup->j∈l->(l.filter g).length=(l.filter f).length + 1
  | [],_,h=>by cases h
  | a::l,hn,h=>by
    have hn:=List.nodup_cons.mp hn
    by_cases ha:a=j
    · subst ha
      have:l.filter g=l.filter f:=List.filter_congr fun x hx=>he x fun e=>hn.1 (by rw [← e]; exact hx)
      rw [List.filter_cons,List.filter_cons,hf,hg,this]; simp
    · have hj:j∈l:=by
        rcases List.mem_cons.mp h with e | h
        · exact absurd e.symm ha
        · exact h
      rw [List.filter_cons,List.filter_cons,he a ha]
      have:=nj hf hg he hn.2 hj
      split
      · simp only [List.length_cons]; omega
      · exact this
theorem E7 {o:Own} (hs:o.size=32):∀ (n fuel i p:Nat),(∃ m,m≤n∧(eE 31 m (i,p)).1∉occ o)->n < fuel->i < 32->∃ j,SetTable.layClean.free 31 o fuel i p=some j∧j < 32∧o.getD j none=none:=by
  intro n
  induction n with
  | zero=>?_
  | succ n ih=>?_
  all_goals
    intro fuel i p hm hf hi
    cases fuel with
    | zero=>omega
    | succ fuel=>?_
    unfold SetTable.layClean.free
    cases hfd:(List.range (SetTable.runEnd 31 i + 1 - i)).find? fun k=>(o.getD (i + k) (some 0)).isNone with
    | some k=>?_
    | none=>?_
  · have:=List.find?_some hfd
    have hlt:i + k < o.size:=by
      apply Classical.byContradiction
      intro q
      rw [Array.getD_eq_getD_getElem?,Array.getElem?_eq_none (by omega)] at this
      cases this
    refine ⟨i + k,rfl,by omega,?_⟩
    rw [Array.getD_eq_getD_getElem?,Array.getElem?_eq_getElem hlt] at this ⊢
    simpa using this
  · obtain ⟨m,hm,hx⟩:=hm
    have:m=0:=by omega
    subst this
    have h0:=List.find?_eq_none.mp hfd 0 (by rw [List.mem_range]; unfold SetTable.runEnd; split <;> omega)
    refine (hx ?_).elim
    show i∈occ o
    unfold occ
    rw [List.mem_filter,List.mem_range]
    refine ⟨hi,?_⟩
    rw [Nat.add_zero,Array.getD_eq_getD_getElem?,Array.getElem?_eq_getElem (by omega)] at h0
    rw [Array.getD_eq_getD_getElem?,Array.getElem?_eq_getElem (by omega)]
    simp only [Option.getD_some] at h0 ⊢
    cases hh:o[i]'(by omega) with
    | none=>rw [hh] at h0; simp at h0
    | some _=>rfl
  · have:=List.find?_some hfd
    have hlt:i + k < o.size:=by
      apply Classical.byContradiction
      intro q
      rw [Array.getD_eq_getD_getElem?,Array.getElem?_eq_none (by omega)] at this
      cases this
    refine ⟨i + k,rfl,by omega,?_⟩
    rw [Array.getD_eq_getD_getElem?,Array.getElem?_eq_getElem hlt] at this ⊢
    simpa using this
  · obtain ⟨m,hm,hx⟩:=hm
    have h0:=List.find?_eq_none.mp hfd 0 (by rw [List.mem_range]; unfold SetTable.runEnd; split <;> omega)
    have hio:i∈occ o:=by
      unfold occ
      rw [List.mem_filter,List.mem_range]
      refine ⟨hi,?_⟩
      rw [Nat.add_zero,Array.getD_eq_getD_getElem?,Array.getElem?_eq_getElem (by omega)] at h0
      rw [Array.getD_eq_getD_getElem?,Array.getElem?_eq_getElem (by omega)]
      simp only [Option.getD_some] at h0 ⊢
      cases hh:o[i]'(by omega) with
      | none=>rw [hh] at h0; simp at h0
      | some _=>rfl
    cases m with
    | zero=>exact (hx hio).elim
    | succ m=>exact ih fuel _ _ ⟨m,by omega,hx⟩ (by omega) (Nat.mod_lt _ (by decide))
structure vh (o:Own) (k:Nat):Prop where
  size:o.size=32
  cnt:(occ o).length=k
  lt:∀ j v,o.getD j none=some v->v < k
theorem nk (o:Own) {j:Nat} (hj:j < o.size) (v:Option Nat) (x:Nat):(o.setIfInBounds j v).getD x none=if x=j then v else o.getD x none:=by
  rw [Array.getD_eq_getD_getElem?,Array.getD_eq_getD_getElem?,Array.getElem?_setIfInBounds]
  by_cases h:j=x
  · subst h; simp [hj]
  · rw [if_neg h,if_neg (fun e=>h e.symm)]
theorem vh.step {o:Own} {k:Nat} (I:vh o k) (hk:k≤4) (h:Int):∃ j,SetTable.layClean.free 31 o (SetTable.turns 31) (SetTable.bits h % 32) (SetTable.bits h)=some j∧vh (o.setIfInBounds j (some k)) (k + 1):=by
  obtain ⟨m,hm,hx⟩:=tB IU (s:=(SetTable.bits h % 32,SetTable.bits h)) (Nat.mod_lt _ (by decide)) (xz h) (occ:=occ o) (by rw [I.cnt]; exact hk)
  obtain ⟨j,e,hj,hn⟩:=E7 I.size 17 (SetTable.turns 31) _ _ ⟨m,hm,hx⟩ (by decide) (Nat.mod_lt _ (by decide))
  have hjs:j < o.size:=by rw [I.size]; exact hj
  refine ⟨j,e,by rw [Array.size_setIfInBounds]; exact I.size,?_,fun x v q=>?_⟩
  · unfold occ
    rw [nj (f:=fun j=>(o.getD j none).isSome) (j:=j) (by rw [hn]; rfl) (by rw [nk o hjs]; simp) (fun x hx=>by rw [nk o hjs,if_neg hx]) List.nodup_range (List.mem_range.mpr hj)]
    rw [← I.cnt]; rfl
  · rw [nk o hjs] at q
    split at q
    · cases q; exact Nat.lt_succ_self _
    · exact Nat.lt_succ_of_lt (I.lt x v q)
theorem tE:∀ (l:List Int) (o:Own) (k:Nat),vh o k->k + l.length≤5->∃ o',(l.foldl (fun acc h=>do
    let (owner,k) ← acc
    let j ← SetTable.layClean.free 31 owner (SetTable.turns 31) (SetTable.bits h % (31 + 1)) (SetTable.bits h)
    pure (owner.setIfInBounds j (some k),k + 1)) (some (o,k)))=some (o',k + l.length)∧vh o' (k + l.length)
  | [],o,k,I,_=>⟨o,rfl,I⟩
  | h::l,o,k,I,hl=>by
    simp only [List.length_cons] at hl
    obtain ⟨j,e,I'⟩:=I.step (by omega) h
    obtain ⟨o',e',I''⟩:=tE l _ _ I' (by omega)
    refine ⟨o',?_,by simp only [List.length_cons]; rw [show k + (l.length + 1)=k + 1 + l.length by omega]; exact I''⟩
    rw [List.foldl_cons]
    simp only [List.length_cons]
    rw [show k + (l.length + 1)=k + 1 + l.length by omega,← e']
    have:(do
      let j ← SetTable.layClean.free 31 o (SetTable.turns 31) (SetTable.bits h % (31 + 1)) (SetTable.bits h)
      pure (o.setIfInBounds j (some k),k + 1))=some (o.setIfInBounds j (some k),k + 1):=by
      rw [show (31 + 1)=32 from rfl,e]; rfl
    exact congrArg (fun x=>List.foldl _ x l) this
theorem BH (hs:Array Int) (h5:hs.size≤5):∃ o,SetTable.layClean 31 hs=some o∧vh o hs.size:=by
  have I0:vh (Array.replicate (31 + 1) none) 0:=⟨by simp,by decide +kernel,fun j v q=>by
    rw [Array.getD_eq_getD_getElem?,Array.getElem?_replicate] at q
    split at q <;> cases q⟩
  obtain ⟨o,e,I⟩:=tE hs.toList _ 0 I0 (by rw [Array.length_toList]; omega)
  rw [Array.length_toList,Nat.zero_add] at I
  refine ⟨o,?_,I⟩
  unfold SetTable.layClean
  rw [← Array.foldl_toList,e]; rfl
theorem vi {β:Type} (f:Nat->Option β):∀ l:List Nat,((l.filterMap fun j=>(f j).map fun v=>(j,v))).length=(l.filter fun j=>(f j).isSome).length
  | []=>rfl
  | a::l=>by
    rw [List.filterMap_cons,List.filter_cons]
    cases f a with
    | none=>exact vi f l
    | some v=>simp only [Option.map_some,Option.isSome_some,if_true,List.length_cons]; rw [vi f l]
theorem BI {α β:Type} (f:α->Option β):∀ l:List α,(∀ x∈l,(f x).isSome=true)->(l.filterMap f).length=l.length
  | [],_=>rfl
  | a::l,h=>by
    obtain ⟨v,e⟩:=Option.isSome_iff_exists.mp (h a List.mem_cons_self)
    rw [List.filterMap_cons,e]
    simp only [List.length_cons]
    rw [BI f l fun x hx=>h x (List.mem_cons_of_mem _ hx)]
theorem zj (finger moves:Nat) (led plain:Bool) (hs:Array Int) (h5:hs.size≤5):∃ t' order,SetTable.laid 31 finger moves led plain hs=some (t',order)∧∀ es:Array (Int×Value),es.size=hs.size->(order.filterMap (es[·]?)).size=es.size:=by
  obtain ⟨o,e,I⟩:=BH hs h5
  unfold SetTable.laid
  rw [e]
  refine ⟨_,_,rfl,fun es hes=>?_⟩
  rw [← Array.length_toList,Array.toList_filterMap]
  rw [BI]
  · rw [hes,← I.cnt]
    show (List.map _ (List.filterMap (fun j=>(o.getD j none).map fun v=>(j,v)) (List.range 32))).length=_
    rw [List.length_map,vi (fun j=>o.getD j none)]; rfl
  · intro x hx
    obtain ⟨p,hp,rfl⟩:=List.mem_map.mp hx
    obtain ⟨j,_,q⟩:=List.mem_filterMap.mp hp
    obtain ⟨v,hv,rfl⟩:=Option.map_eq_some_iff.mp q
    have:=I.lt j v hv
    rw [Array.getElem?_eq_getElem (by omega)]; rfl
section
variable {prog:Program} {w:World} {A:Around} {E:Value->Shared->Prop} {s:Shared}
theorem BJ {a:Addr} {o:Obj} {es:Array (Int×Value)} {ep:Nat} {t:SetTable} {Q:Unit->Shared->Prop} (ho:s.heap.get? a=some o) (hex:o.ExactSet) (hd:o.data=.set es ep t) (hf:t.fits es.size=true) (h5:es.size=5)
    (h:∀ h' o',Heap.SameBut a s.heap h'->h'.get? a=some o'->o'.ExactSet->(∃ es ep t,o'.data=.set es ep t)->Q () { s with heap:=h' }):wpAny (model prog w) A (setRelay a (SetTable.grown 5)) Q E s:=by
  unfold setRelay
  refine wpAny_bind (wpAny_setState_of ho hd hf ?_)
  dsimp only
  have e32:SetTable.sizeAbove (SetTable.grown 5)=32:=by decide +kernel
  rw [if_neg (by rw [e32]; decide +kernel)]
  obtain ⟨t',order,e,hsz⟩:=zj t.finger (t.movedTo 31) t.led t.plain (es.map (·.1)) (by rw [Array.size_map]; omega)
  have er:t.relaid (es.map (·.1)) (SetTable.grown 5)=some (t',order):=by
    unfold SetTable.relaid
    rw [e32]; exact e
  rw [er]
  have hs:=hsz es (by rw [Array.size_map])
  refine wpAny_bind ?_
  show wpAny _ _ (if ((order.filterMap (es[·]?)).size != es.size)=true then _ else pure (order.filterMap (es[·]?),t')) _ _ _
  rw [if_neg (by rw [hs]; simp)]
  refine wpAny_pure ?_
  have hb:(order.filterMap (es[·]?)).size≤sizeLine:=by rw [hs,h5]; decide +kernel
  refine wpAny_storeSet_of ho hd (h _ _ (Heap.SameBut.update _ _ _) (Heap.get?_update_self _ ho (by rw [putSet_of _ _ hd]; rfl)) ?_ ?_) hb
  · rw [putSet_of _ _ hd]; exact hex
  · rw [putSet_of _ _ hd]; exact ⟨_,_,_,rfl⟩
theorem E8 {a xa:Addr} {o:Obj} {es:Array (Int×Value)} {ep:Nat} {t:SetTable} {ks:List Str} {h:Int} {Q:Bool->Shared->Prop} (hx:jD prog w s.heap ks xa) (hes:∀ e∈es.toList,∃ b kb,e.2=.ref b∧jD prog w s.heap kb b)
    (ho:s.heap.get? a=some o) (hex:o.ExactSet) (hd:o.data=.set es ep t) (T:oE t) (hsz:t.place.size=es.size) (hu:A.units < cLine)
    (hQ:∀ b h' o',Heap.SameBut a s.heap h'->h'.get? a=some o'->o'.ExactSet->(∃ es' ep' t',o'.data=.set es' ep' t'∧(es.size≤3->t'.mask=7∧t'.dummies=#[]∧t'.place.size=es'.size∧es'.size≤es.size + 1∧∀ e∈es'.toList,e∈es.toList∨e.2=.ref xa))->Q b { s with heap:=h' }) :
    wpAny (model prog w) A (setAddHashedIn a (.ref xa) h 100000) Q E s:=by
  unfold setAddHashedIn
  refine wpAny_bind (wpAny_setState_of ho hd (xB T hsz) ?_)
  dsimp only
  have hbs:byScan (.ref xa) es=false:=rfl
  rw [hbs]
  simp only [Bool.false_eq_true,if_false]
  obtain ⟨n,hn,hg⟩:=vg T h
  refine wpAny_bind ?_
  unfold setSearch
  refine zi hx hes ho hd T hsz hu (fun j=>?_) (fun r=>?_) n 100000 none (by omega) rfl (by omega) hg
  · dsimp only
    refine wpAny_bind (wpAny_setState_of ho hd (xB T hsz) ?_)
    dsimp only
    have hput:(t.put j).1={ t with place:=SetTable.insertAt t.place (SetTable.below t.place j) j }:=by
      unfold SetTable.put
      rw [T.dum,pH]
      rfl
    have hins:∀ {α:Type} (xs:Array α) (p:Nat) (x:α),(SetTable.insertAt xs p x).size=xs.size + 1:=fun xs p x=>by
      unfold SetTable.insertAt; simp; omega
    have hmem:∀ (p:Nat) (x:Int×Value),∀ e∈(SetTable.insertAt es p x).toList,e∈es.toList∨e=x:=fun p x e he=>by
      unfold SetTable.insertAt at he
      simp only [Array.toList_append,Array.toList_push,Array.toList_extract,List.mem_append,List.mem_singleton,List.extract_eq_take_drop] at he
      rcases he with (he | he) | he
      · exact .inl (List.mem_of_mem_drop (List.mem_of_mem_take he))
      · exact .inr he
      · exact .inl (List.mem_of_mem_drop (List.mem_of_mem_take he))
    have tail:∀ (t2:SetTable),t2.mask=7->t2.dummies=#[]->t2.place.size=es.size + 1->∀ p,wpAny (model prog w) A (do
        storeSet a (SetTable.insertAt es p (h,.ref xa)) t2
        if (!false&&t2.tooFull)=true then do
            setRelay a (SetTable.grown (es.size + 1))
            return true
          else return true) Q E s:=by
      intro t2 m1 m2 m3 p
      have h4:=T.few
      rw [hsz] at h4
      refine wpAny_bind (wpAny_storeSet_of ho hd ?_ (by rw [hins]; exact Nat.le_trans (show es.size + 1≤5 by omega) (by decide +kernel)))
      have hsb:=Heap.SameBut.update s.heap a (Obj.putSet (SetTable.insertAt es p (h,.ref xa)) t2)
      have hg1:=Heap.get?_update_self (Obj.putSet (SetTable.insertAt es p (h,.ref xa)) t2) ho (by rw [putSet_of _ _ hd]; rfl)
      rw [putSet_of _ _ hd] at hg1
      have hfill:t2.fill=es.size + 1:=by unfold SetTable.fill; rw [m2,m3]; rfl
      by_cases h3:es.size≤3
      · have:t2.tooFull=false:=by unfold SetTable.tooFull; rw [hfill,m1,decide_eq_false_iff_not]; omega
        rw [this]
        simp only [Bool.and_false,Bool.false_eq_true,if_false]
        exact wpAny_pure (hQ _ _ _ hsb hg1 hex ⟨_,_,_,rfl,fun _=>⟨m1,m2,by rw [m3,hins],Nat.le_of_eq (hins _ _ _),fun e he=>by
          rcases hmem p _ e he with q | q
          · exact .inl q
          · exact .inr (by rw [q])⟩⟩)
      · have h5:es.size=4:=by omega
        have:t2.tooFull=true:=by unfold SetTable.tooFull; rw [hfill,m1,h5]; decide
        rw [this]
        simp only [Bool.not_false,Bool.and_self,if_true]
        rw [h5]
        refine wpAny_bind (BJ (s:={ s with heap:=s.heap.update a (Obj.putSet (SetTable.insertAt es p (h,.ref xa)) t2) }) hg1 hex rfl (by unfold SetTable.fits; rw [m3,hins,hfill,m1,h5]; decide) (by rw [hins,h5]) fun h' o' hsb' hg' hex' ⟨es',ep',t',hd'⟩=>?_)
        exact wpAny_pure (hQ _ _ _ (hsb.trans hsb') hg' hex' ⟨es',ep',t',hd',fun q=>absurd q h3⟩)
    rw [show t.put j=((t.put j).1,(t.put j).2) from rfl,hput]
    dsimp only
    have fin:∀ b:Bool,_:=fun b=>tail (if b=true then { mask:=t.mask,place:=SetTable.insertAt t.place (SetTable.below t.place j) j,dummies:=t.dummies,finger:=t.finger,led:=t.led,moves:=t.moves,plain:=t.plain }
        else { mask:=t.mask,place:=SetTable.insertAt t.place (SetTable.below t.place j) j,dummies:=t.dummies,finger:=t.finger,led:=t.led,moves:=t.moves,plain:=false }) (by cases b <;> exact T.mask) (by cases b <;> exact T.dum) (by cases b <;> simp [hins,hsz]) (t.put j).2
    split
    · exact wpAny_bind (zh hx fun b=>fin b)
    · exact wpAny_bind (wpAny_pure (fin true))
  · dsimp only
    exact wpAny_pure (hQ _ _ _ (Heap.SameBut.refl _ _) ho hex ⟨_,_,_,hd,fun _=>⟨T.mask,T.dum,hsz,Nat.le_succ _,fun e he=>.inl he⟩⟩)
end
end
section
variable {X:Cx} {sc:Scope}
section
variable {F:Fm} {V:Pl} {σ:St} {s:Shared}
theorem tF (R:Rel X F V σ s) {j:Nat} (h:z9 σ (.own j)=true):∃ ks,jD X.prog X.w s.heap ks (V.at_ j):=
  ad (o:=some j) h fun j' e h=>sm e▸ad h fun xs hxs h=>ad h fun p hp h=>aa h fun h1 h2=>ad h1 fun a ha _=>ad h2 fun b hb _=>ao hxs fun o ho hxs=>R.tup (aj.tup_of hxs▸ho) fun l L al=>by
    obtain ⟨l⟩:=l
    exact au.two (P:=fun l=>s.heap.IsTuple (V.at_ j') ⟨l⟩->∃ ks,jD X.prog X.w s.heap ks (V.at_ j')) (jw hp▸al) (fun c d dc dd=>cD (P:=fun c=>s.heap.IsTuple (V.at_ j') ⟨[c,d]⟩->∃ ks,jD X.prog X.w s.heap ks (V.at_ j')) dc ha fun t=>cD (P:=fun d=>s.heap.IsTuple (V.at_ j') ⟨[_,d]⟩->∃ ks,jD X.prog X.w s.heap ks (V.at_ j')) dd hb fun u L=>L.elim fun ob z=>z.2.2.elim fun n z'=>⟨[tx a,tx b],ob,_,n,z.1,z.2.1,z',.cons (aY ..) (.cons (aY ..) .nil)⟩) L
end
theorem qU:u2 X:=fun {A F V σ s i md as xs k Q E} hA hU ht R ds h hk=>aa h fun hmd h=>ad h fun j hj h=>ad h fun ys hys h=>aa h fun hc h=>aa hc fun h4 hc=>aa hc fun hpj hpx=>aa h fun hlk h=>ao hj fun a ha hj=>ao hys fun o ho hys=>(show qJ md = "set.add" by cases md <;> first | rfl | exact ff hmd)▸au.one (P:=fun xs=>wpAny _ A (call (.builtin "set.add") (.ref (V.at_ i)::xs)) Q E s) (cS ha▸ds) fun v dv=>aW (P:=fun v=>wpAny _ A (call (.builtin "set.add") [.ref (V.at_ i),v]) Q E s) (AV.own_of hj▸dv) fun hjn=>by
    have hi:=aj.set_of hys▸ho
    have h4:=Nat.le_of_ble_eq_true h4
    refine R.set hi fun es ep t g z=>(tF R hpj).elim fun ks hks=>?_
    cases z with
    | lit n e=>subst e; exact ff hpx
    | many h5=>exact absurd h4 (Nat.not_le.mpr h5)
    | few own le mask dum pl mem=>
      have T4:oE t:=⟨mask,dum,pl▸Nat.le_trans le h4⟩
      have hes:∀ e∈es.toList,∃ b kb,e.2=.ref b∧jD X.prog X.w s.heap kb b:=fun e he=>(mem e he).elim fun i' z=>(tF R (List.all_eq_true.mp hpx _ z.1)).elim fun kb hkb=>⟨_,kb,z.2.2,hkb⟩
      refine wpAny_call_entry PySem.F.slot_set_add ⟨_,g,rfl⟩ PySem.F.entry_set_add ?_ (PySem.F.args_set_add_2 _ _)
      unfold Builtin.«set.add» Builtin.Frozenset.oneOther
      simp only [List.isEmpty_nil,bind_assoc]
      unfold Builtin.Frozenset.addrOf setAdd
      refine wpAny_bind (wpAny_pure ?_)
      try dsimp only
      refine wpAny_bind (wpAny_pure ?_)
      try dsimp only
      have hu1:A.in1.units < cLine:=Nat.lt_of_le_of_lt (Nat.succ_le_of_lt hU) (by decide)
      refine wpAny_bind (wpAny_holding (wpAny_bind (wpAny_pyHash_tuple hu1 hks ?_)))
      unfold setAddHashed
      refine wpAny_holding (E8 (s:={ s with toks:=s.toks + (ks.length + 1) }) hks hes g ⟨rfl,rfl,rfl⟩ rfl T4 pl hu1 fun b h' o' hsb hg' hex' z=>wpAny_pure ⟨_,rfl,hk .none .none V _ _ (Pl.le_refl V) (R.upd (o':=.set (.own j::ys)) hi (nt hlk) hsb hg' ?_ (s.toks + (ks.length + 1))) rfl h⟩)
      obtain ⟨es',ep',t',hd',hrest⟩:=z
      obtain ⟨c1,c2,c3⟩:=hex'
      obtain ⟨_,_,_,_⟩:=o'
      cases c1; cases c2; cases c3; cases hd'
      refine .mk es' ep' t' ((Decidable.em (ys.length≤3)).elim (fun h3=>?_) fun h3=>.many (Nat.succ_le_succ (Nat.lt_of_not_le h3)))
      obtain ⟨r1,r2,r3,r4,r5⟩:=hrest (Nat.le_trans le h3)
      exact .few (fun a ha=>(List.mem_cons.mp ha).elim (fun e=>⟨j,e⟩) (own a)) (Nat.le_trans r4 (Nat.succ_le_succ le)) r1 r2 r3 fun e he=>(r5 e he).elim (fun q=>(mem e q).imp fun i' z=>⟨.tail _ z.1,z.2⟩) fun q=>⟨j,.head _,hjn,q⟩
end
section
variable {X:Cx} {sc:Scope}
noncomputable def pJ:C:=fun _ _ _ _ _=>false
theorem BK (e:Expr):aK X sc e pJ:=fun _ _ _ h _ _=>ff h
theorem zk (e:Expr):eC X sc e pJ:=fun _ _ _ h _ _=>ff h
theorem vj (es:List Expr):eP X sc es [pJ]:=fun _ _ _ h _ _=>ff h
theorem zl (st:Stmt) (w:String):fH X sc st (oQ w):=fun _ _ _ h _ _=>ff h
theorem zm (n:Nm) (b:List UInt8) (kd pos) (hx:(dec n).map UInt8.ofNat=b):aK X sc (.Constant (.bytes b) kd pos) (d9 n):=fun {f r A env ae F V σ s k ke Q E} hr hf R h he hk=>by
  show wpAny _ _ (do return Value.bytes b.toArray (← fresh)) _ _ _
  exact wpAny_bind (wpAny_fresh (wpAny_pure (hk (.bytes (.lit n)) _ V σ _ (Pl.le_refl V) (R.toks _) ⟨s.toks,by rw [gv,← hx]; rfl⟩ h)))
noncomputable def isC (n:Nat) (e:Expr):Bool:=Nat.beq e.ctorIdx n
noncomputable def bZ (e:Expr):Bool:=!isC 22 e
theorem nq {e:Expr} (h:bZ e=true):(∀ es env,starEach (e::es) env=(false,eval e env)::starEach es env)∧∀ es env,assignEach (e::es) env=(false,assign e env)::assignEach es env:=by
  cases e <;> first | exact ⟨fun _ _=>rfl,fun _ _=>rfl⟩ | exact ff h
theorem kU {e:Expr} {es:List Expr} (h:bZ e=true) (env:Env):starEach (e::es) env=(false,eval e env)::starEach es env:=(nq h).1 es env
theorem gf {env:Env} {es:List Expr}:es.all bZ=true->(starEach es env).any (·.1)=false:=by
  induction es with
  | nil=>exact fun _=>rfl
  | cons e es ih=>exact fun h=>aa (List.all_cons▸h:(bZ e&&es.all bZ)=true) fun h1 h2=>by rw [kU h1]; exact ih h2
theorem nv {env:Env} {es:List Expr}:es.all bZ=true->assignEach es env=es.map fun e=>(false,assign e env):=by
  induction es with
  | nil=>exact fun _=>rfl
  | cons e es ih=>exact fun h=>aa (List.all_cons▸h:(bZ e&&es.all bZ)=true) fun h1 h2=>((nq h1).2 es env).trans (congrArg _ (ih h2))
noncomputable def pK (e:Expr):Bool:=!(isC 0 e || (isC 3 e || (isC 5 e || isC 15 e)))
theorem vk {e:Expr} (h:pK e=true) (env:Env) (whole:Sem Value):isTrue e env whole=(do let v ← whole; standAt e.pos; holding [v] (truthy v)):=by
  cases e <;> first | rfl | exact ff h
noncomputable def mo (e:Expr):Bool:=!(isC 8 e || (isC 9 e || isC 10 e))
theorem nw {e:Expr} (h:mo e=true) (t:Option Expr) (l:Nat) (env:Env):swapsWith e t l env=pure false:=by
  cases e <;> first | rfl | exact ff h
theorem tG (e:Expr) (l:Nat) (env:Env):(∀ o a p,swapsWith e (some (.Attribute o a p)) l env=pure false)∧∀ o i p,swapsWith e (some (.Subscript o i p)) l env=pure false:=by
  cases e <;> exact ⟨fun _ _ _=>rfl,fun _ _ _=>rfl⟩
theorem zn {x:Str} {p:Pos} {e:Expr} (h:sc.names.lookup x=some .cell) (l:Nat) (env:Env) (he:env.scope=sc):swapsWith e (some (.Name x p)) l env=pure false:=by
  have hk:(env.kindOf x==some NameKind.local)=false:=by show (env.scope.names.lookup x==_)=_; rw [he,h]; rfl
  unfold swapsWith
  cases e <;> first | rfl | (dsimp only; rw [hk]; simp)
noncomputable def BL (e:Expr):Bool:=isC 23 e
theorem vl {o:Expr} (h:BL o=true) (a r:Value):letTemporaryGo o a r=pure ():=by
  cases o <;> first | rfl | exact ff h
noncomputable def ny (e:Expr):Bool:=!isC 26 e
theorem lE {i:Expr} (h:ny i=true):(∀ u v,subscripted i false u v=operate [u,v] (getItem u v))∧∀ ov iv new,augStore i ov iv new=(do holding [new,ov,iv] (setItem ov iv new); release [new,ov,iv] []; pure .next):=by
  cases i <;> first | exact ⟨fun _ _=>rfl,fun _ _ _=>rfl⟩ | exact ff h
noncomputable def j3 (e:Expr):Bool:=!isC 7 e
theorem iT {e:Expr} (h:j3 e=true):(∀ env x,foldedSetIterable e env x=pure x)∧∀ op,behindInMarks op e=false:=by
  cases e <;> first | exact ⟨fun _ _=>rfl,fun _=>rfl⟩ | exact ff h
noncomputable def BM (e:Expr):Bool:=!(isC 7 e || isC 24 e)
theorem vm {e:Expr} (h:BM e=true) (env:Env) (x:Value):genFold e env x=pure x:=by
  cases e <;> first | rfl | exact ff h
theorem vo {es:List Expr} {kk:Nat} {p:Pos} {e:Expr} (h:isC 25 e=false) (env:Env):swappedStores [.Tuple es kk p] e env=pure none:=by
  cases e <;> first | rfl | exact ff h.symm
noncomputable def kW:Expr->Bool
  | .Call (.Name id _) [] [] _=>id != "super"
  | _=>true
theorem mq {o:Expr} (h:kW o=true) (at_:Str) (env:Env) (whole:Sem Value):attributeBase o at_ env whole=whole:=by
  unfold attributeBase
  split
  · rename_i id p p2
    rw [show (id != ("super" : Str))=true from h]
    rfl
  · rfl
theorem zo {o:Expr} {a:Str} {pos:Pos} (h:kW o=true) (env:Env):eval (.Attribute o a pos) env=(do
      let o' ← eval o env
      standAt pos.atName
      let r ← holding [o'] (getAttr o' a true)
      letTemporaryGo o o' r
      pure r):=(congrArg (fun m=>m >>= _) (mq h a env (eval o env)):_)
noncomputable def eqN (l:List Nat):List Nat->Bool:=l.rec (fun r=>r.isEmpty) fun a _ ih r=>r.rec false fun b r' _=>Nat.beq a b&&ih r'
theorem eI {l:List Nat}:∀ {r:List Nat},eqN l r=true->l=r:=by
  induction l with
  | nil=>exact fun h=>(List.isEmpty_iff.mp h).symm
  | cons a l ih=>
    intro r h
    cases r with
    | nil=>exact ff h
    | cons b r=>exact aa h fun h1 h2=>by rw [nb h1,ih h2]
noncomputable def c8 (x:Str):Nm:=val x.cps.toList
noncomputable def qV (x:Str):Bool:=eqN (dec (c8 x)) x.cps.toList
theorem lF {x:Str} (h:qV x=true):tx (c8 x)=x:=congrArg (fun l:List Nat=>Str.mk l.toArray) (eI h)
noncomputable def ez (x:Str):Bool:=qV x&&(!(x==("__debug__" : Str))&&!(x==("__classdict__" : Str)))
structure NmP (x:Str):Prop where
  tx:tx (c8 x)=x
  db:(x==("__debug__" : Str))=false
  cd:(x==("__classdict__" : Str))=false
theorem nmP {x:Str} (h:ez x=true):NmP x:=aa h fun h1 h=>aa h fun h2 h3=>⟨lF h1,nt h2,nt h3⟩
inductive Rq where
  | lam (sc:Scope) (p:Nat) (name:Str) (params:Arguments) (body:FuncBody) (scope:Scope) (pos:Pos) (last:Str)
  | gen (sc:Scope)
  | free (sc:Scope)
noncomputable def Rq.ok (X:Cx) (q:Rq):Prop:=q.rec (fun sc p name params body scope pos last=>(∀ code qual,X.cq sc code qual->∃ qn,xw X code qn∧qn pos.line pos.col=qual++last)∧∀ qual clos doc pm cv ctv,X.fn p (tq name qual params body scope clos doc pm cv ctv))
  (fun sc=>∀ code qual,X.cq sc code qual->∃ P∈X.tf,m9 X code P) fun sc=>∀ code qual,X.cq sc code qual
structure tH (X:Cx) (P:Pg) (D:List Df):Prop where
  hP:X.P=P
  hD:X.D=D
theorem tH.to {P:Pg} {D:List Df} {S:Pg->List Df->Prop} (b:tH X P D) (h:S X.P X.D):S P D:=b.hP▸b.hD▸h
structure Ct (P:Pg) (D:List Df) (κ:Type) (S:Cx->κ->Prop) where
  c:κ
  rq:List Rq
  ok:∀ X,tH X P D->(∀ r∈rq,r.ok X)->S X c
variable {P:Pg} {D:List Df}
section
variable {κ κ₁ κ₂ κ₃:Type} {S:Cx->κ->Prop} {S₁:Cx->κ₁->Prop} {S₂:Cx->κ₂->Prop} {S₃:Cx->κ₃->Prop}
theorem Lc {l r:List Rq} (h:∀ q∈l++r,q.ok X):∀ q∈l,q.ok X:=fun q m=>h q (List.mem_append_left _ m)
theorem Ld {l r:List Rq} (h:∀ q∈l++r,q.ok X):∀ q∈r,q.ok X:=fun q m=>h q (List.mem_append_right _ m)
noncomputable def Ct.of (c:Pg->List Df->κ) (h:∀ X,tH X P D->S X (c X.P X.D)):Ct P D κ S:=⟨c P D,[],fun X b _=>b.to (S:=fun P D=>S X (c P D)) (h X b)⟩
noncomputable def Ct.map (x:Ct P D κ₁ S₁) (f:Pg->List Df->κ₁->κ) (h:∀ X,tH X P D->∀ c,S₁ X c->S X (f X.P X.D c)):Ct P D κ S:=⟨f P D x.c,x.rq,fun X b r=>b.to (S:=fun P D=>S X (f P D x.c)) (h X b _ (x.ok X b r))⟩
noncomputable def Ct.pair (x:Ct P D κ₁ S₁) (y:Ct P D κ₂ S₂):Ct P D (κ₁×κ₂) fun X c=>S₁ X c.1∧S₂ X c.2:=⟨(x.c,y.c),x.rq++y.rq,fun X b r=>⟨x.ok X b (Lc r),y.ok X b (Ld r)⟩⟩
noncomputable def Ct.map2 (x:Ct P D κ₁ S₁) (y:Ct P D κ₂ S₂) (f:Pg->List Df->κ₁->κ₂->κ) (h:∀ X,tH X P D->∀ c d,S₁ X c->S₂ X d->S X (f X.P X.D c d)):Ct P D κ S:=
  (x.pair y).map (fun P D c=>f P D c.1 c.2) fun X b c q=>h X b _ _ q.1 q.2
noncomputable def Ct.map3 (x:Ct P D κ₁ S₁) (y:Ct P D κ₂ S₂) (z:Ct P D κ₃ S₃) (f:Pg->List Df->κ₁->κ₂->κ₃->κ) (h:∀ X,tH X P D->∀ c d e,S₁ X c->S₂ X d->S₃ X e->S X (f X.P X.D c d e)):Ct P D κ S:=
  (x.pair (y.pair z)).map (fun P D c=>f P D c.1 c.2.1 c.2.2) fun X b c q=>h X b _ _ _ q.1 q.2.1 q.2.2
end
noncomputable def ifT {α:Type} (b:Bool) (f:α):(b=true->α)->α:=b.rec (motive:=fun c=>(c=true->α)->α) (fun _=>f) fun t=>t rfl
noncomputable def ifS {α β:Type} (o:Option α) (n:β):(∀ x,o=some x->β)->β:=o.rec (motive:=fun o'=>(∀ x,o'=some x->β)->β) (fun _=>n) fun x s=>s x rfl
noncomputable abbrev CE (P:Pg) (D:List Df) (sc:Scope) (e:Expr):=Ct P D C fun X c=>aK X sc e c
noncomputable abbrev CTe (P:Pg) (D:List Df) (sc:Scope) (e:Expr):=Ct P D C fun X c=>eC X sc e c
noncomputable abbrev CEs (P:Pg) (D:List Df) (sc:Scope) (es:List Expr):=Ct P D (List C) fun X cs=>eP X sc es cs
noncomputable abbrev CSt (P:Pg) (D:List Df) (sc:Scope) (st:Stmt):=Ct P D CS fun X c=>fH X sc st c
noncomputable abbrev CSs (P:Pg) (D:List Df) (sc:Scope) (ss:List Stmt):=Ct P D (List CS) fun X cs=>SndSs X sc ss cs
structure Trs (P:Pg) (D:List Df) where
  e:(sc:Scope)->(e:Expr)->CE P D sc e
  t:(sc:Scope)->(e:Expr)->CTe P D sc e
  s:(sc:Scope)->(st:Stmt)->CSt P D sc st
noncomputable def br (sc:Scope) (e:Expr):CE P D sc e:=.of (fun _ _=>pJ) fun X _=>BK e
noncomputable def vp (sc:Scope) (e:Expr):CTe P D sc e:=.of (fun _ _=>pJ) fun X _=>zk e
noncomputable def bS (sc:Scope) (st:Stmt):CSt P D sc st:=.of (fun _ _=>oQ "") fun X _=>zl st ""
noncomputable def trL (T:Trs P D) (sc:Scope) (es:List Expr):CEs P D sc es:=es.rec (.of (fun _ _=>[]) fun X _=>sH) fun e es ih=>ifT (bZ e) (.of (fun _ _=>[pJ]) fun X _=>vj _) fun h=>(T.e sc e).map2 ih (fun _ _ c cs=>c::cs) fun X _ c cs h1 h2=>oY h1 h2 (kU h)
noncomputable def fe (T:Trs P D) (sc:Scope) (ss:List Stmt):CSs P D sc ss:=ss.rec (.of (fun _ _=>[]) fun X _=>yz) fun st ss ih=>(T.s sc st).map2 ih (fun _ _ c cs=>c::cs) fun X _ c cs h1 h2=>mR h1 h2
noncomputable def IW (sc:Scope) (x:Str) (pos:Pos):CE P D sc (.Name x pos):=ifT (ez x) (br sc _) fun hp=>ifS (sc.names.lookup x) (br sc _) fun k hl=>match k,hl with
    | .local,hl=>.of (fun _ _=>ac (c8 x)) fun X _=>Ek _ x pos (nmP hp).tx hl (nmP hp).db
    | .cell,hl=>.of (fun _ _=>aG (c8 x)) fun X _=>w3 _ x pos (nmP hp).tx (.inl hl) (nmP hp).db (nmP hp).cd
    | .free,hl=>.of (fun _ _=>aG (c8 x)) fun X _=>w3 _ x pos (nmP hp).tx (.inr hl) (nmP hp).db (nmP hp).cd
    | .globalImplicit,hl=>ifS (look P.globs (c8 x)) (br sc _) fun a ha=>.of (fun _ _=>aA a) fun X b=>EI (nmP hp).tx hl (nmP hp).db (b.hP▸ha)
    | _,_=>br sc _
noncomputable def E9 (sc:Scope) (v:Const) (k:Nat) (pos:Pos):CE P D sc (.Constant v k pos):=match v with
  | .none=>.of (fun _ _=>bh) fun X _=>AD k pos
  | .bool q=>.of (fun _ _=>cf q) fun X _=>AF q k pos
  | .int i=>.of (fun _ _=>ay i) fun X _=>Ei i k pos
  | .str x=>ifT (qV x) (br sc _) fun h=>.of (fun _ _=>ai (c8 x)) fun X _=>Ej _ x k pos (lF h)
  | .bytes b=>ifT (eqN (dec (val (b.map UInt8.toNat))) (b.map UInt8.toNat)) (br sc _) fun h=>.of (fun _ _=>d9 (val (b.map UInt8.toNat))) fun X _=>zm _ b k pos (by
      rw [eI h,List.map_map,show (UInt8.ofNat∘UInt8.toNat)=id from funext fun x=>UInt8.ofNat_toNat,List.map_id])
  | _=>br sc _
end
section
variable {X:Cx} {sc:Scope}
variable {P:Pg} {D:List Df}
noncomputable def j4 (x:Str) (l:List Nat):Bool:=eqN x.cps.toList l
theorem eF {x:Str} {l:List Nat} (h:j4 x l=true):x=⟨l.toArray⟩:=congrArg (fun l:List Nat=>Str.mk l.toArray) (eI h)
noncomputable def Le:Operator->Option Bop
  | .Add=>some .add
  | .Sub=>some .sub
  | .Mod=>some .mod
  | .FloorDiv=>some .fdiv
  | _=>none
theorem Fa {o:Operator} {b:Bop} (h:Le o=some b):b.op=o:=by cases o <;> first | exact nn h | exact sm h▸rfl
noncomputable def BN:CmpOp->Cop
  | .Eq=>.eq
  | .NotEq=>.ne
  | .Lt=>.lt
  | .LtE=>.le
  | .Gt=>.gt
  | .GtE=>.ge
  | .Is=>.is_
  | .IsNot=>.isNot
  | .In=>.in_
  | .NotIn=>.notIn
theorem tI (o:CmpOp):(BN o).op=o:=by cases o <;> rfl
noncomputable def mr {S:(X:Cx)->Expr->C->Prop} (op:BoolOp) (pos:Pos) (mk:Pg->List C->C) (tr1:(e:Expr)->Ct P D C fun X c=>S X e c) (h1:∀ {X e x},S X e x->S X (.BoolOp op [e] pos) (mk X.P [x])) (h2:∀ {X e e2 es x x2 xs},S X e x->S X (.BoolOp op (e2::es) pos) (mk X.P (x2::xs))->S X (.BoolOp op (e::e2::es) pos) (mk X.P (x::x2::xs))) (es:List Expr) :
    (e:Expr)->Ct P D (C×List C) fun X c=>S X (.BoolOp op (e::es) pos) (mk X.P (c.1::c.2)):=
  es.rec (fun e=>(tr1 e).map (fun _ _ c=>(c,[])) fun X _ c h=>h1 h) fun e2 es ih e=>(tr1 e).map2 (ih e2) (fun _ _ c cs=>(c,cs.1::cs.2)) fun X _ c cs a b=>h2 a b
noncomputable abbrev CG (P:Pg) (D:List Df) (sc:Scope) (e:Expr):=Ct P D Tg fun X t=>ig X sc e t
noncomputable def Lg (sc:Scope) (x:Str) (p:Pos):Option (CG P D sc (.Name x p)):=ifT (ez x) none fun hp=>ifS (sc.names.lookup x) none fun k hl=>match k,hl with
  | .local,hl=>some (.of (fun _ _=>.loc (c8 x)) fun X _=>.loc (nmP hp).tx hl)
  | .cell,hl=>some (.of (fun _ _=>.cel (c8 x)) fun X _=>.cel (nmP hp).tx hl)
  | _,_=>none
noncomputable def My (sc:Scope) (e:Expr):Option (Ct P D Tn fun X t=>qy X sc e t):=match e with
  | .Name x p=>ifT (ez x) none fun hp=>ifS (sc.names.lookup x) none fun k hl=>match k,hl with
    | .local,hl=>some (.of (fun _ _=>.loc (c8 x)) fun X _=>A1 (nmP hp).tx hl)
    | .cell,hl=>some (.of (fun _ _=>.cel (c8 x)) fun X _=>A2 (nmP hp).tx hl)
    | _,_=>none
  | _=>none
noncomputable def Lh (sc:Scope) (es:List Expr):Option (Ct P D (List Tn) fun X ts=>au (qy X sc) es ts):=es.rec (some (.of (fun _ _=>[]) fun X _=>.nil)) fun e es ih=>op (My sc e) fun g=>op ih fun gs=>some (g.map2 gs (fun _ _ t ts=>t::ts) fun X _ t ts h1 h2=>.cons h1 h2)
noncomputable def trG (sc:Scope) (e:Expr):Option (CG P D sc e):=match e with
  | .Name x p=>Lg sc x p
  | .Tuple es kk p=>ifT (es.all bZ) none fun hn=>op (Lh (P:=P) (D:=D) sc es) fun gs=>some (gs.map (fun _ _ ts=>.tup ts) fun X _ ts h=>.tup h fun env=>nv hn)
  | _=>none
noncomputable abbrev CIt (P:Pg) (D:List Df) (sc sc':Scope) (target iter:Expr):=Ct P D (Tg×Ik×C) fun X c=>ig X sc' target c.1∧pp X sc target c.1 c.2.1 iter c.2.2
noncomputable def Fb (T:Trs P D) (sc sc':Scope) (target:Expr) (g:CG P D sc' target) (iter:Expr):CIt P D sc sc' target iter:=
  match target,iter,g,(g.map2 (T.e sc iter) (fun _ _ t c=>(t,.plain,c)) fun X _ t c h1 h2=>⟨h1,IJ h1 h2⟩:CIt P D sc sc' target iter) with
  | .Tuple elts kk p,.Call (.Attribute o name apos) [] [] pos,g,plain=>ifT (j4 name [105,116,101,109,115]&&(kW o&&apos.endLine==pos.line)) plain fun h1=>g.map2 (T.e sc o) (fun _ _ t c=>(t,.items,c)) fun X _ t c h2 h3=>⟨h2,aa h1 fun e1 h1=>aa h1 fun e2 e3=>by
      cases h2 with
      | tup a _=>exact yJ a ((eF e1).trans (by decide +kernel)) (fun env whole=>mq e2 _ env whole) e3 h3⟩
  | .Tuple elts kk p,.Call (.Name x np) [e] [] pos,g,plain=>ifT (ez x&&(decide (sc.names.lookup x=some .globalImplicit)&&bZ e)) plain fun h1=>ifS (look P.globs (c8 x)) plain fun a ha=>match a,ha with
    | .ty .enumerate,ha=>g.map2 (T.e sc e) (fun _ _ t c=>(t,.enum,c)) fun X b t c h2 h3=>⟨h2,aa h1 fun e1 h1=>aa h1 fun e2 e3=>by
        cases h2 with
        | tup a _=>exact Be a (nmP e1).tx (of_decide_eq_true e2) (nmP e1).db (b.hP▸ha) h3 fun env=>kU e3 env⟩
    | _,_=>plain
  | _,_,_,plain=>plain
noncomputable def frOk (scope:Scope):Bool:=(bY scope).all qV
theorem BO {scope:Scope} (h:frOk scope=true):((bY scope).map c8).map tx=bY scope:=
  (List.map_map ..).trans ((List.map_congr_left fun x hx=>lF (List.all_eq_true.mp h x hx)).trans (List.map_id _))
noncomputable def IX (scope:Scope):Bool:=frOk scope&&(decide (scope.kind=.function)&&((scope.names.all fun x=>decide (x.2≠.cell))&&(scope.names.all fun x=>decide (x.2≠.local) || decide (scope.names.lookup x.1=some .local))))
noncomputable def Li (T:Trs P D) (sc:Scope) (ifs:List Expr):Option (Ct P D (List C) fun X cs=>jZ X sc ifs cs):=match ifs with
  | []=>some (.of (fun _ _=>[]) fun X _=>.nil)
  | [c]=>some ((T.t sc c).map (fun _ _ x=>[x]) fun X _ x h=>.one h)
  | _=>none
noncomputable abbrev CHd (P:Pg) (D:List Df) (sc:Scope) (target iter:Expr) (ifs:List Expr) (scope:Scope):=Ct P D ((Tg×Ik×C)×List C) fun X q=>uX X sc target iter ifs scope q.1.1 q.1.2.1 q.1.2.2 q.2 ((bY scope).map c8)
noncomputable def qW (T:Trs P D) (sc:Scope) (target iter:Expr) (ifs:List Expr) (scope:Scope):Option (CHd P D sc target iter ifs scope):=
  ifT (IX scope&&j3 iter) none fun hc=>op (trG (P:=P) (D:=D) (de sc scope) target) fun g=>op (Li T (de sc scope) ifs) fun cs=>some ⟨((Fb T sc (de sc scope) target g iter).c,cs.c),.free (de sc scope)::((Fb T sc (de sc scope) target g iter).rq++cs.rq),fun X b r=>aa hc fun hc hs=>aa hc fun h1 hc=>aa hc fun h2 hc=>aa hc fun h3 h4=>have q:=(Fb T sc (de sc scope) target g iter).ok X b fun q hq=>r q (.tail _ (List.mem_append_left _ hq))
    { fr:=BO h1,kind:=of_decide_eq_true h2,cq:=r _ (.head _),cell:=fun x hx=>of_decide_eq_true (List.all_eq_true.mp h3 x hx),names:=fun x hx e=>dm (List.all_eq_true.mp h4 x hx) (fun z=>absurd e (of_decide_eq_true z)) of_decide_eq_true,hit:=q.2,tg:=q.1,ifs:=cs.ok X b fun q hq=>r q (.tail _ (List.mem_append_right _ hq)),fold:=(iT hs).1 }⟩
noncomputable abbrev Lt:=List ((Nat×Nat)×Nat)
noncomputable def HV (lt:Lt) (pos:Pos):Option Nat:=(lt.find? fun q=>Nat.beq q.1.1 pos.line&&Nat.beq q.1.2 pos.col).map (·.2)
noncomputable def qY (a:Arguments):Bool:=a.defaults.isEmpty&&a.kw_defaults.isEmpty
theorem kX {a:Arguments} (h:qY a=true):a.defaults=[]∧a.kw_defaults=[]:=aa h fun h1 h2=>⟨List.isEmpty_iff.mp h1,List.isEmpty_iff.mp h2⟩
theorem zp {a:Arguments} (h:qY a=true) (env:Env):defaultsOf a env=([],[]):=by
  obtain ⟨e1,e2⟩:=kX h
  obtain ⟨p,a,v,k,kd,kw,d⟩:=a
  cases e1; cases e2
  rfl
noncomputable def Lj (lt:Lt) (sc:Scope) (args:Arguments) (body:Expr) (scope:Scope) (pos:Pos):CE P D sc (.Lambda args body scope pos):=ifS (HV lt pos) (br sc _) fun p _=>ifT (qY args&&frOk scope) (br sc _) fun h=>⟨se p ((bY scope).map c8),[.lam sc p "<lambda>" args (.expr body) scope pos "<lambda>"],fun X b r=>aa h fun h1 h2=>E1 (zp h1) ⟨BO h2,(r _ (.head _)).1,(r _ (.head _)).2⟩⟩
noncomputable def Lk (T:Trs P D) (sc:Scope) (l:Expr) (o:Operator) (r:Expr) (pos:Pos):CE P D sc (.BinOp l o r pos):=
  match l,o,r,(ifS (Le o) (br sc _) fun b h=>(T.e sc l).map2 (T.e sc r) (fun _ D x y=>bA D b x y) fun X q x y h1 h2=>Er (Fa h) h1 h2:CE P D sc (.BinOp l o r pos)) with
  | .Constant (.str x) kd p1,.Mod,.Tuple es kk p2,plain=>ifT (qV x&&Nat.ble (trL T sc es).c.length 1000) plain fun h=>⟨D8 (c8 x) (trL T sc es).c,(trL T sc es).rq,fun X b r=>aa h fun h1 h2=>EZ (lF h1) ((trL T sc es).ok X b r) (Nat.le_of_ble_eq_true h2)⟩
  | _,_,_,plain=>plain
noncomputable abbrev CPs (P:Pg) (D:List Df) (sc:Scope) (ks:List (Option Expr)) (vs:List Expr):=Ct P D (List (C×C)) fun X xs=>pv X sc ks vs xs∧ks.all (·.isSome)=true∧ks.length=vs.length
noncomputable def BP (T:Trs P D) (sc:Scope) (ks:List (Option Expr)):(vs:List Expr)->Option (CPs P D sc ks vs):=
  ks.rec (fun vs=>vs.rec (some (.of (fun _ _=>[]) fun X _=>⟨yQ,rfl,rfl⟩)) fun _ _ _=>none) fun k ks ih vs=>vs.rec none fun v vs _=>match k with
    | some k=>op (ih vs) fun x=>some ((T.e sc k).map3 (T.e sc v) x (fun _ _ a b l=>(a,b)::l) fun X _ a b l h1 h2 h3=>⟨uZ h1 h2 h3.1,List.all_cons.trans h3.2.1,congrArg (· + 1) h3.2.2⟩)
    | none=>none
noncomputable def Fe:Option Expr->Bool
  | some (.Constant (.bytes _) _ _)=>true
  | _=>false
noncomputable def IY (T:Trs P D) (sc:Scope) (ks:List (Option Expr)) (vs:List Expr) (pos:Pos):CE P D sc (.Dict ks vs pos):=match ks,vs with
  | [],[]=>.of (fun _ _=>aV []) fun X _=>yR
  | k0::kr,vs=>ifT (Nat.ble (k0::kr).length 15) (br sc _) fun h1=>ifS (BP T sc (k0::kr) vs) (br sc _) fun x _=>be (Fe k0) (x.map (fun _ _ l=>qk l) fun X _ l h=>yS h.1 h.2.1 h.2.2 (fun e=>nomatch e) (Nat.le_of_ble_eq_true h1)) (x.map (fun _ _ l=>aV l) fun X _ l h=>Bk h.1 h.2.1 h.2.2 (fun e=>nomatch e) (Nat.le_of_ble_eq_true h1))
  | _,_=>br sc _
noncomputable def Ll (T:Trs P D) (sc:Scope) (es:List Expr):Option (Ct P D (List C) fun X xs=>au (tm X sc) es xs):=es.rec (some (.of (fun _ _=>[]) fun X _=>.nil)) fun e es ih=>op ih fun l=>match e with
  | .Constant (.str x) kd p=>ifT (qV x) none fun h=>some (l.map (fun _ _ l=>ai (c8 x)::l) fun X _ l hl=>.cons (zb _ x kd p (lF h)) hl)
  | .FormattedValue e (-1) none p=>some ((T.e sc e).map2 l (fun _ _ x l=>x::l) fun X _ x l h1 h2=>.cons (zc h1) h2)
  | _=>none
noncomputable def IZ (T:Trs P D) (sc:Scope) (es:List Expr) (pos:Pos):CE P D sc (.JoinedStr es pos):=match es with
  | e1::e2::es=>ifS (Ll T sc (e1::e2::es)) (br sc _) fun l _=>l.map (fun _ _ l=>dG l) fun X _ l h=>Bt h
  | _=>br sc _
noncomputable def Lm (T:Trs P D) (sc:Scope) (o i:Expr) (pos:Pos):CE P D sc (.Subscript o i pos):=match i with
  | .Slice (some j) none none p=>ifT (BL o) (br sc _) fun h=>(T.e sc o).map2 (T.e sc j) (fun _ _ x y=>Ah x y) fun X _ x y h1 h2=>By (vl h) h1 h2
  | i=>ifT (ny i) (br sc _) fun h=>(T.e sc o).map2 (T.e sc i) (fun P _ x y=>aH P x y) fun X b x y h1 h2=>Es h1 h2 (lE h).1
end
section
variable {X:Cx} {sc:Scope}
variable {P:Pg} {D:List Df}
noncomputable def Ff (T:Trs P D) (sc:Scope) (id:Str) (p:Pos) (es:List Expr) (pos:Pos):CE P D sc (.Call (.Name id p) es [] pos):=ifT (es.all bZ) (br sc _) fun h=>(T.e sc (.Name id p)).map2 (trL T sc es) (fun P _ x xs=>aC P x xs) fun X b x xs h1 h2=>Bs h1 h2 fun env=>gf h
noncomputable def isG (P:Pg) (n:Nm) (a:AV):Bool:=ob (look P.globs n) (D4 a)
noncomputable def HX (P:Pg):Bool:=ob (op (look P.globs 6384748) AV.blt?) fun b=>Nat.beq b.ctorIdx 3
theorem BQ (h:HX P=true):look P.globs 6384748=some (.blt .all):=ad h fun b hb h=>ao hb fun a ha hb=>by
  rw [ha,AV.blt_of hb]
  cases b <;> first | rfl | exact ff h
theorem I2 {n:Nm} {a:AV} (h:isG P n a=true):look P.globs n=some a:=ad h fun b hb h=>(mj h).1▸hb
noncomputable def Ln (x:Str) (iter:Expr) (scope:Scope):Bool:=(decide (bY scope=[])&&(decide (scope.isCoroutine=false)&&(scope.names.all fun y=>decide (y.2≠.cell))))&&((decide (scope.names.lookup (".0" : Str)=some NameKind.local)&&decide (scope.names.lookup x=some .local))&&(decide (scope.kind=.function)&&(ez x&&BM iter)))
theorem Fg {x:Str} {iter:Expr} {scope:Scope} (h:Ln x iter scope=true) (hq:∀ code qual,X.cq sc code qual->∃ P∈X.tf,m9 X code P):HQ X sc x iter scope:=
  aa h fun h g=>aa h fun a1 h=>aa h fun a2 a3=>aa g fun h g=>aa h fun a4 a5=>aa g fun a6 g=>aa g fun a7 a8=>⟨hq,of_decide_eq_true a1,of_decide_eq_true a2,fun y hy=>of_decide_eq_true (List.all_eq_true.mp a3 y hy),of_decide_eq_true a4,of_decide_eq_true a5,of_decide_eq_true a6,(nmP a7).db,fun env v=>vm a8 env v,fun pe env whole=>rfl⟩
theorem j5 {x y:Str} (h:eqN x.cps.toList y.cps.toList=true):x=y:=congrArg Str.mk (Array.toList_inj.mp (eI h))
noncomputable def Fh (T:Trs P D) (sc:Scope) (id:Str) (p:Pos) (es:List Expr) (pos:Pos):CE P D sc (.Call (.Name id p) es [] pos):=
  match es,Ff T sc id p es pos with
  | [.GeneratorExp (.Call (.Attribute (.Name x pe) at_ ap) [] [] cp) [⟨.Name x2 px,iter,[],0⟩] scope gp],plain=>ifT ((j4 id [97,108,108]&&(j4 at_ [105,115,100,105,103,105,116]&&(ap.endLine==cp.line)))&&(eqN x2.cps.toList x.cps.toList&&(Ln x iter scope&&(decide (sc.names.lookup ("all" : Str)=some .globalImplicit)&&HX P)))) plain fun h=>⟨ql (T.e sc iter).c,.gen sc::(T.e sc iter).rq,fun X b r=>aa h fun h g=>aa h fun e1 h=>aa h fun e2 e3=>aa g fun e4 g=>aa g fun e5 g=>aa g fun e6 e7=>by
        obtain rfl:id=("all" : Str):=(eF e1).trans (by decide +kernel)
        obtain rfl:at_=("isdigit" : Str):=(eF e2).trans (by decide +kernel)
        obtain rfl:=j5 e4
        exact vd (Fg e5 (r _ (.head _))) e3 (of_decide_eq_true e6) (b.hP▸BQ e7) (fun env=>rfl) ((T.e sc iter).ok X b fun q hq=>r q (.tail _ hq))⟩
  | [.Call (.Attribute o m ap) [] [] cp],plain=>ifT ((j4 id [108,105,115,116]&&j4 m [105,116,101,109,115])&&(((ap.endLine==cp.line)&&kW o)&&(decide (sc.names.lookup ("list" : Str)=some .globalImplicit)&&isG P 1818850164 (.ty .list)))) plain fun h=>(T.e sc o).map (fun _ _ x=>gq x) fun X b x hx=>aa h fun h g=>aa h fun e1 e2=>aa g fun h g=>aa h fun e3 e4=>aa g fun e5 e6=>by
        obtain rfl:id=("list" : Str):=(eF e1).trans (by decide +kernel)
        obtain rfl:m=("items" : Str):=(eF e2).trans (by decide +kernel)
        exact oC (of_decide_eq_true e5) (b.hP▸I2 e6) (fun env whole=>mq e4 _ env whole) e3 hx
  | _,plain=>plain
noncomputable def I3 (T:Trs P D) (sc:Scope) (o:Expr) (name:Str) (ap:Pos) (args:List Expr) (pos:Pos):CE P D sc (.Call (.Attribute o name ap) args [] pos):=
  ifT ((qV name&&kW o)&&(args.all bZ&&(decide (args.length < 30)&&ap.endLine==pos.line))) (br sc _) fun h=>(T.e sc o).map2 (trL T sc args) (fun P _ x xs=>ak P x (c8 name) (K5 name) xs) fun X b x xs h1 h2=>aa h fun h g=>aa h fun e1 e2=>aa g fun e3 g=>aa g fun e4 e5=>Bp lC qL qU (lF e1) (ET name) h1 h2 (fun env whole=>mq e2 _ env whole) (fun env=>gf e3) (of_decide_eq_true e4) e5
noncomputable def Mz (lt:Lt) (T:Trs P D) (sc:Scope) (e:Expr):CE P D sc e:=match e with
  | .Constant v k pos=>E9 sc v k pos
  | .Name x pos=>IW sc x pos
  | .BoolOp .And (e::es) pos=>(mr (S:=fun X e c=>aK X sc e c) .And pos (fun P cs=>hX P cs) (T.e sc) AK Eo es e).map (fun P _ cs=>hX P (cs.1::cs.2)) fun X _ cs h=>h
  | .BoolOp .Or (e::es) pos=>(mr (S:=fun X e c=>aK X sc e c) .Or pos (fun P cs=>eOr P cs) (T.e sc) En IB es e).map (fun P _ cs=>eOr P (cs.1::cs.2)) fun X _ cs h=>h
  | .UnaryOp .Not x pos=>(T.e sc x).map (fun P _ c=>f7 P c) fun X b c h=>El h
  | .IfExp t b o pos=>(T.t sc t).map3 (T.e sc b) (T.e sc o) (fun P _ x y z=>iX P x y z) fun X q x y z h1 h2 h3=>Em h1 h2 h3
  | .BinOp l o r pos=>Lk T sc l o r pos
  | .Compare l [o] [r] pos=>ifT (j3 r) (br sc _) fun h=>(T.e sc l).map2 (T.e sc r) (fun P _ x y=>aF P (BN o) x y) fun X q x y h1 h3=>EH (tI o) ((iT h).2 o) h1 h3
  | .Dict ks vs pos=>IY T sc ks vs pos
  | .List es pos=>ifT (Nat.ble (trL T sc es).c.length 1000) (br sc _) fun h=>⟨c9 (trL T sc es).c,(trL T sc es).rq,fun X b r=>AP ((trL T sc es).ok X b r) (Nat.le_of_ble_eq_true h)⟩
  | .Tuple es kk pos=>ifT (Nat.ble (trL T sc es).c.length 1000) (br sc _) fun h=>⟨js (trL T sc es).c,(trL T sc es).rq,fun X b r=>w6 ((trL T sc es).ok X b r) (Nat.le_of_ble_eq_true h)⟩
  | .ListComp elt [⟨target,iter,ifs,0⟩] scope pos=>ifS (qW T sc target iter ifs scope) (br sc _) fun q _=>q.map2 (T.e (de sc scope) elt) (fun P _ q x=>gn P x q.1.1 q.1.2.1 q.1.2.2 q.2 ((bY scope).map c8)) fun X b q x h1 h2=>yO (pt h1 h2)
  | .DictComp kx vx [⟨target,iter,ifs,0⟩] scope pos=>ifS (qW T sc target iter ifs scope) (br sc _) fun q _=>q.map3 (T.e (de sc scope) kx) (T.e (de sc scope) vx) (fun P _ q x y=>ea P x y q.1.1 q.1.2.1 q.1.2.2 q.2 ((bY scope).map c8)) fun X b q x y h1 h2 h3=>yP (pu h1 h2 h3)
  | .Call (.Name id p) es [] pos=>Fh T sc id p es pos
  | .Call (.Attribute o name ap) args [] pos=>I3 T sc o name ap args pos
  | .Attribute o a pos=>ifT (qV a&&kW o) (br sc _) fun h=>(T.e sc o).map (fun P _ x=>af P x (c8 a)) fun X b x h1=>aa h fun e1 e2=>AQ h1 (lF e1) (zo e2)
  | .Subscript o i pos=>Lm T sc o i pos
  | .Lambda args body scope pos=>Lj lt sc args body scope pos
  | .JoinedStr es pos=>IZ T sc es pos
  | e=>br sc e
noncomputable def MA (T:Trs P D) (sc:Scope) (e:Expr):CTe P D sc e:=match e with
  | .BoolOp .And (e::es) pos=>(mr (S:=fun X e c=>eC X sc e c) .And pos (fun P cs=>hX P cs) (T.t sc) yw AM es e).map (fun P _ cs=>hX P (cs.1::cs.2)) fun X _ cs h=>h
  | .BoolOp .Or (e::es) pos=>(mr (S:=fun X e c=>eC X sc e c) .Or pos (fun P cs=>eOr P cs) (T.t sc) AL Ep es e).map (fun P _ cs=>eOr P (cs.1::cs.2)) fun X _ cs h=>h
  | .UnaryOp .Not x pos=>(T.t sc x).map (fun P _ c=>f7 P c) fun X b c h=>AI h
  | .IfExp t b o pos=>(T.t sc t).map3 (T.t sc b) (T.t sc o) (fun P _ x y z=>iX P x y z) fun X q x y z h1 h2 h3=>AJ h1 h2 h3
  | .Compare l [o] [r] pos=>ifT (j3 r) (vp sc _) fun h=>(T.e sc l).map2 (T.e sc r) (fun P _ x y=>aF P (BN o) x y) fun X q x y h1 h3=>A9 (tI o) ((iT h).2 o) h1 h3
  | e=>ifT (pK e) (vp sc e) fun h=>(T.e sc e).map (fun _ _ c=>c) fun X _ c h1=>AH h1 fun env whole=>vk h env whole
end
section
variable {X:Cx} {sc:Scope}
variable {P:Pg} {D:List Df}
noncomputable def HY (a:Arguments):Bool:=match a.posonlyargs,a.vararg,a.kwonlyargs,a.kwarg with
  | [],none,[],none=>a.args.all fun x=>x.annotation.isNone
  | _,_,_,_=>false
theorem vq {env:Env} {l:List Arg}:(l.all fun x=>x.annotation.isNone)=true->annotationsOf l env=[]:=by
  induction l with
  | nil=>exact fun _=>rfl
  | cons x l ih=>
    intro h
    obtain ⟨n,a,p⟩:=x
    cases a with
    | none=>exact ih h
    | some a=>exact ff h
theorem BR {a:Arguments} (h:HY a=true) (env:Env):annTrees a none env=[]:=by
  obtain ⟨p,a,v,k,kd,kw,d⟩:=a
  cases p with
  | cons _ _=>exact ff h
  | nil=>cases v with
    | some _=>exact ff h
    | none=>cases k with
      | cons _ _=>exact ff h
      | nil=>cases kw with
        | some _=>exact ff h
        | none=>
          show annotationsOf (a++[]++[]++[]++[]) env++_=[]
          rw [List.append_nil,List.append_nil,List.append_nil,List.append_nil,vq h]; rfl
noncomputable def BS (sc scope:Scope) (x:Str) (p:Pos) (ep:Pos):Bool:=decide (sc.kind=.function)&&(decide (sc.names.lookup x=some .local)&&(decide (p.line=ep.line)&&!(scope.names.any fun (n,k)=>n==x&&(k==.local || k==.cell))))
theorem pL {x:Str} {p:Pos} {elt:Expr} {gs:List Comprehension} {scope:Scope} {ep:Pos} (h:BS sc scope x p ep=true) (l:Nat) (env:Env) (he:env.scope=sc):(∀ elt gs,swapsWith (.ListComp elt gs scope ep) (some (.Name x p)) l env=pure true)∧∀ kx vx gs,swapsWith (.DictComp kx vx gs scope ep) (some (.Name x p)) l env=pure true:=
  aa h fun h1 h=>aa h fun h2 h=>aa h fun h3 h4=>by
    have hk:env.kindOf x=some .local:=by show env.scope.names.lookup x=_; rw [he]; exact of_decide_eq_true h2
    have hb:env.blockKind=.function:=by unfold Env.blockKind; rw [he,of_decide_eq_true h1]; rfl
    have q:(pure (env.blockKind==.function&&env.kindOf x==some .local&&p.line==ep.line&&!(scope.names.any fun (n,k)=>n==x&&(k==.local || k==.cell))):Sem Bool)=pure true:=by
      rw [hb,hk,of_decide_eq_true h3,nt h4]; simp
    exact ⟨fun _ _=>q,fun _ _ _=>q⟩
theorem xC {tg:Expr} (h:bZ tg=true) (env:Env):(assignEach [tg] env).map (·.2)=[assign tg env]:=congrArg (List.map (·.2)) (nv (es:=[tg]) (List.all_cons.trans (by rw [h]; rfl)))
noncomputable def I4 (T:Trs P D) (sc:Scope) (x:Str) (p:Pos) (e:Expr) (pos:Pos) (hp:ez x=true) (hl:sc.names.lookup x=some .local):CSt P D sc (.Assign [.Name x p] e pos):=ifT (mo e) (bS sc _) fun h=>(T.e sc e).map (fun _ _ c=>ag (aE (c8 x)) c) fun X _ c h1=>AW (nmP hp).tx hl h1 fun env _=>nw h _ _ env
noncomputable def I5 (T:Trs P D) (sc:Scope) (x:Str) (p:Pos) (e:Expr) (pos:Pos):CSt P D sc (.Assign [.Name x p] e pos):=
  ifT (ez x) (bS sc _) fun hp=>ifS (sc.names.lookup x) (bS sc _) fun k hl=>match k,hl with
    | .local,hl=>match e,I4 T sc x p e pos hp hl with
      | .ListComp elt [⟨target,iter,ifs,0⟩] scope ep,plain=>ifT (BS sc scope x p ep) plain fun h=>ifS (qW T sc target iter ifs scope) plain fun q _=>q.map2 (T.e (de sc scope) elt) (fun P _ q y=>ag (aE (c8 x)) (gn P y q.1.1 q.1.2.1 q.1.2.2 q.2 ((bY scope).map c8))) fun X b q y h1 h2=>mY (pt h1 h2) (nmP hp).tx hl fun env he=>(pL (elt:=elt) (gs:=[]) h pos.line env he).1 _ _
      | .DictComp kx vx [⟨target,iter,ifs,0⟩] scope ep,plain=>ifT (BS sc scope x p ep) plain fun h=>ifS (qW T sc target iter ifs scope) plain fun q _=>q.map3 (T.e (de sc scope) kx) (T.e (de sc scope) vx) (fun P _ q y z=>ag (aE (c8 x)) (ea P y z q.1.1 q.1.2.1 q.1.2.2 q.2 ((bY scope).map c8))) fun X b q y z h1 h2 h3=>mZ (pu h1 h2 h3) (nmP hp).tx hl fun env he=>(pL (elt:=kx) (gs:=[]) h pos.line env he).2 _ _ _
      | _,plain=>plain
    | .cell,hl=>(T.e sc e).map (fun P _ c=>ag (lTg P (.cel (c8 x))) c) fun X b c h1=>iS (sK (nmP hp).tx hl) h1 (fun env=>xC rfl env) (fun env he=>zn hl pos.line env he) (fun env=>rfl)
    | _,_=>bS sc _
noncomputable def Lp (T:Trs P D) (sc:Scope) (tg e:Expr) (pos:Pos):CSt P D sc (.Assign [tg] e pos):=match tg with
  | .Name x p=>I5 T sc x p e pos
  | .Attribute o a ap=>ifT (qV a) (bS sc _) fun h=>(T.e sc o).map2 (T.e sc e) (fun P _ x c=>ag (ba P x (c8 a)) c) fun X b x c h1 h2=>iS (yF (lF h) h1) h2 (fun env=>xC rfl env) (fun env _=>(tG e pos.line env).1 o a ap) (fun env=>rfl)
  | .Subscript o i ip=>(T.e sc o).map3 (T.e sc i) (T.e sc e) (fun _ _ x y c=>ag (cb x y) c) fun X b x y c h1 h2 h3=>iS (A0 h1 h2) h3 (fun env=>xC rfl env) (fun env _=>(tG e pos.line env).2 o i ip) (fun env=>rfl)
  | .Tuple es kk tp=>ifT (es.all bZ&&(mo e&&!isC 25 e)) (bS sc _) fun h=>ifS (Lh (P:=P) (D:=D) sc es) (bS sc _) fun gs _=>gs.map2 (T.e sc e) (fun P _ ts c=>ag (lTg P (.tup ts)) c) fun X b ts c h3 h4=>aa h fun hn h=>aa h fun h1 h2=>iS (sL h3 fun env=>nv hn) h4 (fun env=>xC rfl env) (fun env _=>nw h1 (some (.Tuple es kk tp)) pos.line env) (fun env=>vo (nt h2) env)
  | tg=>bS sc _
noncomputable def Nb (a:AV):Option Nat:=op a.ty? fun t=>be (Nat.beq t.ctorIdx 8) (some 0) (be (Nat.beq t.ctorIdx 9) (some 1) none)
noncomputable def Fi (T:Trs P D) (sc:Scope) (x:Str) (np:Pos) (es:List Expr) (cpos pos:Pos):CSt P D sc (.Raise (some (.Call (.Name x np) es [] cpos)) none pos):=
  ifT ((ez x&&decide (sc.names.lookup x=some .globalImplicit))&&(es.all bZ&&Nat.ble (trL T sc es).c.length 1000)) (bS sc _) fun hp=>ifS (look P.globs (c8 x)) (bS sc _) fun a ha=>match a,ha with
    | .ty .ValueError,ha=>⟨aU (.ty .ValueError) (trL T sc es).c,(trL T sc es).rq,fun X b r=>aa hp fun h g=>aa h fun h1 h2=>aa g fun h3 h4=>lz (nmP h1).tx (of_decide_eq_true h2) (nmP h1).db (t:=.ValueError) PySem.F.excCall_ValueError PySem.F.excRaise_ValueError (b.hP▸ha) ((trL T sc es).ok X b r) (fun env=>gf h3) (Nat.le_of_ble_eq_true h4)⟩
    | .ty .AssertionError,ha=>⟨aU (.ty .AssertionError) (trL T sc es).c,(trL T sc es).rq,fun X b r=>aa hp fun h g=>aa h fun h1 h2=>aa g fun h3 h4=>lz (nmP h1).tx (of_decide_eq_true h2) (nmP h1).db (t:=.AssertionError) PySem.F.excCall_AssertionError PySem.F.excRaise_AssertionError (b.hP▸ha) ((trL T sc es).ok X b r) (fun env=>gf h3) (Nat.le_of_ble_eq_true h4)⟩
    | .top c,ha=>ifS (P.clss.get c) (bS sc _) fun cl hc=>ifT cl.exc (bS sc _) fun hx=>⟨aU (.top c) (trL T sc es).c,(trL T sc es).rq,fun X b r=>aa hp fun h g=>aa h fun h1 h2=>aa g fun h3 h4=>sQ (nmP h1).tx (of_decide_eq_true h2) (nmP h1).db (b.hP▸hc) hx (b.hP▸ha) ((trL T sc es).ok X b r) (fun env=>gf h3) (Nat.le_of_ble_eq_true h4)⟩
    | _,_=>bS sc _
noncomputable def HZ (P:Pg) (a:AV):Bool:=oe a.ty? (ob (op a.top? fun c=>P.clss.get c) fun cl=>cl.exc) fun t=>Nat.beq t.ctorIdx 8 || (Nat.beq t.ctorIdx 9 || Nat.beq t.ctorIdx 10)
theorem BU {a:AV} (h:HZ X.P a=true):qz X a:=
  az h (fun _ h=>ad h fun cl hcl h=>ao hcl fun c hc hcl=>AV.top_of hc▸.top hcl h) fun t ht h=>AV.ty_of ht▸(by
    cases t <;> first | exact .ty kR | exact .ty ie | exact .ty mU | exact ff h)
noncomputable def ms (T:Trs P D) (sc:Scope) (body:List Stmt) (h₀:ExceptHandler) (hs:List ExceptHandler) (orelse:List Stmt) (pos:Pos):CSt P D sc (.Try body (h₀::hs) orelse [] pos):=(fe T sc body).map2 (fe T sc orelse) (fun _ _ b o=>jT b .none [] o) fun X _ b o h1 h2=>uU h1 h2
noncomputable def Lq (T:Trs P D) (sc:Scope) (body:List Stmt) (hs:List ExceptHandler) (orelse:List Stmt) (pos:Pos):CSt P D sc (.Try body hs orelse [] pos):=match hs with
  | [.ExceptHandler (some (.Name x np)) none (b₀::suite) hpos]=>ifT (ez x&&decide (sc.names.lookup x=some .globalImplicit)) (ms T sc body _ _ orelse pos) fun hp=>ifS (look P.globs (c8 x)) (ms T sc body _ _ orelse pos) fun a ha=>ifT (HZ P a) (ms T sc body _ _ orelse pos) fun hb=>(fe T sc body).map3 (fe T sc (b₀::suite)) (fe T sc orelse) (fun _ _ b hb o=>jT b a hb o) fun X q b hb' o h1 h2 h3=>aa hp fun e1 e2=>Bb (BU (q.hP▸hb)) (nmP e1).tx (of_decide_eq_true e2) (nmP e1).db (q.hP▸ha) h1 h2 h3
  | h₀::hs=>ms T sc body h₀ hs orelse pos
  | []=>bS sc _
noncomputable def Lr (lt:Lt) (T:Trs P D) (sc:Scope) (name:Str) (params:Arguments) (body:List Stmt) (scope:Scope) (bind:Str) (pos:Pos):CSt P D sc (.FunctionDef name params body [] none [] scope none bind pos):=
  ifS (HV lt pos) (bS sc _) fun p _=>ifT ((qY params&&HY params)&&(frOk scope&&eqN bind.cps.toList name.cps.toList)) (bS sc _) fun h=>ifS (Lg (P:=P) (D:=D) sc name pos) (bS sc _) fun t _=>⟨Ai P p ((bY scope).map c8) t.c,.lam sc p name params (.stmts body) scope pos name::t.rq,fun X b r=>aa h fun h g=>aa h fun h1 h2=>aa g fun h3 h4=>by
      have e:=j5 h4
      subst e
      exact b.to (S:=fun P _=>fH X sc (.FunctionDef bind params body [] none [] scope none bind pos) (Ai P p ((bY scope).map c8) t.c)) (Bv (np:=pos) (t.ok X b fun q hq=>r q (.tail _ hq)) (kX h1).1 (kX h1).2 (BR h2) ⟨BO h3,(r _ (.head _)).1,(r _ (.head _)).2⟩)⟩
noncomputable def Ls (T:Trs P D) (sc:Scope) (target iter:Expr) (body:List Stmt) (pos:Pos):CSt P D sc (.For target iter body [] pos):=ifT (j3 iter) (bS sc _) fun h=>ifS (trG (P:=P) (D:=D) sc target) (bS sc _) fun g _=>(Fb T sc sc target g iter).map2 (fe T sc body) (fun P _ q b=>jS P q.1 q.2.1 q.2.2 b) fun X b q bs h1 h2=>Bf h1.1 h1.2 h2 (iT h).1
noncomputable def MB (lt:Lt) (T:Trs P D) (sc:Scope) (st:Stmt):CSt P D sc st:=match st with
  | .Return (some e) pos=>(T.e sc e).map (fun _ _ c=>aL c) fun X _ c h=>AU h
  | .Assign [tg] e pos=>Lp T sc tg e pos
  | .AugAssign (.Subscript o i p) .Add e pos=>ifT (ny i) (bS sc _) fun h=>(T.e sc o).map3 (T.e sc i) (T.e sc e) (fun P D x y z=>Iv P D x y z) fun X b x y z h1 h2 h3=>Bz h1 h2 h3 (lE h).2
  | .If t b o pos=>(T.t sc t).map3 (fe T sc b) (fe T sc o) (fun P _ x y z=>sIf P x y z) fun X q x y z h1 h2 h3=>Ew h1 h2 h3
  | .For target iter body [] pos=>Ls T sc target iter body pos
  | .Raise (some (.Call (.Name x np) es [] cpos)) none pos=>Fi T sc x np es cpos pos
  | .Try body hs orelse [] pos=>Lq T sc body hs orelse pos
  | .FunctionDef name params body [] none [] scope none bind pos=>Lr lt T sc name params body scope bind pos
  | .Expr e pos=>ifT (mo e&&decide (sc.kind=.function)) (bS sc _) fun h=>(T.e sc e).map (fun _ _ c=>bd c) fun X _ c h1=>aa h fun e1 e2=>yC h1 (fun env he=>by unfold interactive; rw [he,of_decide_eq_true e2]; rfl) fun env _=>nw e1 _ _ env
  | .Pass pos=>.of (fun _ _=>Aj) fun X _=>yA
  | .Continue pos=>.of (fun _ _=>sf) fun X _=>za
  | st=>bS sc st
noncomputable def tr (P:Pg) (D:List Df) (lt:Lt) (n:Nat):Trs P D:=Nat.rec (motive:=fun _=>Trs P D) ⟨fun sc e=>br sc e,fun sc e=>vp sc e,fun sc st=>bS sc st⟩ (fun _ T=>⟨Mz lt T,MA T,MB lt T⟩) n
end
section
variable {X:Cx} {sc:Scope}
noncomputable def Dt.allB {β:Type} (p:Nat->β->Bool) (t:Dt β):Bool:=t.rec true (fun k x=>p k x) fun _ _ _ a b=>a&&b
theorem Dt.allB_get {β:Type} {p:Nat->β->Bool} {t:Dt β} {a:Nat} {x:β}:Dt.allB p t=true->t.get a=some x->p a x=true:=by
  induction t with
  | nil=>exact fun _ h=>nn h
  | one k y=>exact fun h e=>bg e (fun e1 e2=>nb e1▸sm e2▸h) fun _=>nn
  | fork k l r il ir=>exact fun h e=>aa h fun h1 h2=>bg e (fun _ e=>il h1 e) fun _ e=>ir h2 e
noncomputable def Fj (n:Nm) (v:Value):Bool:=match v with
  | .str x _=>eqN (dec n) x.cps.toList
  | _=>false
theorem qZ {n:Nm} {v:Value} (h:Fj n v=true):∃ t,v=.str (tx n) t:=by
  cases v with
  | str x t=>exact ⟨t,congrArg (Value.str · t) (congrArg (fun l:List Nat=>Str.mk l.toArray) (eI h)).symm⟩
  | _=>exact ff h
noncomputable def BV (a:AV) (v:Value):Bool:=oe a.top? (oe a.ty? (oe a.blt? (ob a.lit? fun n=>Fj n v) fun b=>v==.builtin b.nm) fun t=>v==.type t.nm) fun c=>v==.ref c
theorem tJ {a:AV} {v:Value} (h:BV a v=true):mG a v:=
  az h (fun _ h=>az h (fun _ h=>az h (fun _ h=>ad h fun n hn h=>(qZ h).elim fun t e=>e▸AV.lit_of hn▸.str n t) fun b hb h=>eq_of_beq h▸AV.blt_of hb▸.blt b) fun t ht h=>eq_of_beq h▸AV.ty_of ht▸.ty t) fun c hc h=>eq_of_beq h▸AV.top_of hc▸.top c
noncomputable def mt (a:AV) (v:Value):Bool:=ob a.lit? fun n=>Fj n v
theorem jE {a:AV} {v:Value} (h:mt a v=true):fq a v:=ad h fun n hn h=>(qZ h).elim fun t e=>e▸AV.lit_of hn▸.mk n t
noncomputable def nz {α β:Type} (p:α->β->Bool) (l:List α):List β->Bool:=l.rec (fun r=>r.isEmpty) fun a _ ih r=>r.rec false fun b r' _=>p a b&&ih r'
theorem j6 {α β:Type} {p:α->β->Bool} {R:α->β->Prop} (hp:∀ a b,p a b=true->R a b) {l:List α}:∀ {r:List β},nz p l r=true->au R l r:=by
  induction l with
  | nil=>exact fun h=>List.isEmpty_iff.mp h▸.nil
  | cons a l ih=>
    intro r h
    cases r with
    | nil=>exact ff h
    | cons b r=>exact aa h fun h1 h2=>.cons (hp _ _ h1) (ih h2)
noncomputable def I6 (o:Obj):Option (Array Value×Nat):=match o.data with
  | .seq l n=>some (l,n)
  | _=>none
theorem q7 {o:Obj} {p:Array Value×Nat} (h:I6 o=some p):o.data=.seq p.1 p.2:=by
  obtain ⟨c,d,dt,sl⟩:=o
  cases dt <;> first | exact nn h | exact sm h▸rfl
noncomputable def xD (a:aj) (o:Obj):Bool:=ob (I6 o) fun p=>oe a.list? (ob a.tup? fun xs=>o.cls==.type "tuple" && nz mt xs p.1.toList) fun xs=>(o.cls==.type "list" && o.dict.isNone)&&nz mt xs p.1.toList
theorem vr {a:aj} {o:Obj} (h:xD a o=true):jz a o:=ad h fun p hp h=>az h (fun _ h=>ad h fun xs hxs h=>aa h fun h1 h2=>aj.tup_of hxs▸.tup (eq_of_beq h1) (q7 hp) (j6 (fun _ _=>jE) h2))
  fun xs hxs h=>aa h fun h1 h2=>aa h1 fun h1 h3=>aj.list_of hxs▸.list (eq_of_beq h1) (Option.isNone_iff_eq_none.mp h3) (q7 hp) (j6 (fun _ _=>jE) h2)
noncomputable def I7 (o:Obj):Option FuncData:=match o.data with
  | .func fd=>some fd
  | _=>none
theorem xE {o:Obj} {fd:FuncData} (h:I7 o=some fd):o.data=.func fd:=by
  obtain ⟨c,d,dt,sl⟩:=o
  cases dt <;> first | exact nn h | exact sm h▸rfl
noncomputable def BW (K:Frag) (a:Addr):Bool:=ob (op (K.lookup a) I7) fun _=>true
theorem mu {K:Frag} {a:Addr} (h:BW K a=true):∃ ob fd,K.lookup a=some ob∧ob.data=.func fd:=ad h fun fd hfd _=>ao hfd fun o ho hfd=>⟨o,fd,ho,xE hfd⟩
noncomputable def Lu (r:CFound):Option (Value×Value×Value×Value):=r.rec (fun _=>none) fun g a o t=>some (g,a,o,t)
noncomputable def Lv (r:CFound):Option Value:=r.rec some fun _ _ _ _=>none
theorem Fk {r:CFound} {p:Value×Value×Value×Value} (h:Lu r=some p):r=.get p.1 p.2.1 p.2.2.1 p.2.2.2:=by cases r <;> first | exact nn h | exact sm h▸rfl
theorem Fo {r:CFound} {v:Value} (h:Lv r=some v):r=.val v:=by cases r <;> first | exact nn h | exact sm h▸rfl
theorem H0 {α:Type} {l:List α} {a:α}:hd? l=some a->l=a::l.tail:=l.rec (motive:=fun l=>hd? l=some a->l=a::l.tail) nn fun b r _ h=>sm h▸rfl
noncomputable def BX (K:Frag) (c:Addr) (x:Str) (fd:Fd):Bool:=fd.rec (fun f=>findIn K (.ref c) x==some (some (.ref f))&&(typeIn K (.ref f)==some (.type "function")&&BW K f))
  (fun f=>ob (op (op (findIn K (.ref c) x) id) sv) fun p=>specialIn K (.ref p) "__get__" == some (some (.builtin "property.__get__"))&&(takesIn K (.ref p)==some true&&ob (op (recIn K p "property") hd?) fun v=>v==.ref f))
  (fun f=>specialIn K (.ref c) "__getattribute__" == some (some (.builtin "type.__getattribute__"))&&(BW K f&&ob (op (findCls K (.ref c) (.type "type") x) Lu) fun g=>(g.1==.builtin "classmethod.__get__" && (g.2.2.1==.none&&g.2.2.2==.ref c))&&ob (sv g.2.1) fun p=>ob (op (recIn K p "classmethod") hd?) fun v=>v==.ref f))
  (fun a=>!copiedNames.contains x&&ob (op (findIn K (.ref c) x) id) fun v=>specialIn K v "__get__" == some none&&(handedIn v&&(mt a v&&ob (op (findCls K (.ref c) (.type "type") x) Lv) fun w=>w==v)))
  ((findIn K (.ref c) x==some none&&(!copiedNames.contains x&&findIn K (.ref c) "__setattr__" == some (some (.builtin "object.__setattr__"))))&&(plainOver K c&&(takerIn K c x==some none&&(clsIn K c).any (·.hasDict))))
theorem BY {o:Option (Option Value)} {v:Value} (h:op o id=some v):o=some (some v):=ao h fun w hw e=>hw.trans (congrArg some e)
theorem BZ {K:Frag} {c:Addr} {x:Str} {fd:Fd} (h:BX K c x fd=true):uL K c x fd:=by
  cases fd with
  | fn f=>exact aa h fun h1 h=>aa h fun h2 h3=>⟨eq_of_beq h1,eq_of_beq h2,mu h3⟩
  | prop f=>exact ad h fun p hp h=>ao hp fun v hv hp=>aa h fun h1 h=>aa h fun h2 h=>ad h fun w hw h=>ao hw fun l hl hw=>.mk p l.tail (gw hp▸BY hv) (eq_of_beq h1) (eq_of_beq h2) (hl.trans (congrArg some (eq_of_beq h▸H0 hw)))
  | cm f=>exact aa h fun h1 h=>aa h fun h2 h=>ad h fun g hg h=>aa h fun h3 h=>aa h3 fun e1 h3=>aa h3 fun e2 e3=>ad h fun p hp h=>ad h fun w hw h=>ao hw fun l hl hw=>ao hg fun r hr hg=>.mk p l.tail (eq_of_beq h1) (hr.trans (congrArg some ((Fk hg).trans (by rw [eq_of_beq e1,eq_of_beq e2,eq_of_beq e3,gw hp])))) (hl.trans (congrArg some (eq_of_beq h▸H0 hw))) (mu h2)
  | val a=>exact aa h fun h1 h=>ad h fun v hv h=>aa h fun h2 h=>aa h fun h3 h=>aa h fun h4 h=>ad h fun w hw h=>ao hw fun r hr hw=>.mk v (nt h1) (BY hv) (eq_of_beq h2) h3 (jE h4) (hr.trans (congrArg some ((Fo hw).trans (congrArg CFound.val (eq_of_beq h)))))
  | dat=>exact aa h fun h g=>aa h fun h1 h=>aa h fun h2 h3=>aa g fun h4 g=>aa g fun h5 h6=>⟨eq_of_beq h1,nt h2,eq_of_beq h3,h4,eq_of_beq h5,h6⟩
noncomputable def H1 (K:Frag) (P:Pg) (c:Addr) (cl:Cls):Bool:=(makesIn K c&&(findIn K (.ref c) "__init__" == some (some (.ref cl.init))&&typeIn K (.ref cl.init)==some (.type "function")))&&(((clsIn K c).any (·.hasDict)&&(findIn K (.ref c) "__getattribute__" == some (some (.builtin "object.__getattribute__"))&&findIn K (.ref c) "__getattr__" == some none))&&
  ((readsIn K c (.type "type")&&(plainGet K c "__class__" && hasDictIn K c))&&((findIn K (.ref c) "__class__" == some (some (.builtin "object.__class__"))&&mroIn K c (.type "object")==some true)&&(((List.range 6).all fun k=>kitOne K (.type (kn k)) (.ref c)==some false)&&Dt.allB (fun d cd=>cd.exc || kitOne K (.ref d) (.ref c)==some (zW cd.mro (.top c))) P.clss))))
noncomputable def MC (K:Frag) (P:Pg) (c:Addr) (cl:Cls):Bool:=(be cl.exc (Az K c&&Dt.allB (fun _ _=>false) cl.attrs) (H1 K P c cl&&Dt.allB (fun m fd=>BX K c (tx m) fd) cl.attrs))&&(!cl.tru || (findIn K (.ref c) "__bool__" == some none&&findIn K (.ref c) "__len__" == some none))
noncomputable def Lx (K:Frag) (e:Nm×AV):Bool:=ob (nsIn K mainGlobals (tx e.1)) fun r=>oe r (ob (op (nsIn K builtinsNs (tx e.1)) id) fun v=>BV e.2 v) fun v=>BV e.2 v
noncomputable def H2 (K:Frag) (P:Pg):Bool:=(wY K&&(jA K mainGlobals&&jA K builtinsNs))&&((P.globs.all (Lx K)&&Dt.allB (MC K P) P.clss)&&((Dt.allB (fun a o=>ob (K.lookup a) fun ob=>xD o ob) P.objs&&Dt.allB (fun a _=>BW K a) P.defs)&&((specialIn K (.builtin "object.__class__") "__get__" == some (some (.builtin "getset_descriptor.__get__"))&&takesIn K (.builtin "object.__class__")==some true)&&
  (List.range 5).all fun k=>(List.range 4).all fun i=>kitOne K (.type (kn k)) (.type (kn i))==some (Nat.beq k i || (Nat.beq k 4&&Nat.beq i 0)))))
theorem any_of {K:Frag} {c:Addr} (h:(clsIn K c).any (·.hasDict)=true):∃ cd,clsIn K c=some cd∧cd.hasDict=true:=by
  cases hc:clsIn K c with
  | none=>rw [hc] at h; exact ff h
  | some cd=>rw [hc] at h; exact ⟨cd,rfl,h⟩
theorem rng {p:Nat->Bool} {n k:Nat} (h:(List.range (n + 1)).all p=true) (hk:Nat.ble k n=true):p k=true:=List.all_eq_true.mp h k (List.mem_range.mpr (Nat.lt_succ_of_le (Nat.le_of_ble_eq_true hk)))
theorem Fp {K:Frag} {P:Pg} (h:H2 K P=true):KP K P:=
  aa h fun h h'=>aa h fun h1 h=>aa h fun h2 h3=>aa h' fun h h'=>aa h fun h4 h5=>aa h' fun h h'=>aa h fun h6 h7=>aa h' fun h h10=>aa h fun h8 h9=>by
    have non:∀ {c cl},P.clss.get c=some cl->cl.exc=false->H1 K P c cl=true∧Dt.allB (fun m fd=>BX K c (tx m) fd) cl.attrs=true:=fun e x=>aa (Dt.allB_get h5 e) fun h _=>aQ h (fun y _=>ff (x.symm.trans y)) fun _ h=>aa h fun a b=>⟨a,b⟩
    exact { bmain:=h1,gns:=⟨h2,h3⟩,glob:=fun n a e=>ad (List.all_eq_true.mp h4 _ (bO e)) fun r hr h=>az h (fun z h=>ad h fun v hv h=>.inr ⟨z▸hr,v,BY hv,tJ h⟩) fun v z h=>.inl ⟨v,z▸hr,tJ h⟩,excs:=fun c cl e x=>aa (Dt.allB_get h5 e) fun h _=>aQ h (fun _ h=>aa h fun a _=>a) fun y _=>ff (y.symm.trans x),tru:=fun c cl e x=>aa (Dt.allB_get h5 e) fun _ h=>dm h (fun y=>ff ((nt y).symm.trans x)) fun h=>aa h fun a b=>⟨eq_of_beq a,eq_of_beq b⟩,objs:=fun a o e=>ad (Dt.allB_get h6 e) fun ob ho h=>⟨ob,ho,vr h⟩,defs:=fun a x e=>mu (Dt.allB_get h7 e),cls:=fun c cl e x=>aa (non e x).1 fun h h'=>aa h fun a1 h=>aa h fun a2 a3=>aa h' fun h h'=>aa h fun a4 h=>aa h fun a5 a6=>aa h' fun h h'=>aa h fun a7 h=>aa h fun a8 a9=>aa h' fun h h'=>aa h fun b1 b2=>aa h' fun b3 _=>{ cd:=any_of a4,ga:=eq_of_beq a5,gm:=eq_of_beq a6,rd:=a7,mks:=a1,ini:=eq_of_beq a2,inT:=eq_of_beq a3,pg:=a8,hd:=a9,fc:=eq_of_beq b1,mro:=eq_of_beq b2,kit:=fun k hk=>eq_of_beq (rng (n:=5) b3 hk),attr:=fun m fd e=>BZ (Dt.allB_get (non ‹_› x).2 e) },noat:=fun c cl m fd e e'=>aa (Dt.allB_get h5 e) fun h _=>aQ h (fun _ h=>aa h fun _ b=>ff (Dt.allB_get b e')) fun y _=>y,isiG:=⟨eq_of_beq h8,eq_of_beq h9⟩,isiD:=fun d cd c ca e e' x x'=>aa (non e' x').1 fun _ h=>aa h fun _ h=>aa h fun _ h=>aa h fun _ h=>aa h fun _ h=>dm (Dt.allB_get h e) (fun y=>ff (x.symm.trans y)) eq_of_beq,isiU:=fun k i hk hi=>eq_of_beq (rng (n:=3) (rng (n:=4) h10 hk) hi) }
end
section
variable {X:Cx} {sc:Scope}
structure dJ where
  key:List Nat
  c:Addr
  tab:Addr
  qual:Str
  last:List ((Nat×Nat)×Str)
  gen:Bool
noncomputable def pM (sc:Scope):List Nat:=sc.names.map fun x=>c8 x.1
noncomputable def B0 (e:dJ) (l c:Nat):Str:=((e.last.find? fun q=>Nat.beq q.1.1 l&&Nat.beq q.1.2 c).map (·.2)).getD Str.empty
noncomputable def I8 (e:dJ):Nat->Nat->Str:=fun l c=>e.qual++B0 e l c
noncomputable def Fq (ctx:List dJ) (sc:Scope) (code:Value) (qual:Str):Prop:=∀ e∈ctx,pM sc=e.key->code=.ref e.c∧qual=e.qual
noncomputable def Ft (ctx:List dJ):List (Addr×(Nat->Nat->Str)):=(ctx.filter fun e=>!e.gen).map fun e=>(e.tab,I8 e)
noncomputable def Fu (ctx:List dJ):List Addr:=(ctx.filter fun e=>e.gen).map fun e=>e.tab
noncomputable def I9 (o:Obj):Option (Array Value):=match o.data with
  | .fields vs=>some vs
  | _=>none
theorem xF {o:Obj} {vs:Array Value} (h:I9 o=some vs):o.data=.fields vs:=by
  obtain ⟨c,d,dt,sl⟩:=o
  cases dt <;> first | exact nn h | exact sm h▸rfl
noncomputable def Ja (v:Value):Option (Str×Tok):=match v with | .str x t=>some (x,t) | _=>none
noncomputable def Fv (v:Value):Option (Int×Tok):=match v with | .int x t=>some (x,t) | _=>none
noncomputable def H3 (v:Value):Option Bool:=match v with | .bool x=>some x | _=>none
theorem xG {v:Value} {p:Str×Tok} (h:Ja v=some p):v=.str p.1 p.2:=by cases v <;> first | exact nn h | exact sm h▸rfl
theorem q8 {v:Value} {p:Int×Tok} (h:Fv v=some p):v=.int p.1 p.2:=by cases v <;> first | exact nn h | exact sm h▸rfl
theorem B1 {v:Value} {p:Bool} (h:H3 v=some p):v=.bool p:=by cases v <;> first | exact nn h | exact sm h▸rfl
noncomputable def B2 (K:Frag) (e:dJ):Bool:=ob (K.lookup e.c) fun o=>ob (I9 o) fun vs=>(o.cls==.type "code" && vs[11]?==some (.ref e.tab))&&ob (Ja (vs.getD 18 .none)) fun _=>ob (Fv (vs.getD 7 .none)) fun _=>ob (H3 (vs.getD 9 .none)) fun _=>ob (Fv (vs.getD 10 .none)) fun _=>true
theorem nA {e:dJ} (h:B2 X.K e=true):m9 X (.ref e.c) e.tab:=
  ad h fun o ho h=>ad h fun vs hvs h=>aa h fun h1 h=>aa h1 fun h1 h2=>ad h fun a ha h=>ad h fun b hb h=>ad h fun c hc h=>ad h fun d hd _=>.mk rfl ho (eq_of_beq h1) (xF hvs) (eq_of_beq h2) (xG ha) (q8 hb) (B1 hc) (q8 hd)
structure zq (X:Cx) (ctx:List dJ):Prop where
  cq:X.cq=Fq ctx
  tb:X.tb=Ft ctx
  tf:X.tf=Fu ctx
  tabs:(ctx.map (·.tab)).Nodup
  code:∀ e∈ctx,B2 X.K e=true
theorem pN {ctx:List dJ}:(ctx.map (·.tab)).Nodup->∀ e∈ctx,∀ e'∈ctx,e.tab=e'.tab->e=e':=by
  induction ctx with
  | nil=>exact fun _ e he=>nomatch he
  | cons a l ih=>
    intro h e he e' he' q
    have h:=List.nodup_cons.mp h
    exact (List.mem_cons.mp he).elim (fun z=>(List.mem_cons.mp he').elim (fun z'=>z.trans z'.symm) fun g=>(h.1 (List.mem_map.mpr ⟨e',g,(z▸q).symm⟩)).elim) fun g=>(List.mem_cons.mp he').elim (fun z'=>(h.1 (List.mem_map.mpr ⟨e,g,z'▸q⟩)).elim) fun g'=>ih h.2 e g e' g' q
theorem Fw {ctx:List dJ} (H:zq X ctx) {e:dJ} (he:e∈ctx) (hg:e.gen=false):xw X (.ref e.c) (I8 e):=
  ⟨e.tab,H.tb▸List.mem_map.mpr ⟨e,List.mem_filter.mpr ⟨he,by rw [hg]; rfl⟩,rfl⟩,fun q hq e0=>(List.mem_map.mp (H.tb▸hq)).elim fun e' z=>by rw [← z.2] at e0 ⊢; rw [pN H.tabs e' (List.mem_filter.mp z.1).1 e he e0],nA (H.code e he)⟩
theorem xH {ctx:List dJ} (H:zq X ctx) {e:dJ} (he:e∈ctx) (hg:e.gen=true):∃ P∈X.tf,m9 X (.ref e.c) P:=⟨e.tab,H.tf▸List.mem_map.mpr ⟨e,List.mem_filter.mpr ⟨he,hg⟩,rfl⟩,nA (H.code e he)⟩
noncomputable def rqB (ctx:List dJ) (q:Rq):Bool:=q.rec (fun sc _ _ _ _ _ pos last=>ctx.any fun e=>!e.gen&&(eqN (pM sc) e.key&&eqN (B0 e pos.line pos.col).cps.toList last.cps.toList)) (fun sc=>ctx.any fun e=>e.gen&&eqN (pM sc) e.key) fun sc=>ctx.all fun e=>!eqN (pM sc) e.key
theorem j7 (l:List Nat):eqN l l=true:=by
  induction l with
  | nil=>rfl
  | cons a l ih=>show (Nat.beq a a&&eqN l l)=true; rw [nbr,ih]; rfl
noncomputable def Jb (rqs:List Rq) (p:Nat) (fd:FuncData):Prop:=∃ sc name params body scope pos last,Rq.lam sc p name params body scope pos last∈rqs∧∃ qual clos doc pm cv ctv,fd=tq name qual params body scope clos doc pm cv ctv
theorem H4 {ctx:List dJ} (H:zq X ctx) {rqs:List Rq} (hf:X.fn=Jb rqs) {r:Rq} (hr:r∈rqs) (h:rqB ctx r=true):r.ok X:=by
  cases r with
  | lam sc p name params body scope pos last=>
    exact ⟨fun code qual hc=>(List.any_eq_true.mp h).elim fun e z=>aa z.2 fun h3 h=>aa h fun h4 h5=>by
      rw [H.cq] at hc
      obtain ⟨rfl,rfl⟩:=hc e z.1 (eI h4)
      exact ⟨I8 e,Fw H z.1 (nt h3),congrArg (e.qual++·) (j5 h5)⟩,fun qual clos doc pm cv ctv=>hf▸⟨sc,name,params,body,scope,pos,last,hr,qual,clos,doc,pm,cv,ctv,rfl⟩⟩
  | gen sc=>
    exact fun code qual hc=>(List.any_eq_true.mp h).elim fun e z=>aa z.2 fun h3 h4=>by
      rw [H.cq] at hc
      obtain ⟨rfl,_⟩:=hc e z.1 (eI h4)
      exact xH H z.1 h3
  | free sc=>exact fun code qual=>H.cq▸fun e he q=>ff ((nt (List.all_eq_true.mp h e he)).symm.trans (q▸j7 _))
noncomputable def cqB (ctx:List dJ) (sc:Scope) (code:Value) (qual:Str):Bool:=ctx.all fun e=>!eqN (pM sc) e.key || (code==.ref e.c&&eqN qual.cps.toList e.qual.cps.toList)
theorem Jc {ctx:List dJ} {sc:Scope} {code:Value} {qual:Str} (h:cqB ctx sc code qual=true):Fq ctx sc code qual:=fun e he q=>dm (List.all_eq_true.mp h e he) (fun z=>ff ((nt z).symm.trans (q▸j7 _))) fun z=>aa z fun a b=>⟨eq_of_beq a,j5 b⟩
noncomputable def dfB (a:AV) (v:Value):Bool:=oe a.int? (oe a.bool? (oe a.lit? (a.ctorIdx==0&&v==.none) fun n=>Fj n v) fun q=>v==.bool q) fun i=>Nat.beq i.x 0&&ob (Fv v) fun p=>iEq i.c p.1
theorem q9 {a:AV} (h:(a.ctorIdx==0)=true):a=.none:=by cases a <;> first | rfl | exact ff h
theorem Jd {a:AV} {v:Value} (h:dfB a v=true) (V:Pl):den X V a v:=
  az h (fun _ h=>az h (fun _ h=>az h (fun _ h=>aa h fun h1 h2=>q9 h1▸eq_of_beq h2) fun n hn h=>(qZ h).elim fun t e=>e▸AV.lit_of hn▸cO n t) fun q hq h=>AV.bool_of hq▸eq_of_beq h) fun i hi h=>aa h fun h1 h=>ad h fun p hp h=>AV.int_of hi▸q8 hp▸fK ((dL h1).trans (hZ h))
noncomputable def Ly (K:Frag) (fd:FuncData) (fn:Fn):Bool:=oe (sv fd.defaults) (fd.defaults==.none&&fn.dflt.isEmpty) fun T=>ob (op (K.lookup T) I6) fun p=>nz dfB fn.dflt p.1.toList
noncomputable def vt (n:Nat) (l:List Nat):Bool:=l.rec false fun a _ r=>be (Nat.beq n a) true r
theorem ij {n:Nat} {l:List Nat}:vt n l=true↔n∈l:=by
  induction l with
  | nil=>exact ⟨fun h=>ff h,fun h=>(List.not_mem_nil h).elim⟩
  | cons a l ih=>exact ⟨fun h=>aQ h (fun e _=>nb e▸.head _) fun _ h=>.tail _ (ih.mp h),fun h=>(List.mem_cons.mp h).elim (fun e=>by subst e; exact lR (nbr n)) fun h=>tf (Nat.beq n a) (fun e=>lR e) fun e=>(f8 e).trans (ih.mpr h)⟩
noncomputable def allB {α:Type} (l:List α) (p:α->Bool):Bool:=l.rec true fun a _ r=>be (p a) r false
theorem gJ {α:Type} {l:List α} {p:α->Bool} (h:allB l p=true) (a:α) (m:a∈l):p a=true:=by
  induction l with
  | nil=>exact (List.not_mem_nil m).elim
  | cons b l ih=>exact aQ h (fun e h=>(List.mem_cons.mp m).elim (fun q=>q▸e) (ih h)) fun _ h=>ff h
noncomputable def im (l:List Nat):Bool:=l.rec true fun a l ih=>be (vt a l) false ih
theorem fk {l:List Nat}:im l=true->l.Nodup:=by
  induction l with
  | nil=>exact fun _=>List.nodup_nil
  | cons a l ih=>exact fun h=>aQ h (fun _ h=>ff h) fun h1 h2=>List.nodup_cons.mpr ⟨fun q=>ff (h1.symm.trans (ij.mpr q)),ih h2⟩
noncomputable def B3 (sc:Scope) (cells:List Nm) (n:Nm):Bool:=ob (sc.names.lookup (tx n)) fun k=>be (Nat.beq k.ctorIdx 1) (vt n cells) (Nat.beq k.ctorIdx 0&&!vt n cells)
theorem tK {sc:Scope} {cells:List Nm} {n:Nm} (h:B3 sc cells n=true):sc.names.lookup (tx n)=some (if n∈cells then .cell else .local):=
  ad h fun k hk h=>aQ h (fun e h=>hk.trans (by rw [if_pos (ij.mp h)]; cases k <;> first | rfl | exact ff e)) fun _ h=>aa h fun e h=>hk.trans (by rw [if_neg fun q=>ff ((nt h).symm.trans (ij.mpr q))]; cases k <;> first | rfl | exact ff e)
noncomputable def B4 (l:List Arg) (r:List Nm):Bool:=nz (fun (a:Arg) n=>eqN a.arg.cps.toList (dec n)) l r
theorem tL {l:List Arg} {r:List Nm} (h:B4 l r=true):l.map (·.arg)=r.map tx:=by
  have:=j6 (R:=fun (a:Arg) n=>a.arg=tx n) (fun a n e=>congrArg (fun l:List Nat=>Str.mk l.toArray) (eI e)) h
  induction this with
  | nil=>rfl
  | cons e _ ih=>rw [List.map_cons,List.map_cons,e,ih]; exact aa h fun _ h=>h
noncomputable def B5 (K:Frag) (ctx:List dJ) (fd:FuncData) (fn:Fn):Bool:=
  ((decide (fd.scope.kind=.function)&&(!fd.scope.isCoroutine&&!fd.scope.isGenerator))&&((Nat.beq fd.globals mainGlobals&&Nat.beq fd.builtins builtinsNs)&&cqB ctx fd.scope fd.code (fd.qualname ++ ".<locals>.")))&&
    (((fd.params.posonlyargs.isEmpty&&B4 fd.params.args fn.params)&&(fd.params.kwonlyargs.isEmpty&&(fd.params.vararg.isNone&&fd.params.kwarg.isNone)))&&((im fn.params&&Ly K fd fn)&&(Nat.ble fn.dflt.length fn.params.length&&fn.params.all (B3 fd.scope fn.cells))))
theorem tM {ctx:List dJ} (hc:X.cq=Fq ctx) {fd:FuncData} {fn:Fn} (h:B5 X.K ctx fd fn=true):iY X fd fn:=
  aa h fun h h'=>aa h fun h g=>aa h fun h1 h=>aa h fun h2 h3=>aa g fun g h6=>aa g fun h4 h5=>aa h' fun h g=>aa h fun h h'=>aa h fun h7 h8=>aa h' fun h9 h'=>aa h' fun h10 h11=>aa g fun h h'=>aa h fun h12 h13=>aa h' fun h14 h15=>{ kind:=of_decide_eq_true h1,co:=nt h2,gen:=nt h3,glob:=nb h4,blt:=nb h5,cq:=hc▸Jc h6,p1:=List.isEmpty_iff.mp h7,p2:=tL h8,p3:=List.isEmpty_iff.mp h9,p4:=Option.isNone_iff_eq_none.mp h10,p5:=Option.isNone_iff_eq_none.mp h11,nodup:=fk h12,dflt:=az h13 (fun _ h=>aa h fun a b=>.inl ⟨eq_of_beq a,List.isEmpty_iff.mp b⟩) fun T hT h=>ad h fun p hp h=>ao hp fun o ho hp=>.inr ⟨T,o,p.2,p.1.toList,gw hT,ho,q7 hp,fun V=>j6 (fun a v q=>Jd q V) h⟩,dlen:=Nat.le_of_ble_eq_true h14,kinds:=fun n hn=>tK (List.all_eq_true.mp h15 n hn) }
end
section
variable {X:Cx} {sc:Scope}
structure tN (X:Cx) (K:Frag) (P:Pg) (D:List Df) (ctx:List dJ) (prog:Program):Prop where
  b:tH X P D
  hK:X.K=K
  hprog:X.prog=prog
  cx:zq X ctx
noncomputable def H5 (o:Obj):Option (Option Value):=match o.data with
  | .cell x=>some x
  | _=>none
theorem B6 {o:Obj} {x:Option Value} (h:H5 o=some x):o.data=.cell x:=by
  obtain ⟨c,d,dt,sl⟩:=o
  cases dt <;> first | exact nn h | exact sm h▸rfl
noncomputable def Je (K:Frag) (c g:Addr) (l:List (Str×Addr)):Bool:=ob (f6 l) fun p=>j4 p.1 [95,95,99,108,97,115,115,95,95]&&ob (op (op (K.lookup p.2) H5) fun x=>op x sv) fun D=>(clsIn K D).isSome&&(mroIn K c (.ref D)==some true&&ks_superIn K c D "__init__" == some (some (.ref g)))
noncomputable def Fx (K:Frag) (prog:Program) (v:Value):Bool:=ob (sv v) fun cda=>ob (K.lookup cda) fun o=>ob (I9 o) fun vs=>ob (op vs[2]? Ja) fun p=>(prog.main.file:Str)==p.1
noncomputable def Lz (K:Frag):Bool:=nsIn K mainGlobals "super" == some none&&(nsIn K builtinsNs "super" == some (some (.type "super"))&&nsIn K cStatics "thirdparty.any" == some none)
noncomputable def LA (sc:Scope):Bool:=decide (sc.names.lookup ("super" : Str)=some .globalImplicit)&&(decide (sc.names.lookup ("__class__" : Str)=some .free)&&decide (sc.names.lookup (tx 0x73656c66)=some .local))
noncomputable def LB (K:Frag) (prog:Program) (fd:FuncData) (c g:Addr):Bool:=
  ((Je K c g fd.closure&&(clsIn K c).isSome)&&(typeIn K (.ref g)==some (.type "function")&&BW K g))&&(((ob (fd.params.posonlyargs++fd.params.args).head? fun ar=>eqN ar.arg.cps.toList (dec 0x73656c66))&&Fx K prog fd.code)&&(!(prog.main.scope.names.lookup ("super" : Str)).isSome&&(LA fd.scope&&Lz K)))
theorem Fy {fd:FuncData} {a c g:Addr} (hme:∃ ob,X.K.lookup a=some ob∧ob.data=.func fd) (h:LB X.K X.prog fd c g=true):HU X fd a c g:=
  aa h fun h h'=>aa h fun h g=>aa h fun h1 h2=>aa g fun h3 h4=>aa h' fun h g=>aa h fun h5 h6=>aa g fun h7 g=>aa g fun h8 h9=>aa h8 fun e1 h8=>aa h8 fun e2 e3=>aa h9 fun e4 h9=>aa h9 fun e5 e6=>{ me:=hme,clo:=ad h1 fun p hp h=>aa h fun k1 h=>ad h fun D hD h=>aa h fun k2 h=>aa h fun k3 k4=>ao hD fun x hx hD=>ao hx fun o ho hx=>ao hD fun v hv hD=>⟨p.2,D,o,(cS hp).trans (congrArg (fun n=>[(n,p.2)]) ((eF k1).trans (by decide +kernel))),ho,(B6 hx).trans (congrArg Data.cell (hv.trans (congrArg some (gw hD)))),Option.isSome_iff_exists.mp k2,eq_of_beq k3,eq_of_beq k4⟩,cls:=Option.isSome_iff_exists.mp h2,fn:=⟨eq_of_beq h3,mu h4⟩,self:=ad h5 fun ar har h=>⟨ar,har,congrArg (fun l:List Nat=>Str.mk l.toArray) (eI h)⟩,code:=ad h6 fun cda hc h=>ad h fun o ho h=>ad h fun vs hvs h=>ad h fun p hp h=>ao hp fun v hv hp=>⟨cda,o,vs,p.1,p.2,gw hc,ho,xF hvs,hv.trans (congrArg some (xG hp)),h⟩,top:=nt h7,ks:=of_decide_eq_true e1,kc:=of_decide_eq_true e2,kl:=of_decide_eq_true e3,g1:=eq_of_beq e4,g2:=eq_of_beq e5,op:=eq_of_beq e6 }
structure FnC (K:Frag) (P:Pg) (D:List Df) (ctx:List dJ) (prog:Program) (a:Addr) where
  fd:FuncData
  body:List CS
  rq:List Rq
  sup:Bool
  look:∃ ob,K.lookup a=some ob∧ob.data=.func fd
  ok:∀ X,tN X K P D ctx prog->(∀ r∈rq,r.ok X)->∀ fn:Fn,fn.body=body->iY X fd fn->BodyOk X fd fn a∧(sup=false->∃ ss,fd.body=.stmts ss∧SndSs X fd.scope ss fn.body)
section
variable (K:Frag) (P:Pg) (D:List Df) (ctx:List dJ) (prog:Program) (lt:Lt) (sup:List (Addr×(Addr×Addr)))
noncomputable def trN:Trs P D:=tr P D lt 40
noncomputable def Fz {a:Addr} (fd:FuncData) (hme:∃ ob,K.lookup a=some ob∧ob.data=.func fd) (ss:List Stmt) (hb:fd.body=.stmts ss):FnC K P D ctx prog a:=
  ⟨fd,(fe (trN P D lt) fd.scope ss).c,(fe (trN P D lt) fd.scope ss).rq,false,hme,fun X b r fn hfb ok=>have q:SndSs X fd.scope ss fn.body:=hfb▸(fe (trN P D lt) fd.scope ss).ok X b.b r; ⟨j2 hb q,fun _=>⟨ss,hb,q⟩⟩⟩
noncomputable def LC {a:Addr} (fd:FuncData) (hme:∃ ob,K.lookup a=some ob∧ob.data=.func fd) (x:Str) (p0 p1:Pos) (ini:Str) (ap:Pos) (args:List Expr) (cp ep:Pos) (ss:List Stmt) (hb:fd.body=.stmts (.Expr (.Call (.Attribute (.Call (.Name x p0) [] [] p1) ini ap) args [] cp) ep::ss)):Option (FnC K P D ctx prog a):=
  op (sup.lookup a) fun q=>ifT (LB K prog fd q.1 q.2&&((j4 x [115,117,112,101,114]&&j4 ini [95,95,105,110,105,116,95,95])&&(args.all bZ&&(decide (args.length < 30)&&(ap.endLine==cp.line))))) none fun h=>some ⟨fd,bd (jt q.1 q.2 (trL (trN P D lt) fd.scope args).c)::(fe (trN P D lt) fd.scope ss).c,(trL (trN P D lt) fd.scope args).rq++(fe (trN P D lt) fd.scope ss).rq,true,hme,fun X b r fn hfb ok=>⟨aa h fun h1 h=>aa h fun h g=>aa h fun h2 h3=>aa g fun h4 g=>aa g fun h5 h6=>by
        obtain ⟨b,rfl,rfl,cx⟩:=b
        obtain rfl:x=("super" : Str):=(eF h2).trans (by decide +kernel)
        obtain rfl:ini=("__init__" : Str):=(eF h3).trans (by decide +kernel)
        exact qT (Fy hme h1) hb hfb ok.kind ((trL (trN P D lt) fd.scope args).ok X b (Lc r)) ((fe (trN P D lt) fd.scope ss).ok X b (Ld r)) (fun env=>gf h4) (of_decide_eq_true h5) h6 (fun env _=>rfl),fun e=>ff e.symm⟩⟩
noncomputable def Jf {a:Addr} (fd:FuncData) (hme:∃ ob,K.lookup a=some ob∧ob.data=.func fd) (b:FuncBody) (hb:fd.body=b):Option (FnC K P D ctx prog a):=match b,hb with
  | .stmts (.Expr (.Call (.Attribute (.Call (.Name x p0) [] [] p1) ini ap) args [] cp) ep::ss),hb=>LC K P D ctx prog lt sup fd hme x p0 p1 ini ap args cp ep ss hb
  | .stmts ss,hb=>some (Fz K P D ctx prog lt fd hme ss hb)
  | _,_=>none
noncomputable def LD (a:Addr):Option (FnC K P D ctx prog a):=ifS (op (K.lookup a) I7) none fun fd h=>Jf K P D ctx prog lt sup fd (ao h fun o ho h=>⟨o,ho,xE h⟩) fd.body rfl
noncomputable def nB (q:Rq):Option Nat:=q.rec (fun _ p _ _ _ _ _ _=>some p) (fun _=>none) fun _=>none
noncomputable def lG (p:Nat) (q:Rq):Bool:=ob (nB q) fun n=>Nat.beq n p
noncomputable def vu (rqs:List Rq) (p:Nat):Option Rq:=rqs.rec none fun q _ ih=>be (lG p q) (some q) ih
theorem zr {q:Rq} {p:Nat} (hq:nB q=some p) {rqs:List Rq}:(rqs.filterMap nB).Nodup->q∈rqs->vu rqs p=some q:=by
  induction rqs with
  | nil=>exact fun _ h=>nomatch h
  | cons r rqs ih=>
    intro hn h
    show be (lG p r) (some r) (vu rqs p)=some q
    refine (List.mem_cons.mp h).elim (fun e=>(lR (show lG p r=true by rw [← e]; unfold lG; rw [hq]; exact nbr p)).trans (congrArg some e.symm)) fun h=>?_
    cases hr:nB r with
    | none=>
      rw [List.filterMap_cons,hr] at hn
      exact (f8 (show lG p r=false by unfold lG; rw [hr]; rfl)).trans (ih hn h)
    | some n=>
      rw [List.filterMap_cons,hr] at hn
      have hn:=List.nodup_cons.mp hn
      exact (f8 (show lG p r=false by unfold lG; rw [hr]; exact nbf fun e=>hn.1 (List.mem_filterMap.mpr ⟨q,h,hq.trans (congrArg some e.symm)⟩))).trans (ih hn.2 h)
noncomputable def nC (body:FuncBody) (scope:Scope):List CS×List Rq:=match body with
  | .stmts ss=>((fe (trN P D lt) scope ss).c,(fe (trN P D lt) scope ss).rq)
  | .expr e=>([aL ((trN P D lt).e scope e).c],((trN P D lt).e scope e).rq)
noncomputable def xI (q:Rq):List CS×List Rq:=q.rec (fun _ _ _ _ body scope _ _=>nC P D lt body scope) (fun _=>([],[])) fun _=>([],[])
noncomputable def B7 (fn:Fn) (params:Arguments) (scope:Scope):Bool:=
  ((decide (scope.kind=.function)&&(!scope.isCoroutine&&!scope.isGenerator))&&((ctx.all fun e=>!eqN (pM scope) e.key)&&(scope.names.all fun x=>decide (x.2≠.cell))))&&(((params.posonlyargs.isEmpty&&B4 params.args fn.params)&&(params.kwonlyargs.isEmpty&&(params.vararg.isNone&&params.kwarg.isNone)))&&((im fn.params&&fn.params.all (B3 scope []))&&(fn.dflt.isEmpty&&fn.cells.isEmpty)))
noncomputable def Jg (fn:Fn) (q:Rq):Bool:=q.rec (fun _ _ _ params _ scope _ _=>B7 ctx fn params scope) (fun _=>false) fun _=>false
end
end
section
variable {X:Cx} {sc:Scope}
noncomputable def Dt.list {β:Type} (t:Dt β):List (Nat×β):=t.rec [] (fun k x=>[(k,x)]) fun _ _ _ a b=>a++b
theorem Dt.mem_list {β:Type} {t:Dt β} {a:Nat} {x:β}:t.get a=some x->(a,x)∈t.list:=by
  induction t with
  | nil=>exact nn
  | one k y=>exact fun e=>bg e (fun e1 e2=>by rw [← nb e1,← sm e2]; exact .head _) fun _=>nn
  | fork k l r il ir=>exact fun e=>bg e (fun _ e=>List.mem_append_left _ (il e)) fun _ e=>List.mem_append_right _ (ir e)
theorem vy {x:Str} {names:List (Str×NameKind)}:∀ {L:Nat} {acc:List (Str×Addr)},((∃ k∈names,k.1=x∧k.2=.cell)∨(acc.lookup x).isSome=true)->((cellsFrom L names acc).lookup x).isSome=true:=by
  induction names with
  | nil=>exact fun h=>h.elim (fun ⟨k,hk,_⟩=>nomatch hk) id
  | cons p r ih=>
    obtain ⟨n,kd⟩:=p
    intro L acc h
    have go:∀ acc':List (Str×Addr),(n=x∧kd=.cell->(acc'.lookup x).isSome=true)->((acc.lookup x).isSome=true->(acc'.lookup x).isSome=true)->(∃ k∈r,k.1=x∧k.2=.cell)∨(acc'.lookup x).isSome=true:=fun acc' h1 h2=>h.elim (fun ⟨k,hk,e1,e2⟩=>(List.mem_cons.mp hk).elim (fun z=>.inr (h1 (by rw [z] at e1 e2; exact ⟨e1,e2⟩))) fun hk=>.inl ⟨k,hk,e1,e2⟩) fun h=>.inr (h2 h)
    unfold cellsFrom
    split
    · refine ih (go _ (fun q=>?_) fun q=>?_)
      · rw [List.lookup_cons,q.1,beq_self_eq_true]; rfl
      · rw [List.lookup_cons]
        split
        · rfl
        · exact q
    · rename_i hkd
      exact ih (go _ (fun q=>absurd (by rw [q.2]; rfl) hkd) fun q=>q)
noncomputable def vz (names:List (Str×NameKind)) (cells:List Nm):Bool:=cells.all fun n=>names.any fun x=>eqN x.1.cps.toList (dec n)&&decide (x.2=.cell)
theorem pO {names:List (Str×NameKind)} {cells:List Nm} (h:vz names cells=true):∀ L,∀ n∈cells,((cellsFrom L names []).lookup (tx n)).isSome=true:=fun L n hn=>(List.any_eq_true.mp (List.all_eq_true.mp h n hn)).elim fun x z=>aa z.2 fun h1 h2=>vy (.inl ⟨x,z.1,congrArg (fun l:List Nat=>Str.mk l.toArray) (eI h1),of_decide_eq_true h2⟩)
noncomputable def fnB (K:Frag) (ctx:List dJ) (fd:FuncData) (fn:Fn) (sup:Bool):Bool:=(codeIn K fd.code fd.qualname&&B5 K ctx fd fn)&&((fn.cells.isEmpty&&(fd.scope.names.all fun x=>decide (x.2≠.cell))) || (!sup&&(fd.closure.isEmpty&&(im fn.cells&&vz fd.scope.names fn.cells))))
section
variable {K:Frag} {P:Pg} {D:List Df} {ctx:List dJ} {prog:Program} {lt:Lt} {sup:List (Addr×(Addr×Addr))}
theorem LE (b:tN X K P D ctx prog) {a:Addr} {fn:Fn} (c:FnC K P D ctx prog a) (hr:∀ r∈c.rq,r.ok X) (hb:fn.body=c.body) (h:fnB K ctx c.fd fn c.sup=true) :
    ∃ ob fd,X.K.lookup a=some ob∧ob.data=.func fd∧codeIn X.K fd.code fd.qualname=true∧iY X fd fn∧
    ((fn.cells=[]∧(∀ x∈fd.scope.names,x.2≠.cell)∧BodyOk X fd fn a)∨(fd.closure=[]∧fn.cells.Nodup∧(∀ L,∀ n∈fn.cells,((cellsFrom L fd.scope.names []).lookup (tx n)).isSome=true)∧∃ ss,fd.body=.stmts ss∧SndSs X fd.scope ss fn.body)):=
  c.look.elim fun ob z=>aa h fun h g3=>aa h fun g1 g2=>by
    have st:iY X c.fd fn:=tM b.cx.cq (b.hK.symm▸g2)
    have k:=c.ok X b hr fn hb st
    exact ⟨ob,c.fd,b.hK.symm▸z.1,z.2,b.hK.symm▸g1,st,dm g3 (fun g=>aa g fun x y=>.inl ⟨List.isEmpty_iff.mp x,fun q hq=>of_decide_eq_true (List.all_eq_true.mp y q hq),k.1⟩) fun g=>aa g fun x g=>aa g fun y g=>aa g fun u v=>.inr ⟨List.isEmpty_iff.mp y,fk u,pO v,k.2 (nt x)⟩⟩
theorem B8 (b:tN X K P D ctx prog) {fn:Fn} {name:Str} {params:Arguments} {body:FuncBody} {scope:Scope} {qual:Str} {clos:List (Str×Addr)} {doc pm cv ctv:Value}
    (hb:(nC P D lt body scope).1=fn.body) (hr:∀ r∈(nC P D lt body scope).2,r.ok X) (h:B7 ctx fn params scope=true) :
    iY X (tq name qual params body scope clos doc pm cv ctv) fn∧fn.cells=[]∧(∀ x∈scope.names,x.2≠.cell)∧∀ a,BodyOk X (tq name qual params body scope clos doc pm cv ctv) fn a:=
  aa h fun h h'=>aa h fun h g=>aa h fun h1 h=>aa h fun h2 h3=>aa g fun h4 h14=>aa h' fun h g=>aa h fun h h'=>aa h fun h5 h6=>aa h' fun h7 h'=>aa h' fun h8 h9=>aa g fun h g=>aa h fun h10 h13=>aa g fun h11 h12=>by
    have e:=List.isEmpty_iff.mp h12
    have f:=List.isEmpty_iff.mp h11
    refine ⟨{ kind:=of_decide_eq_true h1,co:=nt h2,gen:=nt h3,glob:=rfl,blt:=rfl,cq:=b.cx.cq▸fun x hx q=>ff ((nt (List.all_eq_true.mp h4 x hx)).symm.trans ((congrArg (fun l=>eqN l x.key) q).trans (j7 _))),p1:=List.isEmpty_iff.mp h5,p2:=tL h6,p3:=List.isEmpty_iff.mp h7,p4:=Option.isNone_iff_eq_none.mp h8,p5:=Option.isNone_iff_eq_none.mp h9,nodup:=fk h10,dflt:=.inl ⟨rfl,f⟩,dlen:=by rw [f]; exact Nat.zero_le _,kinds:=fun n hn=>by rw [e]; exact tK (List.all_eq_true.mp h13 n hn) },e,fun x hx=>of_decide_eq_true (List.all_eq_true.mp h14 x hx),fun a=>?_⟩
    cases body with
    | stmts ss=>exact j2 (ss:=ss) rfl (hb▸(fe (trN P D lt) scope ss).ok X b.b hr)
    | expr e=>exact .expr rfl (((trN P D lt).e scope e).ok X b.b hr) hb.symm
noncomputable def Jh (ctx:List dJ) (r:Rq):Bool:=rqB ctx r&&(nB r).isNone
theorem B9 {r:Rq} (H:zq X ctx) (h:Jh ctx r=true):r.ok X:=aa h fun h1 h2=>by
  cases r with
  | lam=>exact ff h2
  | gen sc=>
    exact fun code qual hc=>(List.any_eq_true.mp h1).elim fun e z=>aa z.2 fun h3 h4=>by
      rw [H.cq] at hc
      obtain ⟨rfl,_⟩:=hc e z.1 (eI h4)
      exact xH H z.1 h3
  | free sc=>exact fun code qual=>H.cq▸fun e he q=>ff ((nt (List.all_eq_true.mp h1 e he)).symm.trans (q▸j7 _))
noncomputable def H6 (K:Frag) (P:Pg) (D:List Df) (ctx:List dJ) (prog:Program) (lt:Lt) (sup:List (Addr×(Addr×Addr))) (ls:List Nat) (e:Nat×Fn):Option (List CS×(Bool×Bool)):=
  op (LD K P D ctx prog lt sup e.1) fun c=>some (c.body,fnB K ctx c.fd e.2 c.sup,be (vt e.1 ls) (c.rq.all (rqB ctx)) (c.rq.all (Jh ctx)))
noncomputable def vA (P:Pg) (D:List Df) (ctx:List dJ) (lt:Lt) (rqs:List Rq) (e:Nat×Fn):Option (List CS×(Bool×Bool)):=op (vu rqs e.1) fun r=>some ((xI P D lt r).1,Jg ctx e.2 r,(xI P D lt r).2.all (Jh ctx))
noncomputable def j8 (e:Nat×Fn):Option (List CS×(Bool×Bool)):=some (e.2.body,true,true)
noncomputable def pP (K:Frag) (P:Pg) (D:List Df) (ctx:List dJ) (prog:Program) (lt:Lt) (sup:List (Addr×(Addr×Addr))) (ls:List Nat):List Rq:=ls.flatMap fun a=>oe (LD K P D ctx prog lt sup a) [] fun c=>c.rq
theorem Ca {α β:Type} {f g:α->β} {l:List α}:l.map f=l.map g->∀ e∈l,f e=g e:=by
  induction l with
  | nil=>exact fun _ _ he=>nomatch he
  | cons x l ih=>exact fun q e he=>(List.mem_cons.mp he).elim (fun z=>z▸(List.cons.inj q).1) (ih (List.cons.inj q).2 e)
theorem Cb {b:List CS} {x y:Bool} {c:List CS} (h:(b,x,y)=(c,true,true)):b=c∧x=true∧y=true:=⟨congrArg Prod.fst h,congrArg (fun p=>p.2.1) h,congrArg (fun p=>p.2.2) h⟩
theorem Ji (b:tN X K P D ctx prog) {W:Pf} {ls:List Nat} {extra:List Rq} (hf:X.fn=Jb (pP K P D ctx prog lt sup ls++extra))
    (h1:W.fns.list.map (H6 K P D ctx prog lt sup ls)=W.fns.list.map j8) (h2:W.lams.list.map (vA P D ctx lt (pP K P D ctx prog lt sup ls++extra))=W.lams.list.map j8)
    (h3:im ((pP K P D ctx prog lt sup ls++extra).filterMap nB)=true):WOk X W where
  fns:=fun a fn e=>ao (Ca h1 _ (Dt.mem_list e)) fun c hc row=>have r:=Cb (sm row); LE b c (fun q hq=>tf (vt a ls) (fun hm=>H4 b.cx hf (List.mem_append_left _ (List.mem_flatMap.mpr ⟨a,ij.mp hm,by rw [hc]; exact hq⟩)) (List.all_eq_true.mp ((lR hm).symm.trans r.2.2) q hq)) fun hm=>B9 b.cx (List.all_eq_true.mp ((f8 hm).symm.trans r.2.2) q hq)) r.1.symm r.2.1
  lams:=fun p fn fd e hfd=>by
    rw [hf] at hfd
    obtain ⟨sc,name,params,body,scope,pos,last,hm,qual,clos,doc,pm,cv,ctv,rfl⟩:=hfd
    have row:=Ca h2 _ (Dt.mem_list e)
    unfold vA j8 at row
    rw [zr (q:=.lam sc p name params body scope pos last) rfl (fk h3) hm] at row
    have r:=Cb (sm row)
    exact B8 b r.1 (fun q hq=>B9 b.cx (List.all_eq_true.mp r.2.2 q hq)) r.2.1
end
end
end
end Mine
namespace Mine
section
open PySem PySem.W PyProof.Rows
section
variable {X:Cx} {sc:Scope}
structure Mp where
  lim:Nat
  fz:Nat
  m:List (Nat×Nat)
  v:List (Nat×IV)
noncomputable def oF (M:Mp) (i:IV):Option IV:=be (Nat.ble i.x M.lim) (some i) (op (look M.v i.x) fun e=>some ⟨e.x,e.c + i.c⟩)
noncomputable def vB (σ:St) (a b:IV):Bool:=(Nat.beq a.x b.x&&iEq a.c b.c) || (leF σ a b 0&&leF σ b a 0)
noncomputable def zs (M:Mp) (σ:St) (c e:IV):Bool:=ob (oF M c) fun c'=>vB σ c' e
noncomputable def oG (M:Mp) (i j:Nat):Bool:=ob (look M.m i) fun j'=>Nat.beq j' j
noncomputable def AV.any? (o:AV):Option Nat:=o.rec .none (fun _=>.none) (fun _=>.none) (fun _=>.none) (fun _=>.none) (fun _=>.none) (fun _=>.none) (fun _=>.none) (fun _=>.none) (fun _ _=>.none) fun x=>.some x
theorem AV.any_of {o:AV} {x:Nat}:o.any?=some x->o=.any x:=o.rec (motive:=fun o=>o.any?=some x->o=.any x) nn (fun _=>nn) (fun _=>nn) (fun _=>nn) (fun _=>nn) (fun _=>nn) (fun _=>nn) (fun _=>nn) (fun _=>nn) (fun _ _=>nn) fun x h=>congrArg _ (sm h)
noncomputable def zt (M:Mp) (σ:St) (c e:AV):Bool:=oe c.int? (oe c.lit? (oe c.own? (oe c.top? (oe c.bool? (oe c.any? (c.ctorIdx==0&&e.ctorIdx==0) fun k=>ob e.any? fun j=>Nat.beq k j&&!Nat.beq k M.fz) fun p=>ob e.bool? fun q=>p==q) fun a=>ob e.top? fun b=>Nat.beq a b) fun i=>ob e.own? fun j=>oG M i j) fun a=>ob e.lit? fun b=>Nat.beq a b) fun x=>ob e.int? fun y=>zs M σ x y
noncomputable def Jj (M:Mp) (σ:St):List (Nm×AV)->List (Nm×AV)->Bool:=nz fun a b=>Nat.beq a.1 b.1&&zt M σ a.2 b.2
noncomputable def LF (M:Mp) (σ:St):List AV->List AV->Bool:=nz (zt M σ)
noncomputable def Cc (M:Mp) (σ:St) (c e:aj):Bool:=oe c.dict? (oe c.list? (oe c.plist? (oe c.inst? (oe c.cell? (ob c.fn? fun p=>ob e.fn? fun q=>Nat.beq p.1 q.1&&p.2.all fun x=>ob (look q.2 x.1) fun j=>oG M x.2 j) fun x=>ob e.cell? fun y=>oe x true fun a=>ob y fun b=>zt M σ a b) fun p=>ob e.inst? fun q=>Nat.beq p.1 q.1&&oG M p.2 q.2)
  fun p=>p.2.isEmpty&&oe e.plist? (ob e.list? fun ys=>zs M σ p.1 ⟨0,ys.length⟩) fun q=>zs M σ p.1 ⟨q.1.x,q.1.c + q.2.length⟩) fun xs=>ob e.list? fun ys=>LF M σ xs ys) fun es=>ob e.dict? fun fs=>Jj M σ es fs
noncomputable def mkT (l:List (Nat×aj)):AT:=l.rec .nil fun e _ ih=>Tr.set e.2 ih e.1
noncomputable def fcB (M:Mp) (σ:St) (f:Fc):Bool:=ob (oF M ⟨f.x,0⟩) fun a=>ob (oF M ⟨f.y,0⟩) fun b=>leF σ a b f.c
noncomputable def LG (M:Mp) (σ:St) (n:Nat) (e:Nat×aj):Bool:=ob (look M.m e.1) fun j=>ob (σ.t.get j) fun o=>Cc M σ e.2 o&&(!inL σ.locks j&&Nat.blt e.1 n)
noncomputable def MD (M:Mp) (σ:St) (e:Nm×AV):Bool:=ob (look σ.loc e.1) fun b=>zt M σ e.2 b
noncomputable def mtB (M:Mp) (σ:St) (C:St) (Cl:List (Nat×aj)) (Cf:List Fc):Bool:=
  ((allB Cl (LG M σ C.n)&&im (M.m.map (·.2)))&&((allB M.m fun p=>Nat.blt p.1 C.n)&&allB σ.locks (inL C.locks)))&&((allB C.loc (MD M σ)&&allB Cf (fcB M σ))&&allB M.v fun p=>hO p.1 || (leF σ p.2 ⟨0,0⟩ 90000&&leF σ ⟨0,0⟩ p.2 90000))
noncomputable def fIV (M:Mp) (c e:IV):Mp:=be (Nat.ble c.x M.lim) M (oe (look M.v c.x) ⟨M.lim,M.fz,M.m,(c.x,⟨e.x,e.c - c.c⟩)::M.v⟩ fun _=>M)
noncomputable def fId (M:Mp) (i j:Nat):Mp:=oe (look M.m i) ⟨M.lim,M.fz,(i,j)::M.m,M.v⟩ fun _=>M
noncomputable def fAV (M:Mp) (a b:AV):Mp:=oe a.int? (oe a.own? M fun i=>oe b.own? M fun j=>fId M i j) fun c=>oe b.int? M fun e=>fIV M c e
noncomputable def fXs (l:List AV):List AV->Mp->Mp:=l.rec (fun _ M=>M) fun a _ ih r M=>r.rec M fun b r' _=>ih r' (fAV M a b)
noncomputable def ME (M:Mp) (c e:aj):Mp:=oe c.dict? (oe c.list? (oe c.plist? (oe c.inst? (oe c.cell? (oe c.fn? M fun p=>oe e.fn? M fun q=>p.2.foldl (fun M x=>oe (look q.2 x.1) M fun j=>fId M x.2 j) M) fun x=>oe e.cell? M fun y=>oe x M fun a=>oe y M fun b=>fAV M a b) fun p=>oe e.inst? M fun q=>fId M p.2 q.2)
  fun p=>oe e.plist? (oe e.list? M fun ys=>fIV M p.1 ⟨0,ys.length⟩) fun q=>fIV M p.1 ⟨q.1.x,q.1.c + q.2.length⟩) fun xs=>oe e.list? M fun ys=>fXs xs ys M) fun es=>oe e.dict? M fun fs=>fXs (es.map (·.2)) (fs.map (·.2)) M
noncomputable def nD (σ:St) (Cl:List (Nat×aj)) (M:Mp):Mp:=Cl.foldl (fun M e=>oe (look M.m e.1) M fun j=>oe (σ.t.get j) M fun o=>ME M e.2 o) M
noncomputable def kN (n:Nat):Nm:=be (Nat.beq n 0) 36018067200882928471980076910 (be (Nat.beq n 1) 132140749778798 133240261406574)
noncomputable def lv (x:Nat):AV:=.int ⟨x,0⟩
noncomputable def Ce (E:List Nat) (p:Nat):List (Nm×AV):=(kN 0,lv 23)::(134339773034350,.int ⟨0,2⟩)::(E.take p).map fun k=>(kN k,lv (23 + k))
noncomputable def snX (x:Nat):aj:=.dict [(9145399837059196410969151729518,lv x)]
noncomputable def H7 (b x:Nat):List (Nat×aj):=[(b + 2,.inst 577 (b + 1)),(b + 1,.dict [(33325589488824174,lv x),(119182899770472,.none),(114767757337971,.none),(2618808466638730027084704185175413909327996019,.own b)]),(b,.dict [])]
noncomputable def LH (l:List Nat):Nat->List (Nm×AV):=l.rec (fun _=>[]) fun k _ ih b=>(kN k,.own (b + 2))::ih (b + 3)
noncomputable def Jk (l:List Nat):Nat->List (Nat×aj):=l.rec (fun b=>H7 b 32) fun k _ ih b=>H7 b (26 + k)++ih (b + 3)
noncomputable def LI (l:List Nat):Nat->Nat:=l.rec (fun b=>b + 2) fun _ _ ih b=>ih (b + 3)
noncomputable def lH (a b:Nat):aj:=.dict [(8317692697400340340,.own a),(2147419152243300068720,.own b)]
noncomputable def zu (x r m:Nat):aj:=.list [lv x,.own r,lv m]
noncomputable def dN (E:List Nat) (p:Nat) (c6 c7:Option AV) (xo:List (Nat×aj)):List (Nat×aj):=[(0,.cell (some (.own 8))),(1,.cell (some (.own 13))),(2,.cell (some (.own 14))),(3,.cell (some (.own 19))),(4,.cell (some (.own 20))),(5,.cell (some (.own 24))),(6,.cell c6),(7,.cell c7),(8,.dict ((kN 0,lv 26)::E.map fun k=>(kN k,lv (26 + k)))),(13,lH 10 12),(10,zu 20 9 29),(12,zu 21 11 30),(9,.dict (Ce E p)),(11,snX 22),(14,lH 16 18),(16,zu 20 15 29),(18,zu 21 17 30),(15,.dict (Ce E p)),(17,snX 22),(19,.plist ⟨33,0⟩ []),(20,.dict []),(24,.inst 1080 23),(23,.dict [(26862651316266340,.own 21),(26849440164963684,.own 22),(9220625203426029742698590007155,.own 25),(9145399837059196411179588019823,.own (LI (0::E) 26))]),(21,.fn 4 [(32500882703672676,4),(512970878052,2)]),(22,.fn 5 [(109317377451364,3),(512970878052,2)]),(25,.dict (LH (0::E) 26))]++(Jk (0::E) 26++xo)
noncomputable def cg (E:List Nat) (p:Nat):List Fc:=((0::E.take p).flatMap fun k=>[⟨0,23 + k,-1⟩,⟨23 + k,26 + k,0⟩,⟨23 + k,31,0⟩])++(((0::E).flatMap fun k=>[⟨0,26 + k,-1⟩,⟨26 + k,31,0⟩])++
  [⟨0,22,-1⟩,⟨0,20,-1⟩,⟨22,20,0⟩,⟨20,31,0⟩,⟨22,31,0⟩,⟨0,21,-1⟩,⟨21,31,0⟩,⟨0,29,0⟩,⟨29,0,4⟩,⟨0,30,0⟩,⟨30,0,4⟩,⟨0,32,-1⟩,⟨32,31,0⟩,⟨0,33,0⟩,⟨33,31,0⟩,⟨0,31,0⟩])
noncomputable def zv (E:List Nat) (p:Nat):List Fc:=(31::((0::E.take p).map (23 + ·)++((0::E).map (26 + ·)++[22,20,21,32,33]))).map fun x=>⟨x,0,1000⟩
noncomputable def fs0:Fs:=⟨Tr.set 0 .nil 0,Tr.set 0 .nil 0,[]⟩
noncomputable def kY (l:List Fc):Fs:=(l.foldr (fun g s=>qj s ⟨g.x,0⟩ ⟨g.y,0⟩ g.c) ⟨.nil,0,[],[],fs0⟩).f
noncomputable def stX (E:List Nat) (p:Nat) (c6 c7:Option AV) (xo:List (Nat×aj)) (loc:List (Nm×AV)) (fs:List Fc):St:=⟨mkT (dN E p c6 c7 xo),67,[66],loc,kY (fs++(cg E p++zv E p))⟩
noncomputable def fg:List (List Nat):=[[],[1],[2],[1,2],[2,1]]
noncomputable def Jl (ks:List Nat) (l:List (List Nat)):Option (List Nat):=l.rec none fun E _ ih=>be (eqN (E.map kN) ks) (some E) ih
noncomputable def H8 (σ:St) (i:Nat):Option aj:=op (op (op (op (op (σ.t.get i) aj.cell?) fun x=>x) AV.own?) fun w=>σ.t.get w) some
noncomputable def LJ (n:Nat) (E:List Nat):Option (List Nat×Nat):=be (Nat.beq n 0) (some (E,0)) (be (Nat.beq n 1) (some (E,1)) (be (Nat.beq n 2) (some (E,2)) none))
noncomputable def sel (σ:St):Option (List Nat×Nat):=op (op (H8 σ 0) aj.dict?) fun es=>op (op (op (op (op (H8 σ 1) aj.dict?) hd?) fun e=>AV.own? e.2) fun a=>σ.list? a) fun xs=>op (op (op (qh xs 1) AV.own?) fun r=>σ.dict? r) fun rs=>op (Jl (es.tail.map (·.1)) fg) fun E=>LJ (rs.length - 2) E
noncomputable def M0 (lim fz:Nat) (b:Int) (v:List (Nat×IV)):Mp:=⟨lim,fz,[(0,0),(1,1),(2,2),(3,3),(4,4),(5,5),(6,6),(7,7),(60,60),(66,66)],(31,⟨31,b⟩)::v⟩
noncomputable def FA (M:Mp):Bool:=oG M 60 60&&(List.range 8).all fun i=>oG M i i
noncomputable def xJ (lim fz:Nat) (b:Int) (v:List (Nat×IV)) (c6 c7:Option AV) (xo:List (Nat×aj)) (loc:List (Nm×AV)) (ex:List Fc) (mono:List Nat->Nat->Mp->St->Bool) (σ:St):Bool:=ob (sel σ) fun q=>(fun M=>mtB M σ (stX q.1 q.2 c6 c7 xo loc []) (dN q.1 q.2 c6 c7 xo) (ex++cg q.1 q.2)&&(mono q.1 q.2 M σ&&(Nat.beq M.lim lim&&(Nat.beq M.fz fz&&((ob (look M.v 31) fun e=>Nat.beq e.x 31&&iEq e.c b)&&(Nat.ble q.2 q.1.length&&FA M))))))
  (nD σ (dN q.1 q.2 c6 c7 xo) (M0 lim fz b v))
noncomputable def leM (σ:St) (M:Mp) (x:Nat):Bool:=ob (oF M ⟨x,0⟩) fun e=>leF σ ⟨x,0⟩ e 0
noncomputable def LK (l:List Nat):List Nat->Bool:=l.rec (fun _=>true) fun a _ ih r=>r.rec false fun b r' _=>Nat.beq a b&&ih r'
noncomputable def xK (E:List Nat) (p:Nat) (E':List Nat) (p':Nat) (M:Mp) (σ:St):Bool:=
  LK (E.take p) (E'.take p')&&(allB (0::E.take p) (fun k=>leM σ M (23 + k))&&(leM σ M 20&&((ob (oF M ⟨21,0⟩) fun t=>ob (oF M ⟨22,0⟩) fun d=>leF σ ⟨21,0⟩ t (-1) || (vB σ ⟨21,0⟩ t&&vB σ ⟨22,0⟩ d))&&(Nat.beq p' p || ob (oF M ⟨20,0⟩) fun d=>leF σ ⟨20,0⟩ d (-1)))))
noncomputable def LL (M:Mp):Bool:=M.v.all fun p=>Nat.beq p.2.x p.1&&iEq p.2.c 0
noncomputable def idV (l:List Nat):List (Nat×IV):=l.map fun x=>(x,⟨x,0⟩)
noncomputable def lX (E:List Nat) (p:Nat):List Nat:=(0::E.take p).map (23 + ·)++((0::E).map (26 + ·)++[20,21,22,29,30,31,32,33])
noncomputable def Cg (Cl:List (Nat×aj)):List (Nat×Nat):=(60,60)::Cl.map fun e=>(e.1,e.1)
end
end
end Mine
namespace Mine
section
open PySem PySem.W PyProof.Rows PySem.Calls
section
variable {X:Cx} {sc:Scope}
noncomputable def nuM (M:Mp) (lo nu:Nat->Int) (x:Nat):Int:=be (Nat.ble x M.lim) (nu x) (oe (look M.v x) (lo x) fun e=>e.den nu)
noncomputable def plM (M:Mp) (V:Pl) (n:Nat):Pl:=⟨n,fun i=>oe (look M.m i) 0 fun j=>V.at_ j,V.cs⟩
section
variable {M:Mp} {V:Pl} {σ:St} {n:Nat} {lo:Nat->Int} {om:Nat->Value}
theorem ra {nu:Nat->Int} (H:cC nu σ.f) {a b:IV} (h:vB σ a b=true):a.den nu=b.den nu:=
  dm h (fun h=>aa h fun h1 h2=>by unfold IV.den; rw [nb h1,hZ h2]) fun h=>aa h fun h1 h2=>Int.le_antisymm (Int.add_zero (b.den nu)▸bc H h1) (Int.add_zero (a.den nu)▸bc H h2)
theorem iq {nu:Nat->Int} {c c':IV} (h:oF M c=some c'):c.den (nuM M lo nu)=c'.den nu:=
  bg h (fun e h=>(congrArg (· + c.c) (lR e)).trans (congrArg (IV.den nu) (sm h))) fun e h=>ao h fun w hw h=>(congrArg (· + c.c) ((f8 e).trans (by rw [hw]; rfl:_=w.den nu))).trans ((Int.add_assoc ..).trans (congrArg (IV.den nu) (sm h)))
theorem nE {nu:Nat->Int} (H:cC nu σ.f) {c e:IV} (h:zs M σ c e=true):c.den (nuM M lo nu)=e.den nu:=ad h fun c' hc h=>(iq hc).trans (ra H h)
noncomputable def Cx.at (X:Cx) (om:Nat->Value) (nu:Nat->Int) (h0:nu 0=0) (hB:∀ x,hO x=false->-100000≤nu x∧nu x≤100000) (hD:∀ d∈X.D,d.ok nu):Cx:={ X with nu:=nu,h0:=h0,hB:=hB,hD:=hD,om:=om }
variable {h0:nuM M lo X.nu 0=0} {hB:∀ x,hO x=false->-100000≤nuM M lo X.nu x∧nuM M lo X.nu x≤100000} {hD:∀ d∈X.D,d.ok (nuM M lo X.nu)}
theorem rb (hm:∀ i j,look M.m i=some j->i < n) {i j:Nat} {P:Addr->Prop} (h:oG M i j=true) (p:P (V.at_ j)):i < n∧P ((plM M V n).at_ i):=ad h fun j' hj h=>⟨hm _ _ hj,by show P (oe (look M.m i) 0 fun j=>V.at_ j); rw [hj,nb h]; exact p⟩
variable (H:cC X.nu σ.f) (ho:∀ k,k≠M.fz->om k=X.om k) (hm:∀ i j,look M.m i=some j->i < n)
include H ho hm
theorem j9 {c e:AV} {v:Value} (h:zt M σ c e=true) (d:den X V e v):den (X.at om (nuM M lo X.nu) h0 hB hD) (plM M V n) c v:=
  az h (fun _ h=>az h (fun _ h=>az h (fun _ h=>az h (fun _ h=>az h (fun _ h=>az h (fun _ h=>aa h fun h1 h2=>q9 h1▸(q9 h2▸d:den X V .none v))
      fun k hk h=>ad h fun j hj h=>aa h fun h1 h2=>AV.any_of hk▸((AV.any_of hj▸d:den X V (.any j) v).trans (by rw [← nb h1]; exact (ho k (Nat.ne_of_beq_eq_false (nt h2))).symm):v=om k))
      fun p hp h=>ad h fun q hq h=>AV.bool_of hp▸eq_of_beq h▸(AV.bool_of hq▸d:den X V (.bool q) v)) fun a ha h=>ad h fun b hb h=>AV.top_of ha▸nb h▸(AV.top_of hb▸d:den X V (.top b) v))
      fun i hi h=>ad h fun j hj h=>AV.own_of hi▸rb (P:=fun a=>v=.ref a) hm h (AV.own_of hj▸d:den X V (.own j) v).2) fun a ha h=>ad h fun b hb h=>AV.lit_of ha▸nb h▸fJ (P:=fun v=>den (X.at om (nuM M lo X.nu) h0 hB hD) (plM M V n) (kv b) v) (AV.lit_of hb▸d) fun t=>cO b t)
    fun x hx h=>ad h fun y hy h=>AV.int_of hx▸bH (P:=fun v=>den (X.at om (nuM M lo X.nu) h0 hB hD) (plM M V n) (.int x) v) (AV.int_of hy▸d) fun t=>fK (nE H h)
theorem Ch {l:List AV}:∀ {r:List AV} {vs:List Value},LF M σ l r=true->au (den X V) r vs->au (den (X.at om (nuM M lo X.nu) h0 hB hD) (plM M V n)) l vs:=by
  induction l with
  | nil=>exact fun h d=>by rw [List.isEmpty_iff.mp h] at d; exact d.unnil .nil
  | cons a l ih=>
    intro r vs h d
    cases r with
    | nil=>exact ff h
    | cons b r=>exact aa h fun h1 h2=>d.uncons fun v t q x=>.cons (j9 H ho hm h1 q) (ih h2 x)
theorem Ci {l:List (Nm×AV)}:∀ {r:List (Nm×AV)} {vs:List (Str×Value)},Jj M σ l r=true->au (kvR X tx V) r vs->au (kvR (X.at om (nuM M lo X.nu) h0 hB hD) tx (plM M V n)) l vs:=by
  induction l with
  | nil=>exact fun h d=>by rw [List.isEmpty_iff.mp h] at d; exact d.unnil .nil
  | cons a l ih=>
    intro r vs h d
    cases r with
    | nil=>exact ff h
    | cons b r=>exact aa h fun h1 h2=>aa h1 fun e h1=>d.uncons fun v t q x=>.cons ⟨(nb e).symm▸q.1,j9 H ho hm h1 q.2⟩ (ih h2 x)
theorem vC {l r:List (Nm×AV)} {o:Obj} (h:Jj M σ l r=true) (d:dw X (strKind X.prog X.w) tx V r o):dw (X.at om (nuM M lo X.nu) h0 hB hD) (strKind X.prog X.w) tx (plM M V n) l o:=d.rec fun kvs io al=>.mk kvs io (Ci H ho hm h al)
theorem Cj {p q:Nat×List (Nm×Nat)} {o:Obj} (h:(p.1.beq q.1&&p.2.all fun x=>ob (look q.2 x.1) fun j=>oG M x.2 j)=true) (d:FnR X V q.1 q.2 o):FnR (X.at om (nuM M lo X.nu) h0 hB hD) (plM M V n) p.1 p.2 o:=
  aa h fun h1 h2=>d.rec fun fd hd f c cs=>FnR.mk fd hd ((nb h1).symm▸f) (c.rec fun i j k=>.mk i j k) fun n' i hi=>ad (List.all_eq_true.mp h2 _ (bO hi)) fun j hj h=>rb (P:=fun a=>fd.closure.lookup (tx n')=some a) hm h (cs _ _ hj).2
theorem vD {x y:Option AV} {o:Obj} (h:(oe x true fun a=>ob y fun b=>zt M σ a b)=true) (d:i5 X V y o):i5 (X.at om (nuM M lo X.nu) h0 hB hD) (plM M V n) x o:=
  d.rec fun z hd hv=>i5.mk z hd fun a w=>by
    rw [w] at h
    exact ad h fun b hb h=>(hv b hb).imp fun v w=>⟨w.1,j9 H ho hm h w.2⟩
omit ho hm in
theorem Ck {c:IV} {e:aj} {o:Obj} (h:oe e.plist? (ob e.list? fun ys=>zs M σ c ⟨0,(ys.length:Int)⟩) (fun q=>zs M σ c ⟨q.1.x,q.1.c + (q.2.length:Int)⟩)=true) (d:objR X V e o):objR (X.at om (nuM M lo X.nu) h0 hB hD) (plM M V n) (.plist c []) o:=by
  have fin:∀ {l:Array Value} {k:Nat},o.data=.seq l k->(l.size:Int)=c.den (nuM M lo X.nu)->PlR (X.at om (nuM M lo X.nu) h0 hB hD) (plM M V n) c [] o:=fun {l k} hd e=>.mk l k l.toList [] hd (List.append_nil _).symm ((congrArg Nat.cast (Array.length_toList ..)).trans e) .nil
  exact az h (fun _ h=>ad h fun ys hy h=>have w:(o.cls=.type "list" ∧ o.dict=none)∧qt X V ys o:=(aj.list_of hy▸d:objR X V (.list ys) o); ⟨w.1,w.2.rec fun l k hd al=>fin hd ((congrArg Nat.cast al.len).trans ((nE (lo:=lo) H h).trans (by show X.nu 0 + (ys.length:Int)=_; rw [X.h0,Int.zero_add])).symm)⟩)
    fun q hq h=>have w:(o.cls=.type "list" ∧ o.dict=none)∧PlR X V q.1 q.2 o:=(aj.plist_of hq▸d:objR X V (.plist q.1 q.2) o); ⟨w.1,w.2.rec fun l k pre post hd e hp al=>fin hd (by
      rw [nE (lo:=lo) H h,← Array.length_toList,e,List.length_append,← al.length,Int.natCast_add,hp]
      exact Int.add_assoc ..)⟩
theorem zw {c e:aj} {o:Obj} (h:Cc M σ c e=true) (d:objR X V e o):objR (X.at om (nuM M lo X.nu) h0 hB hD) (plM M V n) c o:=
  az h (fun _ h=>az h (fun _ h=>az h (fun _ h=>az h (fun _ h=>az h (fun _ h=>ad h fun p hp h=>ad h fun q hq h=>aj.fn_of hp▸Cj H ho hm h (aj.fn_of hq▸d:objR X V (.fn q.1 q.2) o))
      fun x hx h=>ad h fun y hy h=>aj.cell_of hx▸vD H ho hm h (aj.cell_of hy▸d:objR X V (.cell y) o))
      fun p hp h=>ad h fun q hq h=>aa h fun h1 h2=>have w:q.2 < V.n∧o={ cls:=.ref q.1,dict:=some (V.at_ q.2),data:=.plain }:=(aj.inst_of hq▸d:objR X V (.inst q.1 q.2) o); aj.inst_of hp▸(nb h1).symm▸rb (P:=fun a=>o={ cls:=.ref q.1,dict:=some a,data:=.plain }) hm h2 w.2)
      fun p hp h=>aa h fun hn h=>have e:=aj.plist_of hp; (List.isEmpty_iff.mp hn▸e:c=.plist p.1 [])▸Ck H h d)
    fun xs hxs h=>ad h fun ys hys h=>have w:(o.cls=.type "list" ∧ o.dict=none)∧qt X V ys o:=(aj.list_of hys▸d:objR X V (.list ys) o); aj.list_of hxs▸⟨w.1,w.2.rec fun l k hd al=>.mk l k hd (Ch H ho hm h al)⟩)
    fun es hes h=>ad h fun fs hfs h=>aj.dict_of hes▸vC H ho hm h (aj.dict_of hfs▸d:objR X V (.dict fs) o)
end
end
section
theorem rg {A:Type} {o x:A} {t:Tr A} {j k:Nat} {P:Prop} (e:(Tr.set o t j).get k=some x) (f:k=j->o=x->P) (g:k≠j->t.get k=some x->P):P:=
  (Decidable.em (k=j)).elim (fun q=>f q (sm ((if_pos q).symm.trans ((Tr.get_set o t j k).symm.trans e)))) fun q=>g q ((if_neg q).symm.trans ((Tr.get_set o t j k).symm.trans e))
theorem xL {l:List (Nat×aj)} {i:Nat} {o:aj}:(mkT l).get i=some o->(i,o)∈l:=
  l.rec (motive:=fun l=>(mkT l).get i=some o->(i,o)∈l) (fun h=>nn ((Tr.get_nil i).symm.trans h)) fun e l ih h=>rg h (fun q z=>by subst q; subst z; exact .head _) fun _ h=>.tail _ (ih h)
theorem FB {l:List (Nat×Nat)} {i i' j:Nat} (hn:(l.map (·.2)).Nodup) (m1:(i,j)∈l) (m2:(i',j)∈l):i=i':=by
  induction l with
  | nil=>cases m1
  | cons p l ih=>
    have hn:=List.nodup_cons.mp hn
    exact (List.mem_cons.mp m1).elim (fun e1=>(List.mem_cons.mp m2).elim (fun e2=>congrArg Prod.fst (e1.trans e2.symm)) fun m2=>(hn.1 (List.mem_map.mpr ⟨_,m2,e1▸rfl⟩)).elim) fun m1=>(List.mem_cons.mp m2).elim (fun e2=>(hn.1 (List.mem_map.mpr ⟨_,m1,e2▸rfl⟩)).elim) fun m2=>ih hn.2 m1 m2
theorem FD {l:List Nat} {i:Nat}:inL l i=true->i∈l:=l.rec (motive:=fun l=>inL l i=true->i∈l) ff fun a _ ih h=>aQ h (fun e _=>nb e▸.head _) fun _ h=>.tail _ (ih h)
section
variable {X:Cx} {M:Mp} {V:Pl} {σ C:St} {n:Nat} {F:Fm} {s:Shared} {lo:Nat->Int} {om:Nat->Value} {Cl:List (Nat×aj)} {Cf:List Fc}
theorem H9:nuM M lo X.nu 0=0:=X.h0
theorem LM (H:cC X.nu σ.f) (hlo:∀ x,hO x=false->-100000≤lo x∧lo x≤100000) (h:(allB M.v fun p=>hO p.1 || (leF σ p.2 ⟨0,0⟩ 90000&&leF σ ⟨0,0⟩ p.2 90000))=true) (x:Nat) (hx:hO x=false):-100000≤nuM M lo X.nu x∧nuM M lo X.nu x≤100000:=by
  unfold nuM
  cases Nat.ble x M.lim with
  | true=>exact X.hB x hx
  | false=>
    show -100000≤oe (look M.v x) (lo x) (fun e=>e.den X.nu)∧oe (look M.v x) (lo x) (fun e=>e.den X.nu)≤100000
    cases he:look M.v x with
    | none=>exact hlo x hx
    | some e=>
      have l:(leF σ e ⟨0,0⟩ 90000&&leF σ ⟨0,0⟩ e 90000)=true:=dm (gJ h _ (bO he)) (fun h=>ff (hx.symm.trans h)) id
      have a:=bc H (aa l fun h _=>h)
      have b:=bc H (aa l fun _ h=>h)
      have z:IV.den X.nu ⟨0,0⟩=0:=by show X.nu 0 + 0=0; rw [X.h0]; rfl
      rw [z] at a b
      show -100000≤e.den X.nu∧e.den X.nu≤100000
      omega
theorem Jm (H:cC X.nu σ.f) {f:Fc} (h:fcB M σ f=true):nuM M lo X.nu f.x≤nuM M lo X.nu f.y + f.c:=ad h fun a ha h=>ad h fun b hb h=>by
  have l:=bc H h
  rw [← iq (lo:=lo) ha,← iq (lo:=lo) hb] at l
  exact Int.add_zero (nuM M lo X.nu f.x)▸Int.add_zero (nuM M lo X.nu f.y)▸l
inductive LN (M:Mp) (V:Pl) (σ:St) (n i:Nat) (o:aj):Prop
  | mk (j oa) (m:look M.m i=some j) (g:σ.t.get j=some oa) (k:Cc M σ o oa=true) (l:inL σ.locks j=false) (lt:i < n) (e:(plM M V n).at_ i=V.at_ j)
theorem Jn {i:Nat} {o:aj} (h:LG M σ n (i,o)=true):LN M V σ n i o:=ad h fun j hj h=>ad h fun oa ho h=>aa h fun h1 h2=>aa h2 fun h2 h3=>.mk j oa hj ho h1 (nt h2) (Nat.le_of_ble_eq_true h3) (by show oe (look M.m i) 0 _=_; rw [hj]; rfl)
theorem tO {Q:Prop} (R:Rel X F V σ s) (ho:∀ k,k≠M.fz->om k=X.om k) (hCl:C.t=mkT Cl) (hlo:∀ x,hO x=false->-100000≤lo x∧lo x≤100000) (eD:∀ d∈X.D,d.ok (nuM M lo X.nu)) (h:mtB M σ C Cl Cf=true)
    (hf:(∀ f∈Cf,nuM M lo X.nu f.x≤nuM M lo X.nu f.y + f.c)->cC (nuM M lo X.nu) C.f)
    (g:∀ h0 hB hD,(∀ f∈Cf,nuM M lo X.nu f.x≤nuM M lo X.nu f.y + f.c)->Rel (X.at om (nuM M lo X.nu) h0 hB hD) F (plM M V C.n) C s->Q):Q:=
  aa h fun a b=>aa a fun a1 a2=>aa a1 fun h1 h2=>aa a2 fun h3 h4=>aa b fun b1 h7=>aa b1 fun h5 h6=>by
    have H:=R.facts
    have hm:∀ i j,look M.m i=some j->i < C.n:=fun i j e=>Nat.le_of_ble_eq_true (gJ h3 _ (bO e))
    have fcs:∀ f∈Cf,nuM M lo X.nu f.x≤nuM M lo X.nu f.y + f.c:=fun f m=>Jm H (gJ h6 f m)
    have row:∀ i o,C.t.get i=some o->LN M V σ C.n i o:=fun i o e=>Jn (gJ h1 _ (xL (hCl▸e)))
    have at_:∀ {a:Addr},(∀ i o,σ.t.get i=some o->V.at_ i≠a)->∀ i o,C.t.get i=some o->(plM M V C.n).at_ i≠a:=fun g i o e=>(row i o e).rec fun j oa _ a2 _ _ _ a6=>a6▸g j oa a2
    have N:=R.mem
    exact g H9 (LM H hlo h7) eD fcs ⟨{ fr:=N.fr.rec fun m K l=>.mk m K fun n a e=>ad (gJ h5 _ (bO e)) fun b hb h=>(l n b hb).imp fun v q=>⟨q.1,j9 H ho hm h q.2⟩,obj:=fun i o e=>(row i o e).rec fun j oa _ a2 a3 _ a5 a6=>(N.obj j oa a2).rec fun ob _ g L h0 r=>.mk ob a5 (a6▸g) (a6▸L) (a6▸h0) (zw H ho hm a3 r),inj:=fun i j o p e1 e2 q=>(row i o e1).rec fun i' oa a1 a2 _ _ _ a6=>(row j p e2).rec fun j' ob b1 b2 _ _ _ b6=>FB (fk h2) (bO a1) (N.inj _ _ _ _ a2 b2 (a6▸b6▸q)▸bO b1),kept:=N.kept,apart:=fun p hp i o e q=>(row i o e).rec fun j oa _ a2 _ a4 _ a6=>ff (a4.symm.trans (N.lk _ (N.apart p hp j oa a2 (a6▸q)))),sus:=fun p hp=>have q:=N.sus p hp; ⟨q.ns,q.h0,q.L,at_ q.ob⟩,kps:=N.kps,lk:=fun q hq=>gJ h4 _ (FD (N.lk q hq)),wf:=N.wf,cd:=⟨fun p hp=>(N.cd.cs p hp).rec fun ob aw g e=>.mk ob ⟨aw.h0,aw.L,aw.kp,aw.sus,at_ aw.ob⟩ g e,fun q hq=>(N.cd.tb q hq).rec fun ps m g t c=>.mk ps m g t fun pos cv e=>(c pos cv e).rec fun i j k=>.mk i j k,N.cd.un,fun P hP=>(N.cd.tf P hP).rec fun ps m g t c=>.mk ps m g t c,N.cd.uf⟩ },rfl,hf fcs,R.os,R.gens⟩
end
end
section
variable {X:Cx}
theorem Cm {sc:Scope} {ss:List Stmt} {cs:List CS} (hs:SndSs X sc ss cs) {f:Nat} {r:Rc} (hr:dz X f r) {A:Around} {env:Env} {ae:AE} {F:Fm} {V:Pl} (hf:Fit X f r sc A env ae F V) {σ:St} {s:Shared} (R:Rel X F V σ s) {k:St->Bool} {Q:Flow->Shared->Prop} {E:Value->Shared->Prop}
    (h:stmts r ae (fun _ _=>false) cs (fun fl σ=>fl.rec (k σ) false fun _=>false) σ=true) (hQ:∀ V' σ' s',V.le V'->Rel X F V' σ' s'->k σ'=true->Q .next s'):wpAny (model X.prog X.w) A (execs ss env) Q E s:=
  hs hr hf R h (fun _ _ _ _ _ _ _ h=>ff h) fun fl fw V' σ' s' l R' d=>d.rec (motive:=fun fl fw _=>Fl.rec (k σ') false (fun _=>false) fl=true->Q fw s') (hQ _ _ _ l R') (fun h=>ff h) fun _ h=>ff h
theorem Rel.reloc {F:Fm} {V:Pl} {σ:St} {s:Shared} (R:Rel X F V σ s) {loc:List (Nm×AV)} {f:Fs} (hl:∀ n a,look loc n=some a->∃ b,look σ.loc n=some b∧∀ v,den X V b v->den X V a v) (hf:cC X.nu f):Rel X F V ((σ.wl loc).wf f) s:=
  ⟨{ R.mem with fr:=R.mem.fr.rec fun m K l=>.mk m K fun n a e=>(hl n a e).elim fun b q=>(l n b q.1).imp fun v w=>⟨w.1,q.2 v w.2⟩ },R.n,hf,R.os,R.gens⟩
theorem Cn {nu:Nat->Int} (h0:nu 0=0):cC nu fs0:=
  have q:∀ {x:Nat} {a:Int} {P:Prop},(Tr.set (0:Int) .nil 0).get x=some a->(x=0->0=a->P)->P:=fun {x a P} h g=>rg h g fun _ h=>nn ((Tr.get_nil x).symm.trans h)
  ⟨nofun,fun x a h=>q h fun e z=>by rw [e,← z,h0]; exact Int.le_refl _,fun x a h=>q h fun e z=>by rw [e,← z,h0]; exact Int.le_refl _⟩
theorem kZ {nu:Nat->Int} (h0:nu 0=0) {l:List Fc}:(∀ g∈l,nu g.x≤nu g.y + g.c)->cC nu (kY l):=
  l.rec (motive:=fun l=>(∀ g∈l,nu g.x≤nu g.y + g.c)->cC nu (kY l)) (fun _=>Cn h0) fun g l ih h=>(bp.add h0 (ih fun g' m=>h g' (.tail _ m)) (by show nu g.x + 0≤nu g.y + 0 + g.c; rw [Int.add_zero,Int.add_zero]; exact h g (.head _):IV.den nu ⟨g.x,0⟩≤IV.den nu ⟨g.y,0⟩ + g.c)).hold
theorem FE {E:List Nat} {p:Nat} {g:Fc} (h:g∈zv E p):g.y=0∧g.c=1000∧(g.x=31∨⟨g.x,31,0⟩∈cg E p):=by
  obtain ⟨x,hx,rfl⟩:=List.mem_map.mp h
  refine ⟨rfl,rfl,(List.mem_cons.mp hx).imp id fun hx=>?_⟩
  refine (List.mem_append.mp hx).elim (fun hx=>?_) fun hx=>(List.mem_append.mp hx).elim (fun hx=>?_) fun hx=>?_
  · obtain ⟨k,hk,rfl⟩:=List.mem_map.mp hx
    exact List.mem_append_left _ (List.mem_flatMap.mpr ⟨k,hk,.tail _ (.tail _ (.head _))⟩)
  · obtain ⟨k,hk,rfl⟩:=List.mem_map.mp hx
    exact List.mem_append_right _ (List.mem_append_left _ (List.mem_flatMap.mpr ⟨k,hk,.tail _ (.head _)⟩))
  · refine List.mem_append_right _ (List.mem_append_right _ ?_)
    exact (List.mem_cons.mp hx).elim (fun e=>e▸List.mem_of_getElem? (i:=4) rfl) fun hx=>(List.mem_cons.mp hx).elim (fun e=>e▸List.mem_of_getElem? (i:=3) rfl) fun hx=>(List.mem_cons.mp hx).elim (fun e=>e▸List.mem_of_getElem? (i:=6) rfl) fun hx=>(List.mem_cons.mp hx).elim (fun e=>e▸List.mem_of_getElem? (i:=12) rfl) fun hx=>(List.mem_singleton.mp hx)▸List.mem_of_getElem? (i:=14) rfl
theorem cT {nu:Nat->Int} (h0:nu 0=0) {E:List Nat} {p:Nat} {fs:List Fc} (h:∀ f∈fs++cg E p,nu f.x≤nu f.y + f.c) (hb:nu 31≤1000):cC nu (kY (fs++(cg E p++zv E p))):=
  kZ h0 fun g hg=>(List.mem_append.mp hg).elim (fun hg=>h g (List.mem_append_left _ hg)) fun hg=>(List.mem_append.mp hg).elim (fun hg=>h g (List.mem_append_right _ hg)) fun hg=>(FE hg).elim fun e1 q=>by
    rw [e1,q.1,h0]
    refine Int.le_trans ?_ (Int.le_trans hb (Int.le_of_eq (Int.zero_add _).symm))
    exact q.2.elim (fun e=>e▸Int.le_refl _) fun m=>Int.add_zero (nu 31)▸h _ (List.mem_append_right _ m)
theorem Co {ks:List Nat} {E:List Nat} {l:List (List Nat)}:Jl ks l=some E->E∈l:=l.rec (motive:=fun l=>Jl ks l=some E->E∈l) nn fun a l ih h=>bg h (fun _ h=>sm h▸.head _) fun _ h=>.tail _ (ih h)
theorem Cp {n:Nat} {E:List Nat} {q:List Nat×Nat} (h:LJ n E=some q):q.1=E:=bg h (fun _ h=>sm h▸rfl) fun _ h=>bg h (fun _ h=>sm h▸rfl) fun _ h=>bg h (fun _ h=>sm h▸rfl) fun _ h=>nn h
theorem FF {σ:St} {q:List Nat×Nat} (h:sel σ=some q):q.1∈fg:=ao h fun _ _ h=>ao h fun _ _ h=>ao h fun _ _ h=>ao h fun E e h=>Cp h▸Co e
theorem pQ {M:Mp} {V:Pl} {n i:Nat} (h:oG M i i=true):(plM M V n).at_ i=V.at_ i:=ad h fun j hj h=>by show oe (look M.m i) 0 _=_; rw [hj,nb h]; rfl
theorem nF {M:Mp} {V:Pl} {n i:Nat} (h:FA M=true) (hi:i < 8∨i=60):(plM M V n).at_ i=V.at_ i:=aa h fun a b=>pQ (hi.elim (fun hi=>List.all_eq_true.mp b _ (List.mem_range.mpr hi)) fun e=>e▸a)
end
section
variable {X:Cx}
theorem rh {env:Env} {b:List Stmt} (a:List Stmt):execs (a++b) env=(execs a env >>= fun fl=>match fl with | .next=>execs b env | f=>pure f):=by
  induction a with
  | nil=>exact (pure_bind ..).symm
  | cons st a ih=>
    rw [List.cons_append,execs_cons,execs_cons,bind_assoc]
    congr 1
    funext f
    cases f with
    | next=>exact ih
    | _=>rw [pure_bind]
theorem gh {M:Model} {A:Around} {env:Env} {Q:Flow->Shared->Prop} {E:Value->Shared->Prop} {a b:List Stmt} {s:Shared} (h:wpAny M A (execs a env) (fun fl s'=>match fl with | .next=>wpAny M A (execs b env) Q E s' | f=>Q f s') E s):wpAny M A (execs (a++b) env) Q E s:=by
  rw [rh]
  refine wpAny_bind (wpAny_mono h (fun fl s' h'=>?_) fun _ _ h'=>h')
  cases fl with
  | next=>exact h'
  | _=>exact wpAny_pure h'
section
variable {F:Fm} {V:Pl} {σ:St} {s:Shared} {om:Nat->Value} {lo:Nat->Int} {lim fz:Nat} {b:Int} {v:List (Nat×IV)} {c6 c7:Option AV} {xo:List (Nat×aj)} {loc:List (Nm×AV)} {ex:List Fc} {mono:List Nat->Nat->Mp->St->Bool}
theorem Cq {nu:Nat->Int} {M:Mp} {x:Nat} {e:IV} (hl:M.lim < x) (he:look M.v x=some e):nuM M lo nu x=e.den nu:=by
  unfold nuM
  have:Nat.ble x M.lim=false:=by
    cases q:Nat.ble x M.lim with
    | false=>rfl
    | true=>exact absurd (Nat.le_of_ble_eq_true q) (Nat.not_le.mpr hl)
  rw [f8 this,he]
  rfl
structure LO (F:Fm) (V:Pl) (X:Cx) (σ:St) (s:Shared) (om:Nat->Value) (lo:Nat->Int) (lim:Nat) (b:Int) (c6 c7:Option AV) (xo:List (Nat×aj)) (loc:List (Nm×AV)) (ex:List Fc) (mono:List Nat->Nat->Mp->St->Bool) (E:List Nat) (p:Nat) (M:Mp):Prop where
  sel:Mine.sel σ=some (E,p)
  le:p≤E.length
  lim:M.lim=lim
  mono:mono E p M σ=true
  e31:nuM M lo X.nu 31=X.nu 31 + b
  ext:E∈fg
  ids:∀ i,i < 8∨i=60->(plM M V 67).at_ i=V.at_ i
  fcs:∀ f∈ex++cg E p,nuM M lo X.nu f.x≤nuM M lo X.nu f.y + f.c
  rel:∃ h0 hB hD,Rel (X.at om (nuM M lo X.nu) h0 hB hD) F (plM M V 67) (stX E p c6 c7 xo loc []) s
theorem vE {Q:Prop} (R:Rel X F V σ s) (h:xJ lim fz b v c6 c7 xo loc ex mono σ=true) (ho:∀ k,k≠fz->om k=X.om k) (hlo:∀ x,hO x=false->-100000≤lo x∧lo x≤100000) (hl:lim < 31)
    (eD:∀ M:Mp,M.lim=lim->∀ d∈X.D,d.ok (nuM M lo X.nu)) (hb:X.nu 31 + b≤1000) (g:∀ E p M,LO F V X σ s om lo lim b c6 c7 xo loc ex mono E p M->Q):Q:=
  ad h fun q hs h=>by
    dsimp only at h
    generalize nD σ (dN q.1 q.2 c6 c7 xo) (M0 lim fz b v)=M at h
    refine aa h fun h1 h=>aa h fun h2 h=>aa h fun h3 h=>aa h fun h4 h=>aa h fun h5 h=>aa h fun h6 h8=>?_
    have h3:=nb h3
    have e31:nuM M lo X.nu 31=X.nu 31 + b:=ad h5 fun e he h=>aa h fun a c=>(Cq (h3▸hl) he).trans (by unfold IV.den; rw [nb a,hZ c])
    exact tO (lo:=lo) (om:=om) R (nb h4▸ho) (C:=stX q.1 q.2 c6 c7 xo loc []) (Cl:=dN q.1 q.2 c6 c7 xo) (Cf:=ex++cg q.1 q.2) rfl hlo (eD M h3) h1 (fun fcs=>cT (fs:=[]) H9 (fun f hf=>fcs f (List.mem_append_right _ hf)) (e31▸hb)) fun h0 hB hD fcs R'=>g q.1 q.2 M ⟨hs,Nat.le_of_ble_eq_true h6,h3,h2,e31,FF hs,fun i hi=>nF h8 hi,fcs,h0,hB,hD,R'⟩
end
end
section
variable {X:Cx}
noncomputable def FG (tabs:List Addr) (h:Heap):Fm:=⟨hideAll h tabs,h.objs.size,[],[],[]⟩
noncomputable def vF (tabs:List Addr):Pl:=⟨0,fun _=>0,tabs.map fun t=>(t,none)⟩
structure kg (X:Cx) (tabs:List Addr) (s:Shared):Prop where
  K:X.K.In (hideAll s.heap tabs)
  lim:(hideAll s.heap tabs).NoLimit
  os:s.os=X.os
  gens:AllBare s.gens
  ht:∀ t,t∈tabs↔(∃ q∈X.tb,q.1=t)∨t∈X.tf
  tab:∀ t∈tabs,s.heap.get? t=some (tabObj #[])
variable {tabs:List Addr} {s:Shared}
theorem kg.mem {t:Addr} (h:t∈tabs):(t,(none:Option Obj))∈(vF tabs).cs:=List.mem_map.mpr ⟨t,h,rfl⟩
theorem kg.sz (T:kg X tabs s) {t:Addr} (h:t∈tabs):t < s.heap.objs.size:=Heap.lt_size (T.tab t h)
theorem kg.rel (T:kg X tabs s) {h':Heap} {tk:Tok} {m:Str->Option Value} (hkeep:∀ b o,s.heap.get? b=some o->h'.get? b=some o) (ns:h'.Ns s.heap.objs.size m) {loc:List (Nm×AV)} {f0:Fs} (hf0:cC X.nu f0)
    (hl:∀ n a,look loc n=some a->∃ v,m (tx n)=some v∧den X (vF tabs) a v):Rel X (FG tabs s.heap) (vF tabs) ⟨.nil,0,[],loc,f0⟩ { s with heap:=h',toks:=tk }:=
  have no:∀ {i:Nat} {o:aj} {P:Prop},Tr.get (.nil:AT) i=some o->P:=fun {i o P} e=>nn ((Tr.get_nil i).symm.trans e)
  have aw:∀ {t:Addr},t∈tabs->eO (FG tabs s.heap) (vF tabs) .nil t:=fun h=>⟨hideAll_none _ h,Nat.ne_of_lt (T.sz h),fun _ h=>(List.not_mem_nil h).elim,fun _ h=>(List.not_mem_nil h).elim,fun i o e=>no e⟩
  ⟨{ fr:=.mk m ⟨ns,fun b o e=>hkeep _ _ (of_hideAll _ e),by show (hideAll s.heap tabs).objs.size≤_; rw [hideAll_size]; exact Nat.le_refl _⟩ hl,obj:=fun i o e=>no e,inj:=fun i j o p e _ _=>no e,kept:=fun _ h=>(List.not_mem_nil h).elim,apart:=fun _ h=>(List.not_mem_nil h).elim,sus:=fun _ h=>(List.not_mem_nil h).elim,kps:=fun _ h=>(List.not_mem_nil h).elim,lk:=fun _ h=>(List.not_mem_nil h).elim,wf:=fun _ h=>(List.not_mem_nil h).elim,cd:=⟨fun p hp=>(List.mem_map.mp hp).elim fun t q=>q.2▸.mk _ (aw q.1) (hkeep _ _ (T.tab t q.1)) fun _ e=>nn e,fun q hq=>have m:=(T.ht q.1).mpr (.inl ⟨q,hq,rfl⟩); .mk #[] (kg.mem m) (hkeep _ _ (T.tab _ m)) trivial fun _ _ e=>nn e,fun p hp q _ _=>(List.mem_map.mp hp).elim fun t q=>q.2▸rfl,fun P hP=>have m:=(T.ht P).mpr (.inr hP); .mk #[] (kg.mem m) (hkeep _ _ (T.tab _ m)) trivial fun _ _ _=>trivial,fun p hp _=>(List.mem_map.mp hp).elim fun t q=>q.2▸rfl⟩ },rfl,hf0,T.os,T.gens⟩
end
section
variable {X:Cx} {f:Nat} {r:Rc} {fd:FuncData} {fn:Fn} {a:Addr} {A:Around} {s:Shared} {R:Result->Shared->Prop} {tabs:List Addr}
theorem zy (I:kg X tabs s) (ok:iY X fd fn) {ss:List Stmt} (hbody:fd.body=.stmts ss) (hclo:fd.closure=[]) (hcn:fn.cells.Nodup) (hcc:∀ L,∀ n∈fn.cells,((cellsFrom L fd.scope.names []).lookup (tx n)).isSome=true)
    {ob:Obj} (ho:s.heap.get? a=some ob) (hdt:ob.data=.func fd) (hcd:s.heap.CodeRec fd.code fd.qualname) (hA:A.handled=none) (hfr:A.frames=some []) (hdep:A.depth + 1 + 5 * f < 1000) (hun:A.units + 3 + 25 * f < 9000)
    {as:List AV} {xs:List Value} (hd:au (den X (vF tabs)) as xs) {bs:List (Nm×AV)} (hbs:Ab fn as=some bs) {f0:Fs} (hf0:cC X.nu f0) {k:List (Nm×Nat)->St->T}
    (hmk:jQ bs k fn.cells [] ⟨.nil,0,[],fn.cells.foldl (fun l c=>l.filter fun p=>!Nat.beq p.1 c) bs,f0⟩=true)
    (hk:∀ (V:Pl) (σ:St) (s':Shared) (cl:List (Nm×Nat)) (env:Env) (A':Around),(vF tabs).le V->Rel X (FG tabs s.heap) V σ s'->Fit X f r fd.scope A' env ⟨cl,false,false⟩ (FG tabs s.heap) V->A'.handled=none->k cl σ=true->
      wpAny (model X.prog X.w) A' (execs ss env) (fun fl s''=>R (.ok (.ret (match fl with | .ret v=>v | _=>.none))) s'') (fun _ _=>False) s') :
    codeAny (model X.prog X.w) A (.call (.ref a) ⟨xs,[]⟩) R s:=
  have K:X.K.In s.heap:=fun b o e=>of_hideAll _ (I.K b o e)
  have lim:s.heap.NoLimit:=I.lim.imp fun mc z=>⟨et (fun _ e=>of_hideAll _ e) z.1,z.2⟩
  ok.bind K hd hbs fun bv hbind hall hnd hpar=>by
    refine codeAny_call_function (by show A.depth < 1000; omega) ho hdt ok.co ok.gen hbody hcd (hbind _ _ _ _ ?_)
    rw [hclo]
    refine wpAny_newFunctionEnv_cells ok.kind (fun x hx=>(hall.mem hx).elim fun b z=>z.2.1▸(Decidable.em (b.1∈fn.cells)).elim (fun q=>.inr ⟨(ok.kinds b.1 (hpar b z.1)).trans (by rw [if_pos q]),hcc _ b.1 q⟩) fun q=>.inl ((ok.kinds b.1 (hpar b z.1)).trans (by rw [if_neg q]))) fun env' he s' x=>?_
    have he:env'=cI fd s.heap.objs.size a (cellsFrom (s.heap.objs.size + 1) fd.scope.names []):=he
    subst he
    have xns:=x.toInCall.ns
    have xcell:=x.cell
    have xapart:=x.apart
    have xabove:=x.above
    obtain ⟨h',tk,rfl,hkeep⟩:=x.done
    have mem:∀ {n b},look bs n=some b->∃ v,(tx n,v)∈bv∧den X (vF tabs) b v∧fd.scope.names.lookup (tx n)=some (if n∈fn.cells then .cell else .local):=fun e=>(hall.memL (bO e)).elim fun v z=>⟨v.2,z.2.1▸z.1,z.2.2,ok.kinds _ (hpar _ (bO e))⟩
    have R1:=I.rel (loc:=fn.cells.foldl (fun l c=>l.filter fun p=>!Nat.beq p.1 c) bs) (tk:=tk) hkeep xns hf0 (fun n b e=>(mem (e8 _ e).1).imp fun v z=>⟨pE hnd z.1 (z.2.2.trans (by rw [if_neg (e8 _ e).2])),z.2.1⟩)
    refine ⟨lim.keeps hkeep,ks_codeAny_funcAt (i8 (cl:=[]) (s:={ s with heap:=h',toks:=tk }) (cells:=cellsFrom (s.heap.objs.size + 1) fd.scope.names []) (fun n n' c e1 e2=>jy (name_of_addr xapart (mem_of_lookup e1) (mem_of_lookup e2))) fn.cells hcn R1 (fun n hn=>?_) (fun n i e=>nn e) hmk fun V2 σ2 cl2 l2 R2 hcl2 q2=>wpAt_of_wpAny (wpAny_mono (hk V2 σ2 _ cl2 _ _ l2 R2 ?_ hA q2) (fun _ _ h=>h) fun _ _ h=>h.elim))⟩
    · obtain ⟨c,hc⟩:=Option.isSome_iff_exists.mp (hcc (s.heap.objs.size + 1) n hn)
      have gt:=xabove _ c (mem_of_lookup hc)
      exact (xcell (tx n) c hc).elim fun ob' z=>.mk hc z.1 ⟨⟨Heap.get?_none_of_le (by show (hideAll s.heap tabs).objs.size≤c; rw [hideAll_size]; exact Nat.le_of_lt gt),Nat.ne_of_gt gt,fun _ h=>(List.not_mem_nil h).elim,fun _ h=>(List.not_mem_nil h).elim,fun i o e=>nn ((Tr.get_nil i).symm.trans e)⟩,fun p hp=>(List.mem_map.mp hp).elim fun t q=>q.2▸fun z=>Nat.lt_asymm gt (by have z:t=c:=z; rw [← z]; exact I.sz q.1)⟩ z.2 fun b e=>(mem e).imp fun v z=>⟨pF hnd z.1 (by show fd.scope.names.lookup (tx n)≠_; rw [z.2.2,if_pos hn]; decide),z.2.1⟩
    · have hfrm:(A.frames.map fun fs=>cI fd s.heap.objs.size a (cellsFrom (s.heap.objs.size + 1) fd.scope.names [])::fs)=some [cI fd s.heap.objs.size a (cellsFrom (s.heap.objs.size + 1) fd.scope.names [])]:=by rw [hfr]; rfl
      exact ⟨rfl,ok.glob,ok.blt,rfl,ok.kind,hcl2,fun _=>hA,fun _=>⟨rfl,[],hfrm⟩,.inl hA,by show A.depth + 1 + 5 * f < 1000; omega,by show A.units + 3 + 25 * f < 9000; omega,.mk _ hfrm (fun e he=>List.mem_singleton.mp he▸⟨by show fd.scope.kind≠_; rw [ok.kind]; decide,_,rfl,.inl rfl⟩),I.K,I.lim,ok.cq⟩
end
section
section
variable {X:Cx} {nu lo:Nat->Int} {M:Mp} {x:Nat} {σ:St}
theorem k9 {P:Int->Prop} (a:x≤M.lim->P (nu x)) (b:P (lo x)) (c:∀ e,look M.v x=some e->P (e.den nu)):P (nuM M lo nu x):=by
  unfold nuM
  cases q:Nat.ble x M.lim with
  | true=>exact a (Nat.le_of_ble_eq_true q)
  | false=>
    show P (oe (look M.v x) (lo x) fun e=>e.den nu)
    cases he:look M.v x with
    | none=>exact b
    | some e=>exact c e he
theorem IV.same:IV.den nu ⟨x,0⟩=nu x:=Int.add_zero _
theorem IV.is {e:IV} (a:Nat.beq e.x x=true) (c:iEq e.c 0=true):e.den nu=nu x:=by unfold IV.den; rw [nb a,hZ c,Int.add_zero]
theorem Jo (h:LL M=true):nuM M nu nu=nu:=funext fun x=>k9 (P:=(·=nu x)) (fun _=>rfl) rfl fun e he=>aa (List.all_eq_true.mp h _ (bO he)) IV.is
theorem ri {lim fz:Nat} {m:List (Nat×Nat)} {l:List Nat} (h0:∀ x,x≤lim->lo x=nu x) (h:∀ x∈l,lo x=nu x):nuM ⟨lim,fz,m,idV l⟩ lo nu=lo:=
  funext fun x=>k9 (P:=(·=lo x)) (fun q=>(h0 x q).symm) rfl fun e he=>(List.mem_map.mp (bO he)).elim fun y q=>by cases q.2; exact IV.same.trans (h _ q.1).symm
theorem rj (h:x≤M.lim):nuM M lo nu x=nu x:=lR (Nat.ble_eq_true_of_le h)
noncomputable def Fcs (nu:Nat->Int) (l:List Fc):Prop:=∀ f∈l,nu f.x≤nu f.y + f.c
theorem pR {V:Pl} {F:Fm} {s:Shared} {nu':Nat->Int} {om:Nat->Value} {C:St} {Cl:List (Nat×aj)} {Cf:List Fc} {Q:Prop} (R:Rel X F V σ s) (e:nuM M lo X.nu=nu') (ho:∀ k,k≠M.fz->om k=X.om k) (hCl:C.t=mkT Cl) (hlo:∀ x,hO x=false->-100000≤lo x∧lo x≤100000) (eD:∀ d∈X.D,d.ok nu') (h:mtB M σ C Cl Cf=true)
    (hf:Fcs nu' Cf->cC nu' C.f) (g:∀ h0 hB hD,Fcs nu' Cf->Rel (X.at om nu' h0 hB hD) F (plM M V C.n) C s->Q):Q:=by
  subst e; exact tO R ho hCl hlo eD h hf g
structure vG (nu nu':Nat->Int) (E:List Nat) (p:Nat) (E':List Nat) (p':Nat):Prop where
  pre:E.take p <+: E'.take p'
  told:∀ k∈0::E.take p,nu (23 + k)≤nu' (23 + k)
  S:nu 20≤nu' 20
  T:nu 21 < nu' 21∨(nu 21=nu' 21∧nu 22=nu' 22)
  P:p'=p∨nu 20 < nu' 20
theorem Cr {a:List Nat}:∀ {b:List Nat},LK a b=true->a <+: b:=by
  induction a with
  | nil=>exact fun _=>List.nil_prefix
  | cons a l ih=>
    intro b h
    cases b with
    | nil=>exact ff h
    | cons b r=>exact aa h fun e h=>List.cons_prefix_cons.mpr ⟨nb e,ih h⟩
theorem vH (H:cC nu σ.f) {e:IV} {c:Int} (he:oF M ⟨x,0⟩=some e) (h:leF σ ⟨x,0⟩ e c=true):nu x≤nuM M lo nu x + c:=by
  have a:=bc H h
  rw [← iq (lo:=lo) he,IV.same,IV.same] at a
  exact a
theorem Cs (H:cC nu σ.f) {e:IV} (he:oF M ⟨x,0⟩=some e) (h:vB σ ⟨x,0⟩ e=true):nu x=nuM M lo nu x:=by
  have a:=ra H h
  rw [← iq (lo:=lo) he,IV.same,IV.same] at a
  exact a
theorem Cu (H:cC nu σ.f) (h:leM σ M x=true):nu x≤nuM M lo nu x:=ad h fun e he h=>Int.add_zero (nuM M lo nu x)▸vH H he h
theorem FH {E E':List Nat} {p p':Nat} (H:cC nu σ.f) (h:xK E p E' p' M σ=true):vG nu (nuM M lo nu) E p E' p':=
  aa h fun h1 h=>aa h fun h2 h=>aa h fun h3 h=>aa h fun h4 h5=>⟨Cr h1,fun k hk=>Cu H (gJ h2 k hk),Cu H h3,ad h4 fun t ht h=>ad h fun d hd h=>dm h (fun h=>.inl (Int.lt_of_le_sub_one (vH H ht h))) fun h=>aa h fun a b=>.inr ⟨Cs H ht a,Cs H hd b⟩,dm h5 (fun h=>.inl (nb h)) fun h=>ad h fun d hd h=>.inr (Int.lt_of_le_sub_one (vH H hd h))⟩
structure EM (e:Nat->Int) (Tl:List Nat) (nu:Nat->Int) (E:List Nat) (p:Nat):Prop where
  pre:Tl <+: E.take p
  one:1≤e 40∧1≤e 41∧∀ k∈0::Tl,1≤e (42 + k)
  rows:∀ k∈0::Tl,e (42 + k)≤nu (23 + k)
  S:e 40≤nu 20
  T:e 41 < nu 21∨(e 41=nu 21∧e 40=nu 22)
  P:p=Tl.length∨e 40 < nu 20
theorem EM.step {e nu':Nat->Int} {Tl E E':List Nat} {p p':Nat} (h:EM e Tl nu E p) (m:vG nu nu' E p E' p'):EM e Tl nu' E' p':=
  ⟨h.pre.trans m.pre,h.one,fun k hk=>Int.le_trans (h.rows k hk) (m.told k ((List.mem_cons.mp hk).elim (fun q=>q▸.head _) fun q=>.tail _ (h.pre.subset q))),Int.le_trans h.S m.S,h.T.elim (fun a=>.inl (m.T.elim (Int.lt_trans a) fun b=>b.1▸a)) fun a=>m.T.elim (fun b=>.inl (a.1▸b)) fun b=>.inr ⟨a.1.trans b.1,a.2.trans b.2⟩,m.P.elim (fun b=>h.P.elim (fun a=>.inl (b.trans a)) fun a=>.inr (Int.lt_of_lt_of_le a m.S)) fun b=>.inr (Int.lt_of_le_of_lt h.S b)⟩
end
theorem au.via {α β γ:Type} {R:α->γ->Prop} {S:β->γ->Prop} {as:List α} {bs:List β} (h:au (fun a b=>∀ v,R a v->S b v) as bs):∀ {xs:List γ},au R as xs->au S bs xs:=by
  induction h with
  | nil=>exact fun x=>x.unnil .nil
  | cons q _ ih=>exact fun x=>x.uncons fun v t r x=>.cons (q v r) (ih x)
noncomputable def FK (h:Heap) (L:Addr) (kp:List (Addr×Obj)):Fm:=⟨h,L,kp,[],[]⟩
section
variable {X:Cx} {h0 h:Heap} {L:Addr} {kp kp':List (Addr×Obj)} {V:Pl} {t t':AT} {loc:List (Nm×AV)} {locks:List Nat} {σ:St} {s:Shared}
inductive Cv (V:Pl) (t t':AT) (h:Heap) (p:Addr×Obj):Prop
  | mk {i o} (e:t.get i=some o) (n:t'.get i=none) (a:p.1=V.at_ i) (g:h.get? p.1=some p.2)
theorem Mem.freeze (M:Mem X (FK h0 L kp) V t loc locks h) (ht:∀ i o,t'.get i=some o->t.get i=some o) (hk:∀ p∈kp',p∈kp∨Cv V t t' h p):Mem X (FK h0 L kp') V t' loc locks h:=
  { fr:=M.fr.rec fun m K l=>.mk m K l,obj:=fun i o e=>(M.obj i o (ht i o e)).rec fun ob lt g L h0 r=>.mk ob lt g L h0 r,inj:=fun i j o p e1 e2=>M.inj i j o p (ht i o e1) (ht j p e2),kept:=fun p hp=>(hk p hp).elim (M.kept p) fun z=>z.rec fun e _ a g=>(M.obj _ _ e).rec fun ob _ _ c d _=>⟨g,a▸c,a▸d⟩,apart:=fun p hp i o e q=>(hk p hp).elim (fun m=>M.apart p m i o (ht i o e) q) fun z=>z.rec fun e' n a g=>nn (n.symm.trans (M.inj _ _ _ _ (ht i o e) e' (q.symm.trans a)▸e)),sus:=fun _ h=>(List.not_mem_nil h).elim,kps:=fun _ _ _ h=>(List.not_mem_nil h).elim,lk:=fun _ h=>(List.not_mem_nil h).elim,wf:=fun _ h=>(List.not_mem_nil h).elim,cd:=M.cd.keep rfl fun p hp aw o e=>⟨⟨aw.h0,aw.L,fun q hq=>(hk q hq).elim (aw.kp q) fun z=>z.rec fun e _ a _=>a▸aw.ob _ _ e,aw.sus,fun i o e=>aw.ob i o (ht i o e)⟩,e⟩ }
theorem Rel.freeze (R:Rel X (FK h0 L kp) V σ s) (ht:∀ i o,t'.get i=some o->σ.t.get i=some o) (hk:∀ p∈kp',p∈kp∨Cv V σ.t t' s.heap p):Rel X (FK h0 L kp') V ⟨t',σ.n,σ.locks,σ.loc,σ.f⟩ s:=⟨R.mem.freeze ht hk,R.n,R.facts,R.os,R.gens⟩
theorem Rel.adopt1 (R:Rel X (FK h0 L kp) V σ s) {a:Addr} {ob:Obj} (hm:(a,ob)∈kp) {o:aj} (ho:objR X (V.add a) o ob) (hkp:∀ p∈kp',p∈kp∧p.1≠a):Rel X (FK h0 L kp') (V.add a) (σ.add o) s:=by
  have M:=R.mem
  have k:=M.kept _ hm
  have e:(V.add a).at_ σ.n=a:=R.n▸V.add_at a
  refine ⟨(M.freeze (t':=σ.t) (fun _ _ e=>e) fun p hp=>.inl (hkp p hp).1).put (ob:=ob) (V.le_add a) rfl (R.n▸Nat.lt_succ_self _) (fun _ _ _ _ e=>e) (fun _=>id) ?_ ?_ ?_ (fun _ h=>(List.not_mem_nil h).elim) ?_ ?_ ?_ ho,congrArg (· + 1) R.n,R.facts,R.os,R.gens⟩ <;> rw [e]
  · exact k.2.2
  · exact k.2.1
  · exact fun p hp=>(hkp p hp).2
  · exact fun p hp q=>(M.cd.cs p hp).rec fun _ aw _ _=>aw.kp _ hm q.symm
  · exact fun i x e _ q=>(List.not_mem_nil (M.apart _ hm i x e q.symm)).elim
  · exact k.1
end
end
end
end Mine
namespace Mine
section
open PySem PySem.W PySem.W.X PySem.Calls PyProof.Rows
set_option maxHeartbeats 0
section
noncomputable abbrev pwX:Program:=PySem.Challenge.pw_jk0053_01
noncomputable abbrev nG:List Stmt:=behindTheImports pwX
noncomputable def ax:String := "tuf.api._payload"
noncomputable def aJ:String := "self"
noncomputable def aR:String := "__module__"
noncomputable def aZ:String := "type"
noncomputable def bu:String := "builtin_function_or_method"
noncomputable def bw:String := "__firstlineno__"
noncomputable def bz:String := "__static_attributes__"
noncomputable def bC:String := "__doc__"
noncomputable def bF:String := "from_dict"
noncomputable def bN:String := "__init__"
noncomputable def aT:String := "__qualname__"
noncomputable def bb:String := "object"
noncomputable def bi:String := "__eq__"
noncomputable def bo:String := "to_dict"
noncomputable def ci:String := "type.__prepare__"
noncomputable def cj:String := "super"
noncomputable def ck:String := "object.__init_subclass__"
noncomputable def cy:String := "__name__"
noncomputable def cz:String := "__annotations__"
noncomputable def cQ:String := "__weakref__"
noncomputable def cU:String := "object.__new__"
noncomputable def cV:String := "tuf.ngclient._internal.trusted_metadata_set"
noncomputable def dg:String := "getset_descriptor"
noncomputable def dB:String := "unrecognized_fields"
noncomputable def dI:String := "__dict__"
noncomputable def dO:String := "targets"
noncomputable def dY:String := "RepositoryError"
noncomputable def dZ:String := "tuf.api.exceptions"
noncomputable def eG:String := "classmethod"
noncomputable def eQ:String := "Exception"
noncomputable def fL:String := "Signed"
noncomputable def fM:String := "_DelegatorMixin"
noncomputable def fN:String := "BaseFile"
noncomputable def fO:String := "__hash__"
noncomputable def gi:String := "law_jk0053_01"
noncomputable def gQ:String := "ExceptionGroup.__weakref__"
noncomputable def gR:String := "timestamp"
noncomputable def gS:String := "snapshot"
noncomputable def gT:String := "__class__"
noncomputable def gU:String := "tuf.api.metadata"
noncomputable def iu:String := "tuf.repository._repository"
noncomputable def ja:String := "UnsignedMetadataError"
noncomputable def jb:String := "BadVersionNumberError"
noncomputable def jc:String := "EqualVersionNumberError"
noncomputable def jd:String := "ExpiredMetadataError"
noncomputable def je:String := "LengthOrHashMismatchError"
noncomputable def jf:String := "UnverifiedSignatureError"
noncomputable def jg:String := "Signature"
noncomputable def jh:String := "VerificationResult"
noncomputable def ji:String := "Exception.__new__"
noncomputable def jj:String := "BaseException"
noncomputable def jk:String := "function.__dict__"
noncomputable def jl:String := "function.__dict__#set"
noncomputable def kh:String := "Timestamp"
noncomputable def ki:String := "DelegatedRole"
noncomputable def kj:String := "SuccinctRoles"
noncomputable def km:String := "Delegations"
noncomputable def kt:String := "TargetFile"
noncomputable def ku:String := "threshold"
noncomputable def lI:String := "Repository"
noncomputable def lJ:String := "DeserializationError"
noncomputable def lK:String := "TrustedMetadataSet"
noncomputable def nH:String := "/claim/cut.py"
noncomputable def pS:String := "spec_version"
noncomputable def pT:String := "verify_delegate"
noncomputable def pU:String := "get_delegated_role"
noncomputable def pV:String := "__classcell__"
noncomputable def pW:String := "staticmethod"
noncomputable def pX:String := "verify_length_and_hashes"
noncomputable def pY:String := "snapshot_meta"
noncomputable def tQ:String := "encode_canonical"
noncomputable def tR:String := "_load_from_metadata"
noncomputable def tS:String := "_law_signatures"
noncomputable def xM:String := "Signature.from_dict"
noncomputable def xN:String := "_common_fields_from_dict"
noncomputable def xO:String := "Signed._common_fields_from_dict"
noncomputable def xP:String := "_get_length_and_hashes"
noncomputable def xQ:String := "BaseFile._verify_hashes"
noncomputable def xR:String := "BaseFile._verify_length"
noncomputable def xS:String := "BaseFile._validate_hashes"
noncomputable def xT:String := "BaseFile._validate_length"
noncomputable def xU:String := "BaseFile._get_length_and_hashes"
noncomputable def xV:String := "Timestamp.from_dict"
noncomputable def xW:String := "_is_target_in_pathpattern"
noncomputable def xX:String := "DelegatedRole.from_dict"
noncomputable def xY:String := "DelegatedRole._is_target_in_pathpattern"
noncomputable def xZ:String := "SuccinctRoles.from_dict"
noncomputable def x0:String := "Delegations.from_dict"
noncomputable def x6:String := "TargetFile.from_dict"
noncomputable def x7:String := "TargetFile.from_data"
noncomputable def x8:String := "Metadata.from_bytes"
noncomputable def Cw:String := "Signed._common_fields_to_dict"
noncomputable def Cy:String := "VerificationResult.__init__"
noncomputable def Cz:String := "VerificationResult.verified"
noncomputable def CA:String := "_DelegatorMixin.get_verification_result"
noncomputable def CB:String := "_DelegatorMixin.verify_delegate"
noncomputable def CC:String := "get_root_verification_result"
noncomputable def CD:String := "Root.get_root_verification_result"
noncomputable def CF:String := "MetaFile.verify_length_and_hashes"
noncomputable def CH:String := "DelegatedRole.is_delegated_path"
noncomputable def vI:String := "SuccinctRoles.get_role_for_target"
noncomputable def vJ:String := "SuccinctRoles.is_delegated_role"
noncomputable def vK:String := "Delegations.get_roles_for_target"
noncomputable def vL:String := "TargetFile.verify_length_and_hashes"
noncomputable def vM:String := "TargetFile.get_prefixed_paths"
noncomputable def vN:String := "TrustedMetadataSet.__init__"
noncomputable def vO:String := "TrustedMetadataSet.contains"
noncomputable def vP:String := "TrustedMetadataSet.__getitem__"
noncomputable def vQ:String := "TrustedMetadataSet._load_data"
noncomputable def vR:String := "TrustedMetadataSet.timestamp"
noncomputable def vS:String := "TrustedMetadataSet.snapshot"
noncomputable def vT:String := "TrustedMetadataSet.update_root"
noncomputable def vU:String := "TrustedMetadataSet.update_timestamp"
noncomputable def vV:String := "TrustedMetadataSet._check_final_timestamp"
noncomputable def vW:String := "TrustedMetadataSet.update_snapshot"
noncomputable def vX:String := "TrustedMetadataSet._check_final_snapshot"
noncomputable def vY:String := "TrustedMetadataSet.update_targets"
noncomputable def vZ:String := "TrustedMetadataSet.update_delegated_targets"
noncomputable def v0:String := "TrustedMetadataSet._load_trusted_root"
noncomputable def tu (l:List Value):Obj:=⟨.type "tuple", none,.seq l.toArray,#[]⟩
noncomputable def nf (l:List Value):Obj:=⟨.none,none,.fields l.toArray,#[]⟩
noncomputable def en (P:Params) (e:String×Nat×Value):DictEntry:=⟨PyData.keyHash P (Str.ofString e.1),.str (Str.ofString e.1) e.2.1,e.2.2⟩
noncomputable def di (P:Params) (n:Nat) (l:List (String×Nat×Value)):Obj:=⟨.type "dict", none,.dict (l.map (en P)).toArray n,#[]⟩
noncomputable def dn (P:Params) (n:Nat) (l:List (String×Nat×Value)):Obj:=⟨.none,none,.dict (l.map (en P)).toArray n,#[]⟩
noncomputable def fr (l:List (Option Value)):Obj:=⟨.type "frame", none,.plain,l.toArray⟩
noncomputable def fo (c:String) (l:List Value):Obj:=⟨.type c,none,.fields l.toArray,#[]⟩
noncomputable def oj (c:Value) (d:Option Addr) (s:Array (Option Value)) (x:Data):Obj:=⟨c,d,x,s⟩
noncomputable def co (n q:String) (t:Nat) (l a b f:Int) (r:Addr) (o:Bool) (tb:Addr) (v:List Value) (i j:Int) (u:Nat):Obj:=
  fo "code" ([.str n t,.str q (t + 1),.str nH (t + 2),.int l 0,.int a 0,.int 0 0,.int b 0,.int f 0,.ref r,.bool o,.int 181 0,.ref tb]++v++[.int i 0,.int j 0,.str nH u])
noncomputable def stI (i j:Nat):Stmt:=match j,(nG[i]?).getD (.Pass ⟨0,0,0,0⟩) with
  | j + 1,.ClassDef _ _ _ b _ _ _ _ _ _ _=>(b[j]?).getD (.Pass ⟨0,0,0,0⟩)
  | _,st=>st
noncomputable def fdI (st:Stmt) (q:Str) (g bl:Addr) (cl:List (Str×Addr)) (df kw doc md cd ct:Value):FuncData:=match st with
  | .FunctionDef n ps b _ _ _ sc _ _ _=>⟨n,q,ps,.stmts b,sc,g,cl,df,kw,doc,md,none,cd,ct,bl⟩
  | _=>default
noncomputable def fu (fn:Bool) (i j:Nat) (q:Str) (g bl:Addr) (cl:List (Str×Addr)) (df kw doc md cd ct:Value):Obj:=⟨match fn with | true=>.type "function" | false=>.none,none,.func (fdI (stI i j) q g bl cl df kw doc md cd ct),#[]⟩
noncomputable def an (a:Addr) (o:Obj):Obj:=match o with
  | ⟨c,d,.func f,s⟩=>⟨c,d,.func { f with annotations:=some a },s⟩
  | o=>o
noncomputable def hO0 (P:Params):List Obj:=[boot_o_0 P,boot_o_1 P,dn P 3 [("type.__subclasses__.Exception.0", 212,.int 31 0),("type.__subclasses__.Exception.n", 213,.int 2 0),("type.__subclasses__.Exception.1", 314,.int 104 0)],di P 57 [(cy,165,.str gi 2262),(bC,166,.none),("__package__", 167,.none),("__loader__", 168,.builtin "__main__.__loader__#opaque"),("__spec__", 169,.none),(cz,170,.ref 6),("__builtins__", 171,.ref 4),("__file__", 173,.str nH 172),("__cached__", 174,.none),("_wall", 193,.ref 21),(dY,215,.ref 31),(ja,231,.ref 44),(jb,247,.ref 56),(jc,263,.ref 68),(jd,279,.ref 80),(je,295,.ref 92),(jf,317,.ref 104),(jg,389,.ref 149),("Key", 477,.ref 202),("_TARGETS", 479,.str dO 478),("SPECIFICATION_VERSION", 483,.ref 207),("TOP_LEVEL_ROLE_NAMES", 488,.ref 208),(fL,583,.ref 264),("Role", 655,.ref 310),(jh,704,.ref 347),(fM,747,.ref 375),("Root", 863,.ref 452),(fN,990,.ref 514),("MetaFile", 1094,.ref 577),(kh,1167,.ref 623),("Snapshot", 1245,.ref 669),(ki,1355,.ref 732),("_hex", 1364,.ref 741),(kj,1466,.ref 806),(km,1557,.ref 855),(kt,1675,.ref 933),("Targets", 1793,.ref 1009),("_copy_meta", 1803,.ref 1018),(lI,1903,.ref 1080),(lJ,1921,.ref 1094),(tQ,1929,.ref 1101),("Metadata", 2047,.ref 1166),(lK,2249,.ref 1319),(tR,2261,.ref 1331),("_law_names", 2269,.ref 1338),("_law_keys", 2275,.ref 1345),("_law_root_text", 2277,.str "{\"_type\":\"root\",\"consistent_snapshot\":true,\"expires\":9,\"keys\":{\"a\":{\"keytype\":\"k\",\"keyval\":{\"public\":\"pa\"},\"scheme\":\"s\"},\"s\":{\"keytype\":\"k\",\"keyval\":{\"public\":\"ps\"},\"scheme\":\"s\"},\"t\":{\"keytype\":\"k\",\"keyval\":{\"public\":\"pt\"},\"scheme\":\"s\"}},\"roles\":{\"root\":{\"keyids\":[\"a\"],\"threshold\":1},\"snapshot\":{\"keyids\":[\"s\"],\"threshold\":1},\"targets\":{\"keyids\":[\"a\"],\"threshold\":1},\"timestamp\":{\"keyids\":[\"t\"],\"threshold\":1}},\"spec_version\":\"1.0.31\",\"version\":1}" 2276),(tS,2289,.ref 1352),("_law_file", 2295,.ref 1357),("_law_tried", 2302,.ref 1364),("_law_versions", 2308,.ref 1369),("_law_made", 2314,.ref 1374),("_law_snapshot", 2329,.ref 1381),("_law_timestamp", 2343,.ref 1388),("_law_taken", 2354,.ref 1395),("_law_odd", 2360,.ref 1400),("law", 2366,.ref 1405)],boot_o_4 P,boot_o_5 P,di P 0 [],boot_o_7 P,boot_o_8 P,boot_o_9 P,boot_o_10 P,tu [],nf [.int 1 0,.int 0 0,.ref 20,.int 5 0,.int 0 0,.ref 27,.int 7 0,.int 0 0,.ref 40,.int 9 0,.int 0 0,.ref 52,.int 11 0,.int 0 0,.ref 64,.int 13 0,.int 0 0,.ref 76,.int 15 0,.int 0 0,.ref 88,.int 18 0,.int 0 0,.ref 100,.int 20 0,.int 0 0,.ref 113,.int 44 0,.int 0 0,.ref 159,.int 79 0,.int 0 0,.ref 214,.int 127 0,.int 0 0,.ref 274,.int 155 0,.int 0 0,.ref 320,.int 169 0,.int 0 0,.ref 357,.int 195 0,.int 0 0,.ref 384,.int 254 0,.int 0 0,.ref 460,.int 288 0,.int 0 0,.ref 524,.int 334 0,.int 0 0,.ref 586,.int 357 0,.int 0 0,.ref 632,.int 385 0,.int 0 0,.ref 678,.int 432 0,.int 0 0,.ref 740,.int 438 0,.int 0 0,.ref 748,.int 487 0,.int 0 0,.ref 814,.int 545 0,.int 0 0,.ref 865,.int 587 0,.int 0 0,.ref 942,.int 652 0,.int 0 0,.ref 1017,.int 655 0,.int 0 0,.ref 1024,.int 739 0,.int 0 0,.ref 1090,.int 742 0,.int 0 0,.ref 1100,.int 760 0,.int 0 0,.ref 1107,.int 821 0,.int 0 0,.ref 1176,.int 930 0,.int 0 0,.ref 1330,.int 940 0,.int 0 0,.ref 1337,.int 942 0,.int 0 0,.ref 1344,.int 945 0,.int 0 0,.ref 1351,.int 952 0,.int 0 0,.ref 1356,.int 967 0,.int 0 0,.ref 1363,.int 972 0,.int 0 0,.ref 1368,.int 974 0,.int 0 0,.ref 1373,.int 986 0,.int 0 0,.ref 1380,.int 990 0,.int 0 0,.ref 1387,.int 995 0,.int 0 0,.ref 1394,.int 1015 0,.int 0 0,.ref 1399,.int 1034 0,.int 0 0,.ref 1404],co "<module>" "<module>" 182 1 0 0 0 11 false 12 [.none,.none,.none,.none] 185 1 186,fr [some (.ref 13),some (.ref 3),some (.ref 3),none,some (.str "__main__" 164),none,some (.ref 0)],tu [],nf [],tu [.str "k" 190],tu [],fu false 0 0 "_wall" 0 0 [] (.none) (.none) (.none) (.none) (.none) (.none),co "_wall" "_wall" 187 1 1 0 3 15 true 16 [.none,.ref 17,.ref 18,.ref 19] 191 1 192,fu true 0 0 "_wall" 3 0 [] (.none) (.none) (.none) (.str "__main__" 164) (.ref 20) (.none),tu [.type eQ],fo bu [.builtin ci,.type aZ],di P 4 [(aR,203,.str dZ 194),(aT,205,.str dY 204),(bw,207,.int 5 206),(bz,208,.ref 29)],tu [],nf [],co dY dY 198 5 0 0 0 25 false 26 [.none,.none,.none,.none] 201 5 202,fr [some (.ref 27),some (.ref 3),some (.ref 24),none,some (.str dZ 194),none,some (.ref 0)],tu [],di P 3 [(aR,203,.str dZ 194),(bw,207,.int 5 206),(bz,208,.ref 29),(cQ,210,.ref 32),(bC,211,.none)],oj (.type aZ) (none) #[some (.ref 22),none,some (.str dY 196),some (.str dY 204),some (.builtin ji),some (.bool true)] (.cls { name:=dY,bases:=[.type eQ],mro:=[.ref 31,.type eQ,.type jj,.type bb],ns:=30,qualname:=dY,hasDict:=true,slotNames:=[],subclasses:=[.ref 44,.ref 56,.ref 80,.ref 92,.ref 1094],abstract:=false,collection:=none,hasDel:=false }),fo dg [.str cQ 209,.ref 31,.builtin gQ,.none],fo cj [.ref 31,.ref 31,.ref 31],fo bu [.builtin ck,.ref 31],tu [.ref 31],fo bu [.builtin ci,.type aZ],di P 4 [(aR,223,.str dZ 194),(aT,225,.str ja 224),(bw,227,.int 7 226),(bz,228,.ref 42)],tu [],nf [],co ja ja 218 7 0 0 0 38 false 39 [.none,.none,.none,.none] 221 7 222,fr [some (.ref 40),some (.ref 3),some (.ref 37),none,some (.str dZ 194),none,some (.ref 0)],tu [],di P 2 [(aR,223,.str dZ 194),(bw,227,.int 7 226),(bz,228,.ref 42),(bC,229,.none)],oj (.type aZ) (none) #[some (.ref 35),none,some (.str ja 216),some (.str ja 224),some (.builtin ji),some (.bool true)] (.cls { name:=ja,bases:=[.ref 31],mro:=[.ref 44,.ref 31,.type eQ,.type jj,.type bb],ns:=43,qualname:=ja,hasDict:=true,slotNames:=[],subclasses:=[],abstract:=false,collection:=none,hasDel:=false }),fo cj [.ref 44,.ref 44,.ref 44],fo bu [.builtin ck,.ref 44],tu [.ref 31],fo bu [.builtin ci,.type aZ],di P 4 [(aR,239,.str dZ 194),(aT,241,.str jb 240),(bw,243,.int 9 242),(bz,244,.ref 54)],tu [],nf [],co jb jb 234 9 0 0 0 50 false 51 [.none,.none,.none,.none] 237 9 238,fr [some (.ref 52),some (.ref 3),some (.ref 49),none,some (.str dZ 194),none,some (.ref 0)],tu [],di P 2 [(aR,239,.str dZ 194),(bw,243,.int 9 242),(bz,244,.ref 54),(bC,245,.none)],oj (.type aZ) (none) #[some (.ref 47),none,some (.str jb 232),some (.str jb 240),some (.builtin ji),some (.bool true)] (.cls { name:=jb,bases:=[.ref 31],mro:=[.ref 56,.ref 31,.type eQ,.type jj,.type bb],ns:=55,qualname:=jb,hasDict:=true,slotNames:=[],subclasses:=[.ref 68],abstract:=false,collection:=none,hasDel:=false }),fo cj [.ref 56,.ref 56,.ref 56],fo bu [.builtin ck,.ref 56],tu [.ref 56],fo bu [.builtin ci,.type aZ],di P 4 [(aR,255,.str dZ 194),(aT,257,.str jc 256),(bw,259,.int 11 258),(bz,260,.ref 66)],tu [],nf [],co jc jc 250 11 0 0 0 62 false 63 [.none,.none,.none,.none] 253 11 254,fr [some (.ref 64),some (.ref 3),some (.ref 61),none,some (.str dZ 194),none,some (.ref 0)],tu [],di P 2 [(aR,255,.str dZ 194),(bw,259,.int 11 258),(bz,260,.ref 66),(bC,261,.none)],oj (.type aZ) (none) #[some (.ref 59),none,some (.str jc 248),some (.str jc 256),some (.builtin ji),some (.bool true)] (.cls { name:=jc,bases:=[.ref 56],mro:=[.ref 68,.ref 56,.ref 31,.type eQ,.type jj,.type bb],ns:=67,qualname:=jc,hasDict:=true,slotNames:=[],subclasses:=[],abstract:=false,collection:=none,hasDel:=false }),fo cj [.ref 68,.ref 68,.ref 68],fo bu [.builtin ck,.ref 68],tu [.ref 31],fo bu [.builtin ci,.type aZ],di P 4 [(aR,271,.str dZ 194),(aT,273,.str jd 272),(bw,275,.int 13 274),(bz,276,.ref 78)],tu [],nf [],co jd jd 266 13 0 0 0 74 false 75 [.none,.none,.none,.none] 269 13 270,fr [some (.ref 76),some (.ref 3),some (.ref 73),none,some (.str dZ 194),none,some (.ref 0)],tu [],di P 2 [(aR,271,.str dZ 194),(bw,275,.int 13 274),(bz,276,.ref 78),(bC,277,.none)],oj (.type aZ) (none) #[some (.ref 71),none,some (.str jd 264),some (.str jd 272),some (.builtin ji),some (.bool true)] (.cls { name:=jd,bases:=[.ref 31],mro:=[.ref 80,.ref 31,.type eQ,.type jj,.type bb],ns:=79,qualname:=jd,hasDict:=true,slotNames:=[],subclasses:=[],abstract:=false,collection:=none,hasDel:=false }),fo cj [.ref 80,.ref 80,.ref 80],fo bu [.builtin ck,.ref 80],tu [.ref 31],fo bu [.builtin ci,.type aZ],di P 4 [(aR,287,.str dZ 194),(aT,289,.str je 288),(bw,291,.int 15 290),(bz,292,.ref 90)],tu [],nf [],co je je 282 15 0 0 0 86 false 87 [.none,.none,.none,.none] 285 15 286,fr [some (.ref 88),some (.ref 3),some (.ref 85),none,some (.str dZ 194),none,some (.ref 0)],tu [],di P 2 [(aR,287,.str dZ 194),(bw,291,.int 15 290),(bz,292,.ref 90),(bC,293,.none)],oj (.type aZ) (none) #[some (.ref 83),none,some (.str je 280),some (.str je 288),some (.builtin ji),some (.bool true)] (.cls { name:=je,bases:=[.ref 31],mro:=[.ref 92,.ref 31,.type eQ,.type jj,.type bb],ns:=91,qualname:=je,hasDict:=true,slotNames:=[],subclasses:=[],abstract:=false,collection:=none,hasDel:=false }),fo cj [.ref 92,.ref 92,.ref 92],fo bu [.builtin ck,.ref 92],tu [.type eQ],fo bu [.builtin ci,.type aZ],di P 4 [(aR,305,.str ax 296),(aT,307,.str jf 306),(bw,309,.int 18 308),(bz,310,.ref 102)],tu [],nf []]
noncomputable def hO1 (P:Params):List Obj:=[co jf jf 300 18 0 0 0 98 false 99 [.none,.none,.none,.none] 303 18 304,fr [some (.ref 100),some (.ref 3),some (.ref 97),none,some (.str ax 296),none,some (.ref 0)],tu [],di P 3 [(aR,305,.str ax 296),(bw,309,.int 18 308),(bz,310,.ref 102),(cQ,312,.ref 105),(bC,313,.none)],oj (.type aZ) (none) #[some (.ref 95),none,some (.str jf 298),some (.str jf 306),some (.builtin ji),some (.bool true)] (.cls { name:=jf,bases:=[.type eQ],mro:=[.ref 104,.type eQ,.type jj,.type bb],ns:=103,qualname:=jf,hasDict:=true,slotNames:=[],subclasses:=[],abstract:=false,collection:=none,hasDel:=false }),fo dg [.str cQ 311,.ref 104,.builtin gQ,.none],fo cj [.ref 104,.ref 104,.ref 104],fo bu [.builtin ck,.ref 104],tu [],fo bu [.builtin ci,.type aZ],di P 8 [(aR,325,.str ax 296),(aT,327,.str jg 326),(bw,329,.int 20 328),(bN,339,.ref 122),(bi,347,.ref 129),(bF,369,.ref 138),(bo,377,.ref 146),(bz,381,.ref 147)],tu [],nf [.int 22 0,.int 4 0,.ref 121,.int 29 0,.int 4 0,.ref 128,.int 35 0,.int 4 0,.ref 135,.int 40 0,.int 4 0,.ref 145],co jg jg 320 20 0 0 0 111 false 112 [.none,.none,.none,.none] 323 20 324,fr [some (.ref 113),some (.ref 3),some (.ref 110),none,some (.str ax 296),none,some (.ref 0)],tu [.none],tu [],nf [],tu [.str aJ 333,.str "keyid" 334,.str "signature" 335,.str dB 336],tu [],fu false 10 1 "Signature.__init__" 0 0 [] (.none) (.none) (.none) (.none) (.none) (.none),co bN "Signature.__init__" 330 22 4 0 3 116 true 117 [.none,.ref 118,.ref 119,.ref 120] 337 22 338,fu true 10 1 "Signature.__init__" 3 0 [] (.ref 115) (.none) (.none) (.str ax 296) (.ref 121) (.none),tu [],nf [],tu [.str aJ 343,.str "other" 344],tu [],fu false 10 2 "Signature.__eq__" 0 0 [] (.none) (.none) (.none) (.none) (.none) (.none),co bi "Signature.__eq__" 340 29 2 0 3 123 true 124 [.none,.ref 125,.ref 126,.ref 127] 345 29 346,fu true 10 2 "Signature.__eq__" 3 0 [] (.none) (.none) (.none) (.str ax 296) (.ref 128) (.none),tu [],nf [],tu [.str "cls" 351,.str "signature_dict" 352,.str "keyid" 353,.str "sig" 354],tu [],fu false 10 3 xM 0 0 [] (.none) (.none) (.none) (.none) (.none) (.none),co bF xM 348 34 2 0 3 130 true 131 [.none,.ref 132,.ref 133,.ref 134] 355 34 356,an 139 <| fu true 10 3 xM 3 0 [] (.none) (.none) (.none) (.str ax 296) (.ref 135) (.none),di P 5 [(aR,358,.str ax 296),(cy,361,.str bF 360),(aT,364,.str xM 363),(bC,366,.none),(cz,368,.ref 139)],oj (.type eG) (some 137) #[] (.fields #[.ref 136,.bool false]),di P 0 [],tu [],nf [],tu [.str aJ 373,.str "res" 374],tu [],fu false 10 4 "Signature.to_dict" 0 0 [] (.none) (.none) (.none) (.none) (.none) (.none),co bo "Signature.to_dict" 370 40 1 0 3 140 true 141 [.none,.ref 142,.ref 143,.ref 144] 375 40 376,fu true 10 4 "Signature.to_dict" 3 0 [] (.none) (.none) (.none) (.str ax 296) (.ref 145) (.none),tu [.str "keyid" 378,.str "signature" 379,.str dB 380],di P 5 [(aR,325,.str ax 296),(bw,329,.int 20 328),(bN,339,.ref 122),(bi,347,.ref 129),(bF,369,.ref 138),(bo,377,.ref 146),(bz,381,.ref 147),(dI,383,.ref 150),(cQ,385,.ref 151),(bC,386,.none),(fO,387,.none)],oj (.type aZ) (none) #[none,none,some (.str jg 318),some (.str jg 326),some (.builtin cU),some (.bool true)] (.cls { name:=jg,bases:=[.type bb],mro:=[.ref 149,.type bb],ns:=148,qualname:=jg,hasDict:=true,slotNames:=[],subclasses:=[],abstract:=false,collection:=none,hasDel:=false }),fo dg [.str dI 382,.ref 149,.builtin jk,.builtin jl],fo dg [.str cQ 384,.ref 149,.builtin gQ,.none],fo cj [.ref 149,.ref 149,.ref 149],fo bu [.builtin ck,.ref 149],tu [],fo bu [.builtin ci,.type aZ],di P 9 [(aR,397,.str ax 296),(aT,399,.str "Key" 398),(bw,401,.int 44 400),(bN,413,.ref 168),(bi,421,.ref 175),(bF,445,.ref 184),(bo,453,.ref 192),("verify_signature", 463,.ref 199),(bz,469,.ref 200)],tu [],nf [.int 46 0,.int 4 0,.ref 167,.int 55 0,.int 4 0,.ref 174,.int 61 0,.int 4 0,.ref 181,.int 67 0,.int 4 0,.ref 191,.int 72 0,.int 4 0,.ref 198],co "Key" "Key" 392 44 0 0 0 157 false 158 [.none,.none,.none,.none] 395 44 396,fr [some (.ref 159),some (.ref 3),some (.ref 156),none,some (.str ax 296),none,some (.ref 0)],tu [.none],tu [],nf [],tu [.str aJ 405,.str "keyid" 406,.str "keytype" 407,.str "scheme" 408,.str "keyval" 409,.str dB 410],tu [],fu false 11 1 "Key.__init__" 0 0 [] (.none) (.none) (.none) (.none) (.none) (.none),co bN "Key.__init__" 402 46 6 0 3 162 true 163 [.none,.ref 164,.ref 165,.ref 166] 411 46 412,fu true 11 1 "Key.__init__" 3 0 [] (.ref 161) (.none) (.none) (.str ax 296) (.ref 167) (.none),tu [],nf [],tu [.str aJ 417,.str "other" 418],tu [],fu false 11 2 "Key.__eq__" 0 0 [] (.none) (.none) (.none) (.none) (.none) (.none),co bi "Key.__eq__" 414 55 2 0 3 169 true 170 [.none,.ref 171,.ref 172,.ref 173] 419 55 420,fu true 11 2 "Key.__eq__" 3 0 [] (.none) (.none) (.none) (.str ax 296) (.ref 174) (.none),tu [],nf [],tu [.str "cls" 425,.str "keyid" 426,.str "key_dict" 427,.str "keytype" 428,.str "scheme" 429,.str "keyval" 430],tu [],fu false 11 3 "Key.from_dict" 0 0 [] (.none) (.none) (.none) (.none) (.none) (.none),co bF "Key.from_dict" 422 60 3 0 3 176 true 177 [.none,.ref 178,.ref 179,.ref 180] 431 60 432,an 185 <| fu true 11 3 "Key.from_dict" 3 0 [] (.none) (.none) (.none) (.str ax 296) (.ref 181) (.none),di P 5 [(aR,434,.str ax 296),(cy,437,.str bF 436),(aT,440,.str "Key.from_dict" 439),(bC,442,.none),(cz,444,.ref 185)],oj (.type eG) (some 183) #[] (.fields #[.ref 182,.bool false]),di P 0 [],tu [],nf [],tu [.str aJ 449,.str "res" 450],tu [],fu false 11 4 "Key.to_dict" 0 0 [] (.none) (.none) (.none) (.none) (.none) (.none),co bo "Key.to_dict" 446 67 1 0 3 186 true 187 [.none,.ref 188,.ref 189,.ref 190] 451 67 452,fu true 11 4 "Key.to_dict" 3 0 [] (.none) (.none) (.none) (.str ax 296) (.ref 191) (.none),tu [],nf [],tu [.str aJ 457,.str "signature" 458,.str "data" 459,.str "wanted" 460],tu [],fu false 11 5 "Key.verify_signature" 0 0 [] (.none) (.none) (.none) (.none) (.none) (.none),co "verify_signature" "Key.verify_signature" 454 72 3 0 3 193 true 194 [.none,.ref 195,.ref 196,.ref 197] 461 72 462,fu true 11 5 "Key.verify_signature" 3 0 [] (.none) (.none) (.none) (.str ax 296) (.ref 198) (.none)]
noncomputable def hO2 (P:Params):List Obj:=[tu [.str "keyid" 464,.str "keytype" 465,.str "keyval" 466,.str "scheme" 467,.str dB 468],di P 5 [(aR,397,.str ax 296),(bw,401,.int 44 400),(bN,413,.ref 168),(bi,421,.ref 175),(bF,445,.ref 184),(bo,453,.ref 192),("verify_signature", 463,.ref 199),(bz,469,.ref 200),(dI,471,.ref 203),(cQ,473,.ref 204),(bC,474,.none),(fO,475,.none)],oj (.type aZ) (none) #[none,none,some (.str "Key" 390),some (.str "Key" 398),some (.builtin cU),some (.bool true)] (.cls { name := "Key", bases:=[.type bb],mro:=[.ref 202,.type bb],ns:=201,qualname := "Key", hasDict:=true,slotNames:=[],subclasses:=[],abstract:=false,collection:=none,hasDel:=false }),fo dg [.str dI 470,.ref 202,.builtin jk,.builtin jl],fo dg [.str cQ 472,.ref 202,.builtin gQ,.none],fo cj [.ref 202,.ref 202,.ref 202],fo bu [.builtin ck,.ref 202],oj (.type "list") (none) #[] (.seq #[.str "1" 480,.str "0" 481,.str "31" 482] 0),tu [.str "root" 484,.str gR 485,.str gS 486,.str dO 487],tu [],fo bu [.builtin ci,.type aZ],di P 11 [(aR,496,.str ax 296),(aT,498,.str fL 497),(bw,500,.int 79 499),(aZ,502,.str "signed" 501),("_type", 510,.ref 223),(bN,522,.ref 230),(bi,530,.ref 237),(xN,554,.ref 246),("_common_fields_to_dict", 562,.ref 254),("is_expired", 570,.ref 261),(bz,575,.ref 262)],tu [],nf [.int 83 0,.int 4 0,.ref 221,.int 86 0,.int 4 0,.ref 229,.int 105 0,.int 4 0,.ref 236,.int 111 0,.int 4 0,.ref 243,.int 120 0,.int 4 0,.ref 253,.int 125 0,.int 4 0,.ref 260],co fL fL 491 79 0 0 0 212 false 213 [.none,.none,.none,.none] 494 79 495,fr [some (.ref 214),some (.ref 3),some (.ref 211),none,some (.str ax 296),none,some (.ref 0)],tu [],nf [],tu [.str aJ 506],tu [],fu false 15 2 "Signed._type" 0 0 [] (.none) (.none) (.none) (.none) (.none) (.none),co "_type" "Signed._type" 503 82 1 0 3 216 true 217 [.none,.ref 218,.ref 219,.ref 220] 507 82 508,fu true 15 2 "Signed._type" 3 0 [] (.none) (.none) (.none) (.str ax 296) (.ref 221) (.none),fo "property" [.ref 222,.none,.none,.none,.str "_type" 510,.bool false],tu [],nf [],tu [.str aJ 514,.str "version" 515,.str pS 516,.str "expires" 517,.str dB 518,.str "spec_list" 519],tu [],fu false 15 3 "Signed.__init__" 0 0 [] (.none) (.none) (.none) (.none) (.none) (.none),co bN "Signed.__init__" 511 86 5 0 3 224 true 225 [.none,.ref 226,.ref 227,.ref 228] 520 86 521,fu true 15 3 "Signed.__init__" 3 0 [] (.none) (.none) (.none) (.str ax 296) (.ref 229) (.none),tu [],nf [],tu [.str aJ 526,.str "other" 527],tu [],fu false 15 4 "Signed.__eq__" 0 0 [] (.none) (.none) (.none) (.none) (.none) (.none),co bi "Signed.__eq__" 523 105 2 0 3 231 true 232 [.none,.ref 233,.ref 234,.ref 235] 528 105 529,fu true 15 4 "Signed.__eq__" 3 0 [] (.none) (.none) (.none) (.str ax 296) (.ref 236) (.none),tu [],nf [],tu [.str "cls" 534,.str "signed_dict" 535,.str "_type" 536,.str "version" 537,.str pS 538,.str "expires" 539],tu [],fu false 15 5 xO 0 0 [] (.none) (.none) (.none) (.none) (.none) (.none),co xN xO 531 110 2 0 3 238 true 239 [.none,.ref 240,.ref 241,.ref 242] 540 110 541,an 247 <| fu true 15 5 xO 3 0 [] (.none) (.none) (.none) (.str ax 296) (.ref 243) (.none),di P 5 [(aR,543,.str ax 296),(cy,546,.str xN 545),(aT,549,.str xO 548),(bC,551,.none),(cz,553,.ref 247)],oj (.type eG) (some 245) #[] (.fields #[.ref 244,.bool false]),di P 0 [],tu [],nf [],tu [.str aJ 558,.str "res_dict" 559],tu [],fu false 15 6 Cw 0 0 [] (.none) (.none) (.none) (.none) (.none) (.none),co "_common_fields_to_dict" Cw 555 120 1 0 3 248 true 249 [.none,.ref 250,.ref 251,.ref 252] 560 120 561,fu true 15 6 Cw 3 0 [] (.none) (.none) (.none) (.str ax 296) (.ref 253) (.none),tu [],nf [],tu [.str aJ 566,.str "reference_time" 567],tu [],fu false 15 7 "Signed.is_expired" 0 0 [] (.none) (.none) (.none) (.none) (.none) (.none),co "is_expired" "Signed.is_expired" 563 125 2 0 3 255 true 256 [.none,.ref 257,.ref 258,.ref 259] 568 125 569,fu true 15 7 "Signed.is_expired" 3 0 [] (.none) (.none) (.none) (.str ax 296) (.ref 260) (.none),tu [.str "expires" 571,.str pS 572,.str dB 573,.str "version" 574],di P 5 [(aR,496,.str ax 296),(bw,500,.int 79 499),(aZ,502,.str "signed" 501),("_type", 510,.ref 223),(bN,522,.ref 230),(bi,530,.ref 237),(xN,554,.ref 246),("_common_fields_to_dict", 562,.ref 254),("is_expired", 570,.ref 261),(bz,575,.ref 262),(dI,577,.ref 265),(cQ,579,.ref 266),(bC,580,.none),(fO,581,.none)],oj (.type aZ) (none) #[none,none,some (.str fL 489),some (.str fL 497),some (.builtin cU),some (.bool true)] (.cls { name:=fL,bases:=[.type bb],mro:=[.ref 264,.type bb],ns:=263,qualname:=fL,hasDict:=true,slotNames:=[],subclasses:=[.ref 375,.ref 623,.ref 669],abstract:=false,collection:=none,hasDel:=false }),fo dg [.str dI 576,.ref 264,.builtin jk,.builtin jl],fo dg [.str cQ 578,.ref 264,.builtin gQ,.none],fo cj [.ref 264,.ref 264,.ref 264],fo bu [.builtin ck,.ref 264],tu [],fo bu [.builtin ci,.type aZ],di P 8 [(aR,591,.str ax 296),(aT,593,.str "Role" 592),(bw,595,.int 127 594),(bN,605,.ref 283),(bi,613,.ref 290),(bF,635,.ref 299),(bo,643,.ref 307),(bz,647,.ref 308)],tu [],nf [.int 129 0,.int 4 0,.ref 282,.int 140 0,.int 4 0,.ref 289,.int 146 0,.int 4 0,.ref 296,.int 151 0,.int 4 0,.ref 306],co "Role" "Role" 586 127 0 0 0 272 false 273 [.none,.none,.none,.none] 589 127 590,fr [some (.ref 274),some (.ref 3),some (.ref 271),none,some (.str ax 296),none,some (.ref 0)],tu [.none],tu [],nf [],tu [.str aJ 599,.str "keyids" 600,.str ku 601,.str dB 602],tu [],fu false 16 1 "Role.__init__" 0 0 [] (.none) (.none) (.none) (.none) (.none) (.none),co bN "Role.__init__" 596 129 4 0 3 277 true 278 [.none,.ref 279,.ref 280,.ref 281] 603 129 604,fu true 16 1 "Role.__init__" 3 0 [] (.ref 276) (.none) (.none) (.str ax 296) (.ref 282) (.none),tu [],nf [],tu [.str aJ 609,.str "other" 610],tu [],fu false 16 2 "Role.__eq__" 0 0 [] (.none) (.none) (.none) (.none) (.none) (.none),co bi "Role.__eq__" 606 140 2 0 3 284 true 285 [.none,.ref 286,.ref 287,.ref 288] 611 140 612,fu true 16 2 "Role.__eq__" 3 0 [] (.none) (.none) (.none) (.str ax 296) (.ref 289) (.none),tu [],nf [],tu [.str "cls" 617,.str "role_dict" 618,.str "keyids" 619,.str ku 620],tu [],fu false 16 3 "Role.from_dict" 0 0 [] (.none) (.none) (.none) (.none) (.none) (.none),co bF "Role.from_dict" 614 145 2 0 3 291 true 292 [.none,.ref 293,.ref 294,.ref 295] 621 145 622,an 300 <| fu true 16 3 "Role.from_dict" 3 0 [] (.none) (.none) (.none) (.str ax 296) (.ref 296) (.none),di P 5 [(aR,624,.str ax 296),(cy,627,.str bF 626),(aT,630,.str "Role.from_dict" 629),(bC,632,.none),(cz,634,.ref 300)],oj (.type eG) (some 298) #[] (.fields #[.ref 297,.bool false])]
noncomputable def hO3 (P:Params):List Obj:=[di P 0 [],tu [],nf [],tu [.str aJ 639,.str "res_dict" 640],tu [],fu false 16 4 "Role.to_dict" 0 0 [] (.none) (.none) (.none) (.none) (.none) (.none),co bo "Role.to_dict" 636 151 1 0 3 301 true 302 [.none,.ref 303,.ref 304,.ref 305] 641 151 642,fu true 16 4 "Role.to_dict" 3 0 [] (.none) (.none) (.none) (.str ax 296) (.ref 306) (.none),tu [.str "keyids" 644,.str ku 645,.str dB 646],di P 5 [(aR,591,.str ax 296),(bw,595,.int 127 594),(bN,605,.ref 283),(bi,613,.ref 290),(bF,635,.ref 299),(bo,643,.ref 307),(bz,647,.ref 308),(dI,649,.ref 311),(cQ,651,.ref 312),(bC,652,.none),(fO,653,.none)],oj (.type aZ) (none) #[none,none,some (.str "Role" 584),some (.str "Role" 592),some (.builtin cU),some (.bool true)] (.cls { name := "Role", bases:=[.type bb],mro:=[.ref 310,.type bb],ns:=309,qualname := "Role", hasDict:=true,slotNames:=[],subclasses:=[.ref 732,.ref 806],abstract:=false,collection:=none,hasDel:=false }),fo dg [.str dI 648,.ref 310,.builtin jk,.builtin jl],fo dg [.str cQ 650,.ref 310,.builtin gQ,.none],fo cj [.ref 310,.ref 310,.ref 310],fo bu [.builtin ck,.ref 310],tu [],fo bu [.builtin ci,.type aZ],di P 7 [(aR,663,.str ax 296),(aT,665,.str jh 664),(bw,667,.int 155 666),(bN,677,.ref 328),("verified", 685,.ref 336),("missing", 693,.ref 344),(bz,697,.ref 345)],tu [],nf [.int 157 0,.int 4 0,.ref 327,.int 163 0,.int 4 0,.ref 334,.int 167 0,.int 4 0,.ref 342],co jh jh 658 155 0 0 0 318 false 319 [.none,.none,.none,.none] 661 155 662,fr [some (.ref 320),some (.ref 3),some (.ref 317),none,some (.str ax 296),none,some (.ref 0)],tu [],nf [],tu [.str aJ 671,.str ku 672,.str "signed" 673,.str "unsigned" 674],tu [],fu false 17 1 Cy 0 0 [] (.none) (.none) (.none) (.none) (.none) (.none),co bN Cy 668 157 4 0 3 322 true 323 [.none,.ref 324,.ref 325,.ref 326] 675 157 676,fu true 17 1 Cy 3 0 [] (.none) (.none) (.none) (.str ax 296) (.ref 327) (.none),tu [],nf [],tu [.str aJ 681],tu [],fu false 17 2 Cz 0 0 [] (.none) (.none) (.none) (.none) (.none) (.none),co "verified" Cz 678 162 1 0 3 329 true 330 [.none,.ref 331,.ref 332,.ref 333] 682 162 683,fu true 17 2 Cz 3 0 [] (.none) (.none) (.none) (.str ax 296) (.ref 334) (.none),fo "property" [.ref 335,.none,.none,.none,.str "verified" 685,.bool false],tu [],nf [],tu [.str aJ 689],tu [],fu false 17 3 "VerificationResult.missing" 0 0 [] (.none) (.none) (.none) (.none) (.none) (.none),co "missing" "VerificationResult.missing" 686 166 1 0 3 337 true 338 [.none,.ref 339,.ref 340,.ref 341] 690 166 691,fu true 17 3 "VerificationResult.missing" 3 0 [] (.none) (.none) (.none) (.str ax 296) (.ref 342) (.none),fo "property" [.ref 343,.none,.none,.none,.str "missing" 693,.bool false],tu [.str "signed" 694,.str ku 695,.str "unsigned" 696],di P 4 [(aR,663,.str ax 296),(bw,667,.int 155 666),(bN,677,.ref 328),("verified", 685,.ref 336),("missing", 693,.ref 344),(bz,697,.ref 345),(dI,699,.ref 348),(cQ,701,.ref 349),(bC,702,.none)],oj (.type aZ) (none) #[none,none,some (.str jh 656),some (.str jh 664),some (.builtin cU),some (.bool true)] (.cls { name:=jh,bases:=[.type bb],mro:=[.ref 347,.type bb],ns:=346,qualname:=jh,hasDict:=true,slotNames:=[],subclasses:=[],abstract:=false,collection:=none,hasDel:=false }),fo dg [.str dI 698,.ref 347,.builtin jk,.builtin jl],fo dg [.str cQ 700,.ref 347,.builtin gQ,.none],fo cj [.ref 347,.ref 347,.ref 347],fo bu [.builtin ck,.ref 347],tu [.ref 264],fo bu [.builtin ci,.type aZ],di P 6 [(aR,712,.str ax 296),(aT,714,.str fM 713),(bw,716,.int 169 715),("get_verification_result", 732,.ref 365),(pT,743,.ref 372),(bz,744,.ref 373)],tu [],nf [.int 171 0,.int 4 0,.ref 364,.int 191 0,.int 4 0,.ref 371],co fM fM 707 169 0 0 0 355 false 356 [.none,.none,.none,.none] 710 169 711,fr [some (.ref 357),some (.ref 3),some (.ref 354),none,some (.str ax 296),none,some (.ref 0)],tu [],nf [],tu [.str aJ 720,.str "delegated_role" 721,.str "payload" 722,.str "signatures" 723,.str "role" 724,.str "signed" 725,.str "unsigned" 726,.str "keyid" 727,.str "key" 728,.str "sig" 729],tu [],fu false 18 1 CA 0 0 [] (.none) (.none) (.none) (.none) (.none) (.none),co "get_verification_result" CA 717 171 4 0 3 359 true 360 [.none,.ref 361,.ref 362,.ref 363] 730 171 731,fu true 18 1 CA 3 0 [] (.none) (.none) (.none) (.str ax 296) (.ref 364) (.none),tu [],nf [],tu [.str aJ 736,.str "delegated_role" 737,.str "payload" 738,.str "signatures" 739,.str "result" 740],tu [],fu false 18 2 CB 0 0 [] (.none) (.none) (.none) (.none) (.none) (.none),co pT CB 733 191 4 0 3 366 true 367 [.none,.ref 368,.ref 369,.ref 370] 741 191 742,fu true 18 2 CB 3 0 [] (.none) (.none) (.none) (.str ax 296) (.ref 371) (.none),tu [],di P 2 [(aR,712,.str ax 296),(bw,716,.int 169 715),("get_verification_result", 732,.ref 365),(pT,743,.ref 372),(bz,744,.ref 373),(bC,745,.none)],oj (.type aZ) (none) #[some (.ref 352),none,some (.str fM 705),some (.str fM 713),some (.builtin cU),some (.bool true)] (.cls { name:=fM,bases:=[.ref 264],mro:=[.ref 375,.ref 264,.type bb],ns:=374,qualname:=fM,hasDict:=true,slotNames:=[],subclasses:=[.ref 452,.ref 1009],abstract:=false,collection:=none,hasDel:=false }),fo cj [.ref 375,.ref 375,.ref 375],fo bu [.builtin ck,.ref 375],tu [.ref 375],fo bu [.builtin ci,.type aZ],di P 15 [(aR,755,.str ax 296),(aT,757,.str "Root" 756),(bw,759,.int 195 758),(aZ,761,.str "root" 760),(bN,768,.ref 392),(bi,776,.ref 399),(bF,804,.ref 408),(bo,810,.ref 414),("add_key", 819,.ref 421),("revoke_key", 828,.ref 428),(pU,836,.ref 435),("get_key", 844,.ref 442),(CC,854,.ref 449),(bz,858,.ref 450),(pV,859,.ref 381)],oj (.type "cell") (none) #[] (.cell (some (.ref 452))),tu [],nf [.int 198 0,.int 4 0,.ref 391,.int 208 0,.int 4 0,.ref 398,.int 214 0,.int 4 0,.ref 405,.int 225 0,.int 4 0,.ref 413,.int 236 0,.int 4 0,.ref 420,.int 239 0,.int 4 0,.ref 427,.int 242 0,.int 4 0,.ref 434,.int 247 0,.int 4 0,.ref 441,.int 252 0,.int 4 0,.ref 448],co "Root" "Root" 750 195 0 0 0 382 false 383 [.none,.none,.none,.none] 753 195 754,fr [some (.ref 384),some (.ref 3),some (.ref 380),none,some (.str ax 296),none,some (.ref 0)],tu [.none,.none,.none,.none,.none,.bool true,.none],tu [.ref 381],tu [.str gT 765],nf [],fu false 19 2 "Root.__init__" 0 0 [] (.none) (.none) (.none) (.none) (.none) (.none),co bN "Root.__init__" 762 198 8 0 3 388 true 389 [.none,.none,.none,.ref 390] 766 198 767,fu true 19 2 "Root.__init__" 3 0 [(gT,381)] (.ref 386) (.none) (.none) (.str ax 296) (.ref 391) (.ref 387),tu [],nf [],tu [.str aJ 772,.str "other" 773],tu [],fu false 19 3 "Root.__eq__" 0 0 [] (.none) (.none) (.none) (.none) (.none) (.none),co bi "Root.__eq__" 769 208 2 0 3 393 true 394 [.none,.ref 395,.ref 396,.ref 397] 774 208 775,fu true 19 3 "Root.__eq__" 3 0 [] (.none) (.none) (.none) (.str ax 296) (.ref 398) (.none)]
noncomputable def hO4 (P:Params):List Obj:=[tu [],nf [],tu [.str "cls" 780,.str "signed_dict" 781,.str "common_args" 782,.str "consistent_snapshot" 783,.str "keys" 784,.str "roles" 785,.str "keyid" 786,.str "key_dict" 787,.str "role_name" 788,.str "role_dict" 789],tu [],fu false 19 4 "Root.from_dict" 0 0 [] (.none) (.none) (.none) (.none) (.none) (.none),co bF "Root.from_dict" 777 213 2 0 3 400 true 401 [.none,.ref 402,.ref 403,.ref 404] 790 213 791,an 409 <| fu true 19 4 "Root.from_dict" 3 0 [] (.none) (.none) (.none) (.str ax 296) (.ref 405) (.none),di P 5 [(aR,793,.str ax 296),(cy,796,.str bF 795),(aT,799,.str "Root.from_dict" 798),(bC,801,.none),(cz,803,.ref 409)],oj (.type eG) (some 407) #[] (.fields #[.ref 406,.bool false]),di P 0 [],tu [],nf [],fu false 19 5 "Root.to_dict" 0 0 [] (.none) (.none) (.none) (.none) (.none) (.none),co bo "Root.to_dict" 805 225 1 0 3 410 true 411 [.none,.none,.none,.ref 412] 808 225 809,fu true 19 5 "Root.to_dict" 3 0 [] (.none) (.none) (.none) (.str ax 296) (.ref 413) (.none),tu [],nf [],tu [.str aJ 814,.str "key" 815,.str "role" 816],tu [],fu false 19 6 "Root.add_key" 0 0 [] (.none) (.none) (.none) (.none) (.none) (.none),co "add_key" "Root.add_key" 811 236 3 0 3 415 true 416 [.none,.ref 417,.ref 418,.ref 419] 817 236 818,fu true 19 6 "Root.add_key" 3 0 [] (.none) (.none) (.none) (.str ax 296) (.ref 420) (.none),tu [],nf [],tu [.str aJ 823,.str "keyid" 824,.str "role" 825],tu [],fu false 19 7 "Root.revoke_key" 0 0 [] (.none) (.none) (.none) (.none) (.none) (.none),co "revoke_key" "Root.revoke_key" 820 239 3 0 3 422 true 423 [.none,.ref 424,.ref 425,.ref 426] 826 239 827,fu true 19 7 "Root.revoke_key" 3 0 [] (.none) (.none) (.none) (.str ax 296) (.ref 427) (.none),tu [],nf [],tu [.str aJ 832,.str "delegated_role" 833],tu [],fu false 19 8 "Root.get_delegated_role" 0 0 [] (.none) (.none) (.none) (.none) (.none) (.none),co pU "Root.get_delegated_role" 829 242 2 0 3 429 true 430 [.none,.ref 431,.ref 432,.ref 433] 834 242 835,fu true 19 8 "Root.get_delegated_role" 3 0 [] (.none) (.none) (.none) (.str ax 296) (.ref 434) (.none),tu [],nf [],tu [.str aJ 840,.str "keyid" 841],tu [],fu false 19 9 "Root.get_key" 0 0 [] (.none) (.none) (.none) (.none) (.none) (.none),co "get_key" "Root.get_key" 837 247 2 0 3 436 true 437 [.none,.ref 438,.ref 439,.ref 440] 842 247 843,fu true 19 9 "Root.get_key" 3 0 [] (.none) (.none) (.none) (.str ax 296) (.ref 441) (.none),tu [],nf [],tu [.str aJ 848,.str "previous" 849,.str "payload" 850,.str "signatures" 851],tu [],fu false 19 10 CD 0 0 [] (.none) (.none) (.none) (.none) (.none) (.none),co CC CD 845 252 4 0 3 443 true 444 [.none,.ref 445,.ref 446,.ref 447] 852 252 853,fu true 19 10 CD 3 0 [] (.none) (.none) (.none) (.str ax 296) (.ref 448) (.none),tu [.str "consistent_snapshot" 855,.str "keys" 856,.str "roles" 857],di P 4 [(aR,755,.str ax 296),(bw,759,.int 195 758),(aZ,761,.str "root" 760),(bN,768,.ref 392),(bi,776,.ref 399),(bF,804,.ref 408),(bo,810,.ref 414),("add_key", 819,.ref 421),("revoke_key", 828,.ref 428),(pU,836,.ref 435),("get_key", 844,.ref 442),(CC,854,.ref 449),(bz,858,.ref 450),(bC,860,.none),(fO,861,.none)],oj (.type aZ) (none) #[some (.ref 378),none,some (.str "Root" 748),some (.str "Root" 756),some (.builtin cU),some (.bool true)] (.cls { name := "Root", bases:=[.ref 375],mro:=[.ref 452,.ref 375,.ref 264,.type bb],ns:=451,qualname := "Root", hasDict:=true,slotNames:=[],subclasses:=[],abstract:=false,collection:=none,hasDel:=false }),fo cj [.ref 452,.ref 452,.ref 452],fo bu [.builtin ck,.ref 452],tu [],fo bu [.builtin ci,.type aZ],di P 9 [(aR,871,.str ax 296),(aT,873,.str fN 872),(bw,875,.int 254 874),("_verify_hashes", 900,.ref 470),("_verify_length", 921,.ref 480),("_validate_hashes", 942,.ref 490),("_validate_length", 961,.ref 500),(xP,982,.ref 510),(bz,983,.ref 512)],tu [],nf [.int 257 0,.int 4 0,.ref 467,.int 267 0,.int 4 0,.ref 477,.int 273 0,.int 4 0,.ref 487,.int 281 0,.int 4 0,.ref 497,.int 286 0,.int 4 0,.ref 507],co fN fN 866 254 0 0 0 458 false 459 [.none,.none,.none,.none] 869 254 870,fr [some (.ref 460),some (.ref 3),some (.ref 457),none,some (.str ax 296),none,some (.ref 0)],tu [],nf [],tu [.str "data" 879,.str "expected_hashes" 880,.str "digest" 881,.str "algo" 882,.str "exp_hash" 883,.str "observed_hash" 884,.str "e" 885],tu [],fu false 20 1 xQ 0 0 [] (.none) (.none) (.none) (.none) (.none) (.none),co "_verify_hashes" xQ 876 256 3 0 3 462 true 463 [.none,.ref 464,.ref 465,.ref 466] 886 256 887,an 471 <| fu true 20 1 xQ 3 0 [] (.none) (.none) (.none) (.str ax 296) (.ref 467) (.none),di P 5 [(aR,889,.str ax 296),(cy,892,.str "_verify_hashes" 891),(aT,895,.str xQ 894),(bC,897,.none),(cz,899,.ref 471)],oj (.type pW) (some 469) #[] (.fields #[.ref 468,.bool false]),di P 0 [],tu [],nf [],tu [.str "data" 904,.str "expected_length" 905,.str "observed_length" 906],tu [],fu false 20 2 xR 0 0 [] (.none) (.none) (.none) (.none) (.none) (.none),co "_verify_length" xR 901 266 2 0 3 472 true 473 [.none,.ref 474,.ref 475,.ref 476] 907 266 908,an 481 <| fu true 20 2 xR 3 0 [] (.none) (.none) (.none) (.str ax 296) (.ref 477) (.none),di P 5 [(aR,910,.str ax 296),(cy,913,.str "_verify_length" 912),(aT,916,.str xR 915),(bC,918,.none),(cz,920,.ref 481)],oj (.type pW) (some 479) #[] (.fields #[.ref 478,.bool false]),di P 0 [],tu [],nf [],tu [.str "hashes" 925,.str "key" 926,.str "value" 927],tu [],fu false 20 3 xS 0 0 [] (.none) (.none) (.none) (.none) (.none) (.none),co "_validate_hashes" xS 922 272 1 0 3 482 true 483 [.none,.ref 484,.ref 485,.ref 486] 928 272 929,an 491 <| fu true 20 3 xS 3 0 [] (.none) (.none) (.none) (.str ax 296) (.ref 487) (.none),di P 5 [(aR,931,.str ax 296),(cy,934,.str "_validate_hashes" 933),(aT,937,.str xS 936),(bC,939,.none),(cz,941,.ref 491)],oj (.type pW) (some 489) #[] (.fields #[.ref 488,.bool false]),di P 0 [],tu [],nf [],tu [.str "length" 946],tu [],fu false 20 4 xT 0 0 [] (.none) (.none) (.none) (.none) (.none) (.none),co "_validate_length" xT 943 280 1 0 3 492 true 493 [.none,.ref 494,.ref 495,.ref 496] 947 280 948,an 501 <| fu true 20 4 xT 3 0 [] (.none) (.none) (.none) (.str ax 296) (.ref 497) (.none),di P 5 [(aR,950,.str ax 296),(cy,953,.str "_validate_length" 952),(aT,956,.str xT 955),(bC,958,.none),(cz,960,.ref 501)]]
noncomputable def hO5 (P:Params):List Obj:=[oj (.type pW) (some 499) #[] (.fields #[.ref 498,.bool false]),di P 0 [],tu [],nf [],tu [.str "data" 965,.str "hash_algorithms" 966,.str "digest" 967],tu [],fu false 20 5 xU 0 0 [] (.none) (.none) (.none) (.none) (.none) (.none),co xP xU 962 285 3 0 3 502 true 503 [.none,.ref 504,.ref 505,.ref 506] 968 285 969,an 511 <| fu true 20 5 xU 3 0 [] (.none) (.none) (.none) (.str ax 296) (.ref 507) (.none),di P 5 [(aR,971,.str ax 296),(cy,974,.str xP 973),(aT,977,.str xU 976),(bC,979,.none),(cz,981,.ref 511)],oj (.type pW) (some 509) #[] (.fields #[.ref 508,.bool false]),di P 0 [],tu [],di P 4 [(aR,871,.str ax 296),(bw,875,.int 254 874),("_verify_hashes", 900,.ref 470),("_verify_length", 921,.ref 480),("_validate_hashes", 942,.ref 490),("_validate_length", 961,.ref 500),(xP,982,.ref 510),(bz,983,.ref 512),(dI,985,.ref 515),(cQ,987,.ref 516),(bC,988,.none)],oj (.type aZ) (none) #[none,none,some (.str fN 864),some (.str fN 872),some (.builtin cU),some (.bool true)] (.cls { name:=fN,bases:=[.type bb],mro:=[.ref 514,.type bb],ns:=513,qualname:=fN,hasDict:=true,slotNames:=[],subclasses:=[.ref 577,.ref 933],abstract:=false,collection:=none,hasDel:=false }),fo dg [.str dI 984,.ref 514,.builtin jk,.builtin jl],fo dg [.str cQ 986,.ref 514,.builtin gQ,.none],fo cj [.ref 514,.ref 514,.ref 514],fo bu [.builtin ck,.ref 514],tu [.ref 514],fo bu [.builtin ci,.type aZ],di P 10 [(aR,998,.str ax 296),(aT,1000,.str "MetaFile" 999),(bw,1002,.int 288 1001),(bN,1014,.ref 533),(bi,1022,.ref 540),(bF,1045,.ref 549),("from_data", 1068,.ref 559),(bo,1076,.ref 567),(pX,1085,.ref 574),(bz,1090,.ref 575)],tu [],nf [.int 290 0,.int 4 0,.ref 532,.int 304 0,.int 4 0,.ref 539,.int 310 0,.int 4 0,.ref 546,.int 317 0,.int 4 0,.ref 556,.int 320 0,.int 4 0,.ref 566,.int 329 0,.int 4 0,.ref 573],co "MetaFile" "MetaFile" 993 288 0 0 0 522 false 523 [.none,.none,.none,.none] 996 288 997,fr [some (.ref 524),some (.ref 3),some (.ref 521),none,some (.str ax 296),none,some (.ref 0)],tu [.int 1 1003,.none,.none,.none],tu [],nf [],tu [.str aJ 1007,.str "version" 1008,.str "length" 1009,.str "hashes" 1010,.str dB 1011],tu [],fu false 21 1 "MetaFile.__init__" 0 0 [] (.none) (.none) (.none) (.none) (.none) (.none),co bN "MetaFile.__init__" 1004 290 5 0 3 527 true 528 [.none,.ref 529,.ref 530,.ref 531] 1012 290 1013,fu true 21 1 "MetaFile.__init__" 3 0 [] (.ref 526) (.none) (.none) (.str ax 296) (.ref 532) (.none),tu [],nf [],tu [.str aJ 1018,.str "other" 1019],tu [],fu false 21 2 "MetaFile.__eq__" 0 0 [] (.none) (.none) (.none) (.none) (.none) (.none),co bi "MetaFile.__eq__" 1015 304 2 0 3 534 true 535 [.none,.ref 536,.ref 537,.ref 538] 1020 304 1021,fu true 21 2 "MetaFile.__eq__" 3 0 [] (.none) (.none) (.none) (.str ax 296) (.ref 539) (.none),tu [],nf [],tu [.str "cls" 1026,.str "meta_dict" 1027,.str "version" 1028,.str "length" 1029,.str "hashes" 1030],tu [],fu false 21 3 "MetaFile.from_dict" 0 0 [] (.none) (.none) (.none) (.none) (.none) (.none),co bF "MetaFile.from_dict" 1023 309 2 0 3 541 true 542 [.none,.ref 543,.ref 544,.ref 545] 1031 309 1032,an 550 <| fu true 21 3 "MetaFile.from_dict" 3 0 [] (.none) (.none) (.none) (.str ax 296) (.ref 546) (.none),di P 5 [(aR,1034,.str ax 296),(cy,1037,.str bF 1036),(aT,1040,.str "MetaFile.from_dict" 1039),(bC,1042,.none),(cz,1044,.ref 550)],oj (.type eG) (some 548) #[] (.fields #[.ref 547,.bool false]),di P 0 [],tu [],nf [],tu [.str "cls" 1049,.str "version" 1050,.str "data" 1051,.str "hash_algorithms" 1052,.str "digest" 1053],tu [],fu false 21 4 "MetaFile.from_data" 0 0 [] (.none) (.none) (.none) (.none) (.none) (.none),co "from_data" "MetaFile.from_data" 1046 316 5 0 3 551 true 552 [.none,.ref 553,.ref 554,.ref 555] 1054 316 1055,an 560 <| fu true 21 4 "MetaFile.from_data" 3 0 [] (.none) (.none) (.none) (.str ax 296) (.ref 556) (.none),di P 5 [(aR,1057,.str ax 296),(cy,1060,.str "from_data" 1059),(aT,1063,.str "MetaFile.from_data" 1062),(bC,1065,.none),(cz,1067,.ref 560)],oj (.type eG) (some 558) #[] (.fields #[.ref 557,.bool false]),di P 0 [],tu [],nf [],tu [.str aJ 1072,.str "res_dict" 1073],tu [],fu false 21 5 "MetaFile.to_dict" 0 0 [] (.none) (.none) (.none) (.none) (.none) (.none),co bo "MetaFile.to_dict" 1069 320 1 0 3 561 true 562 [.none,.ref 563,.ref 564,.ref 565] 1074 320 1075,fu true 21 5 "MetaFile.to_dict" 3 0 [] (.none) (.none) (.none) (.str ax 296) (.ref 566) (.none),tu [],nf [],tu [.str aJ 1080,.str "data" 1081,.str "digest" 1082],tu [],fu false 21 6 CF 0 0 [] (.none) (.none) (.none) (.none) (.none) (.none),co pX CF 1077 329 3 0 3 568 true 569 [.none,.ref 570,.ref 571,.ref 572] 1083 329 1084,fu true 21 6 CF 3 0 [] (.none) (.none) (.none) (.str ax 296) (.ref 573) (.none),tu [.str "hashes" 1086,.str "length" 1087,.str dB 1088,.str "version" 1089],di P 3 [(aR,998,.str ax 296),(bw,1002,.int 288 1001),(bN,1014,.ref 533),(bi,1022,.ref 540),(bF,1045,.ref 549),("from_data", 1068,.ref 559),(bo,1076,.ref 567),(pX,1085,.ref 574),(bz,1090,.ref 575),(bC,1091,.none),(fO,1092,.none)],oj (.type aZ) (none) #[some (.ref 519),none,some (.str "MetaFile" 991),some (.str "MetaFile" 999),some (.builtin cU),some (.bool true)] (.cls { name := "MetaFile", bases:=[.ref 514],mro:=[.ref 577,.ref 514,.type bb],ns:=576,qualname := "MetaFile", hasDict:=true,slotNames:=[],subclasses:=[],abstract:=false,collection:=none,hasDel:=false }),fo cj [.ref 577,.ref 577,.ref 577],fo bu [.builtin ck,.ref 577],tu [.ref 264],fo bu [.builtin ci,.type aZ],di P 10 [(aR,1102,.str ax 296),(aT,1104,.str kh 1103),(bw,1106,.int 334 1105),(aZ,1108,.str gR 1107),(bN,1121,.ref 596),(bi,1129,.ref 603),(bF,1152,.ref 612),(bo,1160,.ref 620),(bz,1162,.ref 621),(pV,1163,.ref 583)],oj (.type "cell") (none) #[] (.cell (some (.ref 623))),tu [],nf [.int 337 0,.int 4 0,.ref 595,.int 341 0,.int 4 0,.ref 602,.int 347 0,.int 4 0,.ref 609,.int 353 0,.int 4 0,.ref 619],co kh kh 1097 334 0 0 0 584 false 585 [.none,.none,.none,.none] 1100 334 1101,fr [some (.ref 586),some (.ref 3),some (.ref 582),none,some (.str ax 296),none,some (.ref 0)],tu [.none,.none,.none,.none,.none],tu [.ref 583],tu [.str gT 1112],nf [],tu [.str aJ 1113,.str "version" 1114,.str pS 1115,.str "expires" 1116,.str pY 1117,.str dB 1118],tu [],fu false 22 2 "Timestamp.__init__" 0 0 [] (.none) (.none) (.none) (.none) (.none) (.none),co bN "Timestamp.__init__" 1109 337 6 0 3 590 true 591 [.none,.ref 592,.ref 593,.ref 594] 1119 337 1120,fu true 22 2 "Timestamp.__init__" 3 0 [(gT,583)] (.ref 588) (.none) (.none) (.str ax 296) (.ref 595) (.ref 589),tu [],nf [],tu [.str aJ 1125,.str "other" 1126]]
noncomputable def hO6 (P:Params):List Obj:=[tu [],fu false 22 3 "Timestamp.__eq__" 0 0 [] (.none) (.none) (.none) (.none) (.none) (.none),co bi "Timestamp.__eq__" 1122 341 2 0 3 597 true 598 [.none,.ref 599,.ref 600,.ref 601] 1127 341 1128,fu true 22 3 "Timestamp.__eq__" 3 0 [] (.none) (.none) (.none) (.str ax 296) (.ref 602) (.none),tu [],nf [],tu [.str "cls" 1133,.str "signed_dict" 1134,.str "common_args" 1135,.str "meta_dict" 1136,.str pY 1137],tu [],fu false 22 4 xV 0 0 [] (.none) (.none) (.none) (.none) (.none) (.none),co bF xV 1130 346 2 0 3 604 true 605 [.none,.ref 606,.ref 607,.ref 608] 1138 346 1139,an 613 <| fu true 22 4 xV 3 0 [] (.none) (.none) (.none) (.str ax 296) (.ref 609) (.none),di P 5 [(aR,1141,.str ax 296),(cy,1144,.str bF 1143),(aT,1147,.str xV 1146),(bC,1149,.none),(cz,1151,.ref 613)],oj (.type eG) (some 611) #[] (.fields #[.ref 610,.bool false]),di P 0 [],tu [],nf [],tu [.str aJ 1156,.str "res_dict" 1157],tu [],fu false 22 5 "Timestamp.to_dict" 0 0 [] (.none) (.none) (.none) (.none) (.none) (.none),co bo "Timestamp.to_dict" 1153 353 1 0 3 614 true 615 [.none,.ref 616,.ref 617,.ref 618] 1158 353 1159,fu true 22 5 "Timestamp.to_dict" 3 0 [] (.none) (.none) (.none) (.str ax 296) (.ref 619) (.none),tu [.str pY 1161],di P 4 [(aR,1102,.str ax 296),(bw,1106,.int 334 1105),(aZ,1108,.str gR 1107),(bN,1121,.ref 596),(bi,1129,.ref 603),(bF,1152,.ref 612),(bo,1160,.ref 620),(bz,1162,.ref 621),(bC,1164,.none),(fO,1165,.none)],oj (.type aZ) (none) #[some (.ref 580),none,some (.str kh 1095),some (.str kh 1103),some (.builtin cU),some (.bool true)] (.cls { name:=kh,bases:=[.ref 264],mro:=[.ref 623,.ref 264,.type bb],ns:=622,qualname:=kh,hasDict:=true,slotNames:=[],subclasses:=[],abstract:=false,collection:=none,hasDel:=false }),fo cj [.ref 623,.ref 623,.ref 623],fo bu [.builtin ck,.ref 623],tu [.ref 264],fo bu [.builtin ci,.type aZ],di P 10 [(aR,1175,.str ax 296),(aT,1177,.str "Snapshot" 1176),(bw,1179,.int 357 1178),(aZ,1181,.str gS 1180),(bN,1194,.ref 642),(bi,1202,.ref 649),(bF,1227,.ref 658),(bo,1238,.ref 666),(bz,1240,.ref 667),(pV,1241,.ref 629)],oj (.type "cell") (none) #[] (.cell (some (.ref 669))),tu [],nf [.int 360 0,.int 4 0,.ref 641,.int 364 0,.int 4 0,.ref 648,.int 370 0,.int 4 0,.ref 655,.int 378 0,.int 4 0,.ref 665],co "Snapshot" "Snapshot" 1170 357 0 0 0 630 false 631 [.none,.none,.none,.none] 1173 357 1174,fr [some (.ref 632),some (.ref 3),some (.ref 628),none,some (.str ax 296),none,some (.ref 0)],tu [.none,.none,.none,.none,.none],tu [.ref 629],tu [.str gT 1185],nf [],tu [.str aJ 1186,.str "version" 1187,.str pS 1188,.str "expires" 1189,.str "meta" 1190,.str dB 1191],tu [],fu false 23 2 "Snapshot.__init__" 0 0 [] (.none) (.none) (.none) (.none) (.none) (.none),co bN "Snapshot.__init__" 1182 360 6 0 3 636 true 637 [.none,.ref 638,.ref 639,.ref 640] 1192 360 1193,fu true 23 2 "Snapshot.__init__" 3 0 [(gT,629)] (.ref 634) (.none) (.none) (.str ax 296) (.ref 641) (.ref 635),tu [],nf [],tu [.str aJ 1198,.str "other" 1199],tu [],fu false 23 3 "Snapshot.__eq__" 0 0 [] (.none) (.none) (.none) (.none) (.none) (.none),co bi "Snapshot.__eq__" 1195 364 2 0 3 643 true 644 [.none,.ref 645,.ref 646,.ref 647] 1200 364 1201,fu true 23 3 "Snapshot.__eq__" 3 0 [] (.none) (.none) (.none) (.str ax 296) (.ref 648) (.none),tu [],nf [],tu [.str "cls" 1206,.str "signed_dict" 1207,.str "common_args" 1208,.str "meta_dicts" 1209,.str "meta" 1210,.str "meta_path" 1211,.str "meta_dict" 1212],tu [],fu false 23 4 "Snapshot.from_dict" 0 0 [] (.none) (.none) (.none) (.none) (.none) (.none),co bF "Snapshot.from_dict" 1203 369 2 0 3 650 true 651 [.none,.ref 652,.ref 653,.ref 654] 1213 369 1214,an 659 <| fu true 23 4 "Snapshot.from_dict" 3 0 [] (.none) (.none) (.none) (.str ax 296) (.ref 655) (.none),di P 5 [(aR,1216,.str ax 296),(cy,1219,.str bF 1218),(aT,1222,.str "Snapshot.from_dict" 1221),(bC,1224,.none),(cz,1226,.ref 659)],oj (.type eG) (some 657) #[] (.fields #[.ref 656,.bool false]),di P 0 [],tu [],nf [],tu [.str aJ 1231,.str "snapshot_dict" 1232,.str "meta_dict" 1233,.str "meta_path" 1234,.str "meta_info" 1235],tu [],fu false 23 5 "Snapshot.to_dict" 0 0 [] (.none) (.none) (.none) (.none) (.none) (.none),co bo "Snapshot.to_dict" 1228 378 1 0 3 660 true 661 [.none,.ref 662,.ref 663,.ref 664] 1236 378 1237,fu true 23 5 "Snapshot.to_dict" 3 0 [] (.none) (.none) (.none) (.str ax 296) (.ref 665) (.none),tu [.str "meta" 1239],di P 4 [(aR,1175,.str ax 296),(bw,1179,.int 357 1178),(aZ,1181,.str gS 1180),(bN,1194,.ref 642),(bi,1202,.ref 649),(bF,1227,.ref 658),(bo,1238,.ref 666),(bz,1240,.ref 667),(bC,1242,.none),(fO,1243,.none)],oj (.type aZ) (none) #[some (.ref 626),none,some (.str "Snapshot" 1168),some (.str "Snapshot" 1176),some (.builtin cU),some (.bool true)] (.cls { name := "Snapshot", bases:=[.ref 264],mro:=[.ref 669,.ref 264,.type bb],ns:=668,qualname := "Snapshot", hasDict:=true,slotNames:=[],subclasses:=[],abstract:=false,collection:=none,hasDel:=false }),fo cj [.ref 669,.ref 669,.ref 669],fo bu [.builtin ck,.ref 669],tu [.ref 310],fo bu [.builtin ci,.type aZ],di P 11 [(aR,1253,.str ax 296),(aT,1255,.str ki 1254),(bw,1257,.int 385 1256),(bN,1273,.ref 688),(bi,1281,.ref 695),(bF,1307,.ref 704),(bo,1316,.ref 712),(xW,1336,.ref 721),("is_delegated_path", 1345,.ref 729),(bz,1350,.ref 730),(pV,1351,.ref 675)],oj (.type "cell") (none) #[] (.cell (some (.ref 732))),tu [],nf [.int 387 0,.int 4 0,.ref 687,.int 401 0,.int 4 0,.ref 694,.int 407 0,.int 4 0,.ref 701,.int 416 0,.int 4 0,.ref 711,.int 427 0,.int 4 0,.ref 718,.int 430 0,.int 4 0,.ref 728],co ki ki 1248 385 0 0 0 676 false 677 [.none,.none,.none,.none] 1251 385 1252,fr [some (.ref 678),some (.ref 3),some (.ref 674),none,some (.str ax 296),none,some (.ref 0)],tu [.none,.none,.none],tu [.ref 675],tu [.str gT 1261],nf [],tu [.str aJ 1262,.str "name" 1263,.str "keyids" 1264,.str ku 1265,.str "terminating" 1266,.str "paths" 1267,.str "path_hash_prefixes" 1268,.str dB 1269,.str "exclusive_vars" 1270],tu [],fu false 24 1 "DelegatedRole.__init__" 0 0 [] (.none) (.none) (.none) (.none) (.none) (.none),co bN "DelegatedRole.__init__" 1258 387 8 0 3 682 true 683 [.none,.ref 684,.ref 685,.ref 686] 1271 387 1272,fu true 24 1 "DelegatedRole.__init__" 3 0 [(gT,675)] (.ref 680) (.none) (.none) (.str ax 296) (.ref 687) (.ref 681),tu [],nf [],tu [.str aJ 1277,.str "other" 1278],tu [],fu false 24 2 "DelegatedRole.__eq__" 0 0 [] (.none) (.none) (.none) (.none) (.none) (.none),co bi "DelegatedRole.__eq__" 1274 401 2 0 3 689 true 690 [.none,.ref 691,.ref 692,.ref 693] 1279 401 1280,fu true 24 2 "DelegatedRole.__eq__" 3 0 [] (.none) (.none) (.none) (.str ax 296) (.ref 694) (.none),tu [],nf [],tu [.str "cls" 1285,.str "role_dict" 1286,.str "name" 1287,.str "keyids" 1288,.str ku 1289,.str "terminating" 1290,.str "paths" 1291,.str "path_hash_prefixes" 1292],tu []]
noncomputable def hO7 (P:Params):List Obj:=[fu false 24 3 xX 0 0 [] (.none) (.none) (.none) (.none) (.none) (.none),co bF xX 1282 406 2 0 3 696 true 697 [.none,.ref 698,.ref 699,.ref 700] 1293 406 1294,an 705 <| fu true 24 3 xX 3 0 [] (.none) (.none) (.none) (.str ax 296) (.ref 701) (.none),di P 5 [(aR,1296,.str ax 296),(cy,1299,.str bF 1298),(aT,1302,.str xX 1301),(bC,1304,.none),(cz,1306,.ref 705)],oj (.type eG) (some 703) #[] (.fields #[.ref 702,.bool false]),di P 0 [],tu [],nf [],tu [.str aJ 1311,.str "base_role_dict" 1312,.str "res_dict" 1313],tu [],fu false 24 4 "DelegatedRole.to_dict" 0 0 [] (.none) (.none) (.none) (.none) (.none) (.none),co bo "DelegatedRole.to_dict" 1308 416 1 0 3 706 true 707 [.none,.ref 708,.ref 709,.ref 710] 1314 416 1315,fu true 24 4 "DelegatedRole.to_dict" 3 0 [] (.none) (.none) (.none) (.str ax 296) (.ref 711) (.none),tu [],nf [],tu [.str "targetpath" 1320,.str "pathpattern" 1321],tu [],fu false 24 5 xY 0 0 [] (.none) (.none) (.none) (.none) (.none) (.none),co xW xY 1317 426 2 0 3 713 true 714 [.none,.ref 715,.ref 716,.ref 717] 1322 426 1323,an 722 <| fu true 24 5 xY 3 0 [] (.none) (.none) (.none) (.str ax 296) (.ref 718) (.none),di P 5 [(aR,1325,.str ax 296),(cy,1328,.str xW 1327),(aT,1331,.str xY 1330),(bC,1333,.none),(cz,1335,.ref 722)],oj (.type pW) (some 720) #[] (.fields #[.ref 719,.bool false]),di P 0 [],tu [],nf [],tu [.str aJ 1340,.str "target_filepath" 1341,.str "digest" 1342],tu [],fu false 24 6 CH 0 0 [] (.none) (.none) (.none) (.none) (.none) (.none),co "is_delegated_path" CH 1337 430 3 0 3 723 true 724 [.none,.ref 725,.ref 726,.ref 727] 1343 430 1344,fu true 24 6 CH 3 0 [] (.none) (.none) (.none) (.str ax 296) (.ref 728) (.none),tu [.str "name" 1346,.str "path_hash_prefixes" 1347,.str "paths" 1348,.str "terminating" 1349],di P 4 [(aR,1253,.str ax 296),(bw,1257,.int 385 1256),(bN,1273,.ref 688),(bi,1281,.ref 695),(bF,1307,.ref 704),(bo,1316,.ref 712),(xW,1336,.ref 721),("is_delegated_path", 1345,.ref 729),(bz,1350,.ref 730),(bC,1352,.none),(fO,1353,.none)],oj (.type aZ) (none) #[some (.ref 672),none,some (.str ki 1246),some (.str ki 1254),some (.builtin cU),some (.bool true)] (.cls { name:=ki,bases:=[.ref 310],mro:=[.ref 732,.ref 310,.type bb],ns:=731,qualname:=ki,hasDict:=true,slotNames:=[],subclasses:=[],abstract:=false,collection:=none,hasDel:=false }),fo cj [.ref 732,.ref 732,.ref 732],fo bu [.builtin ck,.ref 732],tu [],nf [],tu [.str "number" 1359,.str "length" 1360,.str "signs" 1361],tu [],fu false 25 0 "_hex" 0 0 [] (.none) (.none) (.none) (.none) (.none) (.none),co "_hex" "_hex" 1356 432 2 0 3 735 true 736 [.none,.ref 737,.ref 738,.ref 739] 1362 432 1363,fu true 25 0 "_hex" 3 0 [] (.none) (.none) (.none) (.str ax 296) (.ref 740) (.none),tu [.ref 310],fo bu [.builtin ci,.type aZ],di P 12 [(aR,1372,.str ax 296),(aT,1374,.str kj 1373),(bw,1376,.int 438 1375),(bN,1389,.ref 758),(bi,1397,.ref 765),(bF,1421,.ref 774),(bo,1429,.ref 782),("get_role_for_target", 1438,.ref 789),("get_roles", 1445,.ref 796),("is_delegated_role", 1456,.ref 803),(bz,1461,.ref 804),(pV,1462,.ref 745)],oj (.type "cell") (none) #[] (.cell (some (.ref 806))),tu [],nf [.int 440 0,.int 4 0,.ref 757,.int 451 0,.int 4 0,.ref 764,.int 457 0,.int 4 0,.ref 771,.int 464 0,.int 4 0,.ref 781,.int 469 0,.int 4 0,.ref 788,.int 472 0,.int 4 0,.ref 795,.int 475 0,.int 4 0,.ref 802],co kj kj 1367 438 0 0 0 746 false 747 [.none,.none,.none,.none] 1370 438 1371,fr [some (.ref 748),some (.ref 3),some (.ref 744),none,some (.str ax 296),none,some (.ref 0)],tu [.none],tu [.ref 745],tu [.str gT 1380],nf [],tu [.str aJ 1381,.str "keyids" 1382,.str ku 1383,.str "bit_length" 1384,.str "name_prefix" 1385,.str dB 1386],tu [],fu false 26 1 "SuccinctRoles.__init__" 0 0 [] (.none) (.none) (.none) (.none) (.none) (.none),co bN "SuccinctRoles.__init__" 1377 440 6 0 3 752 true 753 [.none,.ref 754,.ref 755,.ref 756] 1387 440 1388,fu true 26 1 "SuccinctRoles.__init__" 3 0 [(gT,745)] (.ref 750) (.none) (.none) (.str ax 296) (.ref 757) (.ref 751),tu [],nf [],tu [.str aJ 1393,.str "other" 1394],tu [],fu false 26 2 "SuccinctRoles.__eq__" 0 0 [] (.none) (.none) (.none) (.none) (.none) (.none),co bi "SuccinctRoles.__eq__" 1390 451 2 0 3 759 true 760 [.none,.ref 761,.ref 762,.ref 763] 1395 451 1396,fu true 26 2 "SuccinctRoles.__eq__" 3 0 [] (.none) (.none) (.none) (.str ax 296) (.ref 764) (.none),tu [],nf [],tu [.str "cls" 1401,.str "role_dict" 1402,.str "keyids" 1403,.str ku 1404,.str "bit_length" 1405,.str "name_prefix" 1406],tu [],fu false 26 3 xZ 0 0 [] (.none) (.none) (.none) (.none) (.none) (.none),co bF xZ 1398 456 2 0 3 766 true 767 [.none,.ref 768,.ref 769,.ref 770] 1407 456 1408,an 775 <| fu true 26 3 xZ 3 0 [] (.none) (.none) (.none) (.str ax 296) (.ref 771) (.none),di P 5 [(aR,1410,.str ax 296),(cy,1413,.str bF 1412),(aT,1416,.str xZ 1415),(bC,1418,.none),(cz,1420,.ref 775)],oj (.type eG) (some 773) #[] (.fields #[.ref 772,.bool false]),di P 0 [],tu [],nf [],tu [.str aJ 1425,.str "res_dict" 1426],tu [],fu false 26 4 "SuccinctRoles.to_dict" 0 0 [] (.none) (.none) (.none) (.none) (.none) (.none),co bo "SuccinctRoles.to_dict" 1422 464 1 0 3 776 true 777 [.none,.ref 778,.ref 779,.ref 780] 1427 464 1428,fu true 26 4 "SuccinctRoles.to_dict" 3 0 [] (.none) (.none) (.none) (.str ax 296) (.ref 781) (.none),tu [],nf [],tu [.str aJ 1433,.str "target_filepath" 1434,.str "digest" 1435],tu [],fu false 26 5 vI 0 0 [] (.none) (.none) (.none) (.none) (.none) (.none),co "get_role_for_target" vI 1430 469 3 0 3 783 true 784 [.none,.ref 785,.ref 786,.ref 787] 1436 469 1437,fu true 26 5 vI 3 0 [] (.none) (.none) (.none) (.str ax 296) (.ref 788) (.none),tu [],nf [],tu [.str aJ 1442],tu [],fu false 26 6 "SuccinctRoles.get_roles" 0 0 [] (.none) (.none) (.none) (.none) (.none) (.none),co "get_roles" "SuccinctRoles.get_roles" 1439 472 1 0 3 790 true 791 [.none,.ref 792,.ref 793,.ref 794] 1443 472 1444,fu true 26 6 "SuccinctRoles.get_roles" 3 0 [] (.none) (.none) (.none) (.str ax 296) (.ref 795) (.none),tu [],nf [],tu [.str aJ 1449,.str "role_name" 1450,.str "desired_prefix" 1451,.str "suffix" 1452,.str "num" 1453]]
noncomputable def hO8 (P:Params):List Obj:=[tu [],fu false 26 7 vJ 0 0 [] (.none) (.none) (.none) (.none) (.none) (.none),co "is_delegated_role" vJ 1446 475 2 0 3 797 true 798 [.none,.ref 799,.ref 800,.ref 801] 1454 475 1455,fu true 26 7 vJ 3 0 [] (.none) (.none) (.none) (.str ax 296) (.ref 802) (.none),tu [.str "bit_length" 1457,.str "name_prefix" 1458,.str "number_of_bins" 1459,.str "suffix_len" 1460],di P 4 [(aR,1372,.str ax 296),(bw,1376,.int 438 1375),(bN,1389,.ref 758),(bi,1397,.ref 765),(bF,1421,.ref 774),(bo,1429,.ref 782),("get_role_for_target", 1438,.ref 789),("get_roles", 1445,.ref 796),("is_delegated_role", 1456,.ref 803),(bz,1461,.ref 804),(bC,1463,.none),(fO,1464,.none)],oj (.type aZ) (none) #[some (.ref 742),none,some (.str kj 1365),some (.str kj 1373),some (.builtin cU),some (.bool true)] (.cls { name:=kj,bases:=[.ref 310],mro:=[.ref 806,.ref 310,.type bb],ns:=805,qualname:=kj,hasDict:=true,slotNames:=[],subclasses:=[],abstract:=false,collection:=none,hasDel:=false }),fo cj [.ref 806,.ref 806,.ref 806],fo bu [.builtin ck,.ref 806],tu [],fo bu [.builtin ci,.type aZ],di P 9 [(aR,1474,.str ax 296),(aT,1476,.str km 1475),(bw,1478,.int 487 1477),(bN,1490,.ref 823),(bi,1499,.ref 830),(bF,1529,.ref 839),(bo,1535,.ref 845),("get_roles_for_target", 1544,.ref 852),(bz,1549,.ref 853)],tu [],nf [.int 489 0,.int 4 0,.ref 822,.int 503 0,.int 4 0,.ref 829,.int 512 0,.int 4 0,.ref 836,.int 532 0,.int 4 0,.ref 844,.int 543 0,.int 4 0,.ref 851],co km km 1469 487 0 0 0 812 false 813 [.none,.none,.none,.none] 1472 487 1473,fr [some (.ref 814),some (.ref 3),some (.ref 811),none,some (.str ax 296),none,some (.ref 0)],tu [.none,.none,.none],tu [],nf [],tu [.str aJ 1482,.str "keys" 1483,.str "roles" 1484,.str "succinct_roles" 1485,.str dB 1486,.str "role" 1487],tu [],fu false 27 1 "Delegations.__init__" 0 0 [] (.none) (.none) (.none) (.none) (.none) (.none),co bN "Delegations.__init__" 1479 489 5 0 3 817 true 818 [.none,.ref 819,.ref 820,.ref 821] 1488 489 1489,fu true 27 1 "Delegations.__init__" 3 0 [] (.ref 816) (.none) (.none) (.str ax 296) (.ref 822) (.none),tu [],nf [],tu [.str aJ 1494,.str "other" 1495,.str "all_attributes_check" 1496],tu [],fu false 27 2 "Delegations.__eq__" 0 0 [] (.none) (.none) (.none) (.none) (.none) (.none),co bi "Delegations.__eq__" 1491 503 2 0 3 824 true 825 [.none,.ref 826,.ref 827,.ref 828] 1497 503 1498,fu true 27 2 "Delegations.__eq__" 3 0 [] (.none) (.none) (.none) (.str ax 296) (.ref 829) (.none),tu [],nf [],tu [.str "cls" 1503,.str "delegations_dict" 1504,.str "keys" 1505,.str "keys_res" 1506,.str "keyid" 1507,.str "key_dict" 1508,.str "roles" 1509,.str "roles_res" 1510,.str "role_dict" 1511,.str "new_role" 1512,.str "succinct_roles_dict" 1513,.str "succinct_roles_info" 1514],tu [],fu false 27 3 x0 0 0 [] (.none) (.none) (.none) (.none) (.none) (.none),co bF x0 1500 511 2 0 3 831 true 832 [.none,.ref 833,.ref 834,.ref 835] 1515 511 1516,an 840 <| fu true 27 3 x0 3 0 [] (.none) (.none) (.none) (.str ax 296) (.ref 836) (.none),di P 5 [(aR,1518,.str ax 296),(cy,1521,.str bF 1520),(aT,1524,.str x0 1523),(bC,1526,.none),(cz,1528,.ref 840)],oj (.type eG) (some 838) #[] (.fields #[.ref 837,.bool false]),di P 0 [],tu [],nf [],fu false 27 4 "Delegations.to_dict" 0 0 [] (.none) (.none) (.none) (.none) (.none) (.none),co bo "Delegations.to_dict" 1530 532 1 0 3 841 true 842 [.none,.none,.none,.ref 843] 1533 532 1534,fu true 27 4 "Delegations.to_dict" 3 0 [] (.none) (.none) (.none) (.str ax 296) (.ref 844) (.none),tu [],nf [],tu [.str aJ 1539,.str "target_filepath" 1540,.str "digest" 1541],tu [],fu false 27 5 vK 0 0 [] (.none) (.none) (.none) (.none) (.none) (.none),co "get_roles_for_target" vK 1536 543 3 0 3 846 true 847 [.none,.ref 848,.ref 849,.ref 850] 1542 543 1543,fu true 27 5 vK 3 0 [] (.none) (.none) (.none) (.str ax 296) (.ref 851) (.none),tu [.str "keys" 1545,.str "roles" 1546,.str "succinct_roles" 1547,.str dB 1548],di P 5 [(aR,1474,.str ax 296),(bw,1478,.int 487 1477),(bN,1490,.ref 823),(bi,1499,.ref 830),(bF,1529,.ref 839),(bo,1535,.ref 845),("get_roles_for_target", 1544,.ref 852),(bz,1549,.ref 853),(dI,1551,.ref 856),(cQ,1553,.ref 857),(bC,1554,.none),(fO,1555,.none)],oj (.type aZ) (none) #[none,none,some (.str km 1467),some (.str km 1475),some (.builtin cU),some (.bool true)] (.cls { name:=km,bases:=[.type bb],mro:=[.ref 855,.type bb],ns:=854,qualname:=km,hasDict:=true,slotNames:=[],subclasses:=[],abstract:=false,collection:=none,hasDel:=false }),fo dg [.str dI 1550,.ref 855,.builtin jk,.builtin jl],fo dg [.str cQ 1552,.ref 855,.builtin gQ,.none],fo cj [.ref 855,.ref 855,.ref 855],fo bu [.builtin ck,.ref 855],tu [.ref 514],fo bu [.builtin ci,.type aZ],di P 12 [(aR,1565,.str ax 296),(aT,1567,.str kt 1566),(bw,1569,.int 545 1568),(bN,1580,.ref 874),("custom", 1588,.ref 882),(bi,1596,.ref 889),(bF,1619,.ref 898),(bo,1627,.ref 906),("from_data", 1650,.ref 915),(pX,1659,.ref 923),("get_prefixed_paths", 1666,.ref 930),(bz,1671,.ref 931)],tu [],nf [.int 547 0,.int 4 0,.ref 873,.int 558 0,.int 4 0,.ref 880,.int 561 0,.int 4 0,.ref 888,.int 567 0,.int 4 0,.ref 895,.int 572 0,.int 4 0,.ref 905,.int 578 0,.int 4 0,.ref 912,.int 581 0,.int 4 0,.ref 922,.int 585 0,.int 4 0,.ref 929],co kt kt 1560 545 0 0 0 863 false 864 [.none,.none,.none,.none] 1563 545 1564,fr [some (.ref 865),some (.ref 3),some (.ref 862),none,some (.str ax 296),none,some (.ref 0)],tu [.none],tu [],nf [],tu [.str aJ 1573,.str "length" 1574,.str "hashes" 1575,.str "path" 1576,.str dB 1577],tu [],fu false 28 1 "TargetFile.__init__" 0 0 [] (.none) (.none) (.none) (.none) (.none) (.none),co bN "TargetFile.__init__" 1570 547 5 0 3 868 true 869 [.none,.ref 870,.ref 871,.ref 872] 1578 547 1579,fu true 28 1 "TargetFile.__init__" 3 0 [] (.ref 867) (.none) (.none) (.str ax 296) (.ref 873) (.none),tu [],nf [],tu [.str aJ 1584],tu [],fu false 28 2 "TargetFile.custom" 0 0 [] (.none) (.none) (.none) (.none) (.none) (.none),co "custom" "TargetFile.custom" 1581 557 1 0 3 875 true 876 [.none,.ref 877,.ref 878,.ref 879] 1585 557 1586,fu true 28 2 "TargetFile.custom" 3 0 [] (.none) (.none) (.none) (.str ax 296) (.ref 880) (.none),fo "property" [.ref 881,.none,.none,.none,.str "custom" 1588,.bool false],tu [],nf [],tu [.str aJ 1592,.str "other" 1593],tu [],fu false 28 3 "TargetFile.__eq__" 0 0 [] (.none) (.none) (.none) (.none) (.none) (.none),co bi "TargetFile.__eq__" 1589 561 2 0 3 883 true 884 [.none,.ref 885,.ref 886,.ref 887] 1594 561 1595,fu true 28 3 "TargetFile.__eq__" 3 0 [] (.none) (.none) (.none) (.str ax 296) (.ref 888) (.none),tu [],nf [],tu [.str "cls" 1600,.str "target_dict" 1601,.str "path" 1602,.str "length" 1603,.str "hashes" 1604],tu [],fu false 28 4 x6 0 0 [] (.none) (.none) (.none) (.none) (.none) (.none),co bF x6 1597 566 3 0 3 890 true 891 [.none,.ref 892,.ref 893,.ref 894] 1605 566 1606,an 899 <| fu true 28 4 x6 3 0 [] (.none) (.none) (.none) (.str ax 296) (.ref 895) (.none),di P 5 [(aR,1608,.str ax 296),(cy,1611,.str bF 1610),(aT,1614,.str x6 1613),(bC,1616,.none),(cz,1618,.ref 899)],oj (.type eG) (some 897) #[] (.fields #[.ref 896,.bool false]),di P 0 []]
noncomputable def hO9 (P:Params):List Obj:=[tu [],nf [],tu [.str aJ 1623,.str "res_dict" 1624],tu [],fu false 28 5 "TargetFile.to_dict" 0 0 [] (.none) (.none) (.none) (.none) (.none) (.none),co bo "TargetFile.to_dict" 1620 572 1 0 3 900 true 901 [.none,.ref 902,.ref 903,.ref 904] 1625 572 1626,fu true 28 5 "TargetFile.to_dict" 3 0 [] (.none) (.none) (.none) (.str ax 296) (.ref 905) (.none),tu [],nf [],tu [.str "cls" 1631,.str "target_file_path" 1632,.str "data" 1633,.str "hash_algorithms" 1634,.str "digest" 1635],tu [],fu false 28 6 x7 0 0 [] (.none) (.none) (.none) (.none) (.none) (.none),co "from_data" x7 1628 577 5 0 3 907 true 908 [.none,.ref 909,.ref 910,.ref 911] 1636 577 1637,an 916 <| fu true 28 6 x7 3 0 [] (.none) (.none) (.none) (.str ax 296) (.ref 912) (.none),di P 5 [(aR,1639,.str ax 296),(cy,1642,.str "from_data" 1641),(aT,1645,.str x7 1644),(bC,1647,.none),(cz,1649,.ref 916)],oj (.type eG) (some 914) #[] (.fields #[.ref 913,.bool false]),di P 0 [],tu [],nf [],tu [.str aJ 1654,.str "data" 1655,.str "digest" 1656],tu [],fu false 28 7 vL 0 0 [] (.none) (.none) (.none) (.none) (.none) (.none),co pX vL 1651 581 3 0 3 917 true 918 [.none,.ref 919,.ref 920,.ref 921] 1657 581 1658,fu true 28 7 vL 3 0 [] (.none) (.none) (.none) (.str ax 296) (.ref 922) (.none),tu [],nf [],tu [.str aJ 1663],tu [],fu false 28 8 vM 0 0 [] (.none) (.none) (.none) (.none) (.none) (.none),co "get_prefixed_paths" vM 1660 585 1 0 3 924 true 925 [.none,.ref 926,.ref 927,.ref 928] 1664 585 1665,fu true 28 8 vM 3 0 [] (.none) (.none) (.none) (.str ax 296) (.ref 929) (.none),tu [.str "hashes" 1667,.str "length" 1668,.str "path" 1669,.str dB 1670],di P 3 [(aR,1565,.str ax 296),(bw,1569,.int 545 1568),(bN,1580,.ref 874),("custom", 1588,.ref 882),(bi,1596,.ref 889),(bF,1619,.ref 898),(bo,1627,.ref 906),("from_data", 1650,.ref 915),(pX,1659,.ref 923),("get_prefixed_paths", 1666,.ref 930),(bz,1671,.ref 931),(bC,1672,.none),(fO,1673,.none)],oj (.type aZ) (none) #[some (.ref 860),none,some (.str kt 1558),some (.str kt 1566),some (.builtin cU),some (.bool true)] (.cls { name:=kt,bases:=[.ref 514],mro:=[.ref 933,.ref 514,.type bb],ns:=932,qualname:=kt,hasDict:=true,slotNames:=[],subclasses:=[],abstract:=false,collection:=none,hasDel:=false }),fo cj [.ref 933,.ref 933,.ref 933],fo bu [.builtin ck,.ref 933],tu [.ref 375],fo bu [.builtin ci,.type aZ],di P 14 [(aR,1683,.str ax 296),(aT,1685,.str "Targets" 1684),(bw,1687,.int 587 1686),(aZ,1689,.str dO 1688),(bN,1703,.ref 952),(bi,1711,.ref 959),(bF,1738,.ref 968),(bo,1749,.ref 976),("add_key", 1758,.ref 984),("revoke_key", 1767,.ref 992),(pU,1777,.ref 999),("get_key", 1785,.ref 1006),(bz,1788,.ref 1007),(pV,1789,.ref 939)],oj (.type "cell") (none) #[] (.cell (some (.ref 1009))),tu [],nf [.int 590 0,.int 4 0,.ref 951,.int 595 0,.int 4 0,.ref 958,.int 601 0,.int 4 0,.ref 965,.int 615 0,.int 4 0,.ref 975,.int 625 0,.int 4 0,.ref 983,.int 628 0,.int 4 0,.ref 991,.int 631 0,.int 4 0,.ref 998,.int 645 0,.int 4 0,.ref 1005],co "Targets" "Targets" 1678 587 0 0 0 940 false 941 [.none,.none,.none,.none] 1681 587 1682,fr [some (.ref 942),some (.ref 3),some (.ref 938),none,some (.str ax 296),none,some (.ref 0)],tu [.none,.none,.none,.none,.none,.none],tu [.ref 939],tu [.str gT 1693],nf [],tu [.str aJ 1694,.str "version" 1695,.str pS 1696,.str "expires" 1697,.str dO 1698,.str "delegations" 1699,.str dB 1700],tu [],fu false 29 2 "Targets.__init__" 0 0 [] (.none) (.none) (.none) (.none) (.none) (.none),co bN "Targets.__init__" 1690 590 7 0 3 946 true 947 [.none,.ref 948,.ref 949,.ref 950] 1701 590 1702,fu true 29 2 "Targets.__init__" 3 0 [(gT,939)] (.ref 944) (.none) (.none) (.str ax 296) (.ref 951) (.ref 945),tu [],nf [],tu [.str aJ 1707,.str "other" 1708],tu [],fu false 29 3 "Targets.__eq__" 0 0 [] (.none) (.none) (.none) (.none) (.none) (.none),co bi "Targets.__eq__" 1704 595 2 0 3 953 true 954 [.none,.ref 955,.ref 956,.ref 957] 1709 595 1710,fu true 29 3 "Targets.__eq__" 3 0 [] (.none) (.none) (.none) (.str ax 296) (.ref 958) (.none),tu [],nf [],tu [.str "cls" 1715,.str "signed_dict" 1716,.str "common_args" 1717,.str dO 1718,.str "delegations_dict" 1719,.str "delegations" 1720,.str "res_targets" 1721,.str "target_path" 1722,.str "target_info" 1723],tu [],fu false 29 4 "Targets.from_dict" 0 0 [] (.none) (.none) (.none) (.none) (.none) (.none),co bF "Targets.from_dict" 1712 600 2 0 3 960 true 961 [.none,.ref 962,.ref 963,.ref 964] 1724 600 1725,an 969 <| fu true 29 4 "Targets.from_dict" 3 0 [] (.none) (.none) (.none) (.str ax 296) (.ref 965) (.none),di P 5 [(aR,1727,.str ax 296),(cy,1730,.str bF 1729),(aT,1733,.str "Targets.from_dict" 1732),(bC,1735,.none),(cz,1737,.ref 969)],oj (.type eG) (some 967) #[] (.fields #[.ref 966,.bool false]),di P 0 [],tu [],nf [],tu [.str aJ 1742,.str "targets_dict" 1743,.str dO 1744,.str "target_path" 1745,.str "target_file_obj" 1746],tu [],fu false 29 5 "Targets.to_dict" 0 0 [] (.none) (.none) (.none) (.none) (.none) (.none),co bo "Targets.to_dict" 1739 615 1 0 3 970 true 971 [.none,.ref 972,.ref 973,.ref 974] 1747 615 1748,fu true 29 5 "Targets.to_dict" 3 0 [] (.none) (.none) (.none) (.str ax 296) (.ref 975) (.none),tu [.none],tu [],nf [],tu [.str aJ 1753,.str "key" 1754,.str "role" 1755],tu [],fu false 29 6 "Targets.add_key" 0 0 [] (.none) (.none) (.none) (.none) (.none) (.none),co "add_key" "Targets.add_key" 1750 625 3 0 3 978 true 979 [.none,.ref 980,.ref 981,.ref 982] 1756 625 1757,fu true 29 6 "Targets.add_key" 3 0 [] (.ref 977) (.none) (.none) (.str ax 296) (.ref 983) (.none),tu [.none],tu [],nf [],tu [.str aJ 1762,.str "keyid" 1763,.str "role" 1764],tu [],fu false 29 7 "Targets.revoke_key" 0 0 [] (.none) (.none) (.none) (.none) (.none) (.none),co "revoke_key" "Targets.revoke_key" 1759 628 3 0 3 986 true 987 [.none,.ref 988,.ref 989,.ref 990] 1765 628 1766,fu true 29 7 "Targets.revoke_key" 3 0 [] (.ref 985) (.none) (.none) (.str ax 296) (.ref 991) (.none),tu [],nf [],tu [.str aJ 1771,.str "delegated_role" 1772,.str "role" 1773,.str "succinct" 1774],tu [],fu false 29 8 "Targets.get_delegated_role" 0 0 [] (.none) (.none) (.none) (.none) (.none) (.none),co pU "Targets.get_delegated_role" 1768 631 2 0 3 993 true 994 [.none,.ref 995,.ref 996,.ref 997] 1775 631 1776,fu true 29 8 "Targets.get_delegated_role" 3 0 [] (.none) (.none) (.none) (.str ax 296) (.ref 998) (.none)]
noncomputable def MF (P:Params):List Obj:=[tu [],nf [],tu [.str aJ 1781,.str "keyid" 1782],tu [],fu false 29 9 "Targets.get_key" 0 0 [] (.none) (.none) (.none) (.none) (.none) (.none),co "get_key" "Targets.get_key" 1778 645 2 0 3 1000 true 1001 [.none,.ref 1002,.ref 1003,.ref 1004] 1783 645 1784,fu true 29 9 "Targets.get_key" 3 0 [] (.none) (.none) (.none) (.str ax 296) (.ref 1005) (.none),tu [.str "delegations" 1786,.str dO 1787],di P 4 [(aR,1683,.str ax 296),(bw,1687,.int 587 1686),(aZ,1689,.str dO 1688),(bN,1703,.ref 952),(bi,1711,.ref 959),(bF,1738,.ref 968),(bo,1749,.ref 976),("add_key", 1758,.ref 984),("revoke_key", 1767,.ref 992),(pU,1777,.ref 999),("get_key", 1785,.ref 1006),(bz,1788,.ref 1007),(bC,1790,.none),(fO,1791,.none)],oj (.type aZ) (none) #[some (.ref 936),none,some (.str "Targets" 1676),some (.str "Targets" 1684),some (.builtin cU),some (.bool true)] (.cls { name := "Targets", bases:=[.ref 375],mro:=[.ref 1009,.ref 375,.ref 264,.type bb],ns:=1008,qualname := "Targets", hasDict:=true,slotNames:=[],subclasses:=[],abstract:=false,collection:=none,hasDel:=false }),fo cj [.ref 1009,.ref 1009,.ref 1009],fo bu [.builtin ck,.ref 1009],tu [],nf [],tu [.str "meta" 1799,.str "hashes" 1800],tu [],fu false 31 0 "_copy_meta" 0 0 [] (.none) (.none) (.none) (.none) (.none) (.none),co "_copy_meta" "_copy_meta" 1796 652 1 0 3 1012 true 1013 [.none,.ref 1014,.ref 1015,.ref 1016] 1801 652 1802,fu true 31 0 "_copy_meta" 3 0 [] (.none) (.none) (.none) (.str iu 1794) (.ref 1017) (.none),tu [],fo bu [.builtin ci,.type aZ],di P 11 [(aR,1811,.str iu 1794),(aT,1813,.str lI 1812),(bw,1815,.int 655 1814),(bN,1826,.ref 1032),("root", 1834,.ref 1039),(gR,1842,.ref 1046),(gS,1850,.ref 1053),(dO,1860,.ref 1061),("do_snapshot", 1877,.ref 1069),("do_timestamp", 1891,.ref 1077),(bz,1896,.ref 1078)],tu [],nf [.int 657 0,.int 4 0,.ref 1031,.int 663 0,.int 4 0,.ref 1038,.int 669 0,.int 4 0,.ref 1045,.int 675 0,.int 4 0,.ref 1052,.int 681 0,.int 4 0,.ref 1060,.int 687 0,.int 4 0,.ref 1068,.int 716 0,.int 4 0,.ref 1076],co lI lI 1806 655 0 0 0 1022 false 1023 [.none,.none,.none,.none] 1809 655 1810,fr [some (.ref 1024),some (.ref 3),some (.ref 1021),none,some (.str iu 1794),none,some (.ref 0)],tu [],nf [],tu [.str aJ 1819,.str "opened" 1820,.str "closed" 1821,.str "targets_infos" 1822,.str "snapshot_info" 1823],tu [],fu false 32 1 "Repository.__init__" 0 0 [] (.none) (.none) (.none) (.none) (.none) (.none),co bN "Repository.__init__" 1816 657 5 0 3 1026 true 1027 [.none,.ref 1028,.ref 1029,.ref 1030] 1824 657 1825,fu true 32 1 "Repository.__init__" 3 0 [] (.none) (.none) (.none) (.str iu 1794) (.ref 1031) (.none),tu [],nf [],tu [.str aJ 1830,.str "root" 1831],tu [],fu false 32 2 "Repository.root" 0 0 [] (.none) (.none) (.none) (.none) (.none) (.none),co "root" "Repository.root" 1827 663 1 0 3 1033 true 1034 [.none,.ref 1035,.ref 1036,.ref 1037] 1832 663 1833,fu true 32 2 "Repository.root" 3 0 [] (.none) (.none) (.none) (.str iu 1794) (.ref 1038) (.none),tu [],nf [],tu [.str aJ 1838,.str gR 1839],tu [],fu false 32 3 "Repository.timestamp" 0 0 [] (.none) (.none) (.none) (.none) (.none) (.none),co gR "Repository.timestamp" 1835 669 1 0 3 1040 true 1041 [.none,.ref 1042,.ref 1043,.ref 1044] 1840 669 1841,fu true 32 3 "Repository.timestamp" 3 0 [] (.none) (.none) (.none) (.str iu 1794) (.ref 1045) (.none),tu [],nf [],tu [.str aJ 1846,.str gS 1847],tu [],fu false 32 4 "Repository.snapshot" 0 0 [] (.none) (.none) (.none) (.none) (.none) (.none),co gS "Repository.snapshot" 1843 675 1 0 3 1047 true 1048 [.none,.ref 1049,.ref 1050,.ref 1051] 1848 675 1849,fu true 32 4 "Repository.snapshot" 3 0 [] (.none) (.none) (.none) (.str iu 1794) (.ref 1052) (.none),tu [.str dO 1851],tu [],nf [],tu [.str aJ 1855,.str "rolename" 1856,.str dO 1857],tu [],fu false 32 5 "Repository.targets" 0 0 [] (.none) (.none) (.none) (.none) (.none) (.none),co dO "Repository.targets" 1852 681 2 0 3 1055 true 1056 [.none,.ref 1057,.ref 1058,.ref 1059] 1858 681 1859,fu true 32 5 "Repository.targets" 3 0 [] (.ref 1054) (.none) (.none) (.str iu 1794) (.ref 1060) (.none),tu [.bool false],tu [],nf [],tu [.str aJ 1864,.str "force" 1865,.str "update_version" 1866,.str "removed" 1867,.str "root" 1868,.str "snapshot_md" 1869,.str "md" 1870,.str gS 1871,.str "keyname" 1872,.str "new_meta" 1873,.str "old_meta" 1874],tu [],fu false 32 6 "Repository.do_snapshot" 0 0 [] (.none) (.none) (.none) (.none) (.none) (.none),co "do_snapshot" "Repository.do_snapshot" 1861 687 2 0 3 1063 true 1064 [.none,.ref 1065,.ref 1066,.ref 1067] 1875 687 1876,fu true 32 6 "Repository.do_snapshot" 3 0 [] (.ref 1062) (.none) (.none) (.str iu 1794) (.ref 1068) (.none),tu [.bool false],tu [],nf [],tu [.str aJ 1881,.str "force" 1882,.str "update_version" 1883,.str "removed" 1884,.str "root" 1885,.str "timestamp_md" 1886,.str "md" 1887,.str gR 1888],tu [],fu false 32 7 "Repository.do_timestamp" 0 0 [] (.none) (.none) (.none) (.none) (.none) (.none),co "do_timestamp" "Repository.do_timestamp" 1878 716 2 0 3 1071 true 1072 [.none,.ref 1073,.ref 1074,.ref 1075] 1889 716 1890,fu true 32 7 "Repository.do_timestamp" 3 0 [] (.ref 1070) (.none) (.none) (.str iu 1794) (.ref 1076) (.none),tu [.str "_closed" 1892,.str "_opened" 1893,.str "snapshot_info" 1894,.str "targets_infos" 1895],di P 4 [(aR,1811,.str iu 1794),(bw,1815,.int 655 1814),(bN,1826,.ref 1032),("root", 1834,.ref 1039),(gR,1842,.ref 1046),(gS,1850,.ref 1053),(dO,1860,.ref 1061),("do_snapshot", 1877,.ref 1069),("do_timestamp", 1891,.ref 1077),(bz,1896,.ref 1078),(dI,1898,.ref 1081),(cQ,1900,.ref 1082),(bC,1901,.none)],oj (.type aZ) (none) #[none,none,some (.str lI 1804),some (.str lI 1812),some (.builtin cU),some (.bool true)] (.cls { name:=lI,bases:=[.type bb],mro:=[.ref 1080,.type bb],ns:=1079,qualname:=lI,hasDict:=true,slotNames:=[],subclasses:=[],abstract:=false,collection:=none,hasDel:=false }),fo dg [.str dI 1897,.ref 1080,.builtin jk,.builtin jl],fo dg [.str cQ 1899,.ref 1080,.builtin gQ,.none],fo cj [.ref 1080,.ref 1080,.ref 1080],fo bu [.builtin ck,.ref 1080],tu [.ref 31],fo bu [.builtin ci,.type aZ],di P 4 [(aR,1913,.str "tuf.api.serialization" 1904),(aT,1915,.str lJ 1914),(bw,1917,.int 739 1916),(bz,1918,.ref 1092)],tu [],nf [],co lJ lJ 1908 739 0 0 0 1088 false 1089 [.none,.none,.none,.none] 1911 739 1912,fr [some (.ref 1090),some (.ref 3),some (.ref 1087),none,some (.str "tuf.api.serialization" 1904),none,some (.ref 0)],tu [],di P 2 [(aR,1913,.str "tuf.api.serialization" 1904),(bw,1917,.int 739 1916),(bz,1918,.ref 1092),(bC,1919,.none)],oj (.type aZ) (none) #[some (.ref 1085),none,some (.str lJ 1906),some (.str lJ 1914),some (.builtin ji),some (.bool true)] (.cls { name:=lJ,bases:=[.ref 31],mro:=[.ref 1094,.ref 31,.type eQ,.type jj,.type bb],ns:=1093,qualname:=lJ,hasDict:=true,slotNames:=[],subclasses:=[],abstract:=false,collection:=none,hasDel:=false }),fo cj [.ref 1094,.ref 1094,.ref 1094],fo bu [.builtin ck,.ref 1094],tu [],nf [],fu false 36 0 tQ 0 0 [] (.none) (.none) (.none) (.none) (.none) (.none)]
noncomputable def MG (P:Params):List Obj:=[co tQ tQ 1924 742 1 0 3 1097 true 1098 [.none,.none,.none,.ref 1099] 1927 742 1928,fu true 36 0 tQ 3 0 [] (.none) (.none) (.none) (.str "tuf.api.serialization.json" 1922) (.ref 1100) (.none),tu [],fo bu [.builtin ci,.type aZ],di P 11 [(aR,1939,.str gU 1930),(aT,1941,.str "Metadata" 1940),(bw,1943,.int 760 1942),(bN,1953,.ref 1116),(bi,1961,.ref 1123),("signed_bytes", 1969,.ref 1131),(bF,1995,.ref 1140),("from_bytes", 2019,.ref 1150),(bo,2025,.ref 1156),(pT,2035,.ref 1163),(bz,2039,.ref 1164)],tu [],nf [.int 762 0,.int 4 0,.ref 1115,.int 769 0,.int 4 0,.ref 1122,.int 775 0,.int 4 0,.ref 1129,.int 779 0,.int 4 0,.ref 1137,.int 801 0,.int 4 0,.ref 1147,.int 809 0,.int 4 0,.ref 1155,.int 815 0,.int 4 0,.ref 1162],co "Metadata" "Metadata" 1934 760 0 0 0 1105 false 1106 [.none,.none,.none,.none] 1937 760 1938,fr [some (.ref 1107),some (.ref 3),some (.ref 1104),none,some (.str gU 1930),none,some (.ref 0)],tu [.none,.none],tu [],nf [],tu [.str aJ 1947,.str "signed" 1948,.str "signatures" 1949,.str dB 1950],tu [],fu false 38 1 "Metadata.__init__" 0 0 [] (.none) (.none) (.none) (.none) (.none) (.none),co bN "Metadata.__init__" 1944 762 4 0 3 1110 true 1111 [.none,.ref 1112,.ref 1113,.ref 1114] 1951 762 1952,fu true 38 1 "Metadata.__init__" 3 0 [] (.ref 1109) (.none) (.none) (.str gU 1930) (.ref 1115) (.none),tu [],nf [],tu [.str aJ 1957,.str "other" 1958],tu [],fu false 38 2 "Metadata.__eq__" 0 0 [] (.none) (.none) (.none) (.none) (.none) (.none),co bi "Metadata.__eq__" 1954 769 2 0 3 1117 true 1118 [.none,.ref 1119,.ref 1120,.ref 1121] 1959 769 1960,fu true 38 2 "Metadata.__eq__" 3 0 [] (.none) (.none) (.none) (.str gU 1930) (.ref 1122) (.none),tu [],nf [],tu [.str aJ 1965],tu [],fu false 38 3 "Metadata.signed_bytes" 0 0 [] (.none) (.none) (.none) (.none) (.none) (.none),co "signed_bytes" "Metadata.signed_bytes" 1962 774 1 0 3 1124 true 1125 [.none,.ref 1126,.ref 1127,.ref 1128] 1966 774 1967,fu true 38 3 "Metadata.signed_bytes" 3 0 [] (.none) (.none) (.none) (.str gU 1930) (.ref 1129) (.none),fo "property" [.ref 1130,.none,.none,.none,.str "signed_bytes" 1969,.bool false],tu [],nf [],tu [.str "cls" 1973,.str "metadata" 1974,.str "_type" 1975,.str "signatures" 1976,.str "sig_dict" 1977,.str "sig" 1978,.str "signed_dict" 1979,.str "signed" 1980],tu [],fu false 38 4 "Metadata.from_dict" 0 0 [] (.none) (.none) (.none) (.none) (.none) (.none),co bF "Metadata.from_dict" 1970 778 2 0 3 1132 true 1133 [.none,.ref 1134,.ref 1135,.ref 1136] 1981 778 1982,an 1141 <| fu true 38 4 "Metadata.from_dict" 3 0 [] (.none) (.none) (.none) (.str gU 1930) (.ref 1137) (.none),di P 5 [(aR,1984,.str gU 1930),(cy,1987,.str bF 1986),(aT,1990,.str "Metadata.from_dict" 1989),(bC,1992,.none),(cz,1994,.ref 1141)],oj (.type eG) (some 1139) #[] (.fields #[.ref 1138,.bool false]),di P 0 [],tu [],nf [],tu [.str "cls" 1999,.str "data" 2000,.str "loads" 2001,.str "json_dict" 2002,.str "metadata_obj" 2003,.str "e" 2004],tu [],fu false 38 5 x8 0 0 [] (.none) (.none) (.none) (.none) (.none) (.none),co "from_bytes" x8 1996 800 3 0 3 1142 true 1143 [.none,.ref 1144,.ref 1145,.ref 1146] 2005 800 2006,an 1151 <| fu true 38 5 x8 3 0 [] (.none) (.none) (.none) (.str gU 1930) (.ref 1147) (.none),di P 5 [(aR,2008,.str gU 1930),(cy,2011,.str "from_bytes" 2010),(aT,2014,.str x8 2013),(bC,2016,.none),(cz,2018,.ref 1151)],oj (.type eG) (some 1149) #[] (.fields #[.ref 1148,.bool false]),di P 0 [],tu [],nf [],fu false 38 6 "Metadata.to_dict" 0 0 [] (.none) (.none) (.none) (.none) (.none) (.none),co bo "Metadata.to_dict" 2020 809 1 0 3 1152 true 1153 [.none,.none,.none,.ref 1154] 2023 809 2024,fu true 38 6 "Metadata.to_dict" 3 0 [] (.none) (.none) (.none) (.str gU 1930) (.ref 1155) (.none),tu [],nf [],tu [.str aJ 2029,.str "delegated_role" 2030,.str "delegated_metadata" 2031,.str "payload" 2032],tu [],fu false 38 7 "Metadata.verify_delegate" 0 0 [] (.none) (.none) (.none) (.none) (.none) (.none),co pT "Metadata.verify_delegate" 2026 815 3 0 3 1157 true 1158 [.none,.ref 1159,.ref 1160,.ref 1161] 2033 815 2034,fu true 38 7 "Metadata.verify_delegate" 3 0 [] (.none) (.none) (.none) (.str gU 1930) (.ref 1162) (.none),tu [.str "signatures" 2036,.str "signed" 2037,.str dB 2038],di P 5 [(aR,1939,.str gU 1930),(bw,1943,.int 760 1942),(bN,1953,.ref 1116),(bi,1961,.ref 1123),("signed_bytes", 1969,.ref 1131),(bF,1995,.ref 1140),("from_bytes", 2019,.ref 1150),(bo,2025,.ref 1156),(pT,2035,.ref 1163),(bz,2039,.ref 1164),(dI,2041,.ref 1167),(cQ,2043,.ref 1168),(bC,2044,.none),(fO,2045,.none)],oj (.type aZ) (none) #[none,none,some (.str "Metadata" 1932),some (.str "Metadata" 1940),some (.builtin cU),some (.bool true)] (.cls { name := "Metadata", bases:=[.type bb],mro:=[.ref 1166,.type bb],ns:=1165,qualname := "Metadata", hasDict:=true,slotNames:=[],subclasses:=[],abstract:=false,collection:=none,hasDel:=false }),fo dg [.str dI 2040,.ref 1166,.builtin jk,.builtin jl],fo dg [.str cQ 2042,.ref 1166,.builtin gQ,.none],fo cj [.ref 1166,.ref 1166,.ref 1166],fo bu [.builtin ck,.ref 1166],tu [],fo bu [.builtin ci,.type aZ],di P 23 [(aR,2057,.str cV 2048),(aT,2059,.str lK 2058),(bw,2061,.int 821 2060),(bN,2072,.ref 1184),("contains", 2081,.ref 1191),("_add", 2091,.ref 1198),("__getitem__", 2099,.ref 1205),("__len__", 2106,.ref 1212),("get", 2114,.ref 1219),("_load_data", 2125,.ref 1227),("root", 2133,.ref 1235),(gR,2141,.ref 1243),(gS,2149,.ref 1251),(dO,2157,.ref 1259),("update_root", 2165,.ref 1266),("update_timestamp", 2177,.ref 1273),("_check_final_timestamp", 2184,.ref 1280),("update_snapshot", 2199,.ref 1288),("_check_final_snapshot", 2207,.ref 1295),("update_targets", 2215,.ref 1302),("update_delegated_targets", 2225,.ref 1309),("_load_trusted_root", 2236,.ref 1316),(bz,2242,.ref 1317)],tu [],nf [.int 823 0,.int 4 0,.ref 1183,.int 831 0,.int 4 0,.ref 1190,.int 834 0,.int 4 0,.ref 1197,.int 838 0,.int 4 0,.ref 1204,.int 841 0,.int 4 0,.ref 1211,.int 844 0,.int 4 0,.ref 1218,.int 847 0,.int 4 0,.ref 1226,.int 851 0,.int 4 0,.ref 1233,.int 855 0,.int 4 0,.ref 1241,.int 859 0,.int 4 0,.ref 1249,.int 863 0,.int 4 0,.ref 1257,.int 866 0,.int 4 0,.ref 1265,.int 869 0,.int 4 0,.ref 1272,.int 888 0,.int 4 0,.ref 1279,.int 892 0,.int 4 0,.ref 1287,.int 913 0,.int 4 0,.ref 1294,.int 920 0,.int 4 0,.ref 1301,.int 923 0,.int 4 0,.ref 1308,.int 926 0,.int 4 0,.ref 1315],co lK lK 2052 821 0 0 0 1174 false 1175 [.none,.none,.none,.none] 2055 821 2056,fr [some (.ref 1176),some (.ref 3),some (.ref 1173),none,some (.str cV 2048),none,some (.ref 0)],tu [],nf [],tu [.str aJ 2065,.str "root_data" 2066,.str "loads" 2067,.str "digest" 2068,.str "reference_time" 2069],tu [],fu false 40 1 vN 0 0 [] (.none) (.none) (.none) (.none) (.none) (.none),co bN vN 2062 823 5 0 3 1178 true 1179 [.none,.ref 1180,.ref 1181,.ref 1182] 2070 823 2071,fu true 40 1 vN 3 0 [] (.none) (.none) (.none) (.str cV 2048) (.ref 1183) (.none),tu [],nf [],tu [.str aJ 2076,.str "role" 2077,.str "delegator" 2078],tu [],fu false 40 2 vO 0 0 [] (.none) (.none) (.none) (.none) (.none) (.none),co "contains" vO 2073 831 3 0 3 1185 true 1186 [.none,.ref 1187,.ref 1188,.ref 1189] 2079 831 2080,fu true 40 2 vO 3 0 [] (.none) (.none) (.none) (.str cV 2048) (.ref 1190) (.none),tu [],nf [],tu [.str aJ 2085,.str "role" 2086,.str "signed" 2087,.str "delegator" 2088],tu [],fu false 40 3 "TrustedMetadataSet._add" 0 0 [] (.none) (.none) (.none) (.none) (.none) (.none),co "_add" "TrustedMetadataSet._add" 2082 834 4 0 3 1192 true 1193 [.none,.ref 1194,.ref 1195,.ref 1196] 2089 834 2090,fu true 40 3 "TrustedMetadataSet._add" 3 0 [] (.none) (.none) (.none) (.str cV 2048) (.ref 1197) (.none),tu []]
noncomputable def MH (P:Params):List Obj:=[nf [],tu [.str aJ 2095,.str "role" 2096],tu [],fu false 40 4 vP 0 0 [] (.none) (.none) (.none) (.none) (.none) (.none),co "__getitem__" vP 2092 838 2 0 3 1199 true 1200 [.none,.ref 1201,.ref 1202,.ref 1203] 2097 838 2098,fu true 40 4 vP 3 0 [] (.none) (.none) (.none) (.str cV 2048) (.ref 1204) (.none),tu [],nf [],tu [.str aJ 2103],tu [],fu false 40 5 "TrustedMetadataSet.__len__" 0 0 [] (.none) (.none) (.none) (.none) (.none) (.none),co "__len__" "TrustedMetadataSet.__len__" 2100 841 1 0 3 1206 true 1207 [.none,.ref 1208,.ref 1209,.ref 1210] 2104 841 2105,fu true 40 5 "TrustedMetadataSet.__len__" 3 0 [] (.none) (.none) (.none) (.str cV 2048) (.ref 1211) (.none),tu [],nf [],tu [.str aJ 2110,.str "role" 2111],tu [],fu false 40 6 "TrustedMetadataSet.get" 0 0 [] (.none) (.none) (.none) (.none) (.none) (.none),co "get" "TrustedMetadataSet.get" 2107 844 2 0 3 1213 true 1214 [.none,.ref 1215,.ref 1216,.ref 1217] 2112 844 2113,fu true 40 6 "TrustedMetadataSet.get" 3 0 [] (.none) (.none) (.none) (.str cV 2048) (.ref 1218) (.none),tu [.none,.none],tu [],nf [],tu [.str aJ 2118,.str "role" 2119,.str "data" 2120,.str "delegator" 2121,.str "role_name" 2122],tu [],fu false 40 7 vQ 0 0 [] (.none) (.none) (.none) (.none) (.none) (.none),co "_load_data" vQ 2115 847 5 0 3 1221 true 1222 [.none,.ref 1223,.ref 1224,.ref 1225] 2123 847 2124,fu true 40 7 vQ 3 0 [] (.ref 1220) (.none) (.none) (.str cV 2048) (.ref 1226) (.none),tu [],nf [],tu [.str aJ 2129],tu [],fu false 40 8 "TrustedMetadataSet.root" 0 0 [] (.none) (.none) (.none) (.none) (.none) (.none),co "root" "TrustedMetadataSet.root" 2126 850 1 0 3 1228 true 1229 [.none,.ref 1230,.ref 1231,.ref 1232] 2130 850 2131,fu true 40 8 "TrustedMetadataSet.root" 3 0 [] (.none) (.none) (.none) (.str cV 2048) (.ref 1233) (.none),fo "property" [.ref 1234,.none,.none,.none,.str "root" 2133,.bool false],tu [],nf [],tu [.str aJ 2137],tu [],fu false 40 9 vR 0 0 [] (.none) (.none) (.none) (.none) (.none) (.none),co gR vR 2134 854 1 0 3 1236 true 1237 [.none,.ref 1238,.ref 1239,.ref 1240] 2138 854 2139,fu true 40 9 vR 3 0 [] (.none) (.none) (.none) (.str cV 2048) (.ref 1241) (.none),fo "property" [.ref 1242,.none,.none,.none,.str gR 2141,.bool false],tu [],nf [],tu [.str aJ 2145],tu [],fu false 40 10 vS 0 0 [] (.none) (.none) (.none) (.none) (.none) (.none),co gS vS 2142 858 1 0 3 1244 true 1245 [.none,.ref 1246,.ref 1247,.ref 1248] 2146 858 2147,fu true 40 10 vS 3 0 [] (.none) (.none) (.none) (.str cV 2048) (.ref 1249) (.none),fo "property" [.ref 1250,.none,.none,.none,.str gS 2149,.bool false],tu [],nf [],tu [.str aJ 2153],tu [],fu false 40 11 "TrustedMetadataSet.targets" 0 0 [] (.none) (.none) (.none) (.none) (.none) (.none),co dO "TrustedMetadataSet.targets" 2150 862 1 0 3 1252 true 1253 [.none,.ref 1254,.ref 1255,.ref 1256] 2154 862 2155,fu true 40 11 "TrustedMetadataSet.targets" 3 0 [] (.none) (.none) (.none) (.str cV 2048) (.ref 1257) (.none),fo "property" [.ref 1258,.none,.none,.none,.str dO 2157,.bool false],tu [],nf [],tu [.str aJ 2161,.str "data" 2162],tu [],fu false 40 12 vT 0 0 [] (.none) (.none) (.none) (.none) (.none) (.none),co "update_root" vT 2158 866 2 0 3 1260 true 1261 [.none,.ref 1262,.ref 1263,.ref 1264] 2163 866 2164,fu true 40 12 vT 3 0 [] (.none) (.none) (.none) (.str cV 2048) (.ref 1265) (.none),tu [],nf [],tu [.str aJ 2169,.str "data" 2170,.str "new_timestamp" 2171,.str "_" 2172,.str pY 2173,.str "new_snapshot_meta" 2174],tu [],fu false 40 13 vU 0 0 [] (.none) (.none) (.none) (.none) (.none) (.none),co "update_timestamp" vU 2166 869 2 0 3 1267 true 1268 [.none,.ref 1269,.ref 1270,.ref 1271] 2175 869 2176,fu true 40 13 vU 3 0 [] (.none) (.none) (.none) (.str cV 2048) (.ref 1272) (.none),tu [],nf [],tu [.str aJ 2181],tu [],fu false 40 14 vV 0 0 [] (.none) (.none) (.none) (.none) (.none) (.none),co "_check_final_timestamp" vV 2178 888 1 0 3 1274 true 1275 [.none,.ref 1276,.ref 1277,.ref 1278] 2182 888 2183,fu true 40 14 vV 3 0 [] (.none) (.none) (.none) (.str cV 2048) (.ref 1279) (.none),tu [.bool false],tu [],nf [],tu [.str aJ 2188,.str "data" 2189,.str "trusted" 2190,.str pY 2191,.str "new_snapshot" 2192,.str "_" 2193,.str "filename" 2194,.str "fileinfo" 2195,.str "new_fileinfo" 2196],tu [],fu false 40 15 vW 0 0 [] (.none) (.none) (.none) (.none) (.none) (.none),co "update_snapshot" vW 2185 892 3 0 3 1282 true 1283 [.none,.ref 1284,.ref 1285,.ref 1286] 2197 892 2198,fu true 40 15 vW 3 0 [] (.ref 1281) (.none) (.none) (.str cV 2048) (.ref 1287) (.none),tu [],nf [],tu [.str aJ 2203,.str pY 2204],tu [],fu false 40 16 vX 0 0 [] (.none) (.none) (.none) (.none) (.none) (.none),co "_check_final_snapshot" vX 2200 913 1 0 3 1289 true 1290 [.none,.ref 1291,.ref 1292,.ref 1293] 2205 913 2206,fu true 40 16 vX 3 0 [] (.none) (.none) (.none) (.str cV 2048) (.ref 1294) (.none),tu [],nf [],tu [.str aJ 2211,.str "data" 2212],tu []]
noncomputable def MI (P:Params):List Obj:=[fu false 40 17 vY 0 0 [] (.none) (.none) (.none) (.none) (.none) (.none),co "update_targets" vY 2208 920 2 0 3 1296 true 1297 [.none,.ref 1298,.ref 1299,.ref 1300] 2213 920 2214,fu true 40 17 vY 3 0 [] (.none) (.none) (.none) (.str cV 2048) (.ref 1301) (.none),tu [],nf [],tu [.str aJ 2219,.str "data" 2220,.str "role_name" 2221,.str "delegator_name" 2222],tu [],fu false 40 18 vZ 0 0 [] (.none) (.none) (.none) (.none) (.none) (.none),co "update_delegated_targets" vZ 2216 923 4 0 3 1303 true 1304 [.none,.ref 1305,.ref 1306,.ref 1307] 2223 923 2224,fu true 40 18 vZ 3 0 [] (.none) (.none) (.none) (.str cV 2048) (.ref 1308) (.none),tu [],nf [],tu [.str aJ 2229,.str "data" 2230,.str "new_root" 2231,.str "new_root_bytes" 2232,.str "new_root_signatures" 2233],tu [],fu false 40 19 v0 0 0 [] (.none) (.none) (.none) (.none) (.none) (.none),co "_load_trusted_root" v0 2226 926 2 0 3 1310 true 1311 [.none,.ref 1312,.ref 1313,.ref 1314] 2234 926 2235,fu true 40 19 v0 3 0 [] (.none) (.none) (.none) (.str cV 2048) (.ref 1315) (.none),tu [.str "_digest" 2237,.str "_loads" 2238,.str "_trusted_delegations" 2239,.str "_trusted_set" 2240,.str "reference_time" 2241],di P 4 [(aR,2057,.str cV 2048),(bw,2061,.int 821 2060),(bN,2072,.ref 1184),("contains", 2081,.ref 1191),("_add", 2091,.ref 1198),("__getitem__", 2099,.ref 1205),("__len__", 2106,.ref 1212),("get", 2114,.ref 1219),("_load_data", 2125,.ref 1227),("root", 2133,.ref 1235),(gR,2141,.ref 1243),(gS,2149,.ref 1251),(dO,2157,.ref 1259),("update_root", 2165,.ref 1266),("update_timestamp", 2177,.ref 1273),("_check_final_timestamp", 2184,.ref 1280),("update_snapshot", 2199,.ref 1288),("_check_final_snapshot", 2207,.ref 1295),("update_targets", 2215,.ref 1302),("update_delegated_targets", 2225,.ref 1309),("_load_trusted_root", 2236,.ref 1316),(bz,2242,.ref 1317),(dI,2244,.ref 1320),(cQ,2246,.ref 1321),(bC,2247,.none)],oj (.type aZ) (none) #[none,none,some (.str lK 2050),some (.str lK 2058),some (.builtin cU),some (.bool true)] (.cls { name:=lK,bases:=[.type bb],mro:=[.ref 1319,.type bb],ns:=1318,qualname:=lK,hasDict:=true,slotNames:=[],subclasses:=[],abstract:=false,collection:=none,hasDel:=false }),fo dg [.str dI 2243,.ref 1319,.builtin jk,.builtin jl],fo dg [.str cQ 2245,.ref 1319,.builtin gQ,.none],fo cj [.ref 1319,.ref 1319,.ref 1319],fo bu [.builtin ck,.ref 1319],tu [.none,.none],tu [],nf [],tu [.str "role" 2253,.str "data" 2254,.str "loads" 2255,.str "delegator" 2256,.str "role_name" 2257,.str "md" 2258],tu [],fu false 41 0 tR 0 0 [] (.none) (.none) (.none) (.none) (.none) (.none),co tR tR 2250 930 5 0 3 1325 true 1326 [.none,.ref 1327,.ref 1328,.ref 1329] 2259 930 2260,fu true 41 0 tR 3 0 [] (.ref 1324) (.none) (.none) (.str cV 2048) (.ref 1330) (.none),tu [],nf [],tu [],tu [],fu false 43 0 "_law_names" 0 0 [] (.none) (.none) (.none) (.none) (.none) (.none),co "_law_names" "_law_names" 2264 940 0 0 3 1332 true 1333 [.none,.ref 1334,.ref 1335,.ref 1336] 2267 940 2268,fu true 43 0 "_law_names" 3 0 [] (.none) (.none) (.none) (.str gi 2262) (.ref 1337) (.none),tu [],nf [],tu [],tu [],fu false 44 0 "_law_keys" 0 0 [] (.none) (.none) (.none) (.none) (.none) (.none),co "_law_keys" "_law_keys" 2270 942 0 0 3 1339 true 1340 [.none,.ref 1341,.ref 1342,.ref 1343] 2273 942 2274,fu true 44 0 "_law_keys" 3 0 [] (.none) (.none) (.none) (.str gi 2262) (.ref 1344) (.none),tu [],nf [],tu [.str "role" 2281,.str "text" 2282,.str "mark" 2283,.str "key" 2284,.str "other" 2285,.str "hand" 2286],tu [],fu false 46 0 tS 0 0 [] (.none) (.none) (.none) (.none) (.none) (.none),co tS tS 2278 945 3 0 3 1346 true 1347 [.none,.ref 1348,.ref 1349,.ref 1350] 2287 945 2288,fu true 46 0 tS 3 0 [] (.none) (.none) (.none) (.str gi 2262) (.ref 1351) (.none),tu [],nf [],fu false 47 0 "_law_file" 0 0 [] (.none) (.none) (.none) (.none) (.none) (.none),co "_law_file" "_law_file" 2290 952 2 0 3 1353 true 1354 [.none,.none,.none,.ref 1355] 2293 952 2294,fu true 47 0 "_law_file" 3 0 [] (.none) (.none) (.none) (.str gi 2262) (.ref 1356) (.none),tu [],nf [],tu [.str "deed" 2299],tu [],fu false 48 0 "_law_tried" 0 0 [] (.none) (.none) (.none) (.none) (.none) (.none),co "_law_tried" "_law_tried" 2296 967 1 0 3 1358 true 1359 [.none,.ref 1360,.ref 1361,.ref 1362] 2300 967 2301,fu true 48 0 "_law_tried" 3 0 [] (.none) (.none) (.none) (.str gi 2262) (.ref 1363) (.none),tu [],nf [],fu false 49 0 "_law_versions" 0 0 [] (.none) (.none) (.none) (.none) (.none) (.none),co "_law_versions" "_law_versions" 2303 972 1 0 3 1365 true 1366 [.none,.none,.none,.ref 1367] 2306 972 2307,fu true 49 0 "_law_versions" 3 0 [] (.none) (.none) (.none) (.str gi 2262) (.ref 1368) (.none),tu [],nf [],fu false 50 0 "_law_made" 0 0 [] (.none) (.none) (.none) (.none) (.none) (.none),co "_law_made" "_law_made" 2309 974 3 0 3 1370 true 1371 [.none,.none,.none,.ref 1372] 2312 974 2313,fu true 50 0 "_law_made" 3 0 [] (.none) (.none) (.none) (.str gi 2262) (.ref 1373) (.none),tu [],nf [],tu [.str "repository" 2318,.str "due" 2319,.str "wanted" 2320,.str "force" 2321,.str "told" 2322,.str "made" 2323,.str "old" 2324],tu [.str "repository" 2325,.str "force" 2326],fu false 51 0 "_law_snapshot" 0 0 [] (.none) (.none) (.none) (.none) (.none) (.none),co "_law_snapshot" "_law_snapshot" 2315 986 4 0 3 1375 true 1376 [.none,.ref 1377,.ref 1378,.ref 1379] 2327 986 2328,fu true 51 0 "_law_snapshot" 3 0 [] (.none) (.none) (.none) (.str gi 2262) (.ref 1380) (.none),tu [],nf [],tu [.str "repository" 2333,.str "due" 2334,.str "force" 2335,.str "told" 2336,.str "made" 2337,.str "old" 2338],tu [.str "repository" 2339,.str "force" 2340],fu false 52 0 "_law_timestamp" 0 0 [] (.none) (.none) (.none) (.none) (.none) (.none),co "_law_timestamp" "_law_timestamp" 2330 990 3 0 3 1382 true 1383 [.none,.ref 1384,.ref 1385,.ref 1386] 2341 990 2342,fu true 52 0 "_law_timestamp" 3 0 [] (.none) (.none) (.none) (.str gi 2262) (.ref 1387) (.none),tu [],nf [],tu [.str "early" 2347,.str "last" 2348,.str "client" 2349,.str "told" 2350],tu [.str "shelf" 2351],fu false 53 0 "_law_taken" 0 0 [] (.none) (.none) (.none) (.none) (.none) (.none),co "_law_taken" "_law_taken" 2344 995 2 0 3 1389 true 1390 [.none,.ref 1391,.ref 1392,.ref 1393] 2352 995 2353,fu true 53 0 "_law_taken" 3 0 [] (.none) (.none) (.none) (.str gi 2262) (.ref 1394) (.none),tu [],nf [],fu false 54 0 "_law_odd" 0 0 [] (.none) (.none) (.none) (.none) (.none) (.none),co "_law_odd" "_law_odd" 2355 1015 4 0 3 1396 true 1397 [.none,.none,.none,.ref 1398] 2358 1015 2359]
noncomputable def MJ (P:Params):List Obj:=[fu true 54 0 "_law_odd" 3 0 [] (.none) (.none) (.none) (.str gi 2262) (.ref 1399) (.none),tu [],nf [],fu false 55 0 "law" 0 0 [] (.none) (.none) (.none) (.none) (.none) (.none),co "law" "law" 2361 1034 1 0 3 1401 true 1402 [.none,.none,.none,.ref 1403] 2364 1034 2365,fu true 55 0 "law" 3 0 [] (.none) (.none) (.none) (.str gi 2262) (.ref 1404) (.none)]
noncomputable def hL (P:Params):List Obj:=hO0 P++(hO1 P++(hO2 P++(hO3 P++(hO4 P++(hO5 P++(hO6 P++(hO7 P++(hO8 P++(hO9 P++(MF P++(MG P++(MH P++(MI P++(MJ P))))))))))))))
noncomputable def iw:List Obj->Nat->Obj->List Obj
  | [],_,_=>[]
  | _::l,0,o=>o::l
  | x::l,n + 1,o=>x::iw l n o
noncomputable def LP:List Obj->List Obj
  | []=>[]
  | [x]=>[x]
  | x::_::l=>x::LP l
noncomputable def Ia:List Obj->List Obj
  | []=>[]
  | [_]=>[]
  | _::y::l=>y::Ia l
noncomputable def bt:Nat->List Obj->BT
  | 0,_=>.nil
  | _,[]=>.nil
  | f + 1,o::l=>.node o (bt f (LP l)) (bt f (Ia l))
noncomputable def h21 (P:Params):List Obj:=iw (iw (iw (iw (iw (iw (iw ((hL P).take 519) 3 (di P 28 [(cy,165,.str ax 296),(bC,166,.none),("__package__", 167,.none),("__loader__", 168,.builtin "__main__.__loader__#opaque"),("__spec__", 169,.none),(cz,170,.ref 6),("__builtins__", 171,.ref 4),("__file__", 173,.str nH 172),("__cached__", 174,.none),("_wall", 193,.ref 21),(dY,215,.ref 31),(ja,231,.ref 44),(jb,247,.ref 56),(jc,263,.ref 68),(jd,279,.ref 80),(je,295,.ref 92),(jf,317,.ref 104),(jg,389,.ref 149),("Key", 477,.ref 202),("_TARGETS", 479,.str dO 478),("SPECIFICATION_VERSION", 483,.ref 207),("TOP_LEVEL_ROLE_NAMES", 488,.ref 208),(fL,583,.ref 264),("Role", 655,.ref 310),(jh,704,.ref 347),(fM,747,.ref 375),("Root", 863,.ref 452),(fN,990,.ref 514)])) 12 (nf [.int 1 0,.int 0 0,.ref 20,.int 5 0,.int 0 0,.ref 27,.int 7 0,.int 0 0,.ref 40,.int 9 0,.int 0 0,.ref 52,.int 11 0,.int 0 0,.ref 64,.int 13 0,.int 0 0,.ref 76,.int 15 0,.int 0 0,.ref 88,.int 18 0,.int 0 0,.ref 100,.int 20 0,.int 0 0,.ref 113,.int 44 0,.int 0 0,.ref 159,.int 79 0,.int 0 0,.ref 214,.int 127 0,.int 0 0,.ref 274,.int 155 0,.int 0 0,.ref 320,.int 169 0,.int 0 0,.ref 357,.int 195 0,.int 0 0,.ref 384,.int 254 0,.int 0 0,.ref 460])) 31 (oj (.type aZ) (none) #[some (.ref 22),none,some (.str dY 196),some (.str dY 204),some (.builtin ji),some (.bool true)] (.cls { name:=dY,bases:=[.type eQ],mro:=[.ref 31,.type eQ,.type jj,.type bb],ns:=30,qualname:=dY,hasDict:=true,slotNames:=[],subclasses:=[.ref 44,.ref 56,.ref 80,.ref 92],abstract:=false,collection:=none,hasDel:=false }))) 264 (oj (.type aZ) (none) #[none,none,some (.str fL 489),some (.str fL 497),some (.builtin cU),some (.bool true)] (.cls { name:=fL,bases:=[.type bb],mro:=[.ref 264,.type bb],ns:=263,qualname:=fL,hasDict:=true,slotNames:=[],subclasses:=[.ref 375],abstract:=false,collection:=none,hasDel:=false }))) 310 (oj (.type aZ) (none) #[none,none,some (.str "Role" 584),some (.str "Role" 592),some (.builtin cU),some (.bool true)] (.cls { name := "Role", bases:=[.type bb],mro:=[.ref 310,.type bb],ns:=309,qualname := "Role", hasDict:=true,slotNames:=[],subclasses:=[],abstract:=false,collection:=none,hasDel:=false }))) 375 (oj (.type aZ) (none) #[some (.ref 352),none,some (.str fM 705),some (.str fM 713),some (.builtin cU),some (.bool true)] (.cls { name:=fM,bases:=[.ref 264],mro:=[.ref 375,.ref 264,.type bb],ns:=374,qualname:=fM,hasDict:=true,slotNames:=[],subclasses:=[.ref 452],abstract:=false,collection:=none,hasDel:=false }))) 514 (oj (.type aZ) (none) #[none,none,some (.str fN 864),some (.str fN 872),some (.builtin cU),some (.bool true)] (.cls { name:=fN,bases:=[.type bb],mro:=[.ref 514,.type bb],ns:=513,qualname:=fN,hasDict:=true,slotNames:=[],subclasses:=[],abstract:=false,collection:=none,hasDel:=false }))
noncomputable def h30 (P:Params):List Obj:=iw (iw (iw ((hL P).take 1012) 3 (di P 37 [(cy,165,.str ax 296),(bC,166,.none),("__package__", 167,.none),("__loader__", 168,.builtin "__main__.__loader__#opaque"),("__spec__", 169,.none),(cz,170,.ref 6),("__builtins__", 171,.ref 4),("__file__", 173,.str nH 172),("__cached__", 174,.none),("_wall", 193,.ref 21),(dY,215,.ref 31),(ja,231,.ref 44),(jb,247,.ref 56),(jc,263,.ref 68),(jd,279,.ref 80),(je,295,.ref 92),(jf,317,.ref 104),(jg,389,.ref 149),("Key", 477,.ref 202),("_TARGETS", 479,.str dO 478),("SPECIFICATION_VERSION", 483,.ref 207),("TOP_LEVEL_ROLE_NAMES", 488,.ref 208),(fL,583,.ref 264),("Role", 655,.ref 310),(jh,704,.ref 347),(fM,747,.ref 375),("Root", 863,.ref 452),(fN,990,.ref 514),("MetaFile", 1094,.ref 577),(kh,1167,.ref 623),("Snapshot", 1245,.ref 669),(ki,1355,.ref 732),("_hex", 1364,.ref 741),(kj,1466,.ref 806),(km,1557,.ref 855),(kt,1675,.ref 933),("Targets", 1793,.ref 1009)])) 12 (nf [.int 1 0,.int 0 0,.ref 20,.int 5 0,.int 0 0,.ref 27,.int 7 0,.int 0 0,.ref 40,.int 9 0,.int 0 0,.ref 52,.int 11 0,.int 0 0,.ref 64,.int 13 0,.int 0 0,.ref 76,.int 15 0,.int 0 0,.ref 88,.int 18 0,.int 0 0,.ref 100,.int 20 0,.int 0 0,.ref 113,.int 44 0,.int 0 0,.ref 159,.int 79 0,.int 0 0,.ref 214,.int 127 0,.int 0 0,.ref 274,.int 155 0,.int 0 0,.ref 320,.int 169 0,.int 0 0,.ref 357,.int 195 0,.int 0 0,.ref 384,.int 254 0,.int 0 0,.ref 460,.int 288 0,.int 0 0,.ref 524,.int 334 0,.int 0 0,.ref 586,.int 357 0,.int 0 0,.ref 632,.int 385 0,.int 0 0,.ref 678,.int 432 0,.int 0 0,.ref 740,.int 438 0,.int 0 0,.ref 748,.int 487 0,.int 0 0,.ref 814,.int 545 0,.int 0 0,.ref 865,.int 587 0,.int 0 0,.ref 942])) 31 (oj (.type aZ) (none) #[some (.ref 22),none,some (.str dY 196),some (.str dY 204),some (.builtin ji),some (.bool true)] (.cls { name:=dY,bases:=[.type eQ],mro:=[.ref 31,.type eQ,.type jj,.type bb],ns:=30,qualname:=dY,hasDict:=true,slotNames:=[],subclasses:=[.ref 44,.ref 56,.ref 80,.ref 92],abstract:=false,collection:=none,hasDel:=false }))
noncomputable def h15 (P:Params):List Obj:=[boot_o_0 P,boot_o_1 P,boot_o_2 P,boot_o_3 P,boot_o_4 P,boot_o_5 P,boot_o_6 P,boot_o_7 P,boot_o_8 P,boot_o_9 P,boot_o_10 P,tu [],nf [],fo "code" [.str "<module>" 182,.str "<module>" 183,.str nH 184,.int 1 0,.int 0 0,.int 0 0,.int 0 0,.int 0 0,.ref 11,.bool false,.int 181 0,.ref 12,.none,.none,.none,.none,.int 185 0,.int 1 0,.str nH 186],fr [some (.ref 13),some (.ref 3),some (.ref 3),none,some (.str "__main__" 164),none,some (.ref 0)]]
noncomputable def s15 (w:World) (os:OsState):SharedT:=⟨bt 12 (h15 w.params),15,{},#[],{},187,os⟩
noncomputable def s21 (w:World) (os:OsState):SharedT:=⟨bt 12 (h21 w.params),519,{},#[],{},991,os⟩
noncomputable def s30 (w:World) (os:OsState):SharedT:=⟨bt 12 (h30 w.params),1012,{},#[],{},1794,os⟩
noncomputable def s56 (w:World) (os:OsState):SharedT:=⟨bt 12 (hL w.params),1406,{},#[],{},2367,os⟩
noncomputable def CI:Env:={ scope:=pwX.main.scope,locals:=mainNs,globals:=mainNs,cells:=[],code:=.ref 13,frame:=some 14 }
noncomputable abbrev p0:Pos:=⟨0,0,0,0⟩
noncomputable abbrev p21:Pos:=⟨254,0,287,16⟩
noncomputable abbrev p30:Pos:=⟨587,0,650,43⟩
noncomputable abbrev p56:Pos:=⟨1034,0,1095,33⟩
noncomputable abbrev ix:Code:=Code.body nG CI
noncomputable abbrev LQ:List Stmt:=nG.take 21
noncomputable abbrev Jp:List Stmt:=(nG.drop 21).take 9
noncomputable abbrev FI:List Stmt:=nG.drop 30
theorem MK (w:World) (os:OsState):segRunT treeTable pwX w 11 (some (.ref 6)) 1 3100 (s30 w os) (piecesOf FI CI ix p30 [topFrame p0])=some (.next,s56 w os,ix,p56):=by
  rw [Fast.te10110043849684766642,Fast.te14364793385576792824]
  kernel_rfl
theorem ML (w:World) (os:OsState):segRunT treeTable pwX w 11 (some (.ref 6)) 1 6100 (s15 w os) (piecesOf LQ CI ix p0 [topFrame p0])=some (.next,s21 w os,ix,p21):=by
  rw [Fast.te10110043849684766642,Fast.te14364793385576792824]
  kernel_rfl
theorem MM (w:World) (os:OsState):segRunT treeTable pwX w 11 (some (.ref 6)) 1 5200 (s21 w os) (piecesOf Jp CI ix p21 [topFrame p0])=some (.next,s30 w os,ix,p30):=by
  rw [Fast.te10110043849684766642,Fast.te14364793385576792824]
  kernel_rfl
end
section
noncomputable def sB (w:World) (os:OsState):Shared:=⟨boot_heap w.params,Array.mk [],boot_drawn,boot_toks,os⟩
noncomputable def dP (P:Params):Heap:=absHeap (bt 12 (hL P)) 1406 {}
theorem FJ (w:World) (os:OsState):topGo treeTable pwX w 11 (some (.ref 6)) 12 (sB w os) (topStub pwX)=some ((s15 w os).abs,⟨denote treeTable ix,ix,p0,[topFrame p0]⟩):=by
  kernel_rfl
theorem zz (w:World) (os:OsState):segRun treeTable pwX w 11 (some (.ref 6)) 1 1 (s15 w os).abs (blockOf nG CI ix p0 [topFrame p0])=some (.next,(s15 w os).abs,ix,p0):=by
  kernel_rfl
theorem FL (w:World) (os:OsState):topRun treeTable pwX w 11 (some (.ref 6)) 2 (s56 w os).abs ⟨doneF .next,ix,p56,[topFrame p0]⟩=some ⟨dP w.params,#[],{},2367,os⟩:=by
  kernel_rfl
theorem zA:nG=LQ++(Jp++(FI++[])):=by
  kernel_rfl
theorem FM (w:World) (os:OsState):topRun treeTable pwX w 11 (some (.ref 6)) (12 + (1 + (6100 + (5200 + (3100 + 2))))) (sB w os) (topStub pwX)=some ⟨dP w.params,#[],{},2367,os⟩:=by
  refine go_top (FJ w os) (piece_block (zz w os) ?_)
  have:=piece_app (rest:=Jp++(FI++[])) (segRun_of (ML w os)) (piece_app (rest:=FI++[]) (segRun_of (MM w os)) (piece_app (rest:=[]) (segRun_of (MK w os)) (piece_nil (FL w os))))
  rw [← zA] at this
  exact this
theorem CJ (w:World):((boot_heap w.params).isNs mainGlobals&&(Array.mk []:Array GenState).size==0,(boot_heap w.params).objs.size,(boot_heap w.params).nsMap mainGlobals "__annotations__")=(true,11,some (.ref 6)):=by
  kernel_rfl
end
end
end Mine
namespace Mine
section
section
noncomputable def aq:Nm:=nat_lit 1936026726
noncomputable def aM:Nm:=nat_lit 33325589488824174
noncomputable def bj:Nm:=nat_lit 2618808466638730027084704185175413909327996019
noncomputable def bG:Nm:=nat_lit 126896544048484
noncomputable def bR:Nm:=nat_lit 1919904869
noncomputable def bT:Nm:=nat_lit 1954115685
noncomputable def bU:Nm:=nat_lit 8317692697400340340
noncomputable def b4:Nm:=nat_lit 2147419152243300068720
noncomputable def cF:Nm:=nat_lit 540221002019735644107385
noncomputable def cG:Nm:=nat_lit 1851878757
noncomputable def bE:Nm:=nat_lit 461263956324
noncomputable def bJ:Nm:=nat_lit 32758241287304307
noncomputable def bK:Nm:=nat_lit 35726654613372751525421084526
noncomputable def bM:Nm:=nat_lit 6583653
noncomputable def bV:Nm:=nat_lit 1889813825217586881396
noncomputable def bX:Nm:=nat_lit 28561396848551283
noncomputable def b7:Nm:=nat_lit 1835365473
noncomputable def b8:Nm:=nat_lit 139524225705897937611613044
noncomputable def ce:Nm:=nat_lit 6872327479327219551
noncomputable def cn:Nm:=nat_lit 1919905652
noncomputable def cr:Nm:=nat_lit 6515827
noncomputable def cA:Nm:=nat_lit 409976008805
noncomputable def cJ:Nm:=nat_lit 32773552795640692
noncomputable def cK:Nm:=nat_lit 9145399837059196411179654542433
noncomputable def cR:Nm:=nat_lit 7499639
noncomputable def cW:Nm:=nat_lit 545016506659334861776243
noncomputable def cX:Nm:=nat_lit 7368560
noncomputable def dh:Nm:=nat_lit 104863328460639
noncomputable def dj:Nm:=nat_lit 1684108385
noncomputable def dl:Nm:=nat_lit 131260348654948
noncomputable def dC:Nm:=nat_lit 491495646579
noncomputable def dQ:Nm:=nat_lit 2147348502023945284708
noncomputable def dR:Nm:=nat_lit 114767757337971
noncomputable def dS:Nm:=nat_lit 1953459300
noncomputable def d5:Nm:=nat_lit 1801812339
noncomputable def d7:Nm:=nat_lit 439956431717
noncomputable def eR:Nm:=nat_lit 35689044620273263665355877317604539622887204751762292
noncomputable def eS:Nm:=nat_lit 119182899770472
noncomputable def eT:Nm:=nat_lit 1836020325
noncomputable def eU:Nm:=nat_lit 120209857402193681740621683
noncomputable def fC:Nm:=nat_lit 497976730302619797579108
noncomputable def fD:Nm:=nat_lit 118083572819059
noncomputable def fE:Nm:=nat_lit 508440638821
noncomputable def fP:Nm:=nat_lit 1919907699
noncomputable def fQ:Nm:=nat_lit 8243121546515276660
noncomputable def fR:Nm:=nat_lit 7038329
noncomputable def fS:Nm:=nat_lit 435426585721
noncomputable def gV:Nm:=nat_lit 118083573670252
noncomputable def gW:Nm:=nat_lit 614748617307414735875249083861005413
noncomputable def gX:Nm:=nat_lit 2217480822862070765995063602123068969969020788
noncomputable def gY:Nm:=nat_lit 121371540531508785313705587
noncomputable def gZ:Nm:=nat_lit 29541851844470568170124698996
noncomputable def g0:Nm:=nat_lit 512970878052
noncomputable def g6:Nm:=nat_lit 2018005679191804699508
noncomputable def iy:Nm:=nat_lit 30229394827604069
noncomputable def iz:Nm:=nat_lit 126870790434149
noncomputable def iA:Nm:=nat_lit 2338917228234228607572762775886531108467502119813972058996
noncomputable def iB:Nm:=nat_lit 26862651316266340
noncomputable def iC:Nm:=nat_lit 109317377451364
noncomputable def iD:Nm:=nat_lit 7563623
noncomputable def iE:Nm:=nat_lit 2381946544145294194499554348986222
noncomputable def jm:Nm:=nat_lit 9145399837059196411179588019823
noncomputable def jn:Nm:=nat_lit 2320228429342961539212902893448549
noncomputable def jo:Nm:=nat_lit 2110957728099131813221
noncomputable def jp:Nm:=nat_lit 1684366692
noncomputable def ky:Nm:=nat_lit 8461827646419789156
noncomputable def kz:Nm:=nat_lit 7882834684426679393
noncomputable def kA:Nm:=nat_lit 2036276551749877695967607424773221
noncomputable def kB:Nm:=nat_lit 1818325876
noncomputable def lL:Nm:=nat_lit 2128970729138026803813
noncomputable def lM:Nm:=nat_lit 9220625203426029742698590007155
noncomputable def lN:Nm:=nat_lit 495672716390
noncomputable def lO:Nm:=nat_lit 32500882703672676
noncomputable def nI:Nm:=nat_lit 9903398709843366171134441558245420320009850052008045684
noncomputable def nJ:Nm:=nat_lit 9145399837059196410969151729518
noncomputable def nK:Nm:=nat_lit 7738724985319547764
noncomputable def nM:Nm:=nat_lit 30229394725367141
noncomputable def nN:Nm:=nat_lit 1851982735160961691506
noncomputable def nO:Nm:=nat_lit 8746500175505802152962422828400
noncomputable def nQ:Nm:=nat_lit 1835099237
noncomputable def nR:Nm:=nat_lit 512852845416
noncomputable def pZ:Nm:=nat_lit 35718201780709872020252550515
noncomputable def p6:Nm:=nat_lit 1802071652
noncomputable def p7:Nm:=nat_lit 2110957728098964562804
noncomputable def p8:Nm:=nat_lit 32199668040885604
noncomputable def p9:Nm:=nat_lit 465725121651
noncomputable def qa:Nm:=nat_lit 1835102827
noncomputable def qb:Nm:=nat_lit 109317275872884
noncomputable def qc:Nm:=nat_lit 1751474532
noncomputable def tT:Nm:=nat_lit 29103473092683129
noncomputable def tU:Nm:=nat_lit 9007088655782309352211821732095224009682021
noncomputable def tV:Nm:=nat_lit 26849440164963684
noncomputable def tW:Nm:=nat_lit 121418525399441147897081716
noncomputable def tX:Nm:=nat_lit 31083142520346755570465860976
noncomputable def tY:Nm:=nat_lit 450625090038948746589281
noncomputable def tZ:Nm:=nat_lit 129125580895333
noncomputable def ua:Nm:=nat_lit 36018067200882928471980076910
noncomputable def uc:Nm:=nat_lit 140695575003448854551032936
noncomputable def ud:Nm:=nat_lit 7954895568560813153
noncomputable def ue:Nm:=nat_lit 478694368626
noncomputable def nS:Nm:=nat_lit 32199638076581220
noncomputable def rk:Nm:=nat_lit 27413455001314681
noncomputable def rl:Nm:=nat_lit 540221434356486246196601
noncomputable def rm:Nm:=nat_lit 26850526656557940
noncomputable def rn:Nm:=nat_lit 104919329760371
noncomputable def ro:Nm:=nat_lit 609778315301195313578227701601824628
noncomputable def rp:Nm:=nat_lit 544950980438393039931048785157360937847873302131
noncomputable def rt:Nm:=nat_lit 156103248717106000294116113318880046448
noncomputable def ru:Nm:=nat_lit 35689004478059402419436319700657150585492977043467632
noncomputable def rv:Nm:=nat_lit 2340828071882009444441559940031348
noncomputable def rx:Nm:=nat_lit 2129474557242986034036
noncomputable def ry:Nm:=nat_lit 31632371529769316
noncomputable def rz:Nm:=nat_lit 125780054338676
noncomputable def rA:Nm:=nat_lit 2110958589016569111412
noncomputable def rC:Nm:=nat_lit 110403869045620
noncomputable def rE:Nm:=nat_lit 2018005679192005506152
noncomputable def rF:Nm:=nat_lit 36018067200882928682332152692
noncomputable def rG:Nm:=nat_lit 122528528754020
noncomputable def rH:Nm:=nat_lit 8028902596714787937
noncomputable def rI:Nm:=nat_lit 34166016310498876293959413620
noncomputable def rJ:Nm:=nat_lit 7379548647322643813
noncomputable def rK:Nm:=nat_lit 34166016309560732243798681199
noncomputable def rL:Nm:=nat_lit 108187649798757
noncomputable def rM:Nm:=nat_lit 8531350909138988659
noncomputable def v4:Nm:=nat_lit 157375646030698172661051759445482500709
noncomputable def v5:Nm:=nat_lit 8531350866138588516
noncomputable def v6:Nm:=nat_lit 483792339255693921248627
noncomputable def v7:Nm:=nat_lit 8312565709140815863460838708231345957465972
noncomputable def v8:Nm:=nat_lit 139410173742419540700923123830691923811215891525492
noncomputable def v9:Nm:=nat_lit 9145399837059196411179503805300
noncomputable def wa:Nm:=nat_lit 138296630704635711571981427
noncomputable def wb:Nm:=nat_lit 139547727005908148363947364
noncomputable def wc:Nm:=nat_lit 36027714959722729805736537444
noncomputable def wd:Nm:=nat_lit 37565932208177985312590173145814521967713
noncomputable def we:Nm:=nat_lit 7379548647239607919
noncomputable def wg:Nm:=nat_lit 7954895568645353332
noncomputable def CK:Nm:=nat_lit 37466526432384041603260413617376507815447862668810690016508648981344645958332723291538846549579876556378248855008632520893517228550546525882365472927771758688651078531008680393043253863018907082688312400067342259458855666468132269683550987526090489547403025476554623519157403917229807850782721322945485370699793276167130214039627083008023279077751474634173198869132629703288294828041120759019325276304014558092997420364370833249360768937995097631872791753715485426368478535691710083566442267352149272848961464412511946604964824727817228023630913025208327811045411849068003326909870026406291744214745445372049617127344032125803637265067368451370368310787439533576687164108545085054076606575980032503191351506262040122692323963689732250624133669097305878718323624853945216365976092363336073480113220836176083196541450477374868672074669532784753319195024641022208944057253376286605760236289550162463806945942587574365728963072244227327183424698154221796370420149829487232350368031918897282943516095186080822565645560439607793932070675194106247563097659262240422092526383597734211965
noncomputable def CL:Nm:=nat_lit 2903068265762993634160055780690100584427776539399387899251
noncomputable def CM:Nm:=nat_lit 2381946544145294193932206147466355
noncomputable def CN:Nm:=nat_lit 133449420095479984757516953174502105972
noncomputable def CO:Nm:=nat_lit 604282893331727916787014275196478058
noncomputable def CP:Nm:=nat_lit 536260558599490853407724593643088085855131929054581964238949
noncomputable def CQ:Nm:=nat_lit 2094767807029261146123924193840617642741786678511154065509
noncomputable def CR:Nm:=nat_lit 33856517169387068504413266538
noncomputable def CT:Nm:=nat_lit 2239104044920151446972328798610803
noncomputable def CU:Nm:=nat_lit 2461920933189981541405066968338115359918941555
noncomputable def df:List Df:=[⟨1,true,8,2⟩,⟨1,false,8,3⟩,⟨3,true,3,4⟩,⟨3,false,3,5⟩,⟨5,true,2,6⟩,⟨3,true,5,7⟩,⟨5,true,4,8⟩,⟨9,true,3,10⟩,⟨9,false,3,11⟩,⟨11,true,3,12⟩,⟨9,false,9,13⟩,⟨13,true,4,14⟩,⟨9,false,36,15⟩,⟨15,true,8,16⟩,⟨9,false,288,17⟩,⟨17,true,3,18⟩]
noncomputable def pg:Pg:={ globs:=[(410024766572,.top 21),(427825773816386837616743119630528370,.top 31),(124858201925601049580214673170963794909247501922162,.top 44),(97015117769306598532143648445730533511319914704754,.top 56),(6651336891228533205523773266133724996697119945542233970,.top 68),(396606245068399933670354286467045238767287955314,.top 80),(479546819297275337258628008515816101774963004582235789750130,.top 92),(2094774139727363143042463364706904486042716125967718444914,.top 104),(1538674918779321152101,.top 149),(4941177,.top 202),(6869187153285698643,.str (.lit bJ)),(121762899773006744560479268275395497185389524373326,.top 207),(481323985030967183513148900782197085099317347667,.top 208),(91712171959652,.top 264),(1383033957,.top 310),(7526177188450241116453852626332579184077940,.top 347),(494655441005241648955628512129608046,.top 375),(1383034740,.top 452),(4783231158054382693,.top 514),(5576991674710191205,.top 577),(1557123341884594417008,.top 623),(6011849688186646388,.top 669),(5418904079816500946879841791077,.top 732),(1600677240,.top 741),(6612267387948323502691894191475,.top 806),(82685914303840651723107955,.top 855),(398476362405393021365349,.top 933),(23751042032563315,.top 1009),(450459073587499906724961,.top 1018),(389105274567906997269113,.top 1080),(390473800114553050700941610147890373667853594482,.top 1094),(134825197012663187749116103067571544428,.top 1101),(5576991675212985441,.top 1166),(7356380327247285870318449856924900176127348,.top 1319),(2128016821540047751844417233685052958500287585,.top 1331),(450624087419648520054131,.top 1338),(1760250341482951965043,.top 1345),(1935415718257310217809262845196404,.str (.lit CK)),(495466423873876026867042312885790067,.top 1352),(1760250341482868337765,.top 1357),(450624087419674574808420,.top 1364),(7560217649442903457238224957043,.top 1369),(1760250341482985251941,.top 1374),(7560217649442689799026486308724,.top 1381),(1935415718257346678372489307975024,.top 1388),(450624087419674289726830,.top 1395),(6875977896418042980,.top 1400),(7102839,.top 1405),(1327503576344633410912309694590834,.ty .AssertionError),(1281500229926868578158,.ty .Exception),(5432881864672178034,.ty .KeyError),(25519736733977474955545309042,.ty .RuntimeError),(1558277107616530460530,.ty .TypeError),(407920666966016633499506,.ty .ValueError),(1651470188,.ty .bool),(422944466291,.ty .bytes),(1684628340,.ty .dict),(1871080539643590046821,.ty .enumerate),(6909556,.ty .int),(1818850164,.ty .list),(122468482507636,.ty .object),(7562612,.ty .set),(7566450,.ty .str),(500186508389,.ty .tuple),(6384748,.blt .all),(497977453406354454504293,.blt .isinstance),(7103854,.blt .len),(126922498794852,.blt .sorted)],clss:=(.fork 310 (.fork 80 (.fork 44 (.fork 31 (.one 31 (⟨[.top 31,.ty .Exception,.ty .BaseException,.ty .object],.nil,true,0,true⟩)) (.one 44 (⟨[.top 44,.top 31,.ty .Exception,.ty .BaseException,.ty .object],.nil,true,0,true⟩))) (.fork 56 (.one 56 (⟨[.top 56,.top 31,.ty .Exception,.ty .BaseException,.ty .object],.nil,true,0,true⟩)) (.fork 68 (.one 68 (⟨[.top 68,.top 56,.top 31,.ty .Exception,.ty .BaseException,.ty .object],.nil,true,0,true⟩)) (.one 80 (⟨[.top 80,.top 31,.ty .Exception,.ty .BaseException,.ty .object],.nil,true,0,true⟩))))) (.fork 149 (.fork 92 (.one 92 (⟨[.top 92,.top 31,.ty .Exception,.ty .BaseException,.ty .object],.nil,true,0,true⟩)) (.fork 104 (.one 104 (⟨[.top 104,.ty .Exception,.ty .BaseException,.ty .object],.nil,true,0,true⟩)) (.one 149 (⟨[.top 149,.ty .object],(.fork cJ (.fork bE (.one bE (.dat)) (.fork dh (.one dh (.fn 129)) (.one cJ (.fn 146)))) (.fork bV (.fork ce (.one ce (.fn 122)) (.one bV (.cm 136))) (.fork lL (.one lL (.dat)) (.one bj (.dat))))),false,122,true⟩)))) (.fork 202 (.one 202 (⟨[.top 202,.ty .object],(.fork iy (.fork dh (.fork bE (.one bE (.dat)) (.one dh (.fn 175))) (.fork gV (.one gV (.dat)) (.fork iz (.one iz (.dat)) (.one iy (.dat))))) (.fork ce (.fork cJ (.one cJ (.fn 192)) (.one ce (.fn 168))) (.fork bV (.one bV (.cm 182)) (.fork v4 (.one v4 (.fn 199)) (.one bj (.dat)))))),false,168,true⟩)) (.fork 264 (.one 264 (⟨[.top 264,.ty .object],(.fork aM (.fork cA (.fork bT (.one bT (.val (.str (.lit bG)))) (.one cA (.prop 222))) (.fork dh (.one dh (.fn 237)) (.fork bX (.one bX (.dat)) (.one aM (.dat))))) (.fork bK (.fork ce (.one ce (.fn 230)) (.fork fC (.one fC (.fn 261)) (.one bK (.dat)))) (.fork bj (.one bj (.dat)) (.fork eR (.one eR (.fn 254)) (.one iA (.cm 244)))))),false,230,true⟩)) (.one 310 (⟨[.top 310,.ty .object],(.fork cJ (.fork dh (.one dh (.fn 290)) (.fork fD (.one fD (.dat)) (.one cJ (.fn 307)))) (.fork bV (.fork ce (.one ce (.fn 283)) (.one bV (.cm 297))) (.fork dQ (.one dQ (.dat)) (.one bj (.dat))))),false,283,true⟩)))))) (.fork 623 (.fork 375 (.fork 347 (.one 347 (⟨[.top 347,.ty .object],(.fork ce (.fork bG (.one bG (.dat)) (.fork 30796717039906407 (.one 30796717039906407 (.prop 343)) (.one ce (.fn 328)))) (.fork ky (.one ky (.dat)) (.fork v5 (.one v5 (.prop 335)) (.one dQ (.dat))))),false,328,true⟩)) (.one 375 (⟨[.top 375,.top 264,.ty .object],(.fork ce (.fork dh (.fork bT (.one bT (.val (.str (.lit bG)))) (.fork cA (.one cA (.prop 222)) (.one dh (.fn 237)))) (.fork bX (.one bX (.dat)) (.fork aM (.one aM (.dat)) (.one ce (.fn 230))))) (.fork gW (.fork fC (.one fC (.fn 261)) (.fork bK (.one bK (.dat)) (.one gW (.fn 372)))) (.fork eR (.fork bj (.one bj (.dat)) (.one eR (.fn 254))) (.fork nI (.one nI (.fn 365)) (.one iA (.cm 244)))))),false,230,true⟩))) (.fork 452 (.one 452 (⟨[.top 452,.top 375,.top 264,.ty .object],(.fork ce (.fork dh (.fork bT (.fork d5 (.one d5 (.dat)) (.one bT (.val (.str (.lit cn))))) (.fork cA (.one cA (.prop 222)) (.fork dC (.one dC (.dat)) (.one dh (.fn 399))))) (.fork tT (.fork rk (.one rk (.fn 421)) (.fork bX (.one bX (.dat)) (.one tT (.fn 442)))) (.fork cJ (.one cJ (.fn 414)) (.fork aM (.one aM (.dat)) (.one ce (.fn 392)))))) (.fork tU (.fork rl (.fork bV (.one bV (.cm 406)) (.fork fC (.one fC (.fn 261)) (.one rl (.fn 428)))) (.fork bK (.one bK (.dat)) (.fork gW (.one gW (.fn 372)) (.one tU (.fn 435))))) (.fork eR (.fork gX (.one gX (.dat)) (.fork bj (.one bj (.dat)) (.one eR (.fn 254)))) (.fork nI (.one nI (.fn 365)) (.fork iA (.one iA (.cm 244)) (.one 10888902035877494841520454410637743602714367291651782076459056983156 (.fn 449))))))),false,392,true⟩)) (.fork 577 (.one 577 (⟨[.top 577,.top 514,.ty .object],(.fork aM (.fork dR (.fork dh (.one dh (.fn 540)) (.one dR (.dat))) (.fork eS (.one eS (.dat)) (.fork cJ (.one cJ (.fn 567)) (.one aM (.dat))))) (.fork 1889813825217586361441 (.fork ce (.one ce (.fn 533)) (.one 1889813825217586361441 (.cm 557))) (.fork bV (.one bV (.cm 547)) (.fork bj (.one bj (.dat)) (.one CL (.fn 574)))))),false,533,true⟩)) (.one 623 (⟨[.top 623,.top 264,.ty .object],(.fork ce (.fork dh (.fork bT (.one bT (.val (.str (.lit b4)))) (.fork cA (.one cA (.prop 222)) (.one dh (.fn 603)))) (.fork cJ (.fork bX (.one bX (.dat)) (.one cJ (.fn 620))) (.fork aM (.one aM (.dat)) (.one ce (.fn 596))))) (.fork bK (.fork bV (.one bV (.cm 610)) (.fork fC (.one fC (.fn 261)) (.one bK (.dat)))) (.fork bj (.fork cK (.one cK (.dat)) (.one bj (.dat))) (.fork eR (.one eR (.fn 254)) (.one iA (.cm 244)))))),false,596,true⟩))))) (.fork 1080 (.fork 669 (.one 669 (⟨[.top 669,.top 264,.ty .object],(.fork aM (.fork cA (.fork b7 (.one b7 (.dat)) (.fork bT (.one bT (.val (.str (.lit bU)))) (.one cA (.prop 222)))) (.fork bX (.fork dh (.one dh (.fn 649)) (.one bX (.dat))) (.fork cJ (.one cJ (.fn 666)) (.one aM (.dat))))) (.fork fC (.fork ce (.one ce (.fn 642)) (.fork bV (.one bV (.cm 656)) (.one fC (.fn 261)))) (.fork bj (.fork bK (.one bK (.dat)) (.one bj (.dat))) (.fork eR (.one eR (.fn 254)) (.one iA (.cm 244)))))),false,642,true⟩)) (.fork 1009 (.one 1009 (⟨[.top 1009,.top 375,.top 264,.ty .object],(.fork ce (.fork bX (.fork cA (.fork bT (.one bT (.val (.str (.lit bJ)))) (.one cA (.prop 222))) (.fork dh (.one dh (.fn 959)) (.fork rk (.one rk (.fn 984)) (.one bX (.dat))))) (.fork bJ (.fork tT (.one tT (.fn 1006)) (.one bJ (.dat))) (.fork cJ (.one cJ (.fn 976)) (.fork aM (.one aM (.dat)) (.one ce (.fn 952)))))) (.fork bK (.fork fC (.fork bV (.one bV (.cm 966)) (.one fC (.fn 261))) (.fork rl (.one rl (.fn 992)) (.fork gY (.one gY (.dat)) (.one bK (.dat))))) (.fork bj (.fork gW (.one gW (.fn 372)) (.fork tU (.one tU (.fn 999)) (.one bj (.dat)))) (.fork eR (.one eR (.fn 254)) (.fork nI (.one nI (.fn 365)) (.one iA (.cm 244))))))),false,952,true⟩)) (.one 1080 (⟨[.top 1080,.ty .object],(.fork ce (.fork tV (.fork cn (.one cn (.fn 1039)) (.one tV (.dat))) (.fork iB (.one iB (.dat)) (.fork bJ (.one bJ (.fn 1061)) (.one ce (.fn 1032))))) (.fork tW (.fork bU (.one bU (.fn 1053)) (.fork b4 (.one b4 (.fn 1046)) (.one tW (.fn 1069)))) (.fork tX (.one tX (.fn 1077)) (.fork jm (.one jm (.dat)) (.one lM (.dat)))))),false,1032,true⟩)))) (.fork 1094 (.one 1094 (⟨[.top 1094,.top 31,.ty .Exception,.ty .BaseException,.ty .object],.nil,true,0,true⟩)) (.fork 1166 (.one 1166 (⟨[.top 1166,.ty .object],(.fork bV (.fork bG (.fork dh (.one dh (.fn 1123)) (.one bG (.dat))) (.fork cJ (.one cJ (.fn 1156)) (.fork ce (.one ce (.fn 1116)) (.one bV (.cm 1138))))) (.fork cW (.fork v6 (.one v6 (.cm 1148)) (.one cW (.dat))) (.fork pZ (.one pZ (.prop 1130)) (.fork gW (.one gW (.fn 1163)) (.one bj (.dat)))))),false,1116,true⟩)) (.one 1319 (⟨[.top 1319,.ty .object],(.fork tY (.fork rm (.fork cn (.fork 6776180 (.one 6776180 (.fn 1219)) (.fork 1600218212 (.one 1600218212 (.fn 1198)) (.one cn (.prop 1234)))) (.fork rn (.one rn (.dat)) (.fork 26845041950351199 (.one 26845041950351199 (.fn 1212)) (.one rm (.dat))))) (.fork 7165066978299309683 (.fork bJ (.one bJ (.prop 1258)) (.fork ce (.one ce (.fn 1184)) (.one 7165066978299309683 (.fn 1191)))) (.fork bU (.one bU (.prop 1250)) (.fork b4 (.one b4 (.prop 1242)) (.one tY (.fn 1227)))))) (.fork ro (.fork gZ (.fork 115298485004486023744151391 (.one 115298485004486023744151391 (.fn 1205)) (.fork 141975077637749564253368180 (.one 141975077637749564253368180 (.fn 1266)) (.one gZ (.dat)))) (.fork jn (.one jn (.dat)) (.fork CM (.one CM (.fn 1302)) (.one ro (.fn 1288))))) (.fork rp (.fork rt (.one rt (.fn 1273)) (.fork v7 (.one v7 (.fn 1316)) (.one rp (.dat)))) (.fork v8 (.one v8 (.fn 1295)) (.fork ru (.one ru (.fn 1280)) (.one 2879596678159083271578455183519224571815802193684826780787 (.fn 1309))))))),false,1184,false⟩))))))),defs:=(.fork 1357 (.fork 1331 (.fork 1018 (.one 1018 (0)) (.fork 1101 (.one 1101 (0)) (.one 1331 (0)))) (.fork 1345 (.fork 1338 (.one 1338 (0)) (.one 1345 (0))) (.fork 1352 (.one 1352 (0)) (.one 1357 (0))))) (.fork 1374 (.fork 1364 (.one 1364 (0)) (.fork 1369 (.one 1369 (0)) (.one 1374 (0)))) (.fork 1388 (.fork 1381 (.one 1381 (0)) (.one 1388 (0))) (.fork 1395 (.one 1395 (0)) (.one 1400 (0)))))),objs:=(.fork 207 (.one 207 (.list [.str (.lit 49),.str (.lit 48),.str (.lit 13105)])) (.one 208 (.tup [.str (.lit cn),.str (.lit b4),.str (.lit bU),.str (.lit bJ)]))) }
noncomputable def MN:Fn:=⟨[],[],[],[cF,d7],[
    aL (ak pg (aG cF) tW .other [aG d7])]⟩
noncomputable def MO:Fn:=⟨[],[],[],[cF,d7],[
    aL (ak pg (aG cF) tX .other [aG d7])]⟩
noncomputable def MP:Fn:=⟨[dj],[],[],[lN],[
    aL (aC pg (aA (.top 1357)) [aH pg (aH pg (aG lN) (ac dj)) (ay 0),aH pg (aH pg (aG lN) (ac dj)) (ay 1)])]⟩
noncomputable def MQ:Fn:=⟨[dj,1634494319],[],[],[],[
    aL (ac 1634494319)]⟩
noncomputable def MR:Fn:=⟨[bR],[],[],[lO,g0],[
    ag (aE p6) (ak pg (aG lO) 6776180 .get [ac bR,ac bR]),aL (ak pg (aA (.top 1166)) bV .other [aC pg (aA (.top 1357)) [ac p6,ak pg (aG g0) 6776180 .get [ac p6]]])]⟩
noncomputable def MS:Fn:=⟨[bR,kz],[],[],[iC,g0],[
    ag (aE fP) (iX pg (aF pg .eq (ac bR) (ai bU)) (aC pg (aA (.top 1369)) [af pg (af pg (ac kz) bG) b7]) (aV [(ai nJ,af pg (af pg (af pg (ac kz) bG) cK) aM)])),bd (ak pg (aG iC) 107135549927012 .append [ac bR]),ag (cb (aG g0) (ac bR)) (c9 [bA df .add (af pg (af pg (ac kz) bG) aM) (ay 1),ac fP,ay 0])]⟩
noncomputable def MT:Fn:=⟨[],[],[],[cF,eT],[
    aL (ak pg (aG cF) tW .other [aF pg .eq (bA df .mod (bA df .fdiv (aG eT) (ay 3)) (ay 2)) (ay 1)])]⟩
noncomputable def MU:Fn:=⟨[],[],[],[cF,eT],[
    aL (ak pg (aG cF) tX .other [aF pg .eq (bA df .mod (bA df .fdiv (aG eT) (ay 3)) (ay 2)) (ay 1)])]⟩
noncomputable def iZ:Fn:=⟨[aq,bE,lL,bj],[.none],[],[],[
    ag (ba pg (ac aq) bE) (ac bE),ag (ba pg (ac aq) lL) (ac lL),sIf pg (aF pg .is_ (ac bj) (bh)) [ag (aE bj) (aV [])] [],ag (ba pg (ac aq) bj) (ac bj)]⟩
noncomputable def iF:Fn:=⟨[cr,rv],[],[],[],[
    ag (aE bE) (ak pg (ac rv) cX .pop [ai bE]),ag (aE iD) (ak pg (ac rv) cX .pop [ai iD]),aL (aC pg (ac cr) [ac bE,ac iD,ac rv])]⟩
noncomputable def oH:Fn:=⟨[aq,bE,iy,iz,gV,bj],[.none],[],[],[
    ag (ba pg (ac aq) bE) (ac bE),ag (ba pg (ac aq) iy) (ac iy),ag (ba pg (ac aq) iz) (ac iz),ag (ba pg (ac aq) gV) (ac gV),sIf pg (aF pg .is_ (ac bj) (bh)) [ag (aE bj) (aV [])] [],ag (ba pg (ac aq) bj) (ac bj)]⟩
noncomputable def nT:Fn:=⟨[cr,bE,nK],[],[],[],[
    ag (aE iy) (ak pg (ac nK) cX .pop [ai iy]),ag (aE iz) (ak pg (ac nK) cX .pop [ai iz]),ag (aE gV) (ak pg (ac nK) cX .pop [ai gV]),aL (aC pg (ac cr) [ac bE,ac iy,ac iz,ac gV,ac nK])]⟩
noncomputable def rN:Fn:=⟨[aq],[],[],[],[
    ag (aE 7497075) (aV [(ai iy,af pg (ac aq) iy),(ai iz,af pg (ac aq) iz),(ai gV,af pg (ac aq) gV)]),bd (ak pg (ac 7497075) tZ .update [af pg (ac aq) bj]),aL (ac 7497075)]⟩
noncomputable def g8:Fn:=⟨[aq,lL,dj],[],[],[],[
    ag (aE dl) (bA df .add (bA df .add (ak pg (aH pg (af pg (ac aq) gV) (ai 123649464756579)) 111524789052517 .encode [ai 504464026936]) (d9 58)) (ac dj)),sIf pg (aF pg .ne (ak pg (af pg (ac lL) lL) 111524789052517 .encode [ai 504464026936]) (ac dl)) [aU (.top 104) [ai 2707835981034573425681687473931801417701364590872034502009]] []]⟩
noncomputable def oI:Fn:=⟨[aq],[],[],[],[
    aL (af pg (ac aq) bT)]⟩
noncomputable def la:Fn:=⟨[aq,aM,bK,bX,bj],[],[],[],[
    sIf pg (aF pg .is_ (ac bK) (bh)) [ag (aE bK) (ak pg (ai 46) 1785686382 .join [aA (.top 207)])] [],ag (aE rx) (ak pg (ac bK) 495807392116 .split [ai 46]),sIf pg (eOr pg [aF pg .notIn (aC pg (aA (.blt .len)) [ac rx]) (c9 [ay 2,ay 3]),f7 pg (ql (ac rx))]) [aU (.ty .ValueError) [dG [ai 1897454927672775671059631840147332278768532045561562960666663714778656,ac bK]]] [],sIf pg (aF pg .ne (aH pg (ac rx) (ay 0)) (aH pg (aA (.top 207)) (ay 0))) [aU (.ty .ValueError) [dG [ai 536261898410718919928645004860097706101179807317459045674528,ac bK]]] [],ag (ba pg (ac aq) bK) (ac bK),ag (ba pg (ac aq) bX) (ac bX),sIf pg (aF pg .is_ (ac aM) (bh)) [ag (aE aM) (ay 1)] [sIf pg (aF pg .le (ac aM) (ay 0)) [aU (.ty .ValueError) [dG [ai 743185479781098304809746093796232832076328379865416145531936,ac aM]]] []],ag (ba pg (ac aq) aM) (ac aM),sIf pg (aF pg .is_ (ac bj) (bh)) [ag (aE bj) (aV [])] [],ag (ba pg (ac aq) bj) (ac bj)]⟩
noncomputable def dT:Fn:=⟨[cr,b8],[],[],[],[
    ag (aE cA) (ak pg (ac b8) cX .pop [ai cA]),sIf pg (aF pg .ne (ac cA) (af pg (ac cr) bT)) [aU (.ty .ValueError) [dG [ai 1409028427045946161605654745212192,af pg (ac cr) bT,ai 48517685933088,ac cA]]] [],ag (aE aM) (ak pg (ac b8) cX .pop [ai aM]),ag (aE bK) (ak pg (ac b8) cX .pop [ai bK]),ag (aE bX) (ak pg (ac b8) cX .pop [ai bX]),aL (js [ac aM,ac bK,ac bX])]⟩
noncomputable def ef:Fn:=⟨[aq],[],[],[],[
    ag (aE fQ) (aV [(ai cA,af pg (ac aq) cA),(ai aM,af pg (ac aq) aM),(ai bK,af pg (ac aq) bK),(ai bX,af pg (ac aq) bX)]),bd (ak pg (ac fQ) tZ .update [af pg (ac aq) bj]),aL (ac fQ)]⟩
noncomputable def jF:Fn:=⟨[aq,jn],[],[],[],[
    aL (aF pg .ge (ac jn) (af pg (ac aq) bX))]⟩
noncomputable def nU:Fn:=⟨[aq,fD,dQ,bj],[.none],[],[],[
    sIf pg (aF pg .ne (aC pg (aA (.blt .len)) [aC pg (aA (.ty .set)) [ac fD]]) (aC pg (aA (.blt .len)) [ac fD])) [aU (.ty .ValueError) [dG [ai 6832676470223211324395619957758295513709088,ac fD]]] [],sIf pg (aF pg .lt (ac dQ) (ay 1)) [aU (.ty .ValueError) [ai 205675125252296391558390942884462300922668441904104298038432986126606151969]] [],ag (ba pg (ac aq) fD) (ac fD),ag (ba pg (ac aq) dQ) (ac dQ),sIf pg (aF pg .is_ (ac bj) (bh)) [ag (aE bj) (aV [])] [],ag (ba pg (ac aq) bj) (ac bj)]⟩
noncomputable def lY:Fn:=⟨[cr,p7],[],[],[],[
    ag (aE fD) (ak pg (ac p7) cX .pop [ai fD]),ag (aE dQ) (ak pg (ac p7) cX .pop [ai dQ]),aL (aC pg (ac cr) [ac fD,ac dQ,ac p7])]⟩
noncomputable def oJ:Fn:=⟨[aq],[],[],[],[
    ag (aE fQ) (aV [(ai fD,af pg (ac aq) fD),(ai dQ,af pg (ac aq) dQ)]),bd (ak pg (ac fQ) tZ .update [af pg (ac aq) bj]),aL (ac fQ)]⟩
noncomputable def eJ:Fn:=⟨[aq,dQ,bG,ky],[],[],[],[
    ag (ba pg (ac aq) dQ) (ac dQ),ag (ba pg (ac aq) bG) (ac bG),ag (ba pg (ac aq) ky) (ac ky)]⟩
noncomputable def eK:Fn:=⟨[aq],[],[],[],[
    aL (aF pg .ge (aC pg (aA (.blt .len)) [af pg (ac aq) bG]) (af pg (ac aq) dQ))]⟩
noncomputable def cN:Fn:=⟨[aq,kA,ry,cW],[],[],[],[
    ag (aE bR) (ak pg (ac aq) tU .other [ac kA]),ag (aE bG) (aV []),ag (aE ky) (aV []),jS pg (.loc bE) .plain (af pg (ac bR) fD) [jT [ag (aE fR) (ak pg (ac aq) tT .other [ac bE])] (.ty .ValueError) [sf] [],sIf pg (aF pg .notIn (ac bE) (ac cW)) [ag (cb (ac ky) (ac bE)) (ac fR),sf] [],ag (aE iD) (aH pg (ac cW) (ac bE)),jT [bd (ak pg (ac fR) v4 .other [ac iD,ac ry]),ag (cb (ac bG) (ac bE)) (ac fR)] (.top 104) [ag (cb (ac ky) (ac bE)) (ac fR)] []],aL (aC pg (aA (.top 347)) [af pg (ac bR) dQ,ac bG,ac ky])]⟩
noncomputable def dU:Fn:=⟨[aq,kA,ry,cW],[],[],[],[
    ag (aE rz) (ak pg (ac aq) nI .other [ac kA,ac ry,ac cW]),sIf pg (f7 pg (af pg (ac rz) v5)) [aU (.top 44) [dG [ac kA,ai 168574826977719688723186878903384352,aC pg (aA (.blt .len)) [af pg (ac rz) bG],ai 47,af pg (ac rz) dQ,ai 139240765811]]] []]⟩
noncomputable def nV:Fn:=⟨[aq,aM,bK,bX,d5,dC,gX,bj],[.none,.none,.none,.none,.none,.bool true,.none],[],[],[
    bd (jt 452 230 [ac aM,ac bK,ac bX,ac bj]),ag (ba pg (ac aq) gX) (ac gX),ag (ba pg (ac aq) d5) (iX pg (aF pg .isNot (ac d5) (bh)) (ac d5) (aV [])),sIf pg (aF pg .is_ (ac dC) (bh)) [ag (aE dC) (ea pg (ac 114) (aC pg (aA (.top 310)) [c9 [],ay 1]) (.loc 114) .plain (aA (.top 208)) [] [])] [sIf pg (aF pg .ne (aC pg (aA (.blt .sorted)) [ac dC]) (aC pg (aA (.blt .sorted)) [aA (.top 208)])) [aU (.ty .ValueError) [ai 49562288539645660661175692345834182655836142674212131560989644580277566544044919090647649029795328090710857246067]] []],ag (ba pg (ac aq) dC) (ac dC)]⟩
noncomputable def lZ:Fn:=⟨[cr,b8],[],[],[],[
    ag (aE eU) (ak pg (ac cr) iA .other [ac b8]),ag (aE gX) (ak pg (ac b8) cX .pop [ai gX,bh]),ag (aE d5) (ak pg (ac b8) cX .pop [ai d5]),ag (aE dC) (ak pg (ac b8) cX .pop [ai dC]),jS pg (.tup [.loc bE,.loc nK]) .plain (gq (ac d5)) [ag (cb (ac d5) (ac bE)) (ak pg (aA (.top 202)) bV .other [ac bE,ac nK])],jS pg (.tup [.loc jo,.loc p7]) .plain (gq (ac dC)) [ag (cb (ac dC) (ac jo)) (ak pg (aA (.top 310)) bV .other [ac p7])],aL (aC pg (ac cr) [aH pg (ac eU) (ay 0),aH pg (ac eU) (ay 1),aH pg (ac eU) (ay 2),ac d5,ac dC,ac gX,ac b8])]⟩
noncomputable def oK:Fn:=⟨[aq],[],[],[],[
    ag (aE rA) (ak pg (ac aq) eR .other []),ag (aE d5) (ea pg (ac bE) (ak pg (ac fR) cJ .other []) (.tup [.loc bE,.loc fR]) .items (af pg (ac aq) d5) [] []),ag (aE dC) (aV []),jS pg (.tup [.loc jo,.loc bR]) .items (af pg (ac aq) dC) [ag (cb (ac dC) (ac jo)) (ak pg (ac bR) cJ .other [])],sIf pg (aF pg .isNot (af pg (ac aq) gX) (bh)) [ag (cb (ac rA) (ai gX)) (af pg (ac aq) gX)] [],bd (ak pg (ac rA) tZ .update [aV [(ai d5,ac d5),(ai dC,ac dC)]]),aL (ac rA)]⟩
noncomputable def fX:Fn:=⟨[aq,kA],[],[],[],[
    sIf pg (aF pg .notIn (ac kA) (af pg (ac aq) dC)) [aU (.ty .ValueError) [dG [ai 355133297774854206054662348974351648,ac kA,ai 153152900379596534672996]]] [],aL (aH pg (af pg (ac aq) dC) (ac kA))]⟩
noncomputable def oL:Fn:=⟨[aq,bE],[],[],[],[
    sIf pg (aF pg .notIn (ac bE) (af pg (ac aq) d5)) [aU (.ty .ValueError) [dG [ai 1264941344,ac bE,ai 153152900379596534672996]]] [],aL (aH pg (af pg (ac aq) d5) (ac bE))]⟩
noncomputable def jG:Fn:=⟨[aq,aM,eS,dR,bj],[.int (.k 1),.none,.none,.none],[],[],[
    sIf pg (aF pg .le (ac aM) (ay 0)) [aU (.ty .ValueError) [dG [ai 2294241304440367059432887004089043013286688140807325253552309308432253100493861920,ac aM]]] [],sIf pg (aF pg .isNot (ac eS) (bh)) [bd (ak pg (ac aq) 126891326611864502168486374622586434664 .other [ac eS])] [],sIf pg (aF pg .isNot (ac dR) (bh)) [bd (ak pg (ac aq) 126891326611864502168486370207444002163 .other [ac dR])] [],ag (ba pg (ac aq) aM) (ac aM),ag (ba pg (ac aq) eS) (ac eS),ag (ba pg (ac aq) dR) (ac dR),sIf pg (aF pg .is_ (ac bj) (bh)) [ag (aE bj) (aV [])] [],ag (ba pg (ac aq) bj) (ac bj)]⟩
noncomputable def i0:Fn:=⟨[cr,g6],[],[],[],[
    ag (aE aM) (ak pg (ac g6) cX .pop [ai aM]),ag (aE eS) (ak pg (ac g6) cX .pop [ai eS,bh]),ag (aE dR) (ak pg (ac g6) cX .pop [ai dR,bh]),aL (aC pg (ac cr) [ac aM,ac eS,ac dR,ac g6])]⟩
noncomputable def kC:Fn:=⟨[aq],[],[],[],[
    ag (aE fQ) (aV [(ai aM,af pg (ac aq) aM)]),bd (ak pg (ac fQ) tZ .update [af pg (ac aq) bj]),sIf pg (aF pg .isNot (af pg (ac aq) eS) (bh)) [ag (cb (ac fQ) (ai eS)) (af pg (ac aq) eS)] [],sIf pg (aF pg .isNot (af pg (ac aq) dR) (bh)) [ag (cb (ac fQ) (ai dR)) (af pg (ac aq) dR)] [],aL (ac fQ)]⟩
noncomputable def dF:Fn:=⟨[aq,dj,rC],[],[],[],[
    sIf pg (aF pg .isNot (af pg (ac aq) eS) (bh)) [bd (ak pg (ac aq) 1936209231824866068455709575967848 .other [ac dj,af pg (ac aq) eS])] [],sIf pg (aF pg .isNot (af pg (ac aq) dR) (bh)) [bd (ak pg (ac aq) 1936209231824866068451294433535347 .other [ac dj,af pg (ac aq) dR,ac rC])] []]⟩
noncomputable def i1:Fn:=⟨[aq,aM,bK,bX,cK,bj],[.none,.none,.none,.none,.none],[],[],[
    bd (jt 623 230 [ac aM,ac bK,ac bX,ac bj]),ag (ba pg (ac aq) cK) (eOr pg [ac cK,aC pg (aA (.top 577)) [ay 1]])]⟩
noncomputable def iG:Fn:=⟨[cr,b8],[],[],[],[
    ag (aE eU) (ak pg (ac cr) iA .other [ac b8]),ag (aE g6) (ak pg (ac b8) cX .pop [ai b7]),ag (aE cK) (ak pg (aA (.top 577)) bV .other [aH pg (ac g6) (ai nJ)]),aL (aC pg (ac cr) [aH pg (ac eU) (ay 0),aH pg (ac eU) (ay 1),aH pg (ac eU) (ay 2),ac cK,ac b8])]⟩
noncomputable def jH:Fn:=⟨[aq],[],[],[],[
    ag (aE fQ) (ak pg (ac aq) eR .other []),ag (cb (ac fQ) (ai b7)) (aV [(ai nJ,ak pg (af pg (ac aq) cK) cJ .other [])]),aL (ac fQ)]⟩
noncomputable def jI:Fn:=⟨[aq,aM,bK,bX,b7,bj],[.none,.none,.none,.none,.none],[],[],[
    bd (jt 669 230 [ac aM,ac bK,ac bX,ac bj]),ag (ba pg (ac aq) b7) (iX pg (aF pg .isNot (ac b7) (bh)) (ac b7) (aV [(ai ua,aC pg (aA (.top 577)) [ay 1])]))]⟩
noncomputable def i2:Fn:=⟨[cr,b8],[],[],[],[
    ag (aE eU) (ak pg (ac cr) iA .other [ac b8]),ag (aE 516609453873102003074163) (ak pg (ac b8) cX .pop [ai b7]),ag (aE b7) (aV []),jS pg (.tup [.loc rE,.loc g6]) .items (ac 516609453873102003074163) [ag (cb (ac b7) (ac rE)) (ak pg (aA (.top 577)) bV .other [ac g6])],aL (aC pg (ac cr) [aH pg (ac eU) (ay 0),aH pg (ac eU) (ay 1),aH pg (ac eU) (ay 2),ac b7,ac b8])]⟩
noncomputable def kD:Fn:=⟨[aq],[],[],[],[
    ag (aE v9) (ak pg (ac aq) eR .other []),ag (aE g6) (aV []),jS pg (.tup [.loc rE,.loc 2018005679191888914031]) .items (af pg (ac aq) b7) [ag (cb (ac g6) (ac rE)) (ak pg (ac 2018005679191888914031) cJ .other [])],ag (cb (ac v9) (ai b7)) (ac g6),aL (ac v9)]⟩
noncomputable def kE:Fn:=⟨[aq,aM,bK,bX,bJ,gY,bj],[.none,.none,.none,.none,.none,.none],[],[],[
    bd (jt 1009 230 [ac aM,ac bK,ac bX,ac bj]),ag (ba pg (ac aq) bJ) (iX pg (aF pg .isNot (ac bJ) (bh)) (ac bJ) (aV [])),ag (ba pg (ac aq) gY) (ac gY)]⟩
noncomputable def jJ:Fn:=⟨[cr,b8],[],[],[],[
    ag (aE eU) (ak pg (ac cr) iA .other [ac b8]),ag (aE bJ) (ak pg (ac b8) cX .pop [aA (.str (.lit bJ))]),jT [ag (aE CN) (ak pg (ac b8) cX .pop [ai gY])] (.ty .KeyError) [ag (aE gY) (bh)] [ag (aE gY) (ak pg (aA (.top 855)) bV .other [ac CN])],ag (aE wa) (aV []),jS pg (.tup [.loc uc,.loc 140695575003448854434440815]) .items (ac bJ) [ag (cb (ac wa) (ac uc)) (ak pg (aA (.top 933)) bV .other [ac 140695575003448854434440815,ac uc])],aL (aC pg (ac cr) [aH pg (ac eU) (ay 0),aH pg (ac eU) (ay 1),aH pg (ac eU) (ay 2),ac wa,ac gY,ac b8])]⟩
noncomputable def lb:Fn:=⟨[aq],[],[],[],[
    ag (aE rF) (ak pg (ac aq) eR .other []),ag (aE bJ) (aV []),jS pg (.tup [.loc uc,.loc CO]) .items (af pg (ac aq) bJ) [ag (cb (ac bJ) (ac uc)) (ak pg (ac CO) cJ .other [])],ag (cb (ac rF) (aA (.str (.lit bJ)))) (ac bJ),sIf pg (aF pg .isNot (af pg (ac aq) gY) (bh)) [ag (cb (ac rF) (ai gY)) (ak pg (af pg (ac aq) gY) cJ .other [])] [],aL (ac rF)]⟩
noncomputable def ug:Fn:=⟨[b7],[],[],[],[
    ag (aE dR) (iX pg (aF pg .is_ (af pg (ac b7) dR) (bh)) (bh) (aC pg (aA (.ty .dict)) [af pg (ac b7) dR])),aL (aC pg (aA (.top 577)) [af pg (ac b7) aM,af pg (ac b7) eS,ac dR,aC pg (aA (.ty .dict)) [af pg (ac b7) bj]])]⟩
noncomputable def iH:Fn:=⟨[aq,rG,iC,lM,jm],[],[],[],[
    ag (ba pg (ac aq) iB) (ac rG),ag (ba pg (ac aq) tV) (ac iC),ag (ba pg (ac aq) lM) (ac lM),ag (ba pg (ac aq) jm) (ac jm)]⟩
noncomputable def lc:Fn:=⟨[aq],[],[],[],[
    ag (aE cn) (af pg (ak pg (ac aq) iB .other [af pg (aA (.top 452)) bT]) bG),sIf pg (f7 pg (aC pg (aA (.blt .isinstance)) [ac cn,aA (.top 452)])) [aU (.ty .AssertionError) [ai 487726136816027841093932323567968771690053857381]] [],aL (ac cn)]⟩
noncomputable def g9:Fn:=⟨[aq],[],[],[],[
    ag (aE b4) (af pg (ak pg (ac aq) iB .other [af pg (aA (.top 623)) bT]) bG),sIf pg (f7 pg (aC pg (aA (.blt .isinstance)) [ac b4,aA (.top 623)])) [aU (.ty .AssertionError) [ai CP]] [],aL (ac b4)]⟩
noncomputable def iI:Fn:=⟨[aq],[],[],[],[
    ag (aE bU) (af pg (ak pg (ac aq) iB .other [af pg (aA (.top 669)) bT]) bG),sIf pg (f7 pg (aC pg (aA (.blt .isinstance)) [ac bU,aA (.top 669)])) [aU (.ty .AssertionError) [ai CQ]] [],aL (ac bU)]⟩
noncomputable def i3:Fn:=⟨[aq,8245928625638042981],[.str (.lit bJ)],[],[],[
    ag (aE bJ) (af pg (ak pg (ac aq) iB .other [ac 8245928625638042981]) bG),sIf pg (f7 pg (aC pg (aA (.blt .isinstance)) [ac bJ,aA (.top 1009)])) [aU (.ty .AssertionError) [ai 8182686746208051352046578882483761754330546644838871141]] [],aL (ac bJ)]⟩
noncomputable def gj:Fn:=⟨[aq,d7],[.bool false],[],[],[
    ag (aE iE) (ac d7),ag (aE p8) (aV []),ag (aE cn) (ak pg (ac aq) cn .other []),ag (aE wb) (ak pg (ac aq) iB .other [af pg (aA (.top 669)) bT]),jT [bd (ak pg (ac cn) gW .other [af pg (aA (.top 669)) bT,af pg (ac wb) pZ,af pg (ac wb) cW])] (.top 44) [ag (aE iE) (cf true)] [],ag (aE 28004) (ak pg (ac aq) iB .other [af pg (aA (.top 669)) bT]),ag (aE bU) (af pg (ac 28004) bG),sIf pg (f7 pg (aC pg (aA (.blt .isinstance)) [ac bU,aA (.top 669)])) [aU (.ty .AssertionError) [ai CQ]] [],jS pg (.tup [.loc nM,.loc ud]) .items (af pg (ac aq) lM) [sIf pg (aF pg .notIn (ac nM) (af pg (ac bU) b7)) [ag (aE iE) (cf true),ag (cb (af pg (ac bU) b7) (ac nM)) (aC pg (aA (.top 1018)) [ac ud]),sf] [],ag (aE rH) (aH pg (af pg (ac bU) b7) (ac nM)),sIf pg (aF pg .lt (af pg (ac ud) aM) (af pg (ac rH) aM)) [aU (.ty .ValueError) [dG [ac nM,ai 11046411388293927063708018715032790590315]]] [],sIf pg (aF pg .gt (af pg (ac ud) aM) (af pg (ac rH) aM)) [ag (aE iE) (cf true),ag (cb (af pg (ac bU) b7) (ac nM)) (aC pg (aA (.top 1018)) [ac ud]),ag (cb (ac p8) (ac nM)) (ac rH)] []],sIf pg (ac iE) [bd (ak pg (ac aq) tV .other [af pg (aA (.top 669)) bT,ac 28004])] [],aL (js [ac iE,ac p8])]⟩
noncomputable def fY:Fn:=⟨[aq,d7],[.bool false],[],[],[
    ag (aE iE) (ac d7),ag (aE p8) (bh),ag (aE cn) (ak pg (ac aq) cn .other []),ag (aE wc) (ak pg (ac aq) iB .other [af pg (aA (.top 623)) bT]),jT [bd (ak pg (ac cn) gW .other [af pg (aA (.top 623)) bT,af pg (ac wc) pZ,af pg (ac wc) cW])] (.top 44) [ag (aE iE) (cf true)] [],ag (aE 28004) (ak pg (ac aq) iB .other [af pg (aA (.top 623)) bT]),ag (aE b4) (af pg (ac 28004) bG),sIf pg (f7 pg (aC pg (aA (.blt .isinstance)) [ac b4,aA (.top 623)])) [aU (.ty .AssertionError) [ai CP]] [],sIf pg (aF pg .lt (af pg (af pg (ac aq) jm) aM) (af pg (af pg (ac b4) cK) aM)) [aU (.ty .ValueError) [ai 724573224548452606066686873927165055668104447363349445960555]] [],sIf pg (aF pg .gt (af pg (af pg (ac aq) jm) aM) (af pg (af pg (ac b4) cK) aM)) [ag (aE iE) (cf true),ag (aE p8) (af pg (ac b4) cK),ag (ba pg (ac b4) cK) (aC pg (aA (.top 1018)) [af pg (ac aq) jm])] [],sIf pg (ac iE) [bd (ak pg (ac aq) tV .other [af pg (aA (.top 623)) bT,ac 28004])] [],aL (js [ac iE,ac p8])]⟩
noncomputable def kF:Fn:=⟨[fE],[],[fE],[],[
    sIf pg (aF pg .is_ (aG fE) (bh)) [aL (ai 1853189228)] [],sIf pg (aF pg .is_ (aG fE) (cf true)) [aL (ai 1953658213)] [],sIf pg (aF pg .is_ (aG fE) (cf false)) [aL (ai 439721161573)] [],sIf pg (aC pg (aA (.blt .isinstance)) [aG fE,aA (.ty .int)]) [aL (aC pg (aA (.ty .str)) [aG fE])] [],sIf pg (aC pg (aA (.blt .isinstance)) [aG fE,aA (.ty .str)]) [aL (bA df .add (bA df .add (ai 34) (ak pg (ak pg (aG fE) 32199680874079077 .replace [ai 92,ai 23644]) 32199680874079077 .replace [ai 34,ai 23586])) (ai 34))] [],sIf pg (aC pg (aA (.blt .isinstance)) [aG fE,aA (.ty .list)]) [aL (bA df .add (bA df .add (ai 91) (ak pg (ai 44) 1785686382 .join [gn pg (aC pg (aA (.top 1101)) [ac 1769235821]) (.loc 1769235821) .plain (aG fE) [] []])) (ai 93))] [],sIf pg (aC pg (aA (.blt .isinstance)) [aG fE,aA (.ty .dict)]) [ag (aE fP) (gn pg (bA df .add (bA df .add (aC pg (aA (.top 1101)) [ac fR]) (ai 58)) (aC pg (aA (.top 1101)) [aH pg (aG fE) (ac fR)])) (.loc fR) .plain (aC pg (aA (.blt .sorted)) [aG fE]) [] [fE]),aL (bA df .add (bA df .add (ai 123) (ak pg (ai 44) 1785686382 .join [ac fP])) (ai 125))] [],oQ ""]⟩
noncomputable def jK:Fn:=⟨[aq,bG,cW,bj],[.none,.none],[],[],[
    ag (ba pg (ac aq) bG) (ac bG),ag (ba pg (ac aq) cW) (iX pg (aF pg .isNot (ac cW) (bh)) (ac cW) (aV [])),sIf pg (aF pg .is_ (ac bj) (bh)) [ag (aE bj) (aV [])] [],ag (ba pg (ac aq) bj) (ac bj)]⟩
noncomputable def gK:Fn:=⟨[aq],[],[],[],[
    aL (ak pg (aC pg (aA (.top 1101)) [ak pg (af pg (ac aq) bG) cJ .other []]) 111524789052517 .encode [ai 504464026936])]⟩
noncomputable def i4:Fn:=⟨[cr,kz],[],[],[],[
    ag (aE cA) (aH pg (aH pg (ac kz) (ai bG)) (ai cA)),sIf pg (aF pg .notIn (ac cA) (js [ai bJ,ai bU,ai b4,ai cn])) [aU (.ty .ValueError) [dG [ai 12366973327909988131550691680107920277295873577721763807516070060066,ac cA,ai 34]]] [],ag (aE cW) (aV []),jS pg (.loc 8316291846320513908) .plain (ak pg (ac kz) cX .pop [ai cW]) [ag (aE iD) (ak pg (aA (.top 149)) bV .other [ac 8316291846320513908]),sIf pg (aF pg .in_ (af pg (ac iD) bE) (ac cW)) [aU (.ty .ValueError) [dG [ai 150476579992788247634567654729217168818289131353658776124854952179816476555971566068768,af pg (ac iD) bE]]] [],ag (cb (ac cW) (af pg (ac iD) bE)) (ac iD)],ag (aE b8) (ak pg (ac kz) cX .pop [ai bG]),sIf pg (aF pg .eq (ac cA) (ai bJ)) [ag (aE bG) (ak pg (aA (.top 1009)) bV .other [ac b8])] [sIf pg (aF pg .eq (ac cA) (ai bU)) [ag (aE bG) (ak pg (aA (.top 669)) bV .other [ac b8])] [sIf pg (aF pg .eq (ac cA) (ai b4)) [ag (aE bG) (ak pg (aA (.top 623)) bV .other [ac b8])] [ag (aE bG) (ak pg (aA (.top 452)) bV .other [ac b8])]]],aL (aC pg (ac cr) [ac bG,ac cW,ac kz])]⟩
noncomputable def iJ:Fn:=⟨[cr,dj,p9],[],[],[],[
    jT [ag (aE 1963672860205974643572) (aC pg (ac p9) [ac dj]),ag (aE CR) (ak pg (ac cr) bV .other [ac 1963672860205974643572])] .none [] [],aL (ac CR)]⟩
noncomputable def eL:Fn:=⟨[aq,2110958589016568591457,p9,rC,jn],[],[],[],[
    ag (ba pg (ac aq) gZ) (aV []),ag (ba pg (ac aq) rp) (aC pg (aA (.ty .set)) []),ag (ba pg (ac aq) rn) (ac p9),ag (ba pg (ac aq) rm) (ac rC),ag (ba pg (ac aq) jn) (ac jn),bd (ak pg (ac aq) v7 .other [ac 2110958589016568591457])]⟩
noncomputable def fZ:Fn:=⟨[aq,bR,bG,nN],[],[],[],[
    ag (cb (af pg (ac aq) gZ) (ac bR)) (ac bG),bd (ak pg (af pg (ac aq) rp) 6382692 .add [js [ac nN,ac bR]])]⟩
noncomputable def eh:Fn:=⟨[aq,bR,dj,nN,jo],[.none,.none],[],[],[
    aL (aC pg (aA (.top 1331)) [ac bR,ac dj,af pg (ac aq) rn,ac nN,ac jo])]⟩
noncomputable def f4:Fn:=⟨[aq],[],[],[],[
    aL (aH pg (af pg (ac aq) gZ) (af pg (aA (.top 452)) bT))]⟩
noncomputable def eH:Fn:=⟨[aq],[],[],[],[
    aL (aH pg (af pg (ac aq) gZ) (af pg (aA (.top 623)) bT))]⟩
noncomputable def eM:Fn:=⟨[aq],[],[],[],[
    aL (aH pg (af pg (ac aq) gZ) (af pg (aA (.top 669)) bT))]⟩
noncomputable def du:Fn:=⟨[aq,dj],[],[],[],[
    sIf pg (aF pg .in_ (af pg (aA (.top 669)) bT) (af pg (ac aq) gZ)) [oQ ""] [],sIf pg (ak pg (af pg (ac aq) cn) fC .other [af pg (ac aq) jn]) [aU (.top 80) [ai 113147465303706079863341000762248546114963653478879024362186084]] [],ag (lTg pg (.tup [.loc nO,.loc 95,.loc 95])) (ak pg (ac aq) tY .other [af pg (aA (.top 623)) bT,ac dj,af pg (ac aq) cn]),sIf pg (aF pg .in_ (af pg (aA (.top 623)) bT) (af pg (ac aq) gZ)) [sIf pg (aF pg .lt (af pg (ac nO) aM) (af pg (af pg (ac aq) b4) aM)) [aU (.top 56) [dG [ai 29331556453260365284539183322187257922154920313581088,af pg (ac nO) aM,ai 10035847875242897298450955552,af pg (af pg (ac aq) b4) aM]]] [],sIf pg (aF pg .eq (af pg (ac nO) aM) (af pg (af pg (ac aq) b4) aM)) [aU (.top 68) []] [],ag (aE cK) (af pg (af pg (ac aq) b4) cK),ag (aE wd) (af pg (ac nO) cK),sIf pg (aF pg .lt (af pg (ac wd) aM) (af pg (ac cK) aM)) [aU (.top 56) [dG [ai 35459675925727278032384267545445441533039613971348913275651228644898957573408,af pg (ac cK) aM,ai 894993335456300872396736197258784,af pg (ac wd) aM]]] []] [],bd (ak pg (ac aq) 1600218212 .other [af pg (aA (.top 623)) bT,ac nO,af pg (aA (.top 452)) bT]),bd (ak pg (ac aq) ru .other []),aL (ac nO)]⟩
noncomputable def cH:Fn:=⟨[aq],[],[],[],[
    sIf pg (ak pg (af pg (ac aq) b4) fC .other [af pg (ac aq) jn]) [aU (.top 80) [ai 730728871896705249510833162729569465512238839754446085449060]] []]⟩
noncomputable def dD:Fn:=⟨[aq,dj,32776946072184164],[.bool false],[],[],[
    sIf pg (aF pg .notIn (af pg (aA (.top 623)) bT) (af pg (ac aq) gZ)) [oQ ""] [],sIf pg (aF pg .in_ (af pg (aA (.top 1009)) bT) (af pg (ac aq) gZ)) [oQ ""] [],bd (ak pg (ac aq) ru .other []),ag (aE cK) (af pg (af pg (ac aq) b4) cK),sIf pg (f7 pg (ac 32776946072184164)) [bd (ak pg (ac cK) CL .other [ac dj,af pg (ac aq) rm])] [],ag (lTg pg (.tup [.loc rI,.loc 95,.loc 95])) (ak pg (ac aq) tY .other [af pg (aA (.top 669)) bT,ac dj,af pg (ac aq) cn]),sIf pg (aF pg .in_ (af pg (aA (.top 669)) bT) (af pg (ac aq) gZ)) [jS pg (.tup [.loc rJ,.loc we]) .items (af pg (af pg (ac aq) bU) b7) [ag (aE rK) (ak pg (af pg (ac rI) b7) 6776180 .get [ac rJ]),sIf pg (aF pg .is_ (ac rK) (bh)) [aU (.top 31) [dG [ai 2323885321468462893130335357858293534884685856371391570836844484752482118195617831,ac rJ,ai 39]]] [],sIf pg (aF pg .lt (af pg (ac rK) aM) (af pg (ac we) aM)) [aU (.top 56) [dG [ai 1281503889045730976800,ac rJ,ai 598827161267844640288,af pg (ac rK) aM,ai 48517685933088,af pg (ac we) aM,ai 46]]] []]] [],bd (ak pg (ac aq) 1600218212 .other [af pg (aA (.top 669)) bT,ac rI,af pg (aA (.top 452)) bT]),bd (ak pg (ac aq) v8 .other []),aL (ac rI)]⟩
noncomputable def cL:Fn:=⟨[aq],[],[],[],[
    sIf pg (ak pg (af pg (ac aq) bU) fC .other [af pg (ac aq) jn]) [aU (.top 80) [ai 2830364158392392992466542769371089161697329433497281127780]] [],ag (aE cK) (af pg (af pg (ac aq) b4) cK),sIf pg (aF pg .ne (af pg (af pg (ac aq) bU) aM) (af pg (ac cK) aM)) [aU (.top 56) [dG [ai 111634733205214474620227309348608820196500966612218298810461728,af pg (ac cK) aM,ai 48517685933088,af pg (af pg (ac aq) bU) aM]]] []]⟩
noncomputable def cY:Fn:=⟨[aq,dj],[],[],[],[
    ag (lTg pg (.tup [.loc wg,.loc CT,.loc CU])) (ak pg (ac aq) tY .other [af pg (aA (.top 452)) bT,ac dj]),bd (ak pg (ac wg) gW .other [af pg (aA (.top 452)) bT,ac CT,ac CU]),bd (ak pg (ac aq) 1600218212 .other [af pg (aA (.top 452)) bT,ac wg,af pg (aA (.top 452)) bT])]⟩
noncomputable def iK:Fn:=⟨[bR,dj,p9,nN,jo],[.none,.none],[],[],[
    ag (aE 28004) (ak pg (aA (.top 1166)) v6 .other [ac dj,ac p9]),sIf pg (aF pg .ne (af pg (af pg (ac 28004) bG) bT) (ac bR)) [aU (.top 31) [dG [ai 328064995595707130060839,ac bR,ai 2822666695078060071,af pg (af pg (ac 28004) bG) bT,ai 39]]] [],sIf pg (ac nN) [sIf pg (aF pg .is_ (ac jo) (bh)) [ag (aE jo) (ac bR)] [],bd (ak pg (ac nN) gW .other [ac jo,af pg (ac 28004) pZ,af pg (ac 28004) cW])] [],aL (js [af pg (ac 28004) bG,af pg (ac 28004) pZ,af pg (ac 28004) cW])]⟩
noncomputable def uh:Fn:=⟨[],[],[],[],[
    aL (c9 [ai ua,ai 132140749778798,ai 133240261406574])]⟩
noncomputable def wh:Fn:=⟨[],[],[],[],[
    aL (aV [(ai cn,ai 97),(ai b4,ai 116),(ai bU,ai 115),(ai bJ,ai 97)])]⟩
noncomputable def ld:Fn:=⟨[bR,1952807028,qa],[],[],[],[
    ag (aE fR) (aH pg (aC pg (aA (.top 1345)) []) (ac bR)),ag (aE ue) (iX pg (aF pg .eq (ac fR) (ai 115)) (ai 116) (ai 115)),sIf pg (aF pg .eq (ac qa) (ay 4)) [aL (c9 [])] [],ag (aE 1751215716) (iX pg (eOr pg [aF pg .eq (ac qa) (ay 1),aF pg .eq (ac qa) (ay 2)]) (ac ue) (ac fR)),aL (c9 [aV [(ai bE,iX pg (aF pg .eq (ac qa) (ay 2)) (ac ue) (ac fR)),(ai iD,bA df .add (bA df .add (bA df .add (bA df .add (ai 112) (ac 1751215716)) (ai 58)) (ac 1952807028)) (iX pg (aF pg .eq (ac qa) (ay 3)) (ai 46) (ai 0)))]])]⟩
noncomputable def wi:Fn:=⟨[bR,cR],[],[cR],[],[
    ag (aE bG) (aV [(ai cA,ac bR),(ai aM,ay 1),(ai bK,ai 54074446590769),(ai bX,ay 9)]),sIf pg (aF pg .eq (ac bR) (ai cn)) [ag (cb (ac bG) (ai gX)) (cf true),ag (cb (ac bG) (ai d5)) (ea pg (ac cG) (aV [(ai iy,ai 107),(ai iz,ai 115),(ai gV,aV [(ai 123649464756579,bA df .add (ai 112) (ac cG))])]) (.loc cG) .plain (ai 6386548) [] []),ag (cb (ac bG) (ai dC)) (ea pg (ac cG) (aV [(ai fD,c9 [aH pg (aC pg (aA (.top 1345)) []) (ac cG)]),(ai dQ,ay 1)]) (.loc cG) .plain (aC pg (aA (.top 1345)) []) [] []),aL (aV [(ai cW,aC pg (aA (.top 1352)) [ac bR,aA (.str (.lit CK)),ay 0]),(ai bG,ac bG)])] [],sIf pg (aF pg .eq (ac bR) (ai bJ)) [ag (cb (ac bG) (ai bJ)) (aV []),aL (aV [(ai cW,c9 []),(ai bG,ac bG)])] [],ag (cb (ac bG) (ai aM)) (aH pg (aG cR) (ay 0)),ag (cb (ac bG) (ai b7)) (ea pg (ac cG) (aV [(ai aM,aH pg (aH pg (aG cR) (ay 1)) (ac cG))]) (.loc cG) .plain (aH pg (aG cR) (ay 1)) [] [cR]),ag (aE fP) (ak pg (ai 44) 1785686382 .join [gn pg (D8 761487669299114765124245260717148644078609533 [ac cG,aH pg (aH pg (aG cR) (ay 1)) (ac cG)]) (.loc cG) .plain (aC pg (aA (.blt .sorted)) [aH pg (aG cR) (ay 1)]) [] [cR]]),ag (aE 1952807028) (D8 1995888931218245985690203249244025848687563671085647514188834173263146002319704281819011512552707108735855434489185822088459659648204107355376231033835064900255566485970295147816061 [ac bR,ac fP,aH pg (aG cR) (ay 0)]),aL (aV [(ai cW,aC pg (aA (.top 1352)) [ac bR,ac 1952807028,aH pg (aG cR) (ay 2)]),(ai bG,ac bG)])]⟩
noncomputable def ui:Fn:=⟨[jp],[],[],[],[
    jT [aL (aC pg (ac jp) [])] (.ty .ValueError) [aL (ai nS)] []]⟩
noncomputable def nW:Fn:=⟨[fP],[],[fP],[],[
    aL (ea pg (ac cG) (af pg (aH pg (aG fP) (ac cG)) aM) (.loc cG) .plain (aG fP) [] [fP])]⟩
noncomputable def wj:Fn:=⟨[cR,dl,d7],[],[cR,dl],[],[
    ag (aE 7234935) (gn pg (ac cG) (.loc cG) .plain (aG dl) [eOr pg [aF pg .notIn (ac cG) (aH pg (aG cR) (ay 1)),aF pg .lt (aH pg (aH pg (aG cR) (ay 1)) (ac cG)) (aH pg (aG dl) (ac cG))]] [dl,cR]),ag (aE 7302244) (ea pg (ac cG) (aH pg (aH pg (aG cR) (ay 1)) (ac cG)) (.loc cG) .plain (ac 7234935) [aF pg .in_ (ac cG) (aH pg (aG cR) (ay 1))] [cR]),ag (aE nQ) (eOr pg [ac d7,aF pg .ne (aH pg (aG cR) (ay 2)) (ay 0),aF pg .ne (ac 7234935) (c9 [])]),sIf pg (ac nQ) [ag (aE fP) (aC pg (aA (.ty .dict)) [aH pg (aG cR) (ay 1)]),jS pg (.loc cG) .plain (ac 7234935) [ag (cb (ac fP) (ac cG)) (aH pg (aG dl) (ac cG))],Iv pg df (aG cR) (ay 0) (ay 1),ag (cb (aG cR) (ay 1)) (ac fP),ag (cb (aG cR) (ay 2)) (ay 0)] [],aL (js [ac nQ,ac 7302244])]⟩
noncomputable def nX:Fn:=⟨[cF,bM,dl,d7],[],[cF,d7],[],[
    ag (aE dS) (aC pg (aA (.top 1364)) [se 0 [cF,d7]]),ag (lTg pg (.tup [.loc nQ,.loc 7302244])) (aC pg (aA (.top 1374)) [aH pg (ac bM) (ai bU),ac dl,aG d7]),aL (hX pg [aF pg .ne (ac dS) (ai nS),aF pg .is_ (aH pg (ac dS) (ay 0)) (ac nQ),aF pg .eq (aC pg (aA (.top 1369)) [aH pg (ac dS) (ay 1)]) (ac 7302244)])]⟩
noncomputable def l5:Fn:=⟨[cF,bM,d7],[],[cF,d7],[],[
    ag (ba pg (aG cF) jm) (aC pg (aA (.top 577)) [aH pg (aH pg (ac bM) (ai bU)) (ay 0)]),ag (aE dS) (aC pg (aA (.top 1364)) [se 1 [cF,d7]]),ag (lTg pg (.tup [.loc nQ,.loc 7302244])) (aC pg (aA (.top 1374)) [aH pg (ac bM) (ai b4),aV [(ai nJ,aH pg (aH pg (ac bM) (ai bU)) (ay 0))],aG d7]),aL (hX pg [aF pg .ne (ac dS) (ai nS),aF pg .is_ (aH pg (ac dS) (ay 0)) (ac nQ),iX pg (aF pg .eq (ac 7302244) (aV [])) (aF pg .is_ (aH pg (ac dS) (ay 1)) (bh)) (hX pg [aF pg .isNot (aH pg (ac dS) (ay 1)) (bh),aF pg .eq (af pg (aH pg (ac dS) (ay 1)) aM) (aH pg (ac 7302244) (ai nJ))])])]⟩
noncomputable def uj:Fn:=⟨[fS,kB],[],[lN],[],[
    ag (lTg pg (.cel lN)) (qk [(d9 114,js [ai cn,bh]),(d9 116,js [ai b4,aH pg (ac kB) (ai b4)]),(d9 115,js [ai bU,aH pg (ac kB) (ai bU)])]),sIf pg (aF pg .isNot (ac fS) (bh)) [ag (cb (aG lN) (d9 117)) (js [ai b4,aH pg (ac fS) (ai b4)]),ag (cb (aG lN) (d9 118)) (js [ai bU,aH pg (ac fS) (ai bU)])] [],ag (aE qb) (aC pg (aA (.top 1319)) [d9 114,se 2 [lN],se 3 [],ay 4]),sIf pg (aF pg .isNot (ac fS) (bh)) [bd (ak pg (ac qb) rt .other [d9 117])] [],sIf pg (eOr pg [aF pg .is_ (ac fS) (bh),aF pg .lt (aH pg (aH pg (ac fS) (ai b4)) (ay 0)) (aH pg (aH pg (ac kB) (ai b4)) (ay 0))]) [bd (ak pg (ac qb) rt .other [d9 116])] [],sIf pg (aF pg .isNot (ac fS) (bh)) [jT [bd (ak pg (ac qb) ro .other [d9 118,cf true]),sIf pg (aF pg .ne (aH pg (aH pg (ac fS) (ai bU)) (ay 0)) (aH pg (aH pg (ac kB) (ai bU)) (ay 0))) [aL (cf false)] []] (.top 56) [sIf pg (aF pg .eq (aH pg (aH pg (ac fS) (ai bU)) (ay 0)) (aH pg (aH pg (ac kB) (ai bU)) (ay 0))) [aL (cf false)] []] []] [],ag (aE dS) (ak pg (ac qb) ro .other [d9 115]),aL (hX pg [aF pg .eq (af pg (ac dS) aM) (aH pg (aH pg (ac kB) (ai bU)) (ay 0)),aF pg .eq (aC pg (aA (.top 1369)) [af pg (ac dS) b7]) (aH pg (aH pg (ac kB) (ai bU)) (ay 1)),aF pg .eq (af pg (af pg (ac qb) b4) aM) (aH pg (aH pg (ac kB) (ai b4)) (ay 0))])]⟩
noncomputable def zC:Fn:=⟨[cF,lO,nR,ue],[],[bR],[],[
    ag (lTg pg (.cel bR)) (aH pg (c9 [ai cn,ai b4,ai bU,ai bJ,ai bU,ai b4,ai cn,ai cn]) (ac nR)),ag (cb (ac lO) (aG bR)) (aH pg (gn pg (ac p6) (.loc p6) .plain (aC pg (aA (.top 1345)) []) [aF pg .ne (ac p6) (aG bR)] [bR]) (ac ue)),jT [sIf pg (aF pg .eq (ac nR) (ay 0)) [bd (ak pg (ac cF) cn .other [])] [sIf pg (aF pg .eq (ac nR) (ay 1)) [bd (ak pg (ac cF) b4 .other [])] [sIf pg (aF pg .eq (ac nR) (ay 2)) [bd (ak pg (ac cF) bU .other [])] [sIf pg (aF pg .eq (ac nR) (ay 3)) [bd (ak pg (ac cF) bJ .other [])] [sIf pg (aF pg .in_ (ac nR) (c9 [ay 4,ay 6])) [bd (ak pg (ac cF) tW .other [])] [bd (ak pg (ac cF) tX .other [])]]]]]] (.ty .AssertionError) [aL (cf true)] [],aL (cf false)]⟩
noncomputable def Nc:CS:=ag (aE qc) (iX pg (ac 126870958469236) (aH pg (ac 126870958469236) (ay 0)) (ay 0))
noncomputable def CV:CS:=ag (aE 495873782388) (bA df .add (ay 1) (bA df .mod (ac qc) (ay 3)))
noncomputable def CW:CS:=ag (lTg pg (.cel dl)) (aV [(ai ua,bA df .add (ay 1) (bA df .mod (bA df .fdiv (ac qc) (ay 3)) (ay 3)))])
noncomputable def CY:CS:=ag (lTg pg (.cel bM)) (aV [(ai bU,c9 [ac 495873782388,aV [(ai ua,aH pg (aG dl) (ai ua)),(ai 134339773034350,ay 2)],ay 0]),(ai b4,c9 [bA df .add (ay 1) (bA df .mod (bA df .fdiv (ac qc) (ay 9)) (ay 4)),aV [(ai nJ,ac 495873782388)],ay 0])])
noncomputable def CZ:CS:=ag (lTg pg (.cel g0)) (ea pg (ac bR) (c9 [aH pg (aH pg (aG bM) (ac bR)) (ay 0),aC pg (aA (.ty .dict)) [aH pg (aH pg (aG bM) (ac bR)) (ay 1)],ay 0]) (.loc bR) .plain (aG bM) [] [bM])
noncomputable def C0:CS:=ag (lTg pg (.cel iC)) (c9 [])
noncomputable def C1:CS:=ag (lTg pg (.cel lO)) (aV [])
noncomputable def C2:CS:=Ai pg 4 [g0,lO] (.loc rG)
noncomputable def C3:CS:=Ai pg 5 [g0,iC] (.loc 1936225652)
noncomputable def C4:CS:=ag (lTg pg (.cel cF)) (aC pg (aA (.top 1080)) [ac rG,ac 1936225652,ea pg (ac cG) (aC pg (aA (.top 577)) [aH pg (aG dl) (ac cG)]) (.loc cG) .plain (aG dl) [] [dl],aC pg (aA (.top 577)) [ac 495873782388]])
noncomputable def wm:CS:=ag (aE fS) (bh)
noncomputable def MV:CS:=Aj
noncomputable def C5:CS:=sIf pg (eOr pg [f7 pg (aC pg (aA (.top 1381)) [aG cF,aG bM,aG dl,cf false]),f7 pg (aC pg (aA (.top 1388)) [aG cF,aG bM,cf false]),aF pg .ne (aG g0) (aG bM)]) [aL (cf false)] []
noncomputable def wn:CS:=sIf pg (eOr pg [aF pg .ne (af pg (ak pg (aG cF) cn .other []) aM) (ay 1),aF pg .ne (af pg (ak pg (aG cF) bJ .other []) bT) (ai bJ),aF pg .ne (af pg (ak pg (aG cF) bU .other []) aM) (aH pg (aH pg (aG bM) (ai bU)) (ay 0)),aF pg .ne (af pg (ak pg (aG cF) b4 .other []) aM) (aH pg (aH pg (aG bM) (ai b4)) (ay 0))]) [aL (cf false)] []
noncomputable def wo:CS:=ag (aE rL) (aC pg (aA (.blt .len)) [aG iC])
noncomputable def wp:CS:=sIf pg (eOr pg [f7 pg (aC pg (aA (.top 1400)) [aG cF,aG lO,bA df .mod (bA df .fdiv (ac qc) (ay 36)) (ay 8),bA df .mod (bA df .fdiv (ac qc) (ay 288)) (ay 3)]),aF pg .ne (aC pg (aA (.blt .len)) [aG iC]) (ac rL),aF pg .ne (aG g0) (aG bM)]) [aL (cf false)] []
noncomputable def wq:CS:=aL (aC pg (aA (.top 1395)) [ac fS,aG bM])
noncomputable def uk:List Nm:=[dl,bM,g0,iC,lO,cF,eT,rM]
noncomputable def rO:CS:=ag (aE jp) (bA df .mod (ac 121450625394034) (ay 8))
noncomputable def rP:CS:=ag (lTg pg (.cel eT)) (bA df .fdiv (ac 121450625394034) (ay 8))
noncomputable def rQ:CS:=ag (aE rL) (aC pg (aA (.blt .len)) [aG iC])
noncomputable def rR:CS:=ag (lTg pg (.cel rM)) (c9 [aH pg (aH pg (aG bM) (ai bU)) (ay 0),aH pg (aH pg (aG bM) (ai b4)) (ay 0)])
noncomputable def rS:CS:=ag (aE cG) (aH pg (aC pg (aA (.top 1338)) []) (bA df .mod (aG eT) (ay 3)))
noncomputable def rT:CS:=sIf pg (aF pg .lt (ac jp) (ay 2)) [ag (cb (aG dl) (ac cG)) (bA df .add (bA df .add (ak pg (aG dl) 6776180 .get [ac cG,ay 0]) (ay 1)) (bA df .mod (bA df .fdiv (aG eT) (ay 3)) (ay 2))),ag (cb (af pg (aG cF) lM) (ac cG)) (aC pg (aA (.top 577)) [aH pg (aG dl) (ac cG)])] [sIf pg (aF pg .lt (ac jp) (ay 4)) [sIf pg (f7 pg (aC pg (aA (.top 1381)) [aG cF,aG bM,aG dl,aF pg .eq (bA df .mod (aG eT) (ay 5)) (ay 4)])) [aL (cf false)] []] [sIf pg (aF pg .lt (ac jp) (ay 6)) [sIf pg (f7 pg (aC pg (aA (.top 1388)) [aG cF,aG bM,aF pg .eq (bA df .mod (aG eT) (ay 5)) (ay 4)])) [aL (cf false)] []] [sIf pg (eOr pg [aF pg .eq (ac jp) (ay 6),aF pg .eq (bA df .mod (aG eT) (ay 3)) (ay 2)]) [ag (aE dS) (ak pg (aH pg (aH pg (aG bM) (ai bU)) (ay 1)) 6776180 .get [ac cG,ay 1]),sIf pg (hX pg [aF pg .eq (ac jp) (ay 6),aF pg .gt (ac dS) (ay 1)]) [ag (cb (af pg (aG cF) lM) (ac cG)) (aC pg (aA (.top 577)) [bA df .sub (ac dS) (ay 1)]),sIf pg (aF pg .ne (aC pg (aA (.top 1364)) [se 6 [cF,eT]]) (ai nS)) [aL (cf false)] [],ag (cb (af pg (aG cF) lM) (ac cG)) (aC pg (aA (.top 577)) [aH pg (aG dl) (ac cG)])] [],ag (aE dS) (aH pg (aH pg (aH pg (aG bM) (ai b4)) (ay 1)) (ai nJ)),sIf pg (hX pg [aF pg .eq (ac jp) (ay 7),aF pg .gt (ac dS) (ay 1)]) [ag (ba pg (aG cF) jm) (aC pg (aA (.top 577)) [bA df .sub (ac dS) (ay 1)]),sIf pg (aF pg .ne (aC pg (aA (.top 1364)) [se 7 [cF,eT]]) (ai nS)) [aL (cf false)] []] []] [ag (aE bR) (aH pg (c9 [ai bU,ai b4]) (bA df .mod (aG eT) (ay 3))),ag (cb (aH pg (aG bM) (ac bR)) (ay 2)) (bA df .add (ay 1) (bA df .mod (bA df .fdiv (aG eT) (ay 3)) (ay 4))),ag (cb (aH pg (aG g0) (ac bR)) (ay 2)) (bA df .add (ay 1) (bA df .mod (bA df .fdiv (aG eT) (ay 3)) (ay 4)))]]]]
noncomputable def rU:CS:=sIf pg (eOr pg [aF pg .ne (aG g0) (aG bM),aF pg .ne (Ah (aG iC) (ac rL)) (gn pg (ac bR) (.tup [.loc 107,.loc bR]) .enum (c9 [ai bU,ai b4]) [aF pg .ne (aH pg (aH pg (aG bM) (ac bR)) (ay 0)) (aH pg (aG rM) (ac 107))] [rM,bM])]) [aL (cf false)] []
noncomputable def wt:CS:=sIf pg (hX pg [aF pg .is_ (ac fS) (bh),aF pg .in_ (ac jp) (c9 [ay 4,ay 5]),aF pg .eq (aH pg (aH pg (aG bM) (ai bU)) (ay 2)) (ay 0)]) [ag (aE fS) (ea pg (ac bR) (c9 [aH pg (aH pg (aG bM) (ac bR)) (ay 0),aC pg (aA (.ty .dict)) [aH pg (aH pg (aG bM) (ac bR)) (ay 1)],ay 0]) (.loc bR) .plain (aG bM) [] [bM])] []
noncomputable def pf:Pf:={ fns:=(.fork 976 (.fork 372 (.fork 244 (.fork 182 (.fork 136 (.fork 122 (.one 122 (iZ)) (.one 136 (iF))) (.fork 168 (.one 168 (oH)) (.one 182 (nT)))) (.fork 199 (.fork 192 (.one 192 (rN)) (.one 199 (g8))) (.fork 222 (.one 222 (oI)) (.fork 230 (.one 230 (la)) (.one 244 (dT)))))) (.fork 297 (.fork 261 (.fork 254 (.one 254 (ef)) (.one 261 (jF))) (.fork 283 (.one 283 (nU)) (.one 297 (lY)))) (.fork 328 (.fork 307 (.one 307 (oJ)) (.one 328 (eJ))) (.fork 335 (.one 335 (eK)) (.fork 365 (.one 365 (cN)) (.one 372 (dU))))))) (.fork 574 (.fork 435 (.fork 406 (.fork 392 (.one 392 (nV)) (.one 406 (lZ))) (.fork 414 (.one 414 (oK)) (.one 435 (fX)))) (.fork 533 (.fork 442 (.one 442 (oL)) (.one 533 (jG))) (.fork 547 (.one 547 (i0)) (.fork 567 (.one 567 (kC)) (.one 574 (dF)))))) (.fork 642 (.fork 610 (.fork 596 (.one 596 (i1)) (.one 610 (iG))) (.fork 620 (.one 620 (jH)) (.one 642 (jI)))) (.fork 666 (.fork 656 (.one 656 (i2)) (.one 666 (kD))) (.fork 952 (.one 952 (kE)) (.fork 966 (.one 966 (jJ)) (.one 976 (lb)))))))) (.fork 1242 (.fork 1101 (.fork 1046 (.fork 1032 (.fork 1018 (.one 1018 (ug)) (.one 1032 (iH))) (.fork 1039 (.one 1039 (lc)) (.one 1046 (g9)))) (.fork 1061 (.fork 1053 (.one 1053 (iI)) (.one 1061 (i3))) (.fork 1069 (.one 1069 (gj)) (.fork 1077 (.one 1077 (fY)) (.one 1101 (kF)))))) (.fork 1148 (.fork 1130 (.fork 1116 (.one 1116 (jK)) (.one 1130 (gK))) (.fork 1138 (.one 1138 (i4)) (.one 1148 (iJ)))) (.fork 1198 (.fork 1184 (.one 1184 (eL)) (.one 1198 (fZ))) (.fork 1227 (.one 1227 (eh)) (.fork 1234 (.one 1234 (f4)) (.one 1242 (eH))))))) (.fork 1345 (.fork 1288 (.fork 1273 (.fork 1250 (.one 1250 (eM)) (.one 1273 (du))) (.fork 1280 (.one 1280 (cH)) (.one 1288 (dD)))) (.fork 1316 (.fork 1295 (.one 1295 (cL)) (.one 1316 (cY))) (.fork 1331 (.one 1331 (iK)) (.fork 1338 (.one 1338 (uh)) (.one 1345 (wh)))))) (.fork 1369 (.fork 1357 (.fork 1352 (.one 1352 (ld)) (.one 1357 (wi))) (.fork 1364 (.one 1364 (ui)) (.one 1369 (nW)))) (.fork 1381 (.fork 1374 (.one 1374 (wj)) (.one 1381 (nX))) (.fork 1388 (.one 1388 (l5)) (.fork 1395 (.one 1395 (uj)) (.one 1400 (zC))))))))),lams:=(.fork 3 (.fork 1 (.fork 0 (.one 0 (MN)) (.one 1 (MO))) (.fork 2 (.one 2 (MP)) (.one 3 (MQ)))) (.fork 5 (.fork 4 (.one 4 (MR)) (.one 5 (MS))) (.fork 6 (.one 6 (MT)) (.one 7 (MU))))) }
end
end
end Mine
namespace Mine
section
open PySem PySem.W PySem.Calls PyProof.Rows
section
noncomputable def frg (m:Nat):Nat->List Obj->Frag
  | _,[]=>[]
  | n,o::l=>match Nat.beq (Nat.land (Nat.shiftRight m n) 1) 1 with
    | true=>(n,o)::frg m (n + 1) l
    | false=>frg m (n + 1) l
@[irreducible] noncomputable def kf (P:Params):Frag:=frg 0x339dbb76e73b73b76eddb3fb76eddbb7b76edededededdbdbb76eddbb569fdb9fb7ededdbb6b7275a7f6f6f6f6eddbb56ed3eddbb7b7b7eddbb75d3eddbf6edfb76f6edad3fb73f6eddb5a7dbb76edfb76edd7769f6fdbb7eddbb75d3edfb76edd74fb7eddbb75d3eddbf6fdbb76d69ffb7edfb7edfb569f6eddbb76e7eddb9d74fb76ad3fdbdbb569fdbf6eddb5a7f6edfb76eded5b9fdbb7eddbb6b4fedfb76edad3d69d69d69d69d69d69eb76aaff 0 (hL P)
theorem Jq (P:Params):(kf P).map (fun e=>BT.get (bt 12 (hL P)) e.1)=(kf P).map (fun e=>some e.2):=by kernel_rfl
end
end
end Mine
namespace Mine
section
open PySem PySem.W PySem.Calls PyProof.Rows
section
noncomputable def hJ:List dJ:=[⟨[126870958469236,1751474532,495873782388,131260348654948,6583653,1919904869,122528528754020,1936225652,1851878757,435426585721,121450625394034,1684366692,108187649798757,8531350909138988659,1953459300,109317377451364,1836020325,540221002019735644107385,32500882703672676,512970878052,389105274567906997269113,5576991674710191205,7103854,450624087419648520054131,7560217649442689799026486308724,1935415718257346678372489307975024,450624087419674574808420,1871080539643590046821,6875977896418042980,450624087419674289726830],1404,1402, "law.<locals>.", [((1043,4), "opened"),((1047,4), "shut"),((1072,30), "<lambda>"),((1078,30), "<lambda>")],false⟩,⟨[540221002019735644107385,6583653,131260348654948,439956431717,1953459300,1835099237,7302244,450624087419674574808420,1760250341482985251941,7560217649442903457238224957043],1380,1376, "_law_snapshot.<locals>.", [((987,22), "<lambda>")],false⟩,⟨[540221002019735644107385,6583653,439956431717,1953459300,1835099237,7302244,5576991674710191205,450624087419674574808420,1760250341482985251941],1387,1383, "_law_timestamp.<locals>.", [((992,22), "<lambda>")],false⟩,⟨[435426585721,1818325876,109317275872884,1953459300,495672716390,7356380327247285870318449856924900176127348,97015117769306598532143648445730533511319914704754,7560217649442903457238224957043],1394,1390, "_law_taken.<locals>.", [((1000,38), "<lambda>"),((1000,94), "<lambda>")],false⟩,⟨[1936026726,33325589488824174,35726654613372751525421084526,28561396848551283,2618808466638730027084704185175413909327996019,2129474557242986034036,121762899773006744560479268275395497185389524373326,7103854,6384748,407920666966016633499506],229,225, "Signed.__init__.<locals>.", [],true⟩]
noncomputable def ltX:Lt:=[((987,22),0),((992,22),1),((1000,38),2),((1000,94),3),((1043,4),4),((1047,4),5),((1072,30),6),((1078,30),7)]
noncomputable def FN:List (Addr×(Addr×Addr)):=[(392,(452,230)),(596,(623,230)),(642,(669,230)),(952,(1009,230))]
noncomputable abbrev cu:Program:=PySem.Challenge.pw_jk0053_01
noncomputable def fF (K:Frag):FuncData:=match K.lookup 1405 with
  | some ⟨_,_,.func fd,_⟩=>fd
  | _=>default
noncomputable def kG (K:Frag):List Stmt:=match (fF K).body with
  | .stmts ss=>ss
  | _=>[]
noncomputable def wu:List Stmt->List Stmt
  | []=>[]
  | .For _ _ b _ _::_=>b
  | _::l=>wu l
noncomputable def wv (T:Trs pg df) (sc:Scope) (ss:List Stmt):List Rq:=ss.flatMap fun st=>(T.s sc st).rq
noncomputable abbrev TX:Trs pg df:=trN pg df ltX
noncomputable def jL (K:Frag):List Rq:=wv TX (fF K).scope (((kG K).drop 1).take 10)++(wv TX (fF K).scope (wu (kG K))++wv TX (fF K).scope ((kG K).drop 12))
noncomputable def lsX:List Nat:=[1381,1388,1395]
theorem C6 (P:Params):pf.fns.list.map (H6 (kf P) pg df hJ cu ltX FN lsX)=pf.fns.list.map j8:=by kernel_rfl
theorem FO (P:Params):im ((pP (kf P) pg df hJ cu ltX FN lsX++jL (kf P)).filterMap nB)=true:=by kernel_rfl
theorem zE (P:Params):pf.lams.list.map (vA pg df hJ ltX (pP (kf P) pg df hJ cu ltX FN lsX++jL (kf P)))=pf.lams.list.map j8:=by kernel_rfl
theorem ww (P:Params):(jL (kf P)).all (rqB hJ)=true:=by kernel_rfl
theorem LS (P:Params):H2 (kf P) pg=true:=by kernel_rfl
theorem Jr (P:Params):(im (hJ.map (·.tab))&&hJ.all (B2 (kf P)))=true:=by kernel_rfl
end
section
theorem FP (P:Params):((kf P).lookup sysModules).isSome=true:=by kernel_rfl
theorem Js {ctx:List dJ} (h:(ctx.map (·.tab)).Nodup):∀ q∈Ft ctx,q.1∉Fu ctx:=fun q hq hf=>by
  obtain ⟨e,he,rfl⟩:=List.mem_map.mp hq
  obtain ⟨e',he',q'⟩:=List.mem_map.mp hf
  obtain ⟨h1,h2⟩:=List.mem_filter.mp he
  obtain ⟨h3,h4⟩:=List.mem_filter.mp he'
  have:=pN h e' h3 e h1 q'
  subst this
  rw [h4] at h2; cases h2
theorem C7:(hJ.map (·.tab)).Nodup:=fk (by decide +kernel)
noncomputable def aS (w:World) (os:OsState) (nu:Nat->Int) (h0:nu 0=0) (hB:∀ x,hO x=false->-100000≤nu x∧nu x≤100000) (hD:∀ d∈df,d.ok nu) (om:Nat->Value):Cx:=
  { prog:=cu,w:=w,nu:=nu,h0:=h0,hB:=hB,D:=df,hD:=hD,om:=om,K:=kf w.params,P:=pg,pok:=Fp (LS w.params),mods:=FP w.params,fn:=Jb (pP (kf w.params) pg df hJ cu ltX FN lsX++jL (kf w.params)),os:=os,tb:=Ft hJ,cq:=Fq hJ,tf:=Fu hJ,tbf:=Js C7 }
section
variable {w:World} {os:OsState} {nu:Nat->Int} {h0:nu 0=0} {hB:∀ x,hO x=false->-100000≤nu x∧nu x≤100000} {hD:∀ d∈df,d.ok nu} {om:Nat->Value}
theorem rV:zq (aS w os nu h0 hB hD om) hJ:=⟨rfl,rfl,rfl,C7,fun e he=>by
  have:=Jr w.params
  rw [Bool.and_eq_true] at this
  exact List.all_eq_true.mp this.2 e he⟩
theorem kH:tN (aS w os nu h0 hB hD om) (kf w.params) pg df hJ cu:=⟨⟨rfl,rfl⟩,rfl,rfl,rV⟩
theorem FQ:WOk (aS w os nu h0 hB hD om) pf:=Ji kH rfl (C6 w.params) (zE w.params) (FO w.params)
theorem rW (n:Nat):dz (aS w os nu h0 hB hD om) n (run pg pf n):=zg FQ n
theorem FS {sc:Scope} {st:Stmt} (h:∀ r∈(TX.s sc st).rq,r∈jL (kf w.params)):∀ r∈(TX.s sc st).rq,r.ok (aS w os nu h0 hB hD om):=fun r hr=>H4 rV rfl (List.mem_append_right _ (h r hr)) (List.all_eq_true.mp (ww w.params) r (h r hr))
theorem x9 {sc:Scope}:∀ {ss:List Stmt},(∀ r∈wv TX sc ss,r∈jL (kf w.params))->SndSs (aS w os nu h0 hB hD om) sc ss (fe TX sc ss).c
  | [],_=>(fe TX sc []).ok _ kH.b fun r hr=>(nomatch hr)
  | st::ss,h=>mR ((TX.s sc st).ok _ kH.b (FS fun r hr=>h r (List.mem_append_left _ hr))) (x9 fun r hr=>h r (List.mem_append_right _ hr))
end
noncomputable abbrev scL (P:Params):Scope:=(fF (kf P)).scope
noncomputable def ssA (P:Params):List Stmt:=((kG (kf P)).drop 1).take 10
noncomputable def ssB (P:Params):List Stmt:=wu (kG (kf P))
noncomputable def ssC (P:Params):List Stmt:=(kG (kf P)).drop 12
theorem LT (P:Params):(fe TX (scL P) (ssA P)).c=[CV,CW,CY,CZ,C0,C1,C2,C3,C4,wm]:=by kernel_rfl
theorem Jt (P:Params):(fe TX (scL P) (ssB P)).c=[rO,rP,rQ,rR,rS,rT,rU,wt]:=by kernel_rfl
theorem LU (P:Params):(fe TX (scL P) (ssC P)).c=[C5,wn,wo,wp,wq]:=by kernel_rfl
noncomputable def ya:Fn:=⟨[126870958469236],[],uk,[],[]⟩
theorem Ju (P:Params):B5 (kf P) hJ (fF (kf P)) ya=true:=by kernel_rfl
theorem zF (P:Params):vz (scL P).names uk=true:=by kernel_rfl
theorem LV (P:Params):codeIn (kf P) (fF (kf P)).code (fF (kf P)).qualname=true:=by kernel_rfl
theorem C8 (P:Params):nsIn (kf P) mainGlobals "law" = some (some (.ref 1405)):=by kernel_rfl
end
end
end Mine
namespace Mine
section
set_option maxHeartbeats 0
section
noncomputable def jq:AE:=⟨[(8531350909138988659,7),(1836020325,6),(540221002019735644107385,5),(32500882703672676,4),(109317377451364,3),(512970878052,2),(6583653,1),(131260348654948,0)],false,false⟩
noncomputable def jM (x:Nat) (a b:Int):List Fc:=[⟨0,x,-a⟩,⟨x,0,b⟩]
noncomputable def kI:List Fc:=jM 10 0 2++(jM 12 0 2++(jM 14 0 3++(jM 16 0 7++jM 18 0 2)))
noncomputable def ul (ss:List CS) (C:St) (k:St->Bool):Bool:=stmts (run pg pf 60) jq (fun _ _=>false) ss (fun fl σ=>fl.rec (k σ) false fun _=>false) C
noncomputable def wx:List (Nat×aj):=[(0,.cell none),(1,.cell none),(2,.cell none),(3,.cell none),(4,.cell none),(5,.cell none),(6,.cell none),(7,.cell none)]
noncomputable def stP:St:=⟨mkT wx,8,[],[(1751474532,lv 9),(126870958469236,.any 0)],kY kI⟩
noncomputable def zG:List (Nm×AV):=[(435426585721,.none),(1751474532,lv 9),(126870958469236,.any 0)]
noncomputable def Jv (M:Mp):Bool:=(List.range 8).all fun i=>oG M i i
noncomputable def C9 (σ:St):Bool:=(fun M=>mtB M σ (stX [] 0 none none [] zG []) (dN [] 0 none none []) (cg [] 0)&&(Jv M&&(Nat.beq M.lim 19&&ob (look M.v 31) fun e=>Nat.beq e.x 0&&iEq e.c 10))) (nD σ (dN [] 0 none none []) ⟨19,99,[(0,0),(1,1),(2,2),(3,3),(4,4),(5,5),(6,6),(7,7)],[(31,⟨0,10⟩)]⟩)
noncomputable def yb:List Fc:=jM 2 0 7++(jM 4 0 2++(jM 6 0 1++(jM 7 0 4++jM 8 0 3)))
noncomputable def FT:List (Nm×AV):=[(435426585721,.any 1),(1751474532,lv 9),(121450625394034,lv 1)]
noncomputable def wy:List (Nm×AV):=[(435426585721,.any 1),(1751474532,lv 9),(1684366692,lv 2)]
noncomputable def MW:List (Nm×AV):=[(435426585721,.any 1),(1751474532,lv 9),(1684366692,lv 2),(108187649798757,lv 33)]
noncomputable def xoM:List (Nat×aj):=[(58,.list [lv 20,lv 21])]
noncomputable def stM (fs:List Fc) (E:List Nat) (p:Nat):St:=stX E p (some (.int ⟨3,0⟩)) (some (.own 58)) xoM MW fs
noncomputable def Ib (ex:List Fc) (E:List Nat) (p:Nat):St->Bool:=xJ 19 99 4 [] none none [] wy ex (xK E p)
noncomputable def bk (lo hi:Int) (E:List Nat) (p:Nat):Bool:=ul [rO,rP,rQ,rR,rS,rT,rU] (stX E p none none [] FT (jM 2 lo hi++yb)) (Ib [] E p)
noncomputable def LW (E:List Nat) (p:Nat) (σ:St):Bool:=(fun M=>mtB M σ (stM [] E p) (dN E p (some (.int ⟨3,0⟩)) (some (.own 58)) xoM) (cg E p)&&(FA M&&LL M)) (nD σ (dN E p (some (.int ⟨3,0⟩)) (some (.own 58)) xoM) ⟨19,99,(M0 19 99 4 []).m,idV (lX E p)⟩)
noncomputable def gk (E:List Nat) (p:Nat):Bool:=ul [rO,rP,rQ,rR,rS] (stX E p none none [] FT yb) (LW E p)
noncomputable def cw (lo hi:Int) (ex:List Fc) (E:List Nat) (p:Nat):Bool:=ul [rT,rU] (stM (jM 2 lo hi++yb) E p) (Ib ex E p)
noncomputable def qd (T:List Nat):List (Nm×AV):=(kN 0,lv 42)::(134339773034350,.int ⟨0,2⟩)::T.map fun k=>(kN k,lv (42 + k))
noncomputable def dW (T:List Nat):List (Nat×aj):=[(60,lH 61 63),(61,.list [lv 40,.own 62,.int ⟨0,0⟩]),(63,.list [lv 41,.own 64,.int ⟨0,0⟩]),(62,.dict (qd T)),(64,snX 40)]
noncomputable def MX (a:AV):List (Nm×AV):=[(435426585721,a),(1751474532,lv 9),(1684366692,lv 2)]
noncomputable def aX (a:AV):List (Nm×AV):=[(435426585721,a),(1751474532,lv 9)]
noncomputable def eqF (x y:Nat):List Fc:=[⟨x,y,0⟩,⟨y,x,0⟩]
noncomputable def bf (fz:Nat) (loc:List (Nm×AV)) (ex:List Fc) (E:List Nat) (p:Nat) (σ:St):Bool:=mtB ⟨19,fz,Cg (dN E p none none []),idV (lX E p)⟩ σ (stX E p none none [] loc []) (dN E p none none []) (ex++cg E p)
noncomputable def exN (T:List Nat):List Fc:=eqF 40 20++(eqF 41 21++(eqF 40 22++(0::T).flatMap fun k=>eqF (42 + k) (23 + k)))
noncomputable def reL:List Nat:=[9,10,11,12,13,14,15,16,17,18]
noncomputable def Jw (E:List Nat) (p:Nat):Mp:=⟨0,1,Cg (dN E p none none []),idV (reL++lX E p)⟩
noncomputable def reB (E:List Nat) (p:Nat):Bool:=mtB (Jw E p) (stX E p none none [] [] []) (stX E p none none [] [] []) (dN E p none none []) (cg E p)&&((dN E p none none []).all (fun e=>Nat.blt e.1 60)&&FA (Jw E p))
noncomputable def LX (M:Mp):Bool:=M.v.all fun p=>iEq p.2.c 0&&(Nat.beq p.2.x p.1 || Nat.ble 40 p.1)
noncomputable def Da (E:List Nat) (p e:Nat) (σ:St):Bool:=(fun L=>(fun M=>mtB M σ (stX E p none none (dW (E.take p)) (aX (.own 60)) []) L (exN (E.take p)++cg E p)&&(Jv M&&(LX M&&(Nat.beq M.fz 1&&oG M 60 e))))
  (nD σ L ⟨19,1,[(0,0),(1,1),(2,2),(3,3),(4,4),(5,5),(6,6),(7,7),(60,e),(66,66)],idV (lX E p)⟩)) (dN E p none none (dW (E.take p)))
noncomputable def gl (E:List Nat) (p:Nat) (σ:St):Bool:=oe (op (look σ.loc 435426585721) AV.own?) (bf 1 (aX .none) [] E p σ) fun e=>Da E p e σ
noncomputable def aO (lo hi:Int) (a:AV) (fs:List Fc) (k:List Nat->Nat->St->Bool) (E:List Nat) (p:Nat):Bool:=ul [wt] (stX E p none none [] (MX a) (jM 2 lo hi++fs)) (k E p)
noncomputable def exA (E:List Nat):List Fc:=⟨29,0,0⟩::(0::E).map fun k=>⟨26 + k,23 + k,0⟩
noncomputable def exB (E:List Nat):List Fc:=⟨20,22,0⟩::⟨30,0,0⟩::exA E
noncomputable def Jx:C:=f7 pg (aC pg (aA (.top 1381)) [aG 540221002019735644107385,aG 6583653,aG 131260348654948,cf false])
noncomputable def Jy:C:=f7 pg (aC pg (aA (.top 1388)) [aG 540221002019735644107385,aG 6583653,cf false])
noncomputable def Jz:C:=aF pg .ne (aG 512970878052) (aG 6583653)
noncomputable def Db (ex:List Nat->List Fc) (E:List Nat) (p:Nat) (σ:St):Bool:=xJ 19 99 4 [] none none [] (aX (.any 1)) (ex E) (fun E' p' M σ=>eqN E' E&&(Nat.beq p' E.length&&xK E p E' p' M σ)) σ
noncomputable def MY:List C:=[Jx,Jy,Jz]
noncomputable def JA (c:C) (C:St) (k:St->Bool):Bool:=c (run pg pf 60) jq (fun a σ=>eB pg a σ fun q σ=>!q&&k σ) (fun _ _=>false) C
noncomputable def ei (E:List Nat) (p:Nat):Bool:=JA Jx (stX E p none none [] (aX (.any 1)) []) (Db exA E p)
noncomputable def jN (E:List Nat):Bool:=JA (eOr pg [Jy,Jz]) (stX E E.length none none [] (aX (.any 1)) (exA E)) (Db exB E E.length)
noncomputable def nY (E:List Nat):Bool:=ul [wn] (stX E E.length none none [] (aX (.any 1)) (exB E)) (bf 99 (aX (.any 1)) [] E E.length)
noncomputable def LY (E:List Nat) (p:Nat) (xo:List (Nat×aj)):List (Nat×aj):=[(1,.cell (some (.own 13))),(13,lH 10 12),(10,zu 20 9 29),(12,zu 21 11 30),(9,.dict (Ce E p)),(11,snX 22)]++xo
noncomputable def stR (E:List Nat) (p:Nat) (loc:List (Nm×AV)) (fs:List Fc):St:=⟨mkT (LY E p []),67,[66],loc,kY (fs++(cg E p++zv E p))⟩
noncomputable def Ic (E:List Nat) (σ:St):Bool:=mtB ⟨19,99,Cg (dN E E.length none none []),idV (lX E E.length)⟩ σ (stR E E.length (aX (.any 1)) []) (LY E E.length []) (exB E++cg E E.length)
noncomputable def nZ (E:List Nat):Bool:=ul [wo,wp] (stX E E.length none none [] (aX (.any 1)) (kI++exB E)) (Ic E)
noncomputable def LZ (fl:Fl) (σ:St):Bool:=fl.rec false false fun a=>oe a.eq? (ob a.bool? fun q=>q) fun p=>vB σ p.1 p.2
noncomputable def b9 (C:St):Bool:=stmts (run pg pf 60) jq (fun _ _=>false) [wq] LZ C
noncomputable def um (E:List Nat):St:=stR E E.length (aX .none) (exB E)
noncomputable def exE (T:List Nat):List Fc:=((0::T).flatMap fun k=>[⟨0,42 + k,-1⟩,⟨42 + k,26 + k,0⟩,⟨42 + k,0,1000⟩])++[⟨0,40,-1⟩,⟨0,41,-1⟩,⟨40,0,1000⟩,⟨41,0,1000⟩,⟨40,20,0⟩]
noncomputable def exS (same:Bool):List Fc:=be same (eqF 41 21++eqF 40 20) [⟨41,21,-1⟩]
noncomputable def L0 (T:List Nat) (σ:St):St:=((((σ.add (snX 40)).add (.dict (qd T))).add (.list [lv 41,.own 67,.int ⟨0,0⟩])).add (.list [lv 40,.own 68,.int ⟨0,0⟩])).add (lH 70 69)
noncomputable def fI (same:Bool) (E:List Nat) (q:Nat):St:=L0 (E.take q) (stR E E.length (aX (.own 71)) (exE (E.take q)++(exS same++exB E)))
theorem L3:ul [CV,CW,CY,CZ,C0,C1,C2,C3,C4,wm] stP C9=true:=by decide +kernel
end
section
theorem L4:aO 0 3 .none [] (bf 1 (aX .none) []) [] 0=true:=by decide +kernel
theorem L5:aO 6 7 .none [] (bf 1 (aX .none) []) [] 0=true:=by decide +kernel
theorem L6:aO 4 5 .none [⟨20,22,0⟩] gl [] 0=true:=by decide +kernel
theorem L7:aO 0 7 (.own 60) [] (bf 1 (aX (.own 60)) []) [] 0=true:=by decide +kernel
theorem JB:aO 0 3 .none [] (bf 1 (aX .none) []) [1] 0=true:=by decide +kernel
theorem JC:aO 6 7 .none [] (bf 1 (aX .none) []) [1] 0=true:=by decide +kernel
theorem JD:aO 4 5 .none [⟨20,22,0⟩] gl [1] 0=true:=by decide +kernel
theorem JE:aO 0 7 (.own 60) [] (bf 1 (aX (.own 60)) []) [1] 0=true:=by decide +kernel
theorem JF:aO 0 3 .none [] (bf 1 (aX .none) []) [1] 1=true:=by decide +kernel
theorem JG:aO 6 7 .none [] (bf 1 (aX .none) []) [1] 1=true:=by decide +kernel
theorem JH:aO 4 5 .none [⟨20,22,0⟩] gl [1] 1=true:=by decide +kernel
theorem JI:aO 0 7 (.own 60) [] (bf 1 (aX (.own 60)) []) [1] 1=true:=by decide +kernel
theorem JJ:aO 0 3 .none [] (bf 1 (aX .none) []) [2] 0=true:=by decide +kernel
theorem JK:aO 6 7 .none [] (bf 1 (aX .none) []) [2] 0=true:=by decide +kernel
theorem JL:aO 4 5 .none [⟨20,22,0⟩] gl [2] 0=true:=by decide +kernel
theorem JM:aO 0 7 (.own 60) [] (bf 1 (aX (.own 60)) []) [2] 0=true:=by decide +kernel
theorem JN:aO 0 3 .none [] (bf 1 (aX .none) []) [2] 1=true:=by decide +kernel
theorem JO:aO 6 7 .none [] (bf 1 (aX .none) []) [2] 1=true:=by decide +kernel
theorem JP:aO 4 5 .none [⟨20,22,0⟩] gl [2] 1=true:=by decide +kernel
theorem JQ:aO 0 7 (.own 60) [] (bf 1 (aX (.own 60)) []) [2] 1=true:=by decide +kernel
theorem FU:aO 0 3 .none [] (bf 1 (aX .none) []) [1,2] 0=true:=by decide +kernel
theorem FV:aO 6 7 .none [] (bf 1 (aX .none) []) [1,2] 0=true:=by decide +kernel
theorem FW:aO 4 5 .none [⟨20,22,0⟩] gl [1,2] 0=true:=by decide +kernel
theorem FX:aO 0 7 (.own 60) [] (bf 1 (aX (.own 60)) []) [1,2] 0=true:=by decide +kernel
theorem FY:aO 0 3 .none [] (bf 1 (aX .none) []) [1,2] 1=true:=by decide +kernel
theorem FZ:aO 6 7 .none [] (bf 1 (aX .none) []) [1,2] 1=true:=by decide +kernel
theorem F0:aO 4 5 .none [⟨20,22,0⟩] gl [1,2] 1=true:=by decide +kernel
theorem F2:aO 0 7 (.own 60) [] (bf 1 (aX (.own 60)) []) [1,2] 1=true:=by decide +kernel
theorem F3:aO 0 3 .none [] (bf 1 (aX .none) []) [1,2] 2=true:=by decide +kernel
theorem F4:aO 6 7 .none [] (bf 1 (aX .none) []) [1,2] 2=true:=by decide +kernel
theorem F5:aO 4 5 .none [⟨20,22,0⟩] gl [1,2] 2=true:=by decide +kernel
theorem F6:aO 0 7 (.own 60) [] (bf 1 (aX (.own 60)) []) [1,2] 2=true:=by decide +kernel
theorem F7:aO 0 3 .none [] (bf 1 (aX .none) []) [2,1] 0=true:=by decide +kernel
theorem F8:aO 6 7 .none [] (bf 1 (aX .none) []) [2,1] 0=true:=by decide +kernel
theorem F9:aO 4 5 .none [⟨20,22,0⟩] gl [2,1] 0=true:=by decide +kernel
theorem Ga:aO 0 7 (.own 60) [] (bf 1 (aX (.own 60)) []) [2,1] 0=true:=by decide +kernel
theorem Gb:aO 0 3 .none [] (bf 1 (aX .none) []) [2,1] 1=true:=by decide +kernel
theorem Gc:aO 6 7 .none [] (bf 1 (aX .none) []) [2,1] 1=true:=by decide +kernel
theorem Gd:aO 4 5 .none [⟨20,22,0⟩] gl [2,1] 1=true:=by decide +kernel
theorem Ge:aO 0 7 (.own 60) [] (bf 1 (aX (.own 60)) []) [2,1] 1=true:=by decide +kernel
theorem Gf:aO 0 3 .none [] (bf 1 (aX .none) []) [2,1] 2=true:=by decide +kernel
theorem Gg:aO 6 7 .none [] (bf 1 (aX .none) []) [2,1] 2=true:=by decide +kernel
theorem Gh:aO 4 5 .none [⟨20,22,0⟩] gl [2,1] 2=true:=by decide +kernel
theorem Gi:aO 0 7 (.own 60) [] (bf 1 (aX (.own 60)) []) [2,1] 2=true:=by decide +kernel
theorem L8:reB [] 0=true:=by decide +kernel
theorem JR:reB [1] 0=true:=by decide +kernel
theorem JS:reB [1] 1=true:=by decide +kernel
theorem JT:reB [2] 0=true:=by decide +kernel
theorem JU:reB [2] 1=true:=by decide +kernel
theorem Gj:reB [1,2] 0=true:=by decide +kernel
theorem Gk:reB [1,2] 1=true:=by decide +kernel
theorem Gl:reB [1,2] 2=true:=by decide +kernel
theorem Gn:reB [2,1] 0=true:=by decide +kernel
theorem Go:reB [2,1] 1=true:=by decide +kernel
theorem Gp:reB [2,1] 2=true:=by decide +kernel
end
section
theorem JV:ei [] 0=true:=by decide +kernel
theorem Gq:ei [1] 0=true:=by decide +kernel
theorem Gr:ei [1] 1=true:=by decide +kernel
theorem Gs:ei [2] 0=true:=by decide +kernel
theorem Gu:ei [2] 1=true:=by decide +kernel
theorem Dc:ei [1,2] 0=true:=by decide +kernel
theorem Dd:ei [1,2] 1=true:=by decide +kernel
theorem De:ei [1,2] 2=true:=by decide +kernel
theorem Dg:ei [2,1] 0=true:=by decide +kernel
theorem Dh:ei [2,1] 1=true:=by decide +kernel
theorem Di:ei [2,1] 2=true:=by decide +kernel
theorem JW:jN []=true:=by decide +kernel
theorem JX:nY []=true:=by decide +kernel
theorem JY:nZ []=true:=by decide +kernel
theorem Gv:jN [1]=true:=by decide +kernel
theorem Gw:nY [1]=true:=by decide +kernel
theorem Gx:nZ [1]=true:=by decide +kernel
theorem Gy:jN [2]=true:=by decide +kernel
theorem Gz:nY [2]=true:=by decide +kernel
theorem GA:nZ [2]=true:=by decide +kernel
theorem Dj:jN [1,2]=true:=by decide +kernel
theorem Dk:nY [1,2]=true:=by decide +kernel
theorem Dl:nZ [1,2]=true:=by decide +kernel
theorem Dm:jN [2,1]=true:=by decide +kernel
theorem Dn:nY [2,1]=true:=by decide +kernel
theorem Do:nZ [2,1]=true:=by decide +kernel
end
section
theorem JZ:b9 (um [])=true:=by decide +kernel
theorem J0:b9 (fI true [] 0)=true:=by decide +kernel
theorem GB:b9 (um [1])=true:=by decide +kernel
theorem GC:b9 (fI true [1] 1)=true:=by decide +kernel
theorem GD:b9 (um [2])=true:=by decide +kernel
theorem GE:b9 (fI true [2] 1)=true:=by decide +kernel
theorem Dp:b9 (um [1,2])=true:=by decide +kernel
theorem Dq:b9 (fI true [1,2] 2)=true:=by decide +kernel
theorem Dr:b9 (um [2,1])=true:=by decide +kernel
theorem Ds:b9 (fI true [2,1] 2)=true:=by decide +kernel
theorem J1:b9 (fI false [] 0)=true:=by decide +kernel
theorem GF:b9 (fI false [1] 0)=true:=by decide +kernel
theorem GG:b9 (fI false [1] 1)=true:=by decide +kernel
theorem GH:b9 (fI false [2] 0)=true:=by decide +kernel
theorem GI:b9 (fI false [2] 1)=true:=by decide +kernel
theorem Du:b9 (fI false [1,2] 0)=true:=by decide +kernel
theorem Dv:b9 (fI false [1,2] 1)=true:=by decide +kernel
theorem Dw:b9 (fI false [1,2] 2)=true:=by decide +kernel
theorem Dx:b9 (fI false [2,1] 0)=true:=by decide +kernel
theorem Dy:b9 (fI false [2,1] 1)=true:=by decide +kernel
theorem Dz:b9 (fI false [2,1] 2)=true:=by decide +kernel
end
section
theorem L9:bk 0 1 [] 0=true:=by decide +kernel
theorem Ma:gk [] 0=true:=by decide +kernel
theorem Mb:cw 2 3 [] [] 0=true:=by decide +kernel
theorem Mc:cw 4 5 [⟨20,22,0⟩] [] 0=true:=by decide +kernel
theorem Me:bk 6 6 [] 0=true:=by decide +kernel
theorem Mf:bk 7 7 [] 0=true:=by decide +kernel
theorem J2:bk 0 1 [1] 0=true:=by decide +kernel
theorem J3:gk [1] 0=true:=by decide +kernel
theorem J4:cw 2 3 [] [1] 0=true:=by decide +kernel
theorem J5:cw 4 5 [⟨20,22,0⟩] [1] 0=true:=by decide +kernel
theorem J6:bk 6 6 [1] 0=true:=by decide +kernel
theorem J7:bk 7 7 [1] 0=true:=by decide +kernel
theorem J8:bk 0 1 [1] 1=true:=by decide +kernel
theorem J9:gk [1] 1=true:=by decide +kernel
theorem Ka:cw 2 3 [] [1] 1=true:=by decide +kernel
theorem Kb:cw 4 5 [⟨20,22,0⟩] [1] 1=true:=by decide +kernel
theorem Kc:bk 6 6 [1] 1=true:=by decide +kernel
theorem Kd:bk 7 7 [1] 1=true:=by decide +kernel
theorem Ke:bk 0 1 [2] 0=true:=by decide +kernel
theorem Kf:gk [2] 0=true:=by decide +kernel
theorem Kg:cw 2 3 [] [2] 0=true:=by decide +kernel
theorem Kh:cw 4 5 [⟨20,22,0⟩] [2] 0=true:=by decide +kernel
theorem Ki:bk 6 6 [2] 0=true:=by decide +kernel
theorem Kj:bk 7 7 [2] 0=true:=by decide +kernel
theorem Kk:bk 0 1 [2] 1=true:=by decide +kernel
theorem Kl:gk [2] 1=true:=by decide +kernel
theorem Km:cw 2 3 [] [2] 1=true:=by decide +kernel
theorem Kn:cw 4 5 [⟨20,22,0⟩] [2] 1=true:=by decide +kernel
theorem Ko:bk 6 6 [2] 1=true:=by decide +kernel
theorem Kp:bk 7 7 [2] 1=true:=by decide +kernel
theorem GJ:bk 0 1 [1,2] 0=true:=by decide +kernel
theorem GK:gk [1,2] 0=true:=by decide +kernel
theorem GL:cw 2 3 [] [1,2] 0=true:=by decide +kernel
theorem GN:cw 4 5 [⟨20,22,0⟩] [1,2] 0=true:=by decide +kernel
theorem GO:bk 6 6 [1,2] 0=true:=by decide +kernel
theorem GP:bk 7 7 [1,2] 0=true:=by decide +kernel
theorem GQ:bk 0 1 [1,2] 1=true:=by decide +kernel
theorem GR:gk [1,2] 1=true:=by decide +kernel
theorem GS:cw 2 3 [] [1,2] 1=true:=by decide +kernel
theorem GT:cw 4 5 [⟨20,22,0⟩] [1,2] 1=true:=by decide +kernel
theorem GU:bk 6 6 [1,2] 1=true:=by decide +kernel
theorem GV:bk 7 7 [1,2] 1=true:=by decide +kernel
theorem GW:bk 0 1 [1,2] 2=true:=by decide +kernel
theorem GX:gk [1,2] 2=true:=by decide +kernel
theorem GY:cw 2 3 [] [1,2] 2=true:=by decide +kernel
theorem GZ:cw 4 5 [⟨20,22,0⟩] [1,2] 2=true:=by decide +kernel
theorem G0:bk 6 6 [1,2] 2=true:=by decide +kernel
theorem G1:bk 7 7 [1,2] 2=true:=by decide +kernel
theorem G2:bk 0 1 [2,1] 0=true:=by decide +kernel
theorem G3:gk [2,1] 0=true:=by decide +kernel
theorem G4:cw 2 3 [] [2,1] 0=true:=by decide +kernel
theorem G6:cw 4 5 [⟨20,22,0⟩] [2,1] 0=true:=by decide +kernel
theorem G7:bk 6 6 [2,1] 0=true:=by decide +kernel
theorem G8:bk 7 7 [2,1] 0=true:=by decide +kernel
theorem G9:bk 0 1 [2,1] 1=true:=by decide +kernel
theorem Ha:gk [2,1] 1=true:=by decide +kernel
theorem Hb:cw 2 3 [] [2,1] 1=true:=by decide +kernel
theorem Hc:cw 4 5 [⟨20,22,0⟩] [2,1] 1=true:=by decide +kernel
theorem Hd:bk 6 6 [2,1] 1=true:=by decide +kernel
theorem Hf:bk 7 7 [2,1] 1=true:=by decide +kernel
theorem Hg:bk 0 1 [2,1] 2=true:=by decide +kernel
theorem Hh:gk [2,1] 2=true:=by decide +kernel
theorem Hi:cw 2 3 [] [2,1] 2=true:=by decide +kernel
theorem Hj:cw 4 5 [⟨20,22,0⟩] [2,1] 2=true:=by decide +kernel
theorem Hk:bk 6 6 [2,1] 2=true:=by decide +kernel
theorem Hl:bk 7 7 [2,1] 2=true:=by decide +kernel
end
end
end Mine
namespace Mine
section
open PySem PySem.W PySem.Calls PyProof.Rows
set_option maxHeartbeats 0
section
theorem dX {Q:List Nat->Nat->Prop} (h0:Q [] 0) (h1:Q [1] 0) (h2:Q [1] 1) (h3:Q [2] 0) (h4:Q [2] 1) (h5:Q [1,2] 0) (h6:Q [1,2] 1) (h7:Q [1,2] 2) (h8:Q [2,1] 0) (h9:Q [2,1] 1) (h10:Q [2,1] 2) {E:List Nat} {p:Nat} (hE:E∈fg) (hp:p≤E.length):Q E p:=by
  have z:∀ {p:Nat} {P:Nat->Prop},P 0->p≤0->P p:=fun a h=>Nat.le_zero.mp h▸a
  have s:∀ {p n:Nat} {P:Nat->Prop},P (n + 1)->(p≤n->P p)->p≤n + 1->P p:=fun a b h=>(Nat.le_succ_iff.mp h).elim b fun e=>e▸a
  exact (List.mem_cons.mp hE).elim (fun e=>by subst e; exact z h0 hp) fun hE=>(List.mem_cons.mp hE).elim (fun e=>by subst e; exact s h2 (z h1) hp) fun hE=>(List.mem_cons.mp hE).elim (fun e=>by subst e; exact s h4 (z h3) hp) fun hE=>(List.mem_cons.mp hE).elim (fun e=>by subst e; exact s h7 (s h6 (z h5)) hp) fun hE=>by
    cases List.mem_singleton.mp hE; exact s h10 (s h9 (z h8)) hp
section
variable {E:List Nat} {p:Nat} (hE:E∈fg) (hp:p≤E.length)
include hE hp
theorem k_a:bk 0 1 E p=true:=dX (Q:=fun E p=>bk 0 1 E p=true) L9 J2 J8 Ke Kk GJ GQ GW G2 G9 Hg hE hp
theorem k_p:gk E p=true:=dX (Q:=fun E p=>gk E p=true) Ma J3 J9 Kf Kl GK GR GX G3 Ha Hh hE hp
theorem k_q:cw 2 3 [] E p=true:=dX (Q:=fun E p=>cw 2 3 [] E p=true) Mb J4 Ka Kg Km GL GS GY G4 Hb Hi hE hp
theorem k_r:cw 4 5 [⟨20,22,0⟩] E p=true:=dX (Q:=fun E p=>cw 4 5 [⟨20,22,0⟩] E p=true) Mc J5 Kb Kh Kn GN GT GZ G6 Hc Hj hE hp
theorem k_s:bk 6 6 E p=true:=dX (Q:=fun E p=>bk 6 6 E p=true) Me J6 Kc Ki Ko GO GU G0 G7 Hd Hk hE hp
theorem k_t:bk 7 7 E p=true:=dX (Q:=fun E p=>bk 7 7 E p=true) Mf J7 Kd Kj Kp GP GV G1 G8 Hf Hl hE hp
theorem k_u:aO 0 3 .none [] (bf 1 (aX .none) []) E p=true:=dX (Q:=fun E p=>aO 0 3 .none [] (bf 1 (aX .none) []) E p=true) L4 JB JF JJ JN FU FY F3 F7 Gb Gf hE hp
theorem k_v:aO 6 7 .none [] (bf 1 (aX .none) []) E p=true:=dX (Q:=fun E p=>aO 6 7 .none [] (bf 1 (aX .none) []) E p=true) L5 JC JG JK JO FV FZ F4 F8 Gc Gg hE hp
theorem k_w:aO 4 5 .none [⟨20,22,0⟩] gl E p=true:=dX (Q:=fun E p=>aO 4 5 .none [⟨20,22,0⟩] gl E p=true) L6 JD JH JL JP FW F0 F5 F9 Gd Gh hE hp
theorem k_x:aO 0 7 (.own 60) [] (bf 1 (aX (.own 60)) []) E p=true:=dX (Q:=fun E p=>aO 0 7 (.own 60) [] (bf 1 (aX (.own 60)) []) E p=true) L7 JE JI JM JQ FX F2 F6 Ga Ge Gi hE hp
theorem k_y:reB E p=true:=dX (Q:=fun E p=>reB E p=true) L8 JR JS JT JU Gj Gk Gl Gn Go Gp hE hp
theorem MZ:ei E p=true:=dX (Q:=fun E p=>ei E p=true) JV Gq Gr Gs Gu Dc Dd De Dg Dh Di hE hp
theorem M1:b9 (fI false E p)=true:=dX (Q:=fun E p=>b9 (fI false E p)=true) J1 GF GG GH GI Du Dv Dw Dx Dy Dz hE hp
end
theorem gL {Q:List Nat->Prop} (h0:Q []) (h1:Q [1]) (h2:Q [2]) (h3:Q [1,2]) (h4:Q [2,1]) {E:List Nat} (hE:E∈fg):Q E:=dX (Q:=fun E p=>Q E) h0 h1 h1 h2 h2 h3 h3 h3 h4 h4 h4 hE (Nat.zero_le _)
section
variable {E:List Nat} (hE:E∈fg)
include hE
theorem M2:jN E=true:=gL (Q:=fun E=>jN E=true) JW Gv Gy Dj Dm hE
theorem M3:nY E=true:=gL (Q:=fun E=>nY E=true) JX Gw Gz Dk Dn hE
theorem M4:nZ E=true:=gL (Q:=fun E=>nZ E=true) JY Gx GA Dl Do hE
theorem M5:b9 (um E)=true:=gL (Q:=fun E=>b9 (um E)=true) JZ GB GD Dp Dr hE
theorem M6:b9 (fI true E E.length)=true:=gL (Q:=fun E=>b9 (fI true E E.length)=true) J0 GC GE Dq Ds hE
end
theorem Kq:df.all (fun d=>Nat.ble d.x 18&&Nat.ble d.y 18)=true:=by decide +kernel
theorem mv {nu nu':Nat->Int} (h:∀ d∈df,d.ok nu) (e:∀ x,x≤18->nu' x=nu x):∀ d∈df,d.ok nu':=fun d hd=>aa (List.all_eq_true.mp Kq d hd) fun a b=>by
  have:=h d hd
  unfold Df.ok at this ⊢
  rw [e _ (Nat.le_of_ble_eq_true a),e _ (Nat.le_of_ble_eq_true b)]; exact this
section
variable {nu:Nat->Int} {l l':List Fc} {x y:Nat} {c:Int}
theorem Fcs.nil:Fcs nu []:=fun _ h=>(List.not_mem_nil h).elim
theorem Fcs.cons (h:nu x≤nu y + c) (t:Fcs nu l):Fcs nu (⟨x,y,c⟩::l):=fun f hf=>(List.mem_cons.mp hf).elim (fun e=>e▸h) (t f)
theorem Fcs.app (a:Fcs nu l) (b:Fcs nu l'):Fcs nu (l++l'):=fun f hf=>(List.mem_append.mp hf).elim (a f) (b f)
theorem Fcs.left (h:Fcs nu (l++l')):Fcs nu l:=fun f hf=>h f (List.mem_append_left _ hf)
theorem Fcs.right (h:Fcs nu (l++l')):Fcs nu l':=fun f hf=>h f (List.mem_append_right _ hf)
theorem Fcs.nth (h:Fcs nu l) (i:Nat) {f:Fc} (e:l[i]?=some f):nu f.x≤nu f.y + f.c:=h f (List.mem_of_getElem? e)
theorem rX {a b:Int} (h0:nu 0=0) (h1:a≤nu x) (h2:nu x≤b):Fcs nu (jM x a b):=.cons (by omega) (.cons (by omega) .nil)
theorem Id {a b m:Int} (hm:0 < m) (h:b=Int.fmod a m):0≤b∧b≤m - 1:=h▸⟨Int.fmod_nonneg_of_pos a hm,Int.le_sub_one_of_lt (Int.fmod_lt_of_pos a hm)⟩
theorem f5 {m:Int} (h0:nu 0=0) (hm:0 < m) (h:nu x=Int.fmod (nu y) m):Fcs nu (jM x 0 (m - 1)):=have q:=Id hm h; rX h0 q.1 q.2
theorem iL (hD:∀ d∈df,d.ok nu) (i:Nat) {d:Df} (e:df[i]?=some d):d.ok nu:=hD d (List.mem_of_getElem? e)
theorem nu2 (hD:∀ d∈df,d.ok nu):0≤nu 2∧nu 2≤7:=Id (m:=8) (by decide) (iL hD 0 rfl)
theorem DA (hD:∀ d∈df,d.ok nu) (h0:nu 0=0):Fcs nu yb:=
  (f5 (m:=8) h0 (by decide) (iL hD 0 rfl)).app ((f5 (m:=3) h0 (by decide) (iL hD 2 rfl)).app ((f5 (m:=2) h0 (by decide) (iL hD 4 rfl)).app ((f5 (m:=5) h0 (by decide) (iL hD 5 rfl)).app (f5 (m:=4) h0 (by decide) (iL hD 6 rfl)))))
theorem n0 (hD:∀ d∈df,d.ok nu) (h0:nu 0=0):Fcs nu kI:=
  (f5 (m:=3) h0 (by decide) (iL hD 7 rfl)).app ((f5 (m:=3) h0 (by decide) (iL hD 9 rfl)).app ((f5 (m:=4) h0 (by decide) (iL hD 11 rfl)).app ((f5 (m:=8) h0 (by decide) (iL hD 13 rfl)).app (f5 (m:=3) h0 (by decide) (iL hD 15 rfl)))))
end
structure l7 (P:Params) (ss:List Stmt) (cs:List CS):Prop where
  rq:∀ r∈wv TX (scL P) ss,r∈jL (kf P)
  c:(fe TX (scL P) ss).c=cs
section
variable {P:Params} {ss:List Stmt} {cs:List CS}
theorem rY {sc:Scope} (ss:List Stmt):(fe TX sc ss).c=ss.map fun st=>(TX.s sc st).c:=by
  induction ss with
  | nil=>rfl
  | cons st ss ih=>exact congrArg ((TX.s sc st).c::·) ih
theorem DB {ss':List Stmt} (h:∀ st∈ss',st∈ss) {sc:Scope} (r:Rq) (hr:r∈wv TX sc ss'):r∈wv TX sc ss:=(List.mem_flatMap.mp hr).elim fun st q=>List.mem_flatMap.mpr ⟨st,h st q.1,q.2⟩
theorem l7.take (p:l7 P ss cs) (n:Nat):l7 P (ss.take n) (cs.take n):=⟨fun r hr=>p.rq r (DB (fun _=>List.mem_of_mem_take) r hr),by rw [rY,List.map_take,← rY,p.c]⟩
theorem l7.drop (p:l7 P ss cs) (n:Nat):l7 P (ss.drop n) (cs.drop n):=⟨fun r hr=>p.rq r (DB (fun _=>List.mem_of_mem_drop) r hr),by rw [rY,List.map_drop,← rY,p.c]⟩
theorem Mg:l7 P (ssA P) [CV,CW,CY,CZ,C0,C1,C2,C3,C4,wm]:=⟨fun r=>List.mem_append_left _,LT P⟩
theorem yc:l7 P (ssB P) [rO,rP,rQ,rR,rS,rT,rU,wt]:=⟨fun r h=>List.mem_append_right _ (List.mem_append_left _ h),Jt P⟩
theorem DC:l7 P (ssC P) [C5,wn,wo,wp,wq]:=⟨fun r h=>List.mem_append_right _ (List.mem_append_right _ h),LU P⟩
end
structure Lw where
  w:World
  os:OsState
  H:Heap
  L:Addr
inductive LR (Y:Lw) (kp:List (Addr×Obj)) (V:Pl) (om:Nat->Value) (nu:Nat->Int) (C:St) (s:Shared):Prop
  | mk (h0 hB hD) (R:Rel (aS Y.w Y.os nu h0 hB hD om) (FK Y.H Y.L kp) V C s)
noncomputable def eN (Y:Lw) (A:Around) (env:Env) (V:Pl):Prop:=∀ nu h0 hB hD om kp,Fit (aS Y.w Y.os nu h0 hB hD om) 60 (run pg pf 60) (scL Y.w.params) A env jq (FK Y.H Y.L kp) V
theorem yd {n i:Nat} (h:look jq.cells n=some i):i < 8:=by
  have z:jq.cells.all (fun p=>Nat.ble (p.2 + 1) 8)=true:=by decide +kernel
  exact Nat.le_of_ble_eq_true (List.all_eq_true.mp z _ (bO h))
noncomputable def Lo (V V':Pl):Prop:=∀ i,i < 8∨i=60->V'.at_ i=V.at_ i
theorem Lo.trans {a b c:Pl} (x:Lo a b) (y:Lo b c):Lo a c:=fun i h=>(y i h).trans (x i h)
theorem Lo.le {V V':Pl} (n:V.n=67) (l:V.le V'):Lo V V':=fun i h=>l.at_ i (n▸h.elim (fun h=>Nat.lt_trans h (by decide)) fun e=>e▸by decide)
section
variable {Y:Lw} {A:Around} {env:Env} {kp:List (Addr×Obj)} {V:Pl} {om:Nat->Value} {nu:Nat->Int} {s:Shared} {Q:Flow->Shared->Prop} {Ex:Value->Shared->Prop} {G:Prop}
theorem eN.re (x:eN Y A env V) {V':Pl} (hn:8≤V'.n) (hc:∀ i,i < 8->V'.at_ i=V.at_ i):eN Y A env V':=fun nu a b c om kp=>{ x nu a b c om kp with cells:=fun n i e=>⟨Nat.lt_of_lt_of_le (yd e) hn,(hc i (yd e)).symm▸((x nu a b c om kp).cells n i e).2⟩ }
theorem eN.lo (x:eN Y A env V) {V':Pl} (hn:V'.n=67) (hc:Lo V V'):eN Y A env V':=x.re (hn▸by decide) fun i hi=>hc i (.inl hi)
theorem l7.snd {P:Params} {ss:List Stmt} {cs:List CS} (p:l7 P ss cs) {w:World} (e:w.params=P) {os:OsState} {h0 hB hD}:SndSs (aS w os nu h0 hB hD om) (scL P) ss cs:=by subst e; exact p.c▸x9 p.rq
theorem fG {ss:List Stmt} {cs:List CS} (p:l7 Y.w.params ss cs) (hf:eN Y A env V) {σ:St} (R:LR Y kp V om nu σ s) {k:St->Bool} (h:ul cs σ k=true)
    (hQ:∀ h0 hB hD V' σ' s',V.le V'->Rel (aS Y.w Y.os nu h0 hB hD om) (FK Y.H Y.L kp) V' σ' s'->k σ'=true->Q .next s'):wpAny (model cu Y.w) A (execs ss env) Q Ex s:=
  R.rec fun h0 hB hD R=>Cm (p.snd rfl) (rW 60) (hf nu h0 hB hD om kp) R h (hQ h0 hB hD)
theorem LR.reloc {E:List Nat} {p:Nat} {c6 c7:Option AV} {xo:List (Nat×aj)} {loc loc':List (Nm×AV)} {fs fs':List Fc} (R:LR Y kp V om nu (stX E p c6 c7 xo loc fs) s) (hl:∀ h0 hB hD n a,look loc' n=some a->∃ b,look loc n=some b∧∀ v,den (aS Y.w Y.os nu h0 hB hD om) V b v->den (aS Y.w Y.os nu h0 hB hD om) V a v)
    (hf:Fcs nu (fs'++cg E p)) (hb:nu 31≤1000):LR Y kp V om nu (stX E p c6 c7 xo loc' fs') s:=R.rec fun h0 hB hD R=>.mk h0 hB hD (R.reloc (loc:=loc') (hl h0 hB hD) (cT h0 hf hb))
theorem LR.refact {E:List Nat} {p:Nat} {c6 c7:Option AV} {xo:List (Nat×aj)} {loc:List (Nm×AV)} {fs fs':List Fc} (R:LR Y kp V om nu (stX E p c6 c7 xo loc fs) s) (hf:Fcs nu (fs'++cg E p)) (hb:nu 31≤1000):LR Y kp V om nu (stX E p c6 c7 xo loc fs') s:=R.reloc (fun _ _ _ n a e=>⟨a,e,fun _ d=>d⟩) hf hb
theorem Rel.withLoc {X X':Cx} {F:Fm} {V':Pl} {σ σ':St} (R:Rel X F V σ s) (R':Rel X' F V' σ' s) {loc:List (Nm×AV)} (hl:∀ n a,look loc n=some a->∃ b,look σ.loc n=some b∧∀ v,den X V b v->den X' V' a v):Rel X' F V' (σ'.wl loc) s:=
  ⟨{ R'.mem with fr:=R.fr.rec fun m K h=>.mk m K fun n a e=>(hl n a e).elim fun b q=>(h n b q.1).imp fun v x=>⟨x.1,q.2 v x.2⟩ },R'.n,R'.facts,R'.os,R'.gens⟩
theorem DD {E:List Nat} {p x:Nat} (h:x∈lX E p):20≤x:=by
  have z:∀ l:List Nat,(∀ a∈l,20≤a)->x∈l->20≤x:=fun l h m=>h x m
  refine (List.mem_append.mp h).elim (fun h=>(List.mem_map.mp h).elim fun k q=>q.2▸by omega) fun h=>(List.mem_append.mp h).elim (fun h=>(List.mem_map.mp h).elim fun k q=>q.2▸by omega) fun h=>z _ (by decide) h
theorem ye {x:Nat} (h:hO x=false):x=0∨20≤x:=by
  refine (Nat.lt_or_ge x 20).elim (fun a=>(Nat.eq_zero_or_pos x).imp_right fun b=>?_) .inr
  have:(Nat.blt 0 x&&Nat.blt x 20)=true:=(Bool.and_eq_true ..).mpr ⟨Nat.ble_eq_true_of_le b,Nat.ble_eq_true_of_le a⟩
  exact nomatch h.symm.trans this
theorem LR.relet {E:List Nat} {p:Nat} (hE:E∈fg) (hp:p≤E.length) {loc loc':List (Nm×AV)} {fs:List Fc} (R:LR Y kp V om nu (stX E p none none [] loc fs) s) (hc:Fcs nu (cg E p)) (hb:nu 31≤1000) {nu':Nat->Int} (h9:∀ x,x=0∨9≤x->nu' x=nu x) (hd:∀ d∈df,d.ok nu') {om':Nat->Value} (ho:∀ k,k≠1->om' k=om k)
    (hl:∀ h0 hB hD h0' hB' hD' (V':Pl),V'.n=67->Lo V V'->∀ n a,look loc' n=some a->∃ b,look loc n=some b∧∀ v,den (aS Y.w Y.os nu h0 hB hD om) V b v->den (aS Y.w Y.os nu' h0' hB' hD' om') V' a v)
    (g:∀ V',V'.n=67->Lo V V'->Fcs nu' (cg E p)->LR Y kp V' om' nu' (stX E p none none [] loc' []) s->G):G:=
  R.rec fun h0 hB hD R=>aa (k_y hE hp) fun y1 y=>aa y fun y2 y3=>by
    have e9:∀ x∈reL++lX E p,nu' x=nu x:=fun x hx=>h9 x (.inr ((List.mem_append.mp hx).elim (fun m=>(by decide:∀ x∈reL,9≤x) x m) fun m=>Nat.le_trans (by decide) (DD m)))
    refine pR (om:=om') (lo:=nu') (R.reloc (loc:=[]) (fun n a e=>nn e) (cT (fs:=[]) h0 hc hb):Rel (aS Y.w Y.os nu h0 hB hD om) (FK Y.H Y.L kp) V (stX E p none none [] [] []) s) (ri (fun x q=>by cases Nat.le_zero.mp q; exact h9 0 (.inl rfl)) e9) ho (C:=stX E p none none [] [] []) rfl (fun x hx=>h9 x ((ye hx).imp_right fun h=>Nat.le_trans (by decide) h)▸hB x hx) hd y1
      (fun fcs=>cT (fs:=[]) ((h9 0 (.inl rfl)).trans h0) fcs ((h9 31 (.inr (by decide))).symm▸hb)) fun h0' hB' hD' fcs R'=>?_
    have lo:Lo V (plM (Jw E p) V 67):=fun i hi=>nF y3 hi
    exact g _ rfl lo fcs (.mk h0' hB' hD' (R.withLoc R' (hl h0 hB hD h0' hB' hD' _ rfl lo)))
structure DE (Y:Lw) (kp:List (Addr×Obj)) (V:Pl) (om:Nat->Value) (nu:Nat->Int) (E:List Nat) (p:Nat) (loc:List (Nm×AV)) (s':Shared) (V':Pl) (nu':Nat->Int) (E':List Nat) (p':Nat):Prop where
  n:V'.n=67
  lo:Lo V V'
  R:LR Y kp V' om nu' (stX E' p' none none [] loc []) s'
  hE:E'∈fg
  hp:p'≤E'.length
  fc:Fcs nu' (cg E' p')
  low:∀ x,x≤19->nu' x=nu x
  b:nu' 31=nu 31 + 4
  m:vG nu nu' E p E' p'
theorem iM {h0 hB hD} {V0:Pl} {σ':St} {s':Shared} {E:List Nat} {p:Nat} {loc:List (Nm×AV)} {ex:List Fc} {mono:List Nat->Nat->Mp->St->Bool} (R:Rel (aS Y.w Y.os nu h0 hB hD om) (FK Y.H Y.L kp) V σ' s') (hV:Lo V0 V) (hb:nu 31≤990)
    (hm:∀ E' p' M,mono E' p' M σ'=true->xK E p E' p' M σ'=true) (h:xJ 19 99 4 [] none none [] loc ex mono σ'=true) (g:∀ E' p' M V' nu',mono E' p' M σ'=true->Fcs nu' ex->DE Y kp V0 om nu E p loc s' V' nu' E' p'->G):G:=
  vE (om:=om) (lo:=nu) R h (fun k _=>rfl) hB (by decide) (fun M hM=>mv hD fun x hx=>rj (hM▸Nat.le_succ_of_le hx)) (by show nu 31 + 4≤1000; omega) fun E' p' M l=>g E' p' M _ _ l.mono (Fcs.left l.fcs) ⟨rfl,hV.trans l.ids,l.rel.elim fun a q=>q.elim fun b q=>q.elim fun c q=>.mk a b c q,l.ext,l.le,Fcs.right l.fcs,fun x hx=>rj (l.lim▸hx),l.e31,FH R.facts (hm _ _ _ l.mono)⟩
theorem Hm (hf:eN Y A env V) (hn:V.n=67) {E:List Nat} {p:Nat} (R:LR Y kp V om nu (stX E p none none [] FT []) s) (hE:E∈fg) (hp:p≤E.length) (hc:Fcs nu (cg E p)) (hb:nu 31≤990)
    (hQ:∀ s' V' nu' E' p',DE Y kp V om nu E p wy s' V' nu' E' p'->(4≤nu 2->nu 2≤5->nu' 20≤nu' 22)->Q .next s'):wpAny (model cu Y.w) A (execs ((ssB Y.w.params).take 7) env) Q Ex s:=R.rec fun h0 hB hD _=>by
  have r:=nu2 hD
  have tf:=DA hD h0
  have hb':nu 31≤1000:=Int.le_trans hb (by decide)
  have whole:∀ {lo hi:Int},lo≤nu 2->nu 2≤hi->bk lo hi E p=true->¬ (4≤nu 2∧nu 2≤5)->wpAny (model cu Y.w) A (execs ((ssB Y.w.params).take 7) env) Q Ex s:=fun l1 l2 hk hne=>fG (yc.take 7) hf (R.refact (((rX h0 l1 l2).app tf).app hc) hb') hk fun q0 qB qD V' σ' s' l R' q=>iM R' (Lo.le hn l) hb (fun _ _ _ h=>h) q fun E' p' M V'' nu' _ _ t=>hQ s' V'' nu' E' p' t fun a b=>absurd ⟨a,b⟩ hne
  have two:∀ {lo hi:Int} {ex:List Fc},lo≤nu 2->nu 2≤hi->cw lo hi ex E p=true->(4≤nu 2->nu 2≤5->∀ nu':Nat->Int,Fcs nu' ex->nu' 20≤nu' 22)->wpAny (model cu Y.w) A (execs ((ssB Y.w.params).take 7) env) Q Ex s:=fun l1 l2 hk hex=>by
    have e:(ssB Y.w.params).take 7=(ssB Y.w.params).take 5++((ssB Y.w.params).drop 5).take 2:=List.take_add (i:=5) (j:=2)
    rw [e]
    refine gh (fG (yc.take 5) hf (R.refact (tf.app hc) hb') (k_p hE hp) fun q0 qB qD V' σ' s' l R' q=>aa q fun m1 m=>aa m fun m2 m3=>?_)
    refine pR (om:=om) (lo:=nu) R' (Jo m3) (fun _ _=>rfl) (C:=stM [] E p) rfl qB qD m1 (fun fcs=>cT (fs:=[]) q0 fcs hb') fun z0 zB zD fcs R2=>?_
    have hV:=(Lo.le hn l).trans (fun i hi=>nF m2 hi:Lo V' (plM _ V' 67))
    exact fG ((yc.drop 5).take 2) (hf.lo rfl hV) ((LR.mk z0 zB zD R2).refact (((rX h0 l1 l2).app tf).app hc) hb') hk fun q0 qB qD V3 σ3 s3 l3 R4 q=>iM R4 (hV.trans (Lo.le rfl l3)) hb (fun _ _ _ h=>h) q fun E' p' M V'' nu' _ fx t=>hQ s3 V'' nu' E' p' t fun a b=>hex a b nu' fx
  refine (Int.lt_or_le 1 (nu 2)).elim (fun g1=>(Int.lt_or_le 3 (nu 2)).elim (fun g2=>(Int.lt_or_le 5 (nu 2)).elim (fun g3=>(Int.lt_or_le 6 (nu 2)).elim (fun g4=>?_) fun g4=>?_) fun g3=>?_) fun g2=>?_) fun g1=>?_
  · exact whole g4 r.2 (k_t hE hp) fun z=>absurd z.2 (Int.not_le.mpr g3)
  · exact whole g3 g4 (k_s hE hp) fun z=>absurd z.2 (Int.not_le.mpr g3)
  · exact two g2 g3 (k_r hE hp) fun _ _ nu' fx=>Int.add_zero (nu' 22)▸fx.nth 0 rfl
  · exact two g1 g2 (k_q hE hp) fun z _=>absurd (Int.le_trans z g2) (by decide)
  · exact whole r.1 g1 (k_a hE hp) fun z=>absurd (Int.le_trans z.1 g1) (by decide)
end
end
section
section
variable {i:Nat} {o:aj} {l r:List (Nat×aj)}
theorem Hn:(mkT l).get i=some o->(mkT (l++r)).get i=some o:=
  l.rec (motive:=fun l=>(mkT l).get i=some o->(mkT (l++r)).get i=some o) (fun h=>nn ((Tr.get_nil i).symm.trans h)) fun e l ih h=>(Tr.get_set e.2 (mkT (l++r)) e.1 i).trans (rg h (fun q z=>(if_pos q).trans (congrArg some z)) fun q h=>(if_neg q).trans (ih h))
theorem DF (h:∀ e∈l,e.1≠i):(mkT (l++r)).get i=(mkT r).get i:=by
  induction l with
  | nil=>rfl
  | cons e l ih=>exact (Tr.get_set e.2 (mkT (l++r)) e.1 i).trans ((if_neg fun q=>h e (.head _) q.symm).trans (ih fun x hx=>h x (.tail _ hx)))
theorem Ho {p:Nat×aj}:(l.map (·.1)).Nodup->p∈l->(mkT l).get p.1=some p.2:=
  l.rec (motive:=fun l=>(l.map (·.1)).Nodup->p∈l->(mkT l).get p.1=some p.2) (fun _ h=>(List.not_mem_nil h).elim) fun e l ih nd h=>(Tr.get_set e.2 (mkT l) e.1 p.1).trans ((List.mem_cons.mp h).elim (fun q=>q▸if_pos rfl) fun m=>have nd:=List.nodup_cons.mp nd; (if_neg fun q=>nd.1 (List.mem_map.mpr ⟨p,m,q⟩)).trans (ih nd.2 m))
end
theorem uo (E:List Nat) (p:Nat) (c6 c7:Option AV) (xo:List (Nat×aj)):dN E p c6 c7 xo=dN E p c6 c7 []++xo:=by
  unfold dN
  rw [List.append_nil,List.append_assoc]
section
variable {E:List Nat} {p:Nat} (hE:E∈fg) (hp:p≤E.length)
include hE hp
theorem yf {i:Nat} (hi:60≤i):∀ e∈dN E p none none [],e.1≠i:=fun e he q=>aa (k_y hE hp) fun _ y=>aa y fun y _=>absurd (q▸Nat.le_of_ble_eq_true (List.all_eq_true.mp y e he)) (Nat.not_lt.mpr hi)
theorem Hp {i:Nat} (hi:60≤i):(mkT (dN E p none none [])).get i=none:=by
  cases e:(mkT (dN E p none none [])).get i with
  | none=>rfl
  | some o=>exact (yf hE hp hi _ (xL e) rfl).elim
end
noncomputable def wz (T:List Nat):List (Nat×aj):=(dW T).reverse
theorem n4 {E:List Nat} {p:Nat} (hE:E∈fg) (hp:p≤E.length) {T:List Nat} {q:Nat×aj} (h:q∈wz T):60≤q.1∧(mkT (dN E p none none (dW T))).get q.1=some q.2:=by
  have m:q∈dW T:=List.mem_reverse.mp h
  have b:60≤q.1:=(by decide:∀ i∈[60,61,63,62,64],60≤i) _ (List.mem_map.mpr ⟨q,m,rfl⟩:q.1∈(dW T).map (·.1))
  refine ⟨b,?_⟩
  rw [uo,DF (yf hE hp b)]
  exact Ho ((by decide:[60,61,63,62,64].Nodup):((dW T).map (·.1)).Nodup) m
noncomputable abbrev Kr (X:Cx) (V:Pl):Nat×aj->Addr×Obj->Prop:=fun p q=>q.1=V.at_ p.1∧objR X V p.2 q.2
theorem Rel.lie {X:Cx} {F:Fm} {V:Pl} {σ:St} {s:Shared} {G:Prop} (R:Rel X F V σ s) {l:List (Nat×aj)}:(∀ p∈l,σ.t.get p.1=some p.2)->(l.map (·.1)).Nodup->(∀ ek,au (Kr X V) l ek->(ek.map (·.1)).Nodup->(∀ q∈ek,∃ p∈l,q.1=V.at_ p.1∧s.heap.get? q.1=some q.2)->G)->G:=by
  induction l with
  | nil=>exact fun _ _ g=>g [] .nil .nil fun _ h=>(List.not_mem_nil h).elim
  | cons p l ih=>
    intro h nd g
    have nd:=List.nodup_cons.mp nd
    have m:p∈p::l:=.head _
    exact (R.obj (h p m)).rec fun ob _ get _ _ r=>ih (fun q m=>h q (.tail _ m)) nd.2 fun ek al nd' m'=>g ((V.at_ p.1,ob)::ek) (.cons ⟨rfl,r⟩ al)
      (List.nodup_cons.mpr ⟨fun hm=>(List.mem_map.mp hm).elim fun q z=>(m' q z.1).elim fun p' w=>nd.1 (List.mem_map.mpr ⟨p',w.1,(R.mem.inj _ _ _ _ (h p m) (h p' (.tail _ w.1)) (z.2.symm.trans w.2.1)).symm⟩),nd'⟩)
      fun q hq=>(List.mem_cons.mp hq).elim (fun e=>⟨p,.head _,by rw [e],by rw [e]; exact get⟩) fun hq=>(m' q hq).imp fun p' w=>⟨.tail _ w.1,w.2⟩
inductive Frz (Y:Lw) (ek:List (Addr×Obj)) (v:Value) (e:Nat->Int) (Tl:List Nat):Prop
  | mk (h0 hB hD om V) (hv:v=.ref (V.at_ 60)) (al:au (Kr (aS Y.w Y.os e h0 hB hD om) V) (wz Tl) ek) (nd:(ek.map (·.1)).Nodup)
section
variable {Y:Lw} {kp:List (Addr×Obj)} {V:Pl} {om:Nat->Value} {nu:Nat->Int} {s:Shared} {G:Prop}
theorem rZ {E:List Nat} {p:Nat} {Tl:List Nat} {loc:List (Nm×AV)} (hE:E∈fg) (hp:p≤E.length) (R:LR Y kp V om nu (stX E p none none (dW Tl) loc []) s)
    (g:∀ ek,Frz Y ek (.ref (V.at_ 60)) nu Tl->(∀ q∈ek,∃ i o,(stX E p none none (dW Tl) loc []).t.get i=some o∧q.1=V.at_ i)->(∀ kp',(∀ q∈kp',q∈kp∨q∈ek)->LR Y kp' V om nu (stX E p none none [] loc []) s)->G):G:=
  R.rec fun h0 hB hD R=>R.lie (l:=wz Tl) (fun q hq=>(n4 hE hp hq).2) (by show [64,62,63,61,60].Nodup; decide) fun ek al nd m=>g ek (.mk h0 hB hD om V rfl al nd)
    (fun q hq=>(m q hq).elim fun p' w=>⟨p'.1,p'.2,(n4 hE hp w.1).2,w.2.1⟩) fun kp' hk=>.mk h0 hB hD (R.freeze (t':=mkT (dN E p none none [])) (fun i o e=>by
      show (mkT (dN E p none none (dW Tl))).get i=_
      rw [uo]; exact Hn e) fun q hq=>(hk q hq).imp_right fun z=>(m q z).elim fun p' w=>have a:=n4 hE hp w.1; .mk a.2 (Hp hE hp a.1) w.2.1 w.2.2)
noncomputable def Pl.adds (V:Pl) (l:List (Addr×Obj)):Pl:=l.foldl (fun V p=>V.add p.1) V
noncomputable def St.adds (σ:St) (l:List aj):St:=l.foldl St.add σ
inductive yg (X:Cx):Pl->List (Addr×Obj)->List aj->Prop
  | nil (V1:Pl):yg X V1 [] []
  | cons {V1:Pl} {a:Addr} {ob:Obj} {l:List (Addr×Obj)} {o:aj} {os:List aj} (ho:objR X (V1.add a) o ob) (t:yg X (V1.add a) l os):yg X V1 ((a,ob)::l) (o::os)
theorem Rel.adopts {X:Cx} {h0:Heap} {L:Addr} {kp:List (Addr×Obj)} {os:List aj} (A:yg X V kp os):∀ {σ:St},(kp.map (·.1)).Nodup->Rel X (FK h0 L kp) V σ s->Rel X (FK h0 L []) (V.adds kp) (σ.adds os) s:=by
  induction A with
  | nil V=>exact fun _ R=>R
  | cons ho t ih=>exact fun nd R=>have nd:=List.nodup_cons.mp nd; ih nd.2 (R.adopt1 (.head _) ho fun p hp=>⟨.tail _ hp,fun e=>nd.1 (List.mem_map.mpr ⟨p,hp,e⟩)⟩)
section
variable {X X':Cx} {V V':Pl} {ob:Obj}
noncomputable abbrev zH (X X':Cx) (V V':Pl):AV->AV->Prop:=fun a b=>∀ v,den X V a v->den X' V' b v
theorem iU {x:Nat} (h:X'.nu x=X.nu x):zH X X' V V' (lv x) (lv x):=fun v d=>d.imp fun t q=>q.trans (congrArg (fun i=>Value.int (i + 0) t) h.symm)
theorem DG {c:Int}:zH X X' V V' (.int ⟨0,c⟩) (.int ⟨0,c⟩):=fun v d=>d.imp fun t q=>q.trans (congrArg (fun i=>Value.int (i + c) t) (X.h0.trans X'.h0.symm))
theorem mw {i j:Nat} (hj:j < V'.n) (h:V'.at_ j=V.at_ i):zH X X' V V' (.own i) (.own j):=fun v d=>⟨hj,d.2.trans (congrArg Value.ref h.symm)⟩
theorem qe {as bs:List AV} (h:au (zH X X' V V') as bs) (r:objR X V (.list as) ob):objR X' V' (.list bs) ob:=⟨r.1,r.2.rec fun l n e x=>.mk l n e (h.via x)⟩
theorem lg {w:World} {os:OsState} {e lo:Nat->Int} {a0 aB aD aom b0 bB bD bom} {as bs:List (Nm×AV)} (h:au (fun a b=>b.1=a.1∧zH (aS w os e a0 aB aD aom) (aS w os lo b0 bB bD bom) V V' a.2 b.2) as bs) (r:objR (aS w os e a0 aB aD aom) V (.dict as) ob):objR (aS w os lo b0 bB bD bom) V' (.dict bs) ob:=
  dw.rec (fun kvs io al=>.mk kvs io ((h.mono fun a b q p d=>⟨d.1.trans (congrArg tx q.1.symm),q.2 _ d.2⟩:au (fun a b=>∀ v,kvR (aS w os e a0 aB aD aom) tx V a v->kvR (aS w os lo b0 bB bD bom) tx V' b v) as bs).via al)) r
end
theorem wA {ek:List (Addr×Obj)} {v:Value} {e lo:Nat->Int} {Tl:List Nat} {h0 hB hD} {σ:St} (R:Rel (aS Y.w Y.os lo h0 hB hD om) (FK Y.H Y.L ek) V σ s) (hn:V.n=67) (Z:Frz Y ek v e Tl) (hl:∀ x,40≤x->lo x=e x)
    (g:∀ V',V'.n=72->v=.ref (V'.at_ 71)->(∀ i,i < 67->V'.at_ i=V.at_ i)->Rel (aS Y.w Y.os lo h0 hB hD om) (FK Y.H Y.L []) V' (L0 Tl σ) s->G):G:=Z.rec fun a0 aB aD aom Ve hv al nd=>by
  obtain ⟨n,at_,cs⟩:=V
  cases hn
  have al:au (Kr (aS Y.w Y.os e a0 aB aD aom) Ve) [(64,snX 40),(62,.dict (qd Tl)),(63,.list [lv 41,.own 64,.int ⟨0,0⟩]),(61,.list [lv 40,.own 62,.int ⟨0,0⟩]),(60,lH 61 63)] ek:=al
  refine al.uncons (P:=fun ek=>Rel (aS Y.w Y.os lo h0 hB hD om) (FK Y.H Y.L ek) ⟨67,at_,cs⟩ σ s->(ek.map (·.1)).Nodup->G) (fun q4 t r4 al=>al.uncons (P:=fun t=>Rel (aS Y.w Y.os lo h0 hB hD om) (FK Y.H Y.L (q4::t)) ⟨67,at_,cs⟩ σ s->((q4::t).map (·.1)).Nodup->G) (fun q2 t r2 al=>al.uncons (P:=fun t=>Rel (aS Y.w Y.os lo h0 hB hD om) (FK Y.H Y.L (q4::q2::t)) ⟨67,at_,cs⟩ σ s->((q4::q2::t).map (·.1)).Nodup->G) fun q3 t r3 al=>al.two (P:=fun t=>Rel (aS Y.w Y.os lo h0 hB hD om) (FK Y.H Y.L (q4::q2::q3::t)) ⟨67,at_,cs⟩ σ s->((q4::q2::q3::t).map (·.1)).Nodup->G) fun q1 q0 r1 r0 R nd=>?_)) R nd
  have rows:∀ {V1 V2:Pl},au (fun a b=>b.1=a.1∧zH (aS Y.w Y.os e a0 aB aD aom) (aS Y.w Y.os lo h0 hB hD om) V1 V2 a.2 b.2) (qd Tl) (qd Tl):=by
    intro V1 V2
    exact .cons ⟨rfl,iU (hl 42 (by decide))⟩ (.cons ⟨rfl,DG⟩ (Tl.rec .nil fun k l ih=>.cons ⟨rfl,iU (hl _ (Nat.le_trans (by decide) (Nat.le_add_right 42 k)))⟩ ih))
  have d3:objR (aS Y.w Y.os lo h0 hB hD om) ((((⟨67,at_,cs⟩:Pl).add q4.1).add q2.1).add q3.1) (.list [lv 41,.own 67,.int ⟨0,0⟩]) q3.2:=qe (X:=aS Y.w Y.os e a0 aB aD aom) (.cons (iU (hl 41 (by decide))) (.cons (mw (by show 67 < 70; decide) (show q4.1=Ve.at_ 64 from r4.1)) (.cons DG .nil))) r3.2
  have d1:objR (aS Y.w Y.os lo h0 hB hD om) (((((⟨67,at_,cs⟩:Pl).add q4.1).add q2.1).add q3.1).add q1.1) (.list [lv 40,.own 68,.int ⟨0,0⟩]) q1.2:=qe (X:=aS Y.w Y.os e a0 aB aD aom) (.cons (iU (hl 40 (by decide))) (.cons (mw (by show 68 < 71; decide) (show q2.1=Ve.at_ 62 from r2.1)) (.cons DG .nil))) r1.2
  have d0:objR (aS Y.w Y.os lo h0 hB hD om) ((((((⟨67,at_,cs⟩:Pl).add q4.1).add q2.1).add q3.1).add q1.1).add q0.1) (lH 70 69) q0.2:=lg (a0:=a0) (aB:=aB) (aD:=aD) (aom:=aom) (as:=[(8317692697400340340,.own 61),(2147419152243300068720,.own 63)]) (.cons ⟨rfl,mw (by show 70 < 72; decide) (show q1.1=Ve.at_ 61 from r1.1)⟩ (.cons ⟨rfl,mw (by show 69 < 72; decide) (show q3.1=Ve.at_ 63 from r3.1)⟩ .nil)) r0.2
  refine g ((((((⟨67,at_,cs⟩:Pl).add q4.1).add q2.1).add q3.1).add q1.1).add q0.1) rfl (hv.trans (congrArg Value.ref (show Ve.at_ 60=q0.1 from r0.1.symm))) (fun i hi=>?_) (R.adopts (kp:=[q4,q2,q3,q1,q0]) (os:=[snX 40,.dict (qd Tl),.list [lv 41,.own 67,.int ⟨0,0⟩],.list [lv 40,.own 68,.int ⟨0,0⟩],lH 70 69])
    (.cons (lg (a0:=a0) (aB:=aB) (aD:=aD) (aom:=aom) (.cons ⟨rfl,iU (hl 40 (by decide))⟩ .nil) r4.2) (.cons (lg rows r2.2) (.cons d3 (.cons d1 (.cons d0 (.nil _)))))) nd)
  have ne:∀ k,67≤k->i≠k:=fun k hk e=>absurd (e▸hi) (Nat.not_lt.mpr hk)
  exact (if_neg (ne 71 (by decide))).trans ((if_neg (ne 70 (by decide))).trans ((if_neg (ne 69 (by decide))).trans ((if_neg (ne 68 (by decide))).trans (if_neg (ne 67 (by decide))))))
end
end
section
theorem yh {M:Mp} {V:Pl} {n i:Nat} (h:Jv M=true) (hi:i < 8):(plM M V n).at_ i=V.at_ i:=pQ (List.all_eq_true.mp h i (List.mem_range.mpr hi))
section
variable {nu:Nat->Int} {E:List Nat} {p k x y:Nat}
theorem Ks {M:Mp} (h:LX M=true) (hx:x < 40):nuM M nu nu x=nu x:=k9 (P:=(·=nu x)) (fun _=>rfl) rfl fun e he=>aa (List.all_eq_true.mp h _ (bO he)) fun c a=>dm a (fun a=>IV.is a c) fun a=>absurd (Nat.le_of_ble_eq_true a) (Nat.not_le.mpr hx)
theorem up (h:Fcs nu (cg E p)) (hk:k∈0::E.take p):nu 0 < nu (23 + k)∧nu (23 + k)≤nu (26 + k):=
  have q:=fun {f} m=>Fcs.left h f (List.mem_flatMap.mpr ⟨k,hk,m⟩)
  ⟨Int.lt_of_le_sub_one (q (.head _)),Int.add_zero (nu (26 + k))▸q (.tail _ (.head _))⟩
theorem DH (h:Fcs nu (cg E p)) (hk:k∈0::E):nu 0 < nu (26 + k)∧nu (26 + k)≤nu 31:=
  have q:=fun {f} m=>Fcs.left (Fcs.right h) f (List.mem_flatMap.mpr ⟨k,hk,m⟩)
  ⟨Int.lt_of_le_sub_one (q (.head _)),Int.add_zero (nu 31)▸q (.tail _ (.head _))⟩
theorem DI (h:Fcs nu (cg E p)):nu 0 < nu 20∧nu 0 < nu 21∧nu 22≤nu 20∧nu 20≤nu 31∧nu 21≤nu 31:=
  have q:=Fcs.right (Fcs.right h)
  ⟨Int.lt_of_le_sub_one (q.nth 1 rfl),Int.lt_of_le_sub_one (q.nth 5 rfl),Int.add_zero (nu 20)▸q.nth 2 rfl,Int.add_zero (nu 31)▸q.nth 3 rfl,Int.add_zero (nu 31)▸q.nth 6 rfl⟩
theorem r6 (h:Fcs nu (eqF x y)):nu x=nu y:=Int.le_antisymm (Int.add_zero (nu y)▸h.nth 0 rfl) (Int.add_zero (nu x)▸h.nth 1 rfl)
theorem Kt (hp:p≤E.length) (z0:nu 0=0) (hc:Fcs nu (cg E p)) (hx:Fcs nu (exN (E.take p))):EM nu (E.take p) nu E p:=
  have e1:=r6 (Fcs.left hx)
  have e2:=r6 (Fcs.left (Fcs.right hx))
  have e3:=r6 (Fcs.left (Fcs.right (Fcs.right hx)))
  have e4:∀ k∈0::E.take p,nu (42 + k)=nu (23 + k):=fun k hk=>r6 fun f hf=>Fcs.right (Fcs.right (Fcs.right hx)) f (List.mem_flatMap.mpr ⟨k,hk,hf⟩)
  have c:=DI hc
  have g:∀ {a:Int},nu 0 < a->1≤a:=fun h=>by rw [z0] at h; exact h
  ⟨List.prefix_refl _,⟨e1▸g c.1,e2▸g c.2.1,fun k hk=>e4 k hk▸g (up hc hk).1⟩,fun k hk=>Int.le_of_eq (e4 k hk),Int.le_of_eq e1,.inr ⟨e2,e3⟩,.inl (by rw [List.length_take,Nat.min_eq_left hp])⟩
end
theorem n6 {q:Nm×AV} {l:List (Nm×AV)} {n:Nm} {a:AV} {G:Nm->AV->Prop} (h:look (q::l) n=some a) (f:G q.1 q.2) (g:look l n=some a->G n a):G n a:=bg h (fun e h=>nb e▸sm h▸f) fun _ h=>g h
theorem uq {q r:Nm×AV} {n:Nm} {a:AV} {G:Nm->AV->Prop} (h:look [q,r] n=some a) (f:G q.1 q.2) (g:G r.1 r.2):G n a:=n6 h f fun h=>n6 h g fun h=>nn h
theorem Ie {q r t:Nm×AV} {n:Nm} {a:AV} {G:Nm->AV->Prop} (h:look [q,r,t] n=some a) (f:G q.1 q.2) (g:G r.1 r.2) (k:G t.1 t.2):G n a:=n6 h f fun h=>uq h g k
section
variable {Y:Lw} {A:Around} {env:Env} {kp:List (Addr×Obj)} {V:Pl} {om:Nat->Value} {nu:Nat->Int} {s:Shared} {Q:Flow->Shared->Prop} {Ex:Value->Shared->Prop} {G:Prop} {E:List Nat} {p:Nat}
theorem n8 {h0 hB hD} {V0:Pl} {σ':St} {s':Shared} (hE:E∈fg) (hp:p≤E.length) {loc:List (Nm×AV)} {ex:List Fc} {fz:Nat} (R:Rel (aS Y.w Y.os nu h0 hB hD om) (FK Y.H Y.L kp) V σ' s') (hV:Lo V0 V) (hb:nu 31≤1000) (h:bf fz loc ex E p σ'=true)
    (g:∀ V'',V''.n=67->Lo V0 V''->LR Y kp V'' om nu (stX E p none none [] loc []) s'->G):G:=aa (k_y hE hp) fun _ y=>aa y fun _ y3=>pR (om:=om) (lo:=nu) R (ri (fun _ _=>rfl) fun _ _=>rfl) (fun _ _=>rfl) (C:=stX E p none none [] loc []) rfl hB hD h (fun fcs=>cT (fs:=[]) h0 (Fcs.right fcs) hb) fun z0 zB zD fcs R'=>g _ rfl (hV.trans fun i hi=>nF (M:=⟨19,fz,Cg (dN E p none none []),idV (lX E p)⟩) y3 hi) (.mk z0 zB zD R')
structure Mh (Y:Lw) (kp:List (Addr×Obj)) (V:Pl) (om:Nat->Value) (nu:Nat->Int) (E:List Nat) (p:Nat) (s':Shared) (V':Pl) (nu':Nat->Int):Prop where
  n:V'.n=67
  lo:∀ i,i < 8->V'.at_ i=V.at_ i
  R:LR Y kp V' om nu' (stX E p none none (dW (E.take p)) (aX (.own 60)) []) s'
  low:∀ x,x < 40->nu' x=nu x
  fc:Fcs nu' (cg E p)
  em:EM nu' (E.take p) nu' E p
theorem DJ {h0 hB hD} {V0:Pl} {σ':St} {s':Shared} {e:Nat} (hp:p≤E.length) (R:Rel (aS Y.w Y.os nu h0 hB hD om) (FK Y.H Y.L kp) V σ' s') (hV:Lo V0 V) (hb:nu 31≤1000) (h:Da E p e σ'=true) (g:∀ V' nu',Mh Y kp V0 om nu E p s' V' nu'->G):G:=by
  unfold Da at h
  dsimp only at h
  generalize nD σ' (dN E p none none (dW (E.take p))) ⟨19,1,[(0,0),(1,1),(2,2),(3,3),(4,4),(5,5),(6,6),(7,7),(60,e),(66,66)],idV (lX E p)⟩=M at h
  refine aa h fun m1 h=>aa h fun m2 h=>aa h fun m3 h=>aa h fun m4 m5=>?_
  have low:∀ x,x < 40->nuM M nu nu x=nu x:=fun x hx=>Ks m3 hx
  have z:nuM M nu nu 0=0:=(low 0 (by decide)).trans h0
  exact pR (om:=om) (lo:=nu) R rfl (fun _ _=>rfl) (C:=stX E p none none (dW (E.take p)) (aX (.own 60)) []) rfl hB (mv hD fun x hx=>low x (Nat.lt_of_le_of_lt hx (by decide))) m1 (fun fcs=>cT (fs:=[]) z (Fcs.right fcs) ((low 31 (by decide)).symm▸hb)) fun z0 zB zD fcs R'=>g _ _ ⟨rfl,fun i hi=>(yh m2 hi).trans (hV i (.inl hi)),.mk z0 zB zD R',low,Fcs.right fcs,Kt hp z (Fcs.right fcs) (Fcs.left fcs)⟩
theorem iV (hf:eN Y A env V) {a:AV} {lo hi:Int} {fs:List Fc} {lf:List Nat->Nat->St->Bool} (R:LR Y kp V om nu (stX E p none none [] wy []) s) (ha:∀ h0 hB hD,den (aS Y.w Y.os nu h0 hB hD om) V a (om 1)) (hc:Fcs nu (cg E p)) (hb:nu 31≤1000) (l1:lo≤nu 2) (l2:nu 2≤hi) (hfs:Fcs nu fs) (hk:aO lo hi a fs lf E p=true)
    (hQ:∀ h0 hB hD V' σ' s',V.le V'->Rel (aS Y.w Y.os nu h0 hB hD om) (FK Y.H Y.L kp) V' σ' s'->lf E p σ'=true->Q .next s'):wpAny (model cu Y.w) A (execs ((ssB Y.w.params).drop 7) env) Q Ex s:=R.rec fun h0 hB hD R0=>fG (yc.drop 7) hf (LR.reloc (.mk h0 hB hD R0) (fun h0 hB hD n x e=>Ie (G:=fun n x=>∃ b,look wy n=some b∧∀ v,den (aS Y.w Y.os nu h0 hB hD om) V b v->den (aS Y.w Y.os nu h0 hB hD om) V x v) e ⟨.any 1,rfl,fun v d=>(show v=om 1 from d)▸ha h0 hB hD⟩ ⟨lv 9,rfl,fun v d=>d⟩ ⟨lv 2,rfl,fun v d=>d⟩) (((rX h0 l1 l2).app hfs).app hc) hb) hk hQ
theorem wB (hf:eN Y A env V) (hn:V.n=67) (R:LR Y kp V om nu (stX E p none none [] wy []) s) (hE:E∈fg) (hp:p≤E.length) (h1:om 1=.none) (hc:Fcs nu (cg E p)) (hb:nu 31≤1000) (h45:4≤nu 2->nu 2≤5->nu 20≤nu 22)
    (hQ1:∀ V' s',V'.n=67->Lo V V'->LR Y kp V' om nu (stX E p none none [] (aX .none) []) s'->Q .next s') (hQ2:∀ V' nu' s',Mh Y kp V om nu E p s' V' nu'->Q .next s'):wpAny (model cu Y.w) A (execs ((ssB Y.w.params).drop 7) env) Q Ex s:=R.rec fun h0 hB hD R0=>by
  have r:=nu2 hD
  have R:LR Y kp V om nu (stX E p none none [] wy []) s:=.mk h0 hB hD R0
  have fin:∀ h0 hB hD V' σ' s',V.le V'->Rel (aS Y.w Y.os nu h0 hB hD om) (FK Y.H Y.L kp) V' σ' s'->bf 1 (aX .none) [] E p σ'=true->Q .next s':=fun q0 qB qD V' σ' s' l R' q=>n8 hE hp R' (Lo.le hn l) hb q fun V''=>hQ1 V'' s'
  refine (Int.lt_or_le 3 (nu 2)).elim (fun g1=>(Int.lt_or_le 5 (nu 2)).elim (fun g2=>?_) fun g2=>?_) fun g1=>?_
  · exact iV hf R (a:=.none) (fun _ _ _=>h1) hc hb g2 r.2 .nil (k_v hE hp) fin
  · exact iV hf R (a:=.none) (fun _ _ _=>h1) hc hb g1 g2 (.cons ((Int.add_zero (nu 22)).symm▸h45 g1 g2) .nil) (k_w hE hp) fun q0 qB qD V' σ' s' l R' q=>az q (fun _ q=>fin q0 qB qD V' σ' s' l R' q) fun e _ q=>DJ hp R' (Lo.le hn l) hb q fun V' nu'=>hQ2 V' nu' s'
  · exact iV hf R (a:=.none) (fun _ _ _=>h1) hc hb r.1 g1 .nil (k_u hE hp) fin
theorem ur (hf:eN Y A env V) (hn:V.n=67) (R:LR Y kp V om nu (stX E p none none [] wy []) s) (hE:E∈fg) (hp:p≤E.length) (h1:om 1=.ref (V.at_ 60)) (hc:Fcs nu (cg E p)) (hb:nu 31≤1000)
    (hQ1:∀ V' s',V'.n=67->Lo V V'->LR Y kp V' om nu (stX E p none none [] (aX (.own 60)) []) s'->Q .next s'):wpAny (model cu Y.w) A (execs ((ssB Y.w.params).drop 7) env) Q Ex s:=R.rec fun h0 hB hD R0=>have r:=nu2 hD
  iV hf (.mk h0 hB hD R0) (a:=.own 60) (fun _ _ _=>⟨hn▸by decide,h1⟩) hc hb r.1 r.2 .nil (k_x hE hp) fun q0 qB qD V' σ' s' l R' q=>n8 hE hp R' (Lo.le hn l) hb q fun V''=>hQ1 V'' s'
noncomputable def M7 (n:Int):List Int:=[n,Int.fmod n 8,Int.fdiv n 8,Int.fmod (Int.fdiv n 8) 3,Int.fdiv (Int.fdiv n 8) 3,Int.fmod (Int.fdiv (Int.fdiv n 8) 3) 2,Int.fmod (Int.fdiv n 8) 5,Int.fmod (Int.fdiv (Int.fdiv n 8) 3) 4]
noncomputable def zI (n:Int) (nu:Nat->Int) (x:Nat):Int:=be (Nat.ble 1 x&&Nat.ble x 8) ((M7 n).getD (x - 1) 0) (nu x)
theorem iW {n:Int} {x:Nat} (h:x=0∨9≤x):zI n nu x=nu x:=f8 (h.elim (fun e=>e▸rfl) fun h=>Bool.eq_false_iff.mpr fun q=>aa q fun _ q=>absurd (Nat.le_of_ble_eq_true q) (Nat.not_le.mpr h))
theorem Hq:(df.drop 7).all (fun d=>Nat.ble 9 d.x&&Nat.ble 9 d.y)=true:=by decide +kernel
theorem Hr {n:Int} (hD:∀ d∈df,d.ok nu):∀ d∈df,d.ok (zI n nu):=by
  refine List.forall_mem_cons.mpr ⟨rfl,List.forall_mem_cons.mpr ⟨rfl,List.forall_mem_cons.mpr ⟨rfl,List.forall_mem_cons.mpr ⟨rfl,List.forall_mem_cons.mpr ⟨rfl,List.forall_mem_cons.mpr ⟨rfl,List.forall_mem_cons.mpr ⟨rfl,fun d hd=>?_⟩⟩⟩⟩⟩⟩⟩
  have hd:d∈df.drop 7:=hd
  refine aa (List.all_eq_true.mp Hq d hd) fun a b=>?_
  have old:=hD d (List.mem_of_mem_drop hd)
  unfold Df.ok at old ⊢
  rw [iW (.inr (Nat.le_of_ble_eq_true a)),iW (.inr (Nat.le_of_ble_eq_true b))]; exact old
structure Ku (V:Pl) (om:Nat->Value) (nu:Nat->Int) (V':Pl) (om':Nat->Value) (nu':Nat->Int) (E':List Nat) (p':Nat):Prop where
  n:V'.n=67
  lo:∀ i,i < 8->V'.at_ i=V.at_ i
  om:∀ k,k≠1->om' k=om k
  head:∀ x,9≤x->x≤18->nu' x=nu x
  b:nu' 31=nu 31 + 4
  hE:E'∈fg
  hp:p'≤E'.length
  fc:Fcs nu' (cg E' p')
inductive Out (Y:Lw) (kp:List (Addr×Obj)) (V:Pl) (om:Nat->Value) (nu:Nat->Int) (E:List Nat) (p:Nat) (a:AV) (s':Shared):Prop
  | old (V' om' nu' E' p') (d:Ku V om nu V' om' nu' E' p') (e:V'.at_ 60=V.at_ 60) (m:vG nu nu' E p E' p') (R:LR Y kp V' om' nu' (stX E' p' none none [] (aX a) []) s')
  | new (V' om' nu' E' p') (d:Ku V om nu V' om' nu' E' p') (e:a=.none) (R:LR Y kp V' om' nu' (stX E' p' none none (dW (E'.take p')) (aX (.own 60)) []) s') (m:EM nu' (E'.take p') nu' E' p')
theorem vG.congr {nu1 nu2 nu':Nat->Int} {E':List Nat} {p':Nat} (h:vG nu1 nu' E p E' p') (e:∀ x,20≤x->nu1 x=nu2 x):vG nu2 nu' E p E' p':=
  have a:=e 20 (by decide)
  ⟨h.pre,fun k hk=>e (23 + k) (Nat.le_trans (by decide) (Nat.le_add_right 23 k))▸h.told k hk,a▸h.S,e 21 (by decide)▸e 22 (by decide)▸h.T,a▸h.P⟩
noncomputable def M8 (V:Pl) (a:AV):Value:=oe a.own? .none fun _=>.ref (V.at_ 60)
noncomputable def omE (V:Pl) (a:AV) (om:Nat->Value) (k:Nat):Value:=be (Nat.beq k 1) (M8 V a) (om k)
theorem wC {a:AV} {k:Nat} (h:k≠1):omE V a om k=om k:=f8 (Bool.eq_false_iff.mpr fun q=>h (nb q))
theorem DK {X X':Cx} {V':Pl} {a:AV} (ha:a=.none∨a=.own 60) {v:Value} (ho:X'.om=omE V a om) (d:den X V a v):den X' V' (.any 1) v:=by
  show v=X'.om 1
  rw [ho]
  rcases ha with rfl | rfl
  · exact d
  · exact d.2
theorem Hs (hf:eN Y A env V) (hn:V.n=67) {a:AV} {j:Nat} {n:Int} {t:Tok} (R:LR Y kp V om nu (stX E p none none [] (put (aX a) 121450625394034 (.any j)) []) s) (hE:E∈fg) (hp:p≤E.length) (ha:a=.none∨a=.own 60) (hj:om j=.int n t) (hc:Fcs nu (cg E p)) (hb:nu 31≤990)
    (hQ:∀ s',Out Y kp V om nu E p a s'->Q .next s'):wpAny (model cu Y.w) A (execs (ssB Y.w.params) env) Q Ex s:=R.rec fun h0 hB hD R0=>by
  have hi:∀ {x},9≤x->zI n nu x=nu x:=fun h=>iW (.inr h)
  have e31:zI n nu 31=nu 31:=hi (by decide)
  have hb':nu 31≤1000:=Int.le_trans hb (by decide)
  refine LR.relet hE hp (loc':=FT) (.mk h0 hB hD R0) hc hb' (nu':=zI n nu) (fun x hx=>iW hx) (Hr hD) (om':=omE V a om) (fun k=>wC) (fun q0 qB qD q0' qB' qD' V' vn va m x e=>?_) fun V1 n1 a1 hc1 R1=>?_
  · exact Ie (G:=fun m x=>∃ b,look (put (aX a) 121450625394034 (.any j)) m=some b∧∀ v,den (aS Y.w Y.os nu q0 qB qD om) V b v->den (aS Y.w Y.os (zI n nu) q0' qB' qD' (omE V a om)) V' x v) e ⟨a,rfl,fun v d=>DK ha rfl d⟩ ⟨lv 9,rfl,iU rfl⟩ ⟨.any j,rfl,fun v d=>⟨t,(show v=om j from d).trans (hj.trans (congrArg (Value.int · t) (Int.add_zero n).symm))⟩⟩
  have f1:=hf.lo n1 a1
  have e:ssB Y.w.params=(ssB Y.w.params).take 7++(ssB Y.w.params).drop 7:=(List.take_append_drop ..).symm
  rw [e]
  refine gh (Hm f1 n1 R1 hE hp hc1 (e31.symm▸hb) fun s2 V2 nu2 E' p' T h45=>?_)
  have l2:=a1.trans T.lo
  have f2:=f1.lo T.n T.lo
  have b31:nu2 31=nu 31 + 4:=e31▸T.b
  have b2:nu2 31≤1000:=by omega
  have out:∀ {V3:Pl} {nu3:Nat->Int},V3.n=67->(∀ i,i < 8->V3.at_ i=V2.at_ i)->(∀ x,x < 40->nu3 x=nu2 x)->Fcs nu3 (cg E' p')->Ku V om nu V3 (omE V a om) nu3 E' p':=fun n3 a3 h3 fc=>⟨n3,fun i hi=>(a3 i hi).trans (l2 i (.inl hi)),fun k=>wC,fun x g1 g2=>(h3 x (Nat.lt_of_le_of_lt g2 (by decide))).trans ((T.low x (Nat.le_succ_of_le g2)).trans (hi g1)),(h3 31 (by decide)).trans b31,T.hE,T.hp,fc⟩
  have old:∀ V3 s3,V3.n=67->Lo V2 V3->LR Y kp V3 (omE V a om) nu2 (stX E' p' none none [] (aX a) []) s3->Q .next s3:=fun V3 s3 n3 a3 R3=>hQ s3 (.old V3 _ nu2 E' p' (out n3 (fun i hi=>a3 i (.inl hi)) (fun _ _=>rfl) T.fc) ((l2.trans a3) 60 (.inr rfl)) (T.m.congr fun x hx=>hi (Nat.le_trans (by decide) hx)) R3)
  have h45':4≤nu2 2->nu2 2≤5->nu2 20≤nu2 22:=T.low 2 (by decide)▸h45
  rcases ha with rfl | rfl
  · exact wB f2 T.n T.R T.hE T.hp rfl T.fc b2 h45' old fun V3 nu3 s3 N=>hQ s3 (.new V3 _ nu3 E' p' (out N.n N.lo N.low N.fc) rfl N.R N.em)
  · exact ur f2 T.n T.R T.hE T.hp (congrArg Value.ref (l2 60 (.inr rfl)).symm) T.fc b2 old
end
end
section
theorem qf:tx 121450625394034=("number" : Str):=by kernel_rfl
theorem oh (P:Params):(scL P).names.lookup ("number" : Str)=some .local:=by kernel_rfl
inductive kJ (Y:Lw) (ek:List (Addr×Obj)) (V:Pl) (nu:Nat->Int) (E:List Nat) (p:Nat) (a:AV):Prop
  | none (e:a=.none)
  | some (e:a=.own 60) (Tl f) (Z:Frz Y ek (.ref (V.at_ 60)) f Tl) (m:EM f Tl nu E p)
theorem kJ.cases {Y:Lw} {ek:List (Addr×Obj)} {V:Pl} {nu:Nat->Int} {E:List Nat} {p:Nat} {a:AV} (h:kJ Y ek V nu E p a):a=.none∨a=.own 60:=h.rec .inl fun e _ _ _ _=>.inr e
inductive LSt (Y:Lw) (kq:List (Addr×Obj)->List (Addr×Obj)) (V0:Pl) (om0:Nat->Value) (nuH:Nat->Int) (ws:List Addr) (b:Int) (s:Shared):Prop
  | mk (ek V nu om E p a) (n:V.n=67) (lo:∀ i,i < 8->V.at_ i=V0.at_ i) (hom:∀ k,k≠1->om k=om0 k) (head:∀ x,9≤x->x≤18->nu x=nuH x) (hb:nu 31≤b) (hE:E∈fg) (hp:p≤E.length) (fc:Fcs nu (cg E p)) (fx:∀ q∈ek,q.1∉ws)
    (R:LR Y (kq ek) V om nu (stX E p none none [] (aX a) []) s) (ha:kJ Y ek V nu E p a)
section
variable {Y:Lw} {A:Around} {env:Env} {V0:Pl} {om0:Nat->Value} {nuH:Nat->Int} {V1:Pl} {z0 zB zD} {np:Pos} {xs:List It} {L:Src (aS Y.w Y.os nuH z0 zB zD om0) (.Name "number" np) V1 xs} {K1:List (Addr×Obj)} {s:Shared}
inductive Kv (Y:Lw) (L:Src (aS Y.w Y.os nuH z0 zB zD om0) (.Name "number" np) V1 xs) (K1:List (Addr×Obj)) (V0:Pl) (n:Nat) (s:Shared):Prop
  | mk (i K) (e:n + i=xs.length) (c:jB K L.ws) (st:L.S i s.heap) (S:LSt Y (fun ek=>K++(K1++ek)) V0 om0 nuH L.ws (10 + 4 * (i:Int)) s)
structure Ht (ws fp:List Addr) (K1:List (Addr×Obj)):Prop where
  kp:∀ b∈ws,∀ p∈K1,p.1≠b
  fp:∀ b∈fp,b∈ws∨∃ ob,(b,ob)∈K1
theorem Ht.to {ws fp:List Addr} (x:Ht ws fp K1) {ek:List (Addr×Obj)} (h:∀ q∈ek,q.1∉ws):xl (FK Y.H Y.L (K1++ek)) ws fp:=
  ⟨fun b hb p hp=>(List.mem_append.mp hp).elim (x.kp b hb p) fun hp e=>h p hp (e▸hb),fun _ _ _ h=>(List.not_mem_nil h).elim,fun b hb=>(x.fp b hb).imp_right fun q=>.inl (q.imp fun ob m=>List.mem_append_left _ m)⟩
theorem Ig {ek:List (Addr×Obj)}:∀ q∈(FK Y.H Y.L ek).lk,∃ p∈(FK Y.H Y.L ek).kp,p.1=q.2:=fun _ h=>(List.not_mem_nil h).elim
theorem DL (hf:eN Y A env V0) (fx:Ht L.ws L.fp K1) {n:Nat} {j:Nat} {m:Int} {t:Tok} {i:Nat} {v:Value} {K2 ek:List (Addr×Obj)} {V:Pl} {nu:Nat->Int} {om:Nat->Value} {E:List Nat} {p:Nat} {a:AV} {h0 hB hD} (hn:n + (i + 1)=xs.length) (vn:V.n=67) (lo:∀ i,i < 8->V.at_ i=V0.at_ i) (hom:∀ k,k≠1->om k=om0 k) (head:∀ x,9≤x->x≤18->nu x=nuH x) (hb:nu 31≤10 + 4 * (i:Int)) (hi:xs.length≤7) (hE:E∈fg) (hp:p≤E.length) (fc:Fcs nu (cg E p)) (hek:∀ q∈ek,q.1∉L.ws)
    (ha:kJ Y ek V nu E p a) (c2:jB K2 L.ws) (hA:A.handled=none) (st:L.S (i + 1) s.heap) (R:Rel (aS Y.w Y.os nu h0 hB hD om) (FK Y.H Y.L (K2++(K1++ek))) V (stX E p none none [] (aX a) []) s) (hv:om j=v) (hj:om j=.int m t) {Q:Unit->Shared->Prop} {B:Flow->Shared->Prop} {Ex Ey:Value->Shared->Prop} (hB:∀ s',Kv Y L K1 V0 n s'->B .next s') (hQ:∀ s',wpAny (model cu Y.w) A (execs (ssB Y.w.params) env) B Ex s'->Q () s') :
    wpAny (model cu Y.w) A (assign (.Name "number" np) env v) Q Ey s:=by
  have fV:eN Y A env V:=hf.re (vn▸by decide) lo
  refine wpAny_assign_Name (gd (a:=.any j) (fV nu h0 _ hD om _) qf (oh Y.w.params) R hv.symm fun s3 R3=>hQ s3 (Hs fV vn (.mk h0 _ hD R3) hE hp ha.cases hj fc (by omega) fun s4 O=>hB s4 ?_))
  have fr:∀ {V':Pl} {nu':Nat->Int} {om':Nat->Value} {C:St},LR Y (K2++(K1++ek)) V' om' nu' C s4->L.S (i + 1) s4.heap:=fun R5=>R5.rec fun _ _ _ R5=>(L.W A hA).frame _ _ _ st fun b hb o e=>have kept:∀ {ob},(b,ob)∈K2++(K1++ek)->s4.heap.get? b=some o:=fun m=>sm ((R.mem.kept _ m).1.symm.trans e)▸(R5.mem.kept _ m).1
    (fx.fp b hb).elim (fun q=>(c2.all b q).elim fun ob m=>kept (List.mem_append_left _ m)) fun q=>q.elim fun ob m=>kept (List.mem_append_right _ (List.mem_append_left _ m))
  cases O with
  | old V' om' nu' E' p' d e m R5=>
    refine .mk (i + 1) K2 hn c2 (fr R5) (.mk ek V' nu' om' E' p' a d.n (fun i hi=>(d.lo i hi).trans (lo i hi)) (fun k hk=>(d.om k hk).trans (hom k hk)) (fun x g1 g2=>(d.head x g1 g2).trans (head x g1 g2)) (by rw [d.b,Int.natCast_add]; omega) d.hE d.hp d.fc hek R5 ?_)
    exact ha.rec .none fun e1 Tl f Z m1=>.some e1 Tl f (e▸Z) (m1.step m)
  | new V' om' nu' E' p' d e R5 m=>
    refine rZ d.hE d.hp R5 fun ek' Z ht hR=>.mk (i + 1) K2 hn c2 (fr R5) (.mk ek' V' nu' om' E' p' (.own 60) d.n (fun i hi=>(d.lo i hi).trans (lo i hi)) (fun k hk=>(d.om k hk).trans (hom k hk)) (fun x g1 g2=>(d.head x g1 g2).trans (head x g1 g2)) (by rw [d.b,Int.natCast_add]; omega) d.hE d.hp d.fc (fun q hq hw=>?_) (hR _ fun q hq=>?_) (.some rfl _ nu' Z m))
    · exact R5.rec fun q0 qB qD R5=>(ht q hq).elim fun i z=>z.elim fun o z=>(((show Rel (aS Y.w Y.os nu' q0 qB qD om') ((FK Y.H Y.L (K1++ek)).hold K2 []) V' _ s4 from R5).drop (fx.to hek) c2 Ig).2 _ hw).a0.ob i o z.1 z.2.symm
    · exact (List.mem_append.mp hq).elim (fun m=>.inl (List.mem_append_left _ m)) fun hq=>(List.mem_append.mp hq).elim (fun m=>.inl (List.mem_append_right _ (List.mem_append_left _ m))) .inr
theorem DM (hf:eN Y A env V0) (fx:Ht L.ws L.fp K1) (hA:A.handled=none) (hx:∀ x∈xs,∃ j m t,x=It.one (.any j)∧j≠1∧om0 j=.int m t) (hi:xs.length≤7) (I:Kv Y L K1 V0 xs.length s) {R:Result->Shared->Prop}
    (hend:∀ s',LSt Y (fun ek=>ek) V0 om0 nuH [] 40 s'->R (.ok .next) s'):codeAny (model cu Y.w) A (.forLoop (.Name "number" np) (.ref L.I) (ssB Y.w.params) [] env) R s:=by
  refine codeAny_forLoop_any (fun n s'=>Kv Y L K1 V0 n s') (fun n s I=>?_) xs.length I
  cases I with
  | mk i K e c st S=>
  cases S with
  | mk ek V nu om E p a vn lo hom head hb hE hp fc hek R ha=>
  cases R with
  | mk h0 hB hD R=>
  obtain ⟨R1,aw⟩:=(show Rel (aS Y.w Y.os nu h0 hB hD om) ((FK Y.H Y.L (K1++ek)).hold K []) V _ s from R).drop (fx.to hek) c Ig
  cases n with
  | zero=>
    obtain rfl:i=xs.length:=by omega
    exact (L.W A hA).done s _ _ st fun h1 tk hk=>wpAny_execs_nil (hend _ (.mk ek V nu om E p a vn lo hom head (by omega) hE hp fc (fun _ _ h=>(List.not_mem_nil h).elim) (.mk h0 hB hD (Rel.freeze (kp:=K1++ek) (s:={ s with heap:=h1,toks:=tk }) ⟨R1.mem.but aw hk,R1.n,R1.facts,R1.os,R1.gens⟩ (fun _ _ e=>e) fun q hq=>.inl (List.mem_append_right _ hq))) ha))
  | succ n=>
    have lt:i < xs.length:=by omega
    refine (L.W A hA).item i s _ _ lt st fun v h1 tk hMd hk1=>(L.W A hA).go i v _ _ _ hMd fun h2 hP st2 hk2=>?_
    obtain ⟨x,ex,hit⟩:=L.hP i v h2 hP
    obtain ⟨j,m,t,rfl,j1,hj⟩:=hx x (List.mem_of_getElem? ex)
    cases hit with
    | one d=>
    have R2:Rel (aS Y.w Y.os nu h0 hB hD om) (FK Y.H Y.L (K1++ek)) V (stX E p none none [] (aX a) []) { s with heap:=h2,toks:=tk }:=⟨R1.mem.but aw fun b o hb e=>hk2 b o hb (hk1 b o hb e),R1.n,R1.facts,R1.os,R1.gens⟩
    have oj:om j=om0 j:=hom j j1
    exact R2.holdOwn aw (L.hx _ _ st2) fun K2 c2 R3=>DL hf fx (i:=i) (by omega) vn lo hom head hb hi hE hp fc hek ha c2 hA st2 R3 (oj.trans (show v=om0 j from d).symm) (oj.trans hj) (fun s' I=>⟨n,Nat.lt_succ_self n,I⟩) fun s' h=>h
end
end
section
noncomputable def wD:Stmt:=.Assign [.Name "head" ⟨1035,4,1035,8⟩] (.IfExp (.Name "script" ⟨1035,24,1035,30⟩) (.Subscript (.Name "script" ⟨1035,11,1035,17⟩) (.Constant (.int 0) 0 ⟨1035,18,1035,19⟩) ⟨1035,11,1035,20⟩) (.Constant (.int 0) 0 ⟨1035,36,1035,37⟩) ⟨1035,11,1035,37⟩) ⟨1035,4,1035,37⟩
noncomputable def yi (b:List Stmt):Stmt:=.For (.Name "number" ⟨1053,8,1053,14⟩) (.Subscript (.Name "script" ⟨1053,18,1053,24⟩) (.Slice (some (.Constant (.int 1) 0 ⟨1053,25,1053,26⟩)) (some (.Constant (.int 8) 0 ⟨1053,27,1053,28⟩)) none ⟨1053,25,1053,28⟩) ⟨1053,18,1053,29⟩) b [] ⟨1053,4,1087,81⟩
noncomputable def M9:Stmt->List Expr
  | .If (.BoolOp _ es _) _ _ _=>es
  | _=>[]
noncomputable def zJ (P:Params) (i:Nat):Expr:=((M9 ((ssC P).headD (.Pass ⟨0,0,0,0⟩)))[i]?).getD (.Constant .none 0 ⟨0,0,0,0⟩)
noncomputable def Mi:Pos:=⟨1088,7,1088,118⟩
noncomputable def Kx (P:Params):Stmt:=.If (.BoolOp .Or [zJ P 0,zJ P 1,zJ P 2] Mi) [.Return (some (.Constant (.bool false) 0 ⟨1089,15,1089,20⟩)) ⟨1089,8,1089,20⟩] [] ⟨1088,4,1089,20⟩
theorem zK (P:Params):kG (kf P)=wD::(ssA P++(yi (ssB P)::(Kx P::(ssC P).drop 1))):=by kernel_rfl
structure DN (P:Params) (e:Expr) (c:C):Prop where
  rq:(TX.t (scL P) e).rq=[]
  c:(TX.t (scL P) e).c=c
theorem Ky (P:Params):DN P (zJ P 0) Jx:=⟨by kernel_rfl,by kernel_rfl⟩
theorem Kz (P:Params):DN P (.BoolOp .Or [zJ P 1,zJ P 2] Mi) (eOr pg [Jy,Jz]):=⟨by kernel_rfl,by kernel_rfl⟩
section
variable {E:List Nat} {p k x:Nat}
theorem wE (hE:E∈fg):∀ k∈0::E,k≤2:=gL (Q:=fun E=>∀ k∈0::E,k≤2) (by decide) (by decide) (by decide) (by decide) (by decide) hE
theorem Hu (hE:E∈fg):∀ x∈lX E E.length,x < 40:=gL (Q:=fun E=>∀ x∈lX E E.length,x < 40) (by decide +kernel) (by decide +kernel) (by decide +kernel) (by decide +kernel) (by decide +kernel) hE
end
theorem Fcs.flat {nu:Nat->Int} {l:List Nat} {f:Nat->List Fc} (h:∀ k∈l,Fcs nu (f k)):Fcs nu (l.flatMap f):=fun g hg=>(List.mem_flatMap.mp hg).elim fun k q=>h k q.1 g q.2
section
variable {Y:Lw} {A:Around} {env:Env} {kp:List (Addr×Obj)} {V:Pl} {om:Nat->Value} {nu:Nat->Int} {s:Shared} {Ex:Value->Shared->Prop} {G:Prop} {E:List Nat} {p:Nat}
theorem oi {e:Expr} {c:C} (t:DN Y.w.params e c) (hf:eN Y A env V) {σ:St} (R:LR Y kp V om nu σ s) {k:St->Bool} (h:JA c σ k=true) {Q:Bool->Shared->Prop}
    (hQ:∀ h0 hB hD V' σ' s',V.le V'->Rel (aS Y.w Y.os nu h0 hB hD om) (FK Y.H Y.L kp) V' σ' s'->k σ'=true->Q false s'):wpAny (model cu Y.w) A (isTrue e env (eval e env)) Q Ex s:=R.rec fun h0 hB hD R=>by
  have this:eC (aS Y.w Y.os nu h0 hB hD om) (scL Y.w.params) e c:=t.c▸(TX.t (scL Y.w.params) e).ok (aS Y.w Y.os nu h0 hB hD om) kH.b fun r hr=>by rw [t.rq] at hr; exact (List.not_mem_nil hr).elim
  refine this (k:=fun _ q σ=>!q&&k σ) (rW 60) (hf nu h0 hB hD om kp) R h gD fun a b V' σ' s' l R' _ q=>?_
  cases b with
  | true=>exact ff q
  | false=>exact hQ h0 hB hD V' σ' s' l R' q
theorem ut {h0 hB hD} {V0:Pl} {σ':St} {s':Shared} {ex:List Nat->List Fc} (R:Rel (aS Y.w Y.os nu h0 hB hD om) (FK Y.H Y.L kp) V σ' s') (hV:Lo V0 V) (hb:nu 31≤990) (h:Db ex E p σ'=true) (g:∀ V' nu',Fcs nu' (ex E)->DE Y kp V0 om nu E p (aX (.any 1)) s' V' nu' E E.length->G):G:=
  iM (p:=p) (E:=E) R hV hb (fun E' p' M h=>aa h fun _ h=>aa h fun _ h=>h) h fun E' p' M V' nu' hm fx T=>aa hm fun h1 hm=>aa hm fun h2 _=>by
    cases eI h1
    cases nb h2
    exact g V' nu' fx T
theorem DO {σ:St} (hf:eN Y A env V) (R:LR Y kp V om nu σ s) (h:b9 σ=true) {Q:Flow->Shared->Prop} (hQ:∀ V' σ' s',LR Y kp V' om nu σ' s'->Q (.ret (.bool true)) s'):wpAny (model cu Y.w) A (execs ((ssC Y.w.params).drop 4) env) Q Ex s:=R.rec fun h0 hB hD R=>(DC.drop 4).snd rfl (rW 60) (hf nu h0 hB hD om kp) R h gD fun fl fw V' σ' s' l R' d q=>by
    cases d with
    | next=>exact ff q
    | cont=>exact ff q
    | @ret a v d=>
      have q:oe a.eq? (ob a.bool? fun q=>q) (fun p=>vB σ' p.1 p.2)=true:=q
      have fin:v=.bool true->Q (.ret v) s':=fun e=>e▸hQ V' σ' s' (.mk h0 hB hD R')
      exact az q (fun _ q=>ad q fun b hb e=>fin (e▸(AV.bool_of hb▸d:den (aS Y.w Y.os nu h0 hB hD om) V' (.bool b) v))) fun p hp q=>fin ((AV.eq_of hp▸d:den (aS Y.w Y.os nu h0 hB hD om) V' (.eq p.1 p.2) v).trans (congrArg Value.bool (decide_eq_true (ra R'.facts q))))
theorem yj {a b:AV} {X:Cx} (h:∀ v,den X V a v->den X V b v) (n:Nm) (x:AV) (e:look (aX b) n=some x):∃ y,look (aX a) n=some y∧∀ v,den X V y v->den X V x v:=uq (G:=fun n x=>∃ y,look (aX a) n=some y∧∀ v,den X V y v->den X V x v) e ⟨a,rfl,h⟩ ⟨lv 9,rfl,fun v d=>d⟩
theorem zL {Tl:List Nat} {f lo:Nat->Int} {h0 hB hD} {ek:List (Addr×Obj)} {v:Value} (hE:E∈fg) (hf:eN Y A env V) (hn:V.n=67) (R:Rel (aS Y.w Y.os lo h0 hB hD om) (FK Y.H Y.L ek) V (stR E E.length (aX (.any 1)) []) s) (ho:om 1=v) (Z:Frz Y ek v f Tl) (em:EM f Tl nu E E.length) (fx:Fcs nu (exB E)) (fc:Fcs nu (cg E E.length)) (hb:nu 31≤1000)
    (lol:∀ x,x < 40->lo x=nu x) (loh:∀ x,40≤x->lo x=f x) (fl:Fcs lo (exB E)) (cl:Fcs lo (cg E E.length)) {Q:Flow->Shared->Prop} (hQ:∀ kp' V' om nu σ' s',LR Y kp' V' om nu σ' s'->Q (.ret (.bool true)) s'):wpAny (model cu Y.w) A (execs ((ssC Y.w.params).drop 4) env) Q Ex s:=by
  have pre:Tl <+: E:=List.take_length (l:=E)▸em.pre
  have hTl:Tl=E.take Tl.length:=List.prefix_iff_eq_take.mp pre
  have e0:=lol 0 (by decide)
  have e20:=lol 20 (by decide)
  have e21:=lol 21 (by decide)
  have x40:=loh 40 (by decide)
  have x41:=loh 41 (by decide)
  have c:=DI fc
  have z:nu 0=0:=e0.symm.trans h0
  have s1:=em.S
  have o1:=em.one.1
  have o2:=em.one.2.1
  have t1:=em.T
  have base:Fcs lo (exE Tl):=by
    refine (Fcs.flat fun k hk=>?_).app (.cons (by omega) (.cons (by omega) (.cons (by omega) (.cons (by omega) (.cons (by omega) .nil)))))
    have hk5:k∈0::E:=(List.mem_cons.mp hk).elim (fun e=>e▸.head _) fun hk=>.tail _ (pre.subset hk)
    have k2:=wE hE k hk5
    have q1:=em.one.2.2 k hk
    have q2:=em.rows k hk
    have q3:=up fc (k:=k) (by rw [List.take_length]; exact hk5)
    have q4:=DH fc hk5
    have q5:=loh (42 + k) (Nat.le_trans (by decide) (Nat.le_add_right 42 k))
    have q6:=lol (26 + k) (by omega)
    exact .cons (by omega) (.cons (by omega) (.cons (by omega) .nil))
  have last:∀ same q',Tl=E.take q'->Fcs lo (exS same)->b9 (fI same E q')=true->wpAny (model cu Y.w) A (execs ((ssC Y.w.params).drop 4) env) Q Ex s:=fun same q' e' hx hk=>wA R hn Z loh fun V' n' v' a' R'=>by
    refine DO (σ:=fI same E q') (hf.re (n'▸by decide) fun i hi=>a' i (Nat.lt_trans hi (by decide))) (.mk h0 hB hD ?_) hk fun V' σ' s'=>hQ [] V' om lo σ' s'
    have:=R'.reloc (loc:=aX (.own 71)) (f:=kY ((exE Tl++(exS same++exB E))++(cg E E.length++zv E E.length))) (yj fun v d=>⟨n'▸by decide,(show v=om 1 from d).trans (ho.trans v')⟩) (cT h0 ((base.app (hx.app fl)).app cl) ((lol 31 (by decide)).symm▸hb))
    rw [e'] at this
    exact this
  refine (Int.lt_or_le (f 41) (nu 21)).elim (fun g=>?_) fun g=>?_
  · exact last false Tl.length hTl (.cons (by omega) .nil) (M1 hE pre.length_le)
  · have d20:nu 20≤nu 22 + 0:=fx.nth 0 rfl
    have hP:=em.P
    have len:E.length=Tl.length:=by omega
    exact last true E.length (len▸hTl) (.cons (by omega) (.cons (by omega) (.cons (by omega) (.cons (by omega) .nil)))) (M6 hE)
noncomputable def loE (f nu:Nat->Int) (x:Nat):Int:=be (Nat.ble 40 x) (f x) (nu x)
theorem r7 {f:Nat->Int} {x:Nat} (h:x < 40):loE f nu x=nu x:=f8 (Bool.eq_false_iff.mpr fun q=>absurd (Nat.le_of_ble_eq_true q) (Nat.not_le.mpr h))
theorem uu {f:Nat->Int} {x:Nat} (h:40≤x):loE f nu x=f x:=lR (Nat.ble_eq_true_of_le h)
theorem DP {h0 hB hD} {V0 V1:Pl} {a:AV} {ek:List (Addr×Obj)} {nu1:Nat->Int} (hE:E∈fg) (hf:eN Y A env V1) (hV:Lo V1 V) (ha:kJ Y ek V0 nu1 E p a) (step:∀ {f Tl},EM f Tl nu1 E p->EM f Tl nu E E.length) (R:Rel (aS Y.w Y.os nu h0 hB hD (omE V0 a om)) (FK Y.H Y.L ek) V σ s) (fx:Fcs nu (exB E)) (fc:Fcs nu (cg E E.length)) (hb:nu 31≤1000) (q:Ic E σ=true)
    {Q:Flow->Shared->Prop} (hQ:∀ kp' V' om nu σ' s',LR Y kp' V' om nu σ' s'->Q (.ret (.bool true)) s'):wpAny (model cu Y.w) A (execs ((ssC Y.w.params).drop 4) env) Q Ex s:=aa (k_y hE (Nat.le_refl E.length)) fun _ y=>aa y fun _ y3=>by
  have fin:∀ {G:Prop} (lo:Nat->Int),(∀ x,x < 40->lo x=nu x)->(∀ x,hO x=false->-100000≤lo x∧lo x≤100000)->(∀ V9 r0 rB rD,V9.n=67->eN Y A env V9->Fcs lo (exB E)->Fcs lo (cg E E.length)->Rel (aS Y.w Y.os lo r0 rB rD (omE V0 a om)) (FK Y.H Y.L ek) V9 (stR E E.length (aX (.any 1)) []) s->G)->G:=fun lo lol lob g=>have z:=(lol 0 (by decide)).trans h0
    pR (om:=omE V0 a om) (lo:=lo) R (ri (fun x hx=>lol x (Nat.lt_of_le_of_lt hx (by decide))) fun x hx=>lol x (Hu hE x hx)) (fun _ _=>rfl) (C:=stR E E.length (aX (.any 1)) []) rfl lob (mv hD fun x hx=>lol x (Nat.lt_of_le_of_lt hx (by decide))) q (fun fcs=>cT (fs:=[]) z (Fcs.right fcs) ((lol 31 (by decide)).symm▸hb)) fun r0 rB rD fcs R9=>g _ r0 rB rD rfl (hf.lo rfl (hV.trans fun i hi=>nF (M:=⟨19,99,Cg (dN E E.length none none []),idV (lX E E.length)⟩) y3 hi)) (Fcs.left fcs) (Fcs.right fcs) R9
  cases ha with
  | none e=>
    subst e
    exact fin nu (fun _ _=>rfl) hB fun V9 r0 rB rD n9 f9 _ _ R9=>DO (σ:=um E) f9 (.mk r0 rB rD (R9.reloc (loc:=aX .none) (f:=kY (exB E++(cg E E.length++zv E E.length))) (yj fun v d=>d) (cT r0 (fx.app fc) hb))) (M5 hE) fun V' σ' s'=>hQ ek V' _ nu σ' s'
  | some e Tl f Z m=>
    subst e
    refine fin (loE f nu) (fun _=>r7) (fun x hx=>?_) fun V9 r0 rB rD n9 f9 fl cl R9=>zL hE f9 n9 R9 rfl Z (step m) fx fc hb (fun _=>r7) (fun _=>uu) fl cl hQ
    exact (Nat.lt_or_ge x 40).elim (fun l=>r7 l▸hB x hx) fun l=>uu l▸Z.rec fun _ aB _ _ _ _ _ _=>aB x hx
theorem Hv {V0:Pl} {om0:Nat->Value} {nuH:Nat->Int} (hf:eN Y A env V0) (S:LSt Y (fun ek=>ek) V0 om0 nuH [] 40 s) {Q:Flow->Shared->Prop} (hQ:∀ kp' V' om nu σ' s',LR Y kp' V' om nu σ' s'->Q (.ret (.bool true)) s'):wpAny (model cu Y.w) A (execs (Kx Y.w.params::(ssC Y.w.params).drop 1) env) Q Ex s:=by
  cases S with
  | mk ek V nu om E p a vn lo hom head hb hE hp fc _ R ha=>
  cases R with
  | mk z0 zB zD R=>
  refine LR.relet hE hp (loc':=aX (.any 1)) (.mk z0 zB zD R) fc (Int.le_trans hb (by decide)) (nu':=nu) (fun x hx=>rfl) zD (om':=omE V a om) (fun k=>wC) (fun q0 qB qD q0' qB' qD' V' vn va m x e=>uq (G:=fun m x=>∃ b,look (aX a) m=some b∧∀ v,den (aS Y.w Y.os nu q0 qB qD om) V b v->den (aS Y.w Y.os nu q0' qB' qD' (omE V a om)) V' x v) e ⟨a,rfl,fun v d=>DK ha.cases rfl d⟩ ⟨lv 9,rfl,fun v d=>d⟩) fun V1 n1 a1 _ R1=>?_
  have f1:eN Y A env V1:=hf.re (n1▸by decide) fun i hi=>(a1 i (.inl hi)).trans (lo i hi)
  refine wpAny_execs_cons (wpAny_If (isTrue_or (oi (Ky _) f1 (R1.refact (fs':=[]) fc (Int.le_trans hb (by decide))) (MZ hE hp) fun q0 qB qD V2 σ2 s2 l2 R2 q=>ut R2 (Lo.le n1 l2) (Int.le_trans hb (by decide)) q fun V3 nu3 x3 T3=>?_)))
  have b3:nu3 31≤44:=by have:=T3.b; omega
  refine oi (Kz _) (f1.lo T3.n T3.lo) (T3.R.refact (fs':=exA E) (x3.app T3.fc) (Int.le_trans b3 (by decide))) (M2 hE) fun q0 qB qD V4 σ4 s4 l4 R4 q=>ut R4 (V0:=V1) (T3.lo.trans (Lo.le T3.n l4)) (Int.le_trans b3 (by decide)) q fun V5 nu5 x5 T5=>wpAny_execs_nil ?_
  have b5:nu5 31≤1000:=by have:=T5.b; omega
  show wpAny (model cu Y.w) A (execs ((ssC Y.w.params).drop 1) env) Q Ex s4
  have e1:(ssC Y.w.params).drop 1=((ssC Y.w.params).drop 1).take 1++(((ssC Y.w.params).drop 2).take 2++(ssC Y.w.params).drop 4):=by
    conv=>lhs; rw [← List.take_append_drop 1 ((ssC Y.w.params).drop 1),List.drop_drop,← List.take_append_drop 2 ((ssC Y.w.params).drop (1 + 1)),List.drop_drop]
  rw [e1]
  refine gh (fG ((DC.drop 1).take 1) (f1.lo T5.n T5.lo) (T5.R.refact (fs':=exB E) (x5.app T5.fc) b5) (M3 hE) fun q0 qB qD V6 σ6 s6 l6 R6 q=>n8 (V0:=V1) hE (Nat.le_refl _) R6 (T5.lo.trans (Lo.le T5.n l6)) b5 q fun V7 n7 a7 R7=>?_)
  refine gh (fG ((DC.drop 2).take 2) (f1.lo n7 a7) (R7.refact (fs':=kI++exB E) (((n0 qD q0).app x5).app T5.fc) b5) (M4 hE) fun q0 qB qD V8 σ8 s8 l8 R8 q=>?_)
  exact DP hE f1 (a7.trans (Lo.le n7 l8)) ha (fun m=>(m.step T3.m).step T5.m) R8 x5 T5.fc b5 q hQ
end
end
section
noncomputable def d8:List Addr:=hJ.map (·.tab)
theorem KA (P:Params):((kf P).all fun e=>Nat.blt e.1 1406&&!vt e.1 d8)=true:=by kernel_rfl
theorem DQ (P:Params):(kf P).map (fun e=>alive e.2)=(kf P).map (fun e=>some e.2):=by kernel_rfl
theorem Hw (P:Params):d8.map (fun t=>BT.get (bt 12 (hL P)) t)=d8.map (fun _=>some (tabObj #[])):=by kernel_rfl
theorem DR:d8.all (fun t=>Nat.blt t 1406)=true:=by kernel_rfl
theorem DS (P:Params) {a:Addr} {o:Obj} (h:(kf P).lookup a=some o):(dP P).get? a=some o∧a∉d8:=
  have m:(a,o)∈kf P:=mem_of_lookupK h
  aa (List.all_eq_true.mp (KA P) _ m) fun e1 e2=>⟨(abs_get (Nat.le_of_ble_eq_true e1) (List.map_inj_left.mp (Jq P) _ m)).trans (List.map_inj_left.mp (DQ P) _ m),fun q=>ff ((nt e2).symm.trans (ij.mpr q))⟩
theorem Hx (P:Params) {t:Addr} (h:t∈d8):(dP P).get? t=some (tabObj #[]):=
  (abs_get (Nat.le_of_ble_eq_true (List.all_eq_true.mp DR t h)) (List.map_inj_left.mp (Hw P) _ h)).trans rfl
noncomputable def Mj (P:Params):Obj:=((hL P)[1405]?).getD default
theorem DT (P:Params):(kf P).lookup 1405=some (Mj P):=by kernel_rfl
theorem uv (P:Params):(Mj P).data=.func (fF (kf P)):=by kernel_rfl
theorem DU (P:Params):(fF (kf P)).body=.stmts (kG (kf P)):=by kernel_rfl
theorem Hy (P:Params):(fF (kf P)).closure=[]:=by kernel_rfl
theorem KB (P:Params):jA (kf P) mainGlobals=true:=by kernel_rfl
theorem yk:tx 1751474532=("head" : Str):=by kernel_rfl
theorem zM:tx 126870958469236=("script" : Str):=by kernel_rfl
theorem DV (P:Params):(scL P).names.lookup ("head" : Str)=some .local:=by kernel_rfl
theorem oo (P:Params):(scL P).names.lookup ("script" : Str)=some .local:=by kernel_rfl
theorem Hz:cStatics∉d8:=by decide +kernel
theorem HB {xs:List WData} (h:PySem.Challenge.rw_jk0053_01.row.toRowW.pre.holds PySem.Challenge.rw_jk0053_01.row.toRowW.records { args:=[.list xs] }=true):xs.length≤63:=by
  change WTm.holds [] (.and (.not (.lt (.lit (.int 63)) (.len (.arg 0)))) (.lit (.bool true))) { args:=[.list xs] }=true at h
  by_cases g:(63:Int) < (xs.length:Int)
  · simp [WTm.holds,WTm.value,PySem.W.less?,Num.less?,g] at h
    try omega
  · omega
theorem wF (args:List WData):PySem.Challenge.rw_jk0053_01.row.toRowW.claim.post args (.bool true) args=true:=by
  kernel_rfl
theorem r8 (args:List WData) (c:ExcName):PySem.Challenge.rw_jk0053_01.row.toRowW.claim.raises args c=false:=by
  rfl
theorem DW {R:WRecords} {args:List WData} (h:WShape.hasAll R args [.list .int]=true):∃ xs,args=[.list xs]∧WShape.hasItems R xs .int=true:=by
  cases args with
  | nil=>exact ff h
  | cons d r=>
    cases r with
    | cons e r=>exact aa (show (WShape.has R d (.list .int)&&false)=true from h) fun _ h=>ff h
    | nil=>
      refine aa (show (WShape.has R d (.list .int)&&true)=true from h) fun h _=>?_
      cases d with
      | list xs=>exact ⟨xs,rfl,(Bool.or_false _).symm.trans h⟩
      | _=>exact ff h
theorem int_of {R:WRecords} {cl:Str->Option Addr} {h:Heap} {v:Value} {d:WData} {as:List Addr} (r:ReadsW R cl h v d as) (q:WShape.has R d .int=true):∃ (i:Int) (t:Tok),v=Value.int i t:=by
  cases r <;> first | exact ⟨_,_,rfl⟩ | exact ff q
theorem HD {R:WRecords} {cl:Str->Option Addr} {h:Heap} {vs:List Value}:∀ {ds:List WData} {as:List Addr},ReadsAllW R cl h vs ds as->WShape.hasItems R ds .int=true->vs.length=ds.length∧∀ v∈vs,∃ (i:Int) (t:Tok),v=Value.int i t:=by
  induction vs with
  | nil=>intro ds as r q; cases r; exact ⟨rfl,fun v hv=>(List.not_mem_nil hv).elim⟩
  | cons v vs ih=>
    intro ds as r q
    cases r with
    | cons r1 r2=>exact aa q fun q1 q2=>(ih r2 q2).elim fun e f=>⟨congrArg (· + 1) e,fun u hu=>(List.mem_cons.mp hu).elim (fun e=>e▸int_of r1 q1) (f u)⟩
noncomputable def hdT (n:Int):List Int:=[n,Int.fmod n 3,Int.fdiv n 3,Int.fmod (Int.fdiv n 3) 3,Int.fdiv n 9,Int.fmod (Int.fdiv n 9) 4,Int.fdiv n 36,Int.fmod (Int.fdiv n 36) 8,Int.fdiv n 288,Int.fmod (Int.fdiv n 288) 3]
noncomputable def hdL (n:Int) (x:Nat):Int:=be (Nat.ble 9 x) ((hdT n).getD (x - 9) 0) 0
theorem wG (n:Int):∀ d∈df,d.ok (hdL n):=by
  unfold df
  iterate 16 refine List.forall_mem_cons.mpr ⟨rfl,?_⟩
  exact fun _ h=>(List.not_mem_nil h).elim
theorem HE (n:Int) {x:Nat} (h:hO x=false):hdL n x=0:=(ye h).elim (fun e=>e▸rfl) fun h=>(Nat.exists_eq_add_of_le' h).elim fun k e=>by
  subst e
  exact lR (Nat.ble_eq_true_of_le (Nat.le_trans (by decide) (Nat.le_add_left 20 k)))
theorem zN {items:Array Value} {lo hi st:Option Int} {v:Value} (m:v∈(slicePick items lo hi st).toList):∃ j:Nat,items[j]?=some v:=by
  unfold slicePick at m
  rw [List.toList_toArray] at m
  exact (List.mem_filterMap.mp m).imp fun j q=>q.2
theorem wH (n:Nat):clipAt n 8 - clipAt n 1≤7:=by
  cases n with
  | zero=>decide
  | succ n=>
    have a:clipAt (n + 1) 8≤8:=Int.toNat_le.mpr (Int.max_le.mpr ⟨by decide,Int.min_le_left _ _⟩)
    have b:1≤clipAt (n + 1) 1:=(Int.le_toNat (Int.le_max_left _ _)).mpr (Int.le_trans (Int.le_min.mpr ⟨Int.le_refl _,Int.ofNat_le.mpr (Nat.le_add_left 1 n)⟩) (Int.le_max_right _ _))
    omega
theorem uw (items:Array Value):(slicePick items (some 1) (some 8) none).size≤7:=by
  unfold slicePick
  rw [sliceBounds_plain,sliceRange_one,List.size_toArray]
  exact Nat.le_trans (List.length_filterMap_le _ _) (by rw [List.length_map,List.length_range]; exact wH _)
theorem DX {X:Cx} {V:Pl} {l:List Value}:∀ (k:Nat),(∀ i v,l[i]?=some v->X.om (k + i)=v)->au (den X V) ((List.range' k l.length).map AV.any) l:=by
  induction l with
  | nil=>exact fun _ _=>.nil
  | cons v l ih=>exact fun k h=>.cons (h 0 v rfl).symm (ih (k + 1) fun i v e=>(congrArg X.om (Nat.add_right_comm k 1 i)).trans (h (i + 1) v e))
section
variable {A:Around} {env:Env} {F:Fm} {V:Pl} {s:Shared} {Ex:Value->Shared->Prop} {X:Cx} {f:Nat} {r:Rc} {sc:Scope} {ae:AE} {σ:St} {l:Addr} {ob:Obj} {items:Array Value} {n:Nat}
theorem lh (hf:Fit X f r sc A env ae F V) (R:Rel X F V σ s) (hn:sc.names.lookup ("script" : Str)=some .local) (hl:look σ.loc 126870958469236=some (.any 0)) {p:Pos} {Q:Value->Shared->Prop} (h:Q (X.om 0) s):wpAny (model X.prog X.w) A (eval (.Name "script" p) env) Q Ex s:=
  R.fr.rec fun m K hv=>(hv _ _ hl).elim fun v q=>wpAny_Name (wpAny_loadName_local (by rw [hf.scope]; exact hf.kind) (by show env.scope.names.lookup _=_; rw [hf.scope]; exact hn) (by rw [hf.loc]; exact K.ns) (zM▸q.1) ((show v=X.om 0 from q.2)▸h)) (by decide)
theorem lj (R:Rel X F V σ s) (hF:F.h₀.get? l=some ob) (hc:ob.cls=.type "list") (hd:ob.data=.seq items n):s.heap.IsList l items:=⟨ob,R.keep hF,hc,n,hd⟩
theorem HF (hf:Fit X f r sc A env ae F V) (R:Rel X F V σ s) (hn:sc.names.lookup ("script" : Str)=some .local) (hh:sc.names.lookup ("head" : Str)=some .local) (hl:look σ.loc 126870958469236=some (.any 0)) (ho:X.om 0=.ref l) (hF:F.h₀.get? l=some ob) (hc:ob.cls=.type "list") (hd:ob.data=.seq items n) (hsz:items.size≤63)
    (h20:∀ v,items[0]?=some v->X.om 20=v) {Q:Flow->Shared->Prop} (hQ0:∀ s',items.size=0->Rel X F V (σ.wl (put σ.loc 1751474532 (.int ⟨0,0⟩))) s'->Q .next s') (hQ1:∀ s',0 < items.size->Rel X F V (σ.wl (put σ.loc 1751474532 (.any 20))) s'->Q .next s'):wpAny (model X.prog X.w) A (exec wD env) Q Ex s:=by
  unfold wD
  refine wpAny_Assign_Name (IfExp_ (isTrue_plain (lh hf R hn hl ?_)))
  rw [ho]
  refine wpAny_truthy_list (lj R hF hc hd) (by omega) ?_
  have R1:=R.toks (s.toks + 1 + 1)
  by_cases h0:items.size=0
  · have:(!items.isEmpty)=false:=by unfold Array.isEmpty; rw [h0]; rfl
    rw [this]
    exact wpAny_Constant_int (gd hf yk hh (R1.toks _) (a:=.int ⟨0,0⟩) (fK (IV.same.trans X.h0)) fun s' R'=>hQ0 s' h0 R')
  · have:(!items.isEmpty)=true:=by
      unfold Array.isEmpty
      rw [decide_eq_false h0]; rfl
    rw [this]
    have hx:items[0]?=some items[0]:=Array.getElem?_eq_getElem (by omega)
    refine Subscript_ (lh hf R1 hn hl (wpAny_Constant_int ?_))
    have R2:=R1.toks (s.toks + 1 + 1 + 1)
    have H:=lj R2 hF hc hd
    rw [ho]
    exact tail_any H.typeIs slot_list_getitem.lookup (wpAny_getItem_list H (by omega) (by omega) (by exact hx) (gd hf yk hh R2 (a:=.any 20) (h20 _ hx).symm fun s' R'=>hQ1 s' (by omega) R')) rfl
end
section
variable {Y:Lw} {A:Around} {env:Env} {V:Pl} {om:Nat->Value} {nu:Nat->Int} {s:Shared} {Ex:Value->Shared->Prop} {G:Prop}
theorem KC (hf:eN Y A env V) (hA:A.handled=none) (vn:V.n=67) (R:LR Y [] V om nu (stX [] 0 none none [] zG []) s) (hc:Fcs nu (cg [] 0)) (hb:nu 31≤10) {l:Addr} {ob:Obj} {items:Array Value} {n:Nat} (ho:om 0=.ref l) (hF:Y.H.get? l=some ob) (hcl:ob.cls=.type "list") (hd:ob.data=.seq items n) (hsz:items.size≤63)
    (hint:∀ (i:Nat) v,items[i]?=some v->∃ n t,v=Value.int n t) (h50:∀ (i:Nat) v,(slicePick items (some 1) (some 8) none).toList[i]?=some v->om (50 + i)=v) {Q:Flow->Shared->Prop} (hQ:∀ s',LSt Y (fun ek=>ek) V om nu [] 40 s'->Q .next s'):wpAny (model cu Y.w) A (exec (yi (ssB Y.w.params)) env) Q Ex s:=R.rec fun z0 zB zD R=>by
  unfold yi
  have hfx:=hf nu z0 zB zD om []
  refine wpAny_For (wpAny_Subscript_list_slice (lh hfx R (oo Y.w.params) rfl (wpAny_evalPart_some (wpAny_Constant_int (wpAny_evalPart_some (wpAny_Constant_int ?_)))))) (fun _=>rfl)
  have R1:=R.toks (s.toks + 1 + 1)
  refine ⟨l,items,some 1,some 8,ho,lj R1 hF hcl hd,by rw [sizeLine_eq]; omega,.int _ _,.int _ _,?_⟩
  have R2:=R1.pushU (ob:={ cls:=.type "slice", data:=.fields #[.int 1 s.toks,.int 8 (s.toks + 1),.none] }) (s.toks + 1 + 1)
  have hz:(s.heap.push { cls:=.type "slice", data:=.fields #[.int 1 s.toks,.int 8 (s.toks + 1),.none] }).objs.size=s.heap.objs.size + 1:=Heap.size_push ..
  rw [← hz]
  have R3:=R2.pushU (ob:={ cls:=.type "list", data:=.seq (slicePick items (some 1) (some 8) none) }) (s.toks + 1 + 1)
  refine R3.holdOwn (pi R2) (jC (Heap.get?_push_size _ rfl)) fun K1 c1 R4=>?_
  refine mV (target:=.Name "number" ⟨1053,8,1053,14⟩) (.loc qf (oh Y.w.params)) ii R4 ⟨_,Heap.get?_push_size _ rfl,rfl,_,rfl⟩ (DX 50 h50) fun L s' R5 hw fp st=>R5.holdOwn hw (L.hx _ _ st) fun K c R6=>?_
  refine DM (K1:=K1) hf ⟨fun b hb p hp=>(hw b hb).a0.kp p (List.mem_append_left _ hp),fun b hb=>(fp b hb).elim .inl fun e=>.inr (e▸c1.all _ (.head _))⟩ hA (fun x hx=>?_) ?_ (.mk 0 K (Nat.add_zero _) c st (.mk [] V nu om [] 0 .none vn (fun _ _=>rfl) (fun _ _=>rfl) (fun _ _ _=>rfl) (by exact hb) (.head _) (Nat.le_refl _) hc (fun _ h=>(List.not_mem_nil h).elim) ?_ (.none rfl))) hQ
  · obtain ⟨a,ha,rfl⟩:=List.mem_map.mp hx
    obtain ⟨j,hj,rfl⟩:=List.mem_map.mp ha
    obtain ⟨i,hi,rfl⟩:=List.mem_range'.mp hj
    have e:=List.getElem?_eq_getElem hi
    obtain ⟨n,t,q⟩:=(zN (List.mem_of_getElem? e)).elim fun k q=>hint k _ q
    exact ⟨50 + 1 * i,n,t,rfl,by omega,(congrArg om (by rw [Nat.one_mul])).trans ((h50 i _ e).trans q)⟩
  · rw [List.length_map,List.length_map,List.length_range',Array.length_toList]
    exact uw items
  · exact LR.reloc (loc:=zG) (fs:=[]) (.mk z0 zB zD R6) (fun _ _ _ n a e=>uq (G:=fun n a=>∃ b,look zG n=some b∧∀ v,den (aS Y.w Y.os nu _ _ _ om) V b v->den (aS Y.w Y.os nu _ _ _ om) V a v) e ⟨.none,rfl,fun _ d=>d⟩ ⟨lv 9,rfl,fun _ d=>d⟩) hc (Int.le_trans hb (by decide))
theorem DY {h0 hB hD} {kp:List (Addr×Obj)} {V:Pl} {σ':St} {s':Shared} (R:Rel (aS Y.w Y.os nu h0 hB hD om) (FK Y.H Y.L kp) V σ' s') (h:C9 σ'=true) (g:∀ V'' nu',V''.n=67->(∀ i,i < 8->V''.at_ i=V.at_ i)->LR Y kp V'' om nu' (stX [] 0 none none [] zG []) s'->Fcs nu' (cg [] 0)->nu' 31=10->G):G:=by
  unfold C9 at h
  generalize nD σ' (dN [] 0 none none []) ⟨19,99,[(0,0),(1,1),(2,2),(3,3),(4,4),(5,5),(6,6),(7,7)],[(31,⟨0,10⟩)]⟩=M at h
  refine aa h fun m1 h=>aa h fun m2 h=>aa h fun m3 m4=>ad m4 fun e he m4=>aa m4 fun a c=>?_
  have lim:M.lim=19:=nb m3
  have e31:nuM M nu nu 31=10:=(Cq (lim▸by decide) he).trans (by unfold IV.den; rw [nb a,hZ c,h0]; rfl)
  have low:∀ x,x≤19->nuM M nu nu x=nu x:=fun x hx=>rj (lim▸hx)
  have z:=(low 0 (by decide)).trans h0
  exact pR (om:=om) (lo:=nu) R rfl (fun _ _=>rfl) (C:=stX [] 0 none none [] zG []) rfl hB (mv hD fun x hx=>low x (Nat.le_succ_of_le hx)) m1 (fun fcs=>cT (fs:=[]) z fcs (e31▸by decide)) fun z0 zB zD fcs R'=>g _ _ rfl (fun i hi=>yh m2 hi) (.mk z0 zB zD R') fcs e31
end
end
section
noncomputable def myHook:Hook:=⟨Heap×Nat,fun s=>(s.heap,s.toks),fun w=>(dP w.params,2367),fun w h=>∀ a o,(dP w.params).get? a=some o->h.get? a=some o,fun w s e a o h=>by
    have:s.heap=dP w.params:=congrArg Prod.fst e
    rw [this]; exact h,fun w h h' H k a o e=>k a o (H a o e)⟩
noncomputable def st8:St:=⟨mkT wx,8,[],[(126870958469236,.any 0)],kY kI⟩
noncomputable def k8 (cl:List (Nm×Nat)) (σ:St):T:=@decide (cl=jq.cells∧σ=st8) (Classical.propDecidable _)
theorem DZ {cl:List (Nm×Nat)} {σ:St}:k8 cl σ=true↔cl=jq.cells∧σ=st8:=@decide_eq_true_iff _ (Classical.propDecidable _)
theorem Mk:Tr.set (.cell none) (Tr.set (.cell none) (Tr.set (.cell none) (Tr.set (.cell none) (Tr.set (.cell none) (Tr.set (.cell none) (Tr.set (.cell none) (Tr.set (.cell none) .nil 0) 1) 2) 3) 4) 5) 6) 7=mkT wx:=by kernel_rfl
theorem mk8:jQ [(126870958469236,.any 0)] k8 ya.cells [] ⟨.nil,0,[],ya.cells.foldl (fun l c=>l.filter fun p=>!Nat.beq p.1 c) [(126870958469236,.any 0)],kY kI⟩=true:=by
  show k8 jq.cells ⟨Tr.set (.cell none) (Tr.set (.cell none) (Tr.set (.cell none) (Tr.set (.cell none) (Tr.set (.cell none) (Tr.set (.cell none) (Tr.set (.cell none) (Tr.set (.cell none) .nil 0) 1) 2) 3) 4) 5) 6) 7,8,[],[(126870958469236,.any 0)],kY kI⟩=true
  rw [Mk]
  exact DZ.mpr ⟨rfl,rfl⟩
theorem yl (t:Addr):t∈d8↔(∃ q∈Ft hJ,q.1=t)∨t∈Fu hJ:=
  ⟨fun h=>(List.mem_map.mp h).elim fun e q=>q.2▸(match hg:e.gen with
    | false=>.inl ⟨_,List.mem_map.mpr ⟨e,List.mem_filter.mpr ⟨q.1,by rw [hg]; rfl⟩,rfl⟩,rfl⟩
    | true=>.inr (List.mem_map.mpr ⟨e,List.mem_filter.mpr ⟨q.1,hg⟩,rfl⟩)),fun h=>h.elim (fun h=>h.elim fun q z=>z.2▸(List.mem_map.mp z.1).elim fun e w=>w.2▸List.mem_map.mpr ⟨e,(List.mem_filter.mp w.1).1,rfl⟩) fun h=>(List.mem_map.mp h).elim fun e w=>w.2▸List.mem_map.mpr ⟨e,(List.mem_filter.mp w.1).1,rfl⟩⟩
theorem HG {Y:Lw} {s1:Shared} (T:(kf Y.w.params).In s1.heap) (hY:∀ t∈d8,s1.heap.get? t=some (tabObj #[])) (hH:Y.H=hideAll s1.heap d8) {kp:List (Addr×Obj)} {V:Pl} {om:Nat->Value} {nu:Nat->Int} {σ:St} {s:Shared} (R:LR Y kp V om nu σ s):OldK s1.heap s.heap:=R.rec fun h0 hB hD R=>by
  have tab:∀ t∈d8,∃ ps,s.heap.get? t=some (tabObj ps):=fun t ht=>((yl t).mp ht).elim (fun z=>z.elim fun q z=>z.2▸(R.mem.cd.tb q z.1).rec fun ps _ g _ _=>⟨ps,g⟩) fun h=>(R.mem.cd.tf t h).rec fun ps _ g _ _=>⟨ps,g⟩
  have rest:∀ b o,s1.heap.get? b=some o->b∉d8->s.heap.get? b=some o:=fun b o e hb=>R.keep (by show Y.H.get? b=_; rw [hH]; exact hideAll_get _ e hb)
  refine ⟨fun b o e=>?_,fun b o e=>?_⟩
  · by_cases hb:b∈d8
    · cases sm ((hY b hb).symm.trans e)
      obtain ⟨ps,g⟩:=tab b hb
      obtain ⟨en,he,rfl⟩:=List.mem_map.mp hb
      obtain ⟨e1,c1,c2,c3,c4⟩:=nA (X:=aS Y.w Y.os nu h0 hB hD om) (rV.code en he)
      cases e1
      exact .inr (.inl ⟨⟨en.c,_,_,T _ _ c1,c2,c3,c4⟩,rfl,#[],ps,rfl,by rw [g]; simp⟩)
    · exact .inl (rest b o e hb)
  · by_cases hb:b∈d8
    · exact (tab b hb).elim fun ps g=>⟨_,g⟩
    · exact ⟨o,rest b o e hb⟩
theorem ux {Y:Lw} {A:Around} {env:Env} {V:Pl} {om:Nat->Value} {nh:Int} {l:Addr} {ob:Obj} {vs:Array Value} {n:Nat} {b0 hD} {s:Shared} (hfit:Fit (aS Y.w Y.os (hdL nh) rfl b0 hD om) 60 (run pg pf 60) (scL Y.w.params) A env jq (FK Y.H Y.L []) V) (hA:A.handled=none) (R:Rel (aS Y.w Y.os (hdL nh) rfl b0 hD om) (FK Y.H Y.L []) V st8 s)
    (o0:om 0=.ref l) (hF:Y.H.get? l=some ob) (hc:ob.cls=.type "list") (hdt:ob.data=.seq vs n) (hsz:vs.size≤63) (hint:∀ (i:Nat) v,vs[i]?=some v->∃ (n:Int) (t:Tok),v=Value.int n t) (h0:vs.size=0->nh=0) (hn:∀ v,vs[0]?=some v->∃ t,v=Value.int nh t) (o20:∀ v,vs[0]?=some v->om 20=v) (o50:∀ (i:Nat) v,(slicePick vs (some 1) (some 8) none).toList[i]?=some v->om (50 + i)=v)
    {Q:Flow->Shared->Prop} {Ex:Value->Shared->Prop} (hQ:∀ kp' V' om nu σ' s',LR Y kp' V' om nu σ' s'->Q (.ret (.bool true)) s'):wpAny (model cu Y.w) A (execs (kG (kf Y.w.params)) env) Q Ex s:=by
  have vn:V.n=8:=R.n
  have hfL:eN Y A env V:=fun nu a b c om' kp=>⟨hfit.loc,hfit.glob,hfit.blt,hfit.scope,hfit.kind,hfit.cells,hfit.hand,hfit.own,hfit.calls,hfit.depth,hfit.units,hfit.frames.rec fun e q z=>.mk e q z,hfit.top,hfit.lim,hfit.cq⟩
  have go:∀ {s2:Shared} (ah:AV),Rel (aS Y.w Y.os (hdL nh) rfl b0 hD om) (FK Y.H Y.L []) V (st8.wl (put st8.loc 1751474532 ah)) s2->(∀ v,den (aS Y.w Y.os (hdL nh) rfl b0 hD om) V ah v->den (aS Y.w Y.os (hdL nh) rfl b0 hD om) V (lv 9) v)->wpAny (model cu Y.w) A (execs (ssA Y.w.params++(yi (ssB Y.w.params)::(Kx Y.w.params::(ssC Y.w.params).drop 1))) env) Q Ex s2:=fun {s2} ah R2 hd=>by
    have R3:=R2.reloc (loc:=[(1751474532,lv 9),(126870958469236,.any 0)]) (f:=kY kI) (fun n x e=>uq (G:=fun n x=>∃ b,look (st8.wl (put st8.loc 1751474532 ah)).loc n=some b∧∀ v,den (aS Y.w Y.os (hdL nh) rfl b0 hD om) V b v->den (aS Y.w Y.os (hdL nh) rfl b0 hD om) V x v) e ⟨ah,rfl,hd⟩ ⟨.any 0,rfl,fun v d=>d⟩) (kZ (nu:=hdL nh) rfl (n0 hD rfl))
    exact gh (fG Mg hfL (σ:=stP) (nu:=hdL nh) (.mk rfl b0 hD R3) L3 fun q0 qB qD V4 σ4 s4 l4 R4 q=>DY R4 q fun V5 nu5 n5 a5 R5 c5 b5=>have hf5:eN Y A env V5:=hfL.re (n5▸by decide) fun i hi=>(a5 i hi).trans (l4.at_ i (vn▸hi))
      wpAny_execs_cons (KC hf5 hA n5 R5 c5 (Int.le_of_eq b5) o0 hF hc hdt hsz hint o50 fun s6 hL=>Hv hf5 hL hQ))
  rw [zK]
  refine wpAny_execs_cons (HF hfit R (oo Y.w.params) (DV Y.w.params) rfl o0 hF hc hdt hsz o20 (fun s2 hz R2=>go _ R2 fun v d=>d.imp fun t q=>q.trans (congrArg (fun i=>Value.int (i + 0) t) ?_)) fun s2 hz R2=>go _ R2 fun v d=>?_)
  · have e:=Array.getElem?_eq_getElem hz
    exact (hn _ e).imp fun t q=>(show v=om 20 from d).trans ((o20 _ e).trans (q.trans (congrArg (Value.int · t) (Int.add_zero nh).symm)))
  · exact (h0 hz).symm
noncomputable abbrev Na:RowW:=PySem.Challenge.rw_jk0053_01.row.toRowW
noncomputable def omL (l:Addr) (vs:Array Value) (k:Nat):Value:=be (Nat.beq k 0) (.ref l) (be (Nat.beq k 20) ((vs[0]?).getD .none) (((slicePick vs (some 1) (some 8) none).toList[k - 50]?).getD .none))
theorem D0 {vs:Array Value} (hint:∀ (i:Nat) v,vs[i]?=some v->∃ (n:Int) (t:Tok),v=Value.int n t):∃ nh:Int,(vs.size=0->nh=0)∧∀ v,vs[0]?=some v->∃ t,v=Value.int nh t:=by
  cases e:vs[0]? with
  | none=>exact ⟨0,fun _=>rfl,fun v hv=>nn hv⟩
  | some u=>exact (hint 0 u e).elim fun n q=>q.elim fun t q=>⟨n,fun h=>absurd (Array.getElem?_eq_some_iff.mp e).1 (by omega),fun v hv=>⟨t,sm hv▸q⟩⟩
theorem law_walk {q:Program} {loose:List Str} {XP:(Str->Option Value)->Heap->Prop} {d:DefRec} {kwd:List (Str×Expr)} (hname:d.name=("law" : Str)):WalkO q loose XP myHook.says Na d kwd (fun f vs=>PySem.call f vs):=by
  intro w s0 s1 mg mb G Y a o pm cd doc dV kV ho hd hcd hD hmg hg args vals as hpre hlay hrd hwl hlo
  have Y:∀ a o,(dP w.params).get? a=some o->s1.heap.get? a=some o:=Y
  have T:(kf w.params).In s1.heap:=fun a o h=>Y a o (DS w.params h).1
  have hY:∀ t∈d8,s1.heap.get? t=some (tabObj #[]):=fun t ht=>Y _ _ (Hx w.params ht)
  obtain ⟨m,hm,hml⟩:=lp T (KB w.params)
  have em:mg=m:=jW G.T.g hm
  have e1:mg ("law" : Str)=some (.ref 1405):=by rw [em]; exact hml _ _ (C8 w.params)
  rw [hname] at hmg
  cases sm (e1.symm.trans hmg)
  have ho':=T 1405 _ (DT w.params)
  cases sm (ho'.symm.trans ho)
  have hfd:Data.func (fF (kf w.params))=_:=(uv w.params).symm.trans hd
  injection hfd with hfd
  have hcd':s1.heap.CodeRec (fF (kf w.params)).code (fF (kf w.params)).qualname:=by rw [hfd]; exact hcd
  obtain ⟨pa,pb⟩:=pre_splitW hpre
  obtain ⟨xs,rfl,hxs⟩:=DW pa
  have hlen:=HB pb
  cases hrd with
  | cons r1 r2=>
  cases r2
  cases r1 with
  | @list l ob vs n _ as' hl hc hdt hall=>
  obtain ⟨hln,hints⟩:=HD hall hxs
  have hsz:vs.size≤63:=by rw [← Array.length_toList,hln]; exact hlen
  have hint:∀ (i:Nat) v,vs[i]?=some v->∃ (n:Int) (t:Tok),v=Value.int n t:=fun i v hv=>hints v (Array.mem_toList_iff.mpr (Array.mem_of_getElem? hv))
  have hlt:l∉d8:=fun q=>by
    cases sm ((hY l q).symm.trans hl)
    cases hc
  obtain ⟨nh,hz,hn⟩:=D0 hint
  have b0:∀ x,hO x=false->-100000≤hdL nh x∧hdL nh x≤100000:=fun x hx=>by rw [HE nh hx]; decide
  have I:kg (aS w s1.os (hdL nh) rfl b0 (wG nh) (omL l vs)) d8 s1:=⟨fun a o h=>hideAll_get _ (T a o h) (DS w.params h).2,by
    obtain ⟨mc,⟨oc,es,ep,x,y⟩,z⟩:=G.T.nolimit
    exact ⟨mc,⟨oc,es,ep,hideAll_get _ x Hz,y⟩,z⟩,rfl,AllBare.of_eq hg,yl,hY⟩
  refine enter_call ?_
  have st:iY (aS w s1.os (hdL nh) rfl b0 (wG nh) (omL l vs)) (fF (kf w.params)) ya:=tM rV.cq (Ju w.params)
  refine zy I (f:=60) (r:=run pg pf 60) (as:=[.any 0]) (bs:=[(126870958469236,.any 0)]) (f0:=kY kI) (k:=k8) st (DU w.params) (Hy w.params) (by decide +kernel) (fun L=>pO (zF w.params) L) ho' (uv w.params) hcd' rfl rfl (by decide) (by decide) (.cons rfl .nil) rfl (kZ (nu:=hdL nh) rfl (n0 (wG nh) rfl)) mk8 fun V σ s' cl env A' lV R hfit hA' hkq=>?_
  obtain ⟨rfl,rfl⟩:=DZ.mp hkq
  refine ux (Y:=⟨w,s1.os,hideAll s1.heap d8,s1.heap.objs.size⟩) hfit hA' R rfl (hideAll_get _ hl hlt) hc hdt hsz hint hz hn (fun v hv=>by show (vs[0]?).getD .none=v; rw [hv]; rfl) (fun i v hv=>?_) fun kp' V' om' nu' σ' s' R'=>?_
  · show be (Nat.beq (50 + i) 0) _ (be (Nat.beq (50 + i) 20) _ _)=v
    rw [f8 (Bool.eq_false_iff.mpr fun q=>absurd (nb q) (by omega)),f8 (Bool.eq_false_iff.mpr fun q=>absurd (nb q) (by omega)),Nat.add_sub_cancel_left,hv]; rfl
  · exact R'.rec fun y0 yB yD Ry=>⟨.inl ⟨.bool true,.bool true,[],rfl,fun cls=>r8 _ cls,.bool true,wF _,fun _=>⟨List.nodup_nil,fun a ha=>(List.not_mem_nil ha).elim⟩⟩,HG T hY rfl R',Ry.os,Ry.gens⟩
end
end
end Mine
namespace Mine
section
open PySem PySem.W PySem.W.X PySem.Calls PyProof.Rows
set_option maxHeartbeats 0
section
noncomputable def qX:Program:=view pwX [55]
noncomputable def looseX:List Str:=(["_wall", "RepositoryError", "UnsignedMetadataError", "BadVersionNumberError", "EqualVersionNumberError", "ExpiredMetadataError", "LengthOrHashMismatchError", "UnverifiedSignatureError", "Signature", "Key", "_TARGETS", "SPECIFICATION_VERSION", "TOP_LEVEL_ROLE_NAMES", "Signed", "Role", "VerificationResult", "_DelegatorMixin", "Root", "BaseFile", "MetaFile", "Timestamp", "Snapshot", "DelegatedRole", "_hex", "SuccinctRoles", "Delegations", "TargetFile", "Targets", "_copy_meta", "Repository", "DeserializationError", "encode_canonical", "Metadata", "TrustedMetadataSet", "_load_from_metadata", "_law_names", "_law_keys", "_law_root_text", "_law_signatures", "_law_file", "_law_tried", "_law_versions", "_law_made", "_law_snapshot", "_law_timestamp", "_law_taken", "_law_odd"]:List String).map Str.ofString
noncomputable abbrev XtX:Shared->Bool:=fun s=>recOk (RowW.records PySem.Challenge.rw_jk0053_01.row.toRowW) s
noncomputable def sE (w:World) (os:OsState):Shared:=⟨dP w.params,#[],{},2367,os⟩
theorem lk1 (P:Params):staticsOk (importedModules pwX.main.body) (boot_heap P) (dP P)=true:=by kernel_rfl
theorem lk2 (P:Params):namesBound pwX (dP P)=true:=by kernel_rfl
theorem lk3 (w:World) (os:OsState):gensDone (sE w os)=true:=by kernel_rfl
theorem lk4 (P:Params):laidKept (boot_heap P) (dP P)=true:=by kernel_rfl
theorem o1 (w:World) (os:OsState):seen ((recsOf qX).map (·.name)) (ownsOf qX) [] { sE w os with gens:=#[] }=expectedOf qX:=by kernel_rfl
theorem o2 (w:World) (os:OsState):(sE w os).heap.bltView=bltViewBooted:=by kernel_rfl
theorem o3 (w:World) (os:OsState):((sE w os).heap.keysOk (looseW qX looseX) ((recsOf qX).map (·.name)) ((litsOf qX).map (·.1)) ((clssOf qX (looseW qX looseX)).map (·.name))&&(sE w os).heap.accountedOkI (importedModules pwX.main.body)&&(sE w os).heap.isNs mainGlobals&&(sE w os).heap.isNs builtinsNs&&tablesOk qX (sE w os).heap&&XtX (sE w os)&&(if true then (sE w os).gens.size==0 else !leftWithCleanup (sE w os).gens))=true:=by kernel_rfl
theorem o4 (w:World) (os:OsState):tabsOk qX (sE w os)=true:=by kernel_rfl
theorem o5 (w:World) (os:OsState):pinSeenD qX (drecsOf qX) (sE w os)=pinGoodD (drecsOf qX):=by kernel_rfl
theorem o6 (w:World) (os:OsState):plainSeenE qX (looseW qX looseX) (sE w os)=plainGoodE qX (looseW qX looseX):=by kernel_rfl
theorem o7 (w:World) (os:OsState):plainSeenD qX looseX (sE w os)=plainGoodD qX looseX:=by kernel_rfl
theorem o8 (w:World) (os:OsState):wideSeen qX (sE w os)=wideGood qX:=by kernel_rfl
theorem o9 (w:World) (os:OsState):clsSeenW qX looseX (sE w os)=clsGoodW qX looseX:=by kernel_rfl
theorem left_ok:LeftO pwX qX looseX XtX (fun s=>(s.heap,s.toks)) (fun w=>(dP w.params,2367)) 28118 true:=by
  refine LeftO.of_pieces (boot_open (by kernel_rfl) (by rfl) (fun s=>by kernel_rfl)) CJ FM (by rfl) fun w=>funext fun os=>?_
  refine looks_pair ?_ (looks_pair ?_ rfl)
  · rw [lk1,lk2]
    show (gensDone (sE w os)&&laidKept (boot_heap w.params) (dP w.params))=true
    rw [lk3,lk4]; rfl
  · show openSeen qX looseX (importedModules pwX.main.body) XtX true (sE w os)=openGood qX looseX
    unfold openSeen openGood
    refine looks_pair (o1 w os) (looks_pair (o2 w os) (looks_pair (o3 w os) (looks_pair (o4 w os) (looks_pair (o5 w os) (looks_pair (o6 w os) (looks_pair (o7 w os) (looks_pair (o8 w os) (o9 w os))))))))
noncomputable abbrev lw:OpenLaw:=PySem.Challenge.rw_jk0053_01
noncomputable abbrev lr:OpenRow:=PySem.Challenge.rw_jk0053_01.row
noncomputable abbrev lpr:Program:=lr.prog
theorem y2:namesResolve lpr=true:=by rw [Fast.te8377067652309620493]; kernel_rfl
theorem y4b:(["vars", "dir", "locals"]:List Str).filter (readsOut lpr lpr.main.body)=[]:=by kernel_rfl
theorem y4:noRoadLSs { strict:=!(importedModules lpr.main.body).all cThrough.contains,foot:=none,bare:=[] } lpr.main.body=true:=by
  kernel_rfl
theorem y5:(namesMeet lpr lpr.main.body fun _ n=>attrL n)=true:=by rw [Fast.te17119622794617984870]; kernel_rfl
theorem zO:looksOpen lpr=true:=by
  unfold looksOpen
  rw [y4b]
  iterate 5 refine look_both ?_ ?_
  · kernel_rfl
  · kernel_rfl
  · exact y2
  · kernel_rfl
  · exact y4
  · exact y5
theorem zP:lr.wellSaid=true:=by
  unfold OpenRow.wellSaid OpenRow.partSaid
  iterate 2 refine look_both ?_ ?_
  iterate 13 refine look_both ?_ ?_
  · exact zO
  all_goals kernel_rfl
theorem law_said:OpenLaw.wellSaid lw=true:=by
  unfold OpenLaw.wellSaid
  iterate 18 refine look_both ?_ ?_
  · exact zP
  all_goals kernel_rfl
end
end
end Mine
open PySem PySem.W PySem.W.X PyProof.Rows
set_option maxHeartbeats 0
theorem PySem.Challenge.cw_jk0053_01_holds : PySem.Challenge.rw_jk0053_01.Holds := by
  w_on
  refine holds_law Mine.law_said fun said=>?_
  refine holds_open (q:=Mine.qX) (loose:=Mine.looseX) (Xt:=Mine.XtX) (XP:=fun _ _=>True) (Yf:=Hook.obs Mine.myHook) (Ya:=Hook.val Mine.myHook) (YP:=Hook.says Mine.myHook) (N:=28118) Mine.left_ok (Hook.of Mine.myHook) (Hook.keeps Mine.myHook) (fun _ _=>trivial) (fun _ _ _ _ _=>trivial) (by rfl) (by rfl) (by rfl) (fun s e=>recFacts_of e) (by rfl) (by first | assumption | decide +kernel) (by decide +kernel) ⟨rfl,rfl,rfl,rfl,rfl,by decide +kernel⟩ ?hw ?hc
  case hw=>w_witness2
  exact Mine.law_walk rfl
